import JvmDerived
import JvmDerived.Pilot.@@N@@Statement
import JvmDerived.Pilot.@@N@@Code
set_option linter.unusedVariables false
set_option linter.unusedSimpArgs false
namespace Jvm.Pilot.@@N@@
open Jvm Jvm.ClassFile Sem Op Lib Jvm.Free Jvm.Stand Jvm.LawKit Jvm.RoadKit Bundle Jvm.Pilot.@@N@@.Jvm.D
def own_Go (p : Program) (e : Env) (below : List Frame) (s : State) (Q : Option Value → Heap → List Loc → Prop) (kc ks : Nat) (A : State) : Prop :=
  ∃ s₂ o, Steps p.tables e below A s₂ ∧ s₂.status = .running ∧ Ended s₂ below o ∧ ∃ v L, o = .returned v ∧ Q v s₂.heap L ∧ FrameEnd s o s₂ L kc ks
section OwnLayer
variable {p : Program} {l : Launch} {e : Env} {R : Room} {s : State} {m : MethodId} {args : Array Value} {below : List Frame} {meth : Method} {c : Code} {T : State} {locs : List Loc} {cells slots : Nat}
variable {Q : Option Value → Heap → List Loc → Prop} {kc ks : Nat} {A B : State}
theorem own_via (h : ∀ t, Steps p.tables e below B t → Steps p.tables e below A t) (g : own_Go p e below s Q kc ks B) : own_Go p e below s Q kc ks A := by
  obtain ⟨t, o, h1, r⟩ := g
  exact ⟨t, o, h _ h1, r⟩
theorem own_tr (h : Steps p.tables e below A B) (g : own_Go p e below s Q kc ks B) : own_Go p e below s Q kc ks A := by
  obtain ⟨t, o, h1, r⟩ := g
  exact ⟨t, o, h.trans h1, r⟩
theorem own_end (X : Stand p l e R s m args below meth c T locs cells slots) (hlk : meth.locks = false) {v : Option Value} (hv : meth.sig.returnType = none → v = none) {A : State}
    (hstep : ∀ fs, (∀ (f : JFrame) (acts : List Action), f.method = m → f.locked = none → f.entered = [] → (doReturn e (T.setTop f) acts v).1 = T.setFrames fs) → Steps p.tables e below A (T.setFrames fs))
    (hQ : Q v T.heap locs) (hc : cells ≤ kc) (hs : slots ≤ ks) : own_Go p e below s Q kc ks A := by
  obtain ⟨fs, hr, hrun, hended, hW, hsame⟩ := X.leave (v := v) hv hlk
  exact ⟨_, _, hstep fs hr, hrun, hended, _, _, rfl, hQ, ⟨_, rfl⟩, hW, hsame.mono hc hs⟩
theorem own_retZ (X : Stand p l e R s m args below meth c T locs cells slots) (hx : p.tables.exec = Jvm.exec) (hlk : meth.locks = false) {pc : Nat} {Ls : Array Slot} {z z' : Int32} {t : FieldType} {rest : List Value} (hret : meth.sig.returnType = some t) (ht : t = .boolean ∨ t = .byte ∨ t = .char ∨ t = .short)
    (hd : decode c.code pc = .ok (.ireturn, 1)) (hz : nar t z = z') (hQ : Q (some (.int z')) T.heap locs) (hc : cells ≤ kc) (hs : slots ≤ ks) : own_Go p e below s Q kc ks (T.setTop (mkF m pc Ls (.int z :: rest))) := by
  subst hz
  exact own_end X hlk (fun h => by rw [hret] at h; cases h) (fun fs hr => retN X hx hret ht hd hr) hQ hc hs
theorem own_retO (X : Stand p l e R s m args below meth c T locs cells slots) (hx : p.tables.exec = Jvm.exec) (hlk : meth.locks = false) {pc : Nat} {Ls : Array Slot} {w : Value} {t : FieldType} {i : Instr} {rest : List Value} (hret : meth.sig.returnType = some t) (hn : narrow t w = w)
    (hi : (i = .ireturn ∧ (t = .int ∨ t = .boolean ∨ t = .byte ∨ t = .char ∨ t = .short) ∧ ∃ z, w = .int z) ∨ (i = .lreturn ∧ t = .long ∧ ∃ z, w = .long z) ∨ (i = .dreturn ∧ t = .double ∧ ∃ z, w = .double z) ∨ (i = .freturn ∧ t = .float ∧ ∃ z, w = .float z) ∨ (i = .areturn ∧ t.isReference = true ∧ w.isRef = true))
    (hd : decode c.code pc = .ok (i, 1)) (hQ : Q (some w) T.heap locs) (hc : cells ≤ kc) (hs : slots ≤ ks) : own_Go p e below s Q kc ks (T.setTop (mkF m pc Ls (w :: rest))) :=
  own_end X hlk (fun h => by rw [hret] at h; cases h) (fun fs hr => retOut X hx hret hn hi hd hr) hQ hc hs
theorem own_retI (X : Stand p l e R s m args below meth c T locs cells slots) (hx : p.tables.exec = Jvm.exec) (hlk : meth.locks = false) {pc : Nat} {Ls : Array Slot} {z : Int32} {rest : List Value} (hret : meth.sig.returnType = some .int)
    (hd : decode c.code pc = .ok (.ireturn, 1)) (hQ : Q (some (.int z)) T.heap locs) (hc : cells ≤ kc) (hs : slots ≤ ks) : own_Go p e below s Q kc ks (T.setTop (mkF m pc Ls (.int z :: rest))) :=
  own_retO X hx hlk hret rfl (Or.inl ⟨rfl, Or.inl rfl, _, rfl⟩) hd hQ hc hs
theorem own_retJ (X : Stand p l e R s m args below meth c T locs cells slots) (hx : p.tables.exec = Jvm.exec) (hlk : meth.locks = false) {pc : Nat} {Ls : Array Slot} {z : Int64} {rest : List Value} (hret : meth.sig.returnType = some .long)
    (hd : decode c.code pc = .ok (.lreturn, 1)) (hQ : Q (some (.long z)) T.heap locs) (hc : cells ≤ kc) (hs : slots ≤ ks) : own_Go p e below s Q kc ks (T.setTop (mkF m pc Ls (.long z :: rest))) :=
  own_retO X hx hlk hret rfl (Or.inr (Or.inl ⟨rfl, rfl, _, rfl⟩)) hd hQ hc hs
theorem own_retR (X : Stand p l e R s m args below meth c T locs cells slots) (hx : p.tables.exec = Jvm.exec) (hlk : meth.locks = false) {pc : Nat} {Ls : Array Slot} {w : Value} {t : FieldType} {rest : List Value} (hret : meth.sig.returnType = some t) (ht : t.isReference = true) (hw : w.isRef = true)
    (hd : decode c.code pc = .ok (.areturn, 1)) (hQ : Q (some w) T.heap locs) (hc : cells ≤ kc) (hs : slots ≤ ks) : own_Go p e below s Q kc ks (T.setTop (mkF m pc Ls (w :: rest))) :=
  own_retO X hx hlk hret (by cases t <;> first | (cases ht; done) | rfl) (Or.inr (Or.inr (Or.inr (Or.inr ⟨rfl, ht, hw⟩)))) hd hQ hc hs
theorem own_retV (X : Stand p l e R s m args below meth c T locs cells slots) (hx : p.tables.exec = Jvm.exec) (hlk : meth.locks = false) {pc : Nat} {Ls : Array Slot} (hret : meth.sig.returnType = none)
    (hd : decode c.code pc = .ok (.return_, 1)) (hQ : Q none T.heap locs) (hc : cells ≤ kc) (hs : slots ≤ ks) : own_Go p e below s Q kc ks (T.setTop (mkF m pc Ls [])) :=
  own_end X hlk (fun _ => rfl) (fun fs hr => X.returnOut hx hret hd hr) hQ hc hs
end OwnLayer
theorem own_eqv {args : Array Value} {Z : State} {t : Term} {k : Int32} (h : (Jvm.Cond.eq t (Term.int k)).value args Z none Z [] = some true) : t.eval args Z none [] Z = some (.int k) := by
  simp only [Jvm.Cond.value, Term.eval] at h
  cases ht : t.eval args Z none [] Z with
  | none => simp [ht] at h
  | some x => cases x <;> simp [ht] at h ⊢; exact h
theorem own_eqvL {args : Array Value} {Z : State} {t : Term} {k : Int64} (h : (Jvm.Cond.eq t (Term.long k)).value args Z none Z [] = some true) : t.eval args Z none [] Z = some (.long k) := by
  simp only [Jvm.Cond.value, Term.eval] at h
  cases ht : t.eval args Z none [] Z with
  | none => simp [ht] at h
  | some x => cases x <;> simp [ht] at h ⊢; exact h
theorem own_fld {args : Array Value} {Z : State} {t : Term} {C n d : String} {a : Addr} {k : Int32} (ev : t.eval args Z none [] Z = some (.ref a)) (h : (Jvm.Cond.eq (Term.field t C n d) (Term.int k)).value args Z none Z [] = some true) : Fld Z Z.heap a C n d (.int k) :=
  Fld.start ((fld_at ev).symm.trans (own_eqv h))
theorem own_fldL {args : Array Value} {Z : State} {t : Term} {C n d : String} {a : Addr} {k : Int64} (ev : t.eval args Z none [] Z = some (.ref a)) (h : (Jvm.Cond.eq (Term.field t C n d) (Term.long k)).value args Z none Z [] = some true) : Fld Z Z.heap a C n d (.long k) :=
  Fld.start ((fld_at ev).symm.trans (own_eqvL h))
theorem own_mod (x : Int32) (n : Int32) (k : Int) (hn : n.toInt = k) (hk : 0 < k) : 0 ≤ ((x &&& 2147483647) % n).toInt ∧ ((x &&& 2147483647) % n).toInt < k := by
  have h := (c_and x 2147483647 (by decide)).1
  rw [Int32.toInt_mod, hn, Int.tmod_eq_emod_of_nonneg h]
  exact ⟨Int.emod_nonneg _ (by omega), Int.emod_lt_of_pos _ hk⟩
theorem own_z {x y : Int32} (h : x.toInt = y.toInt) : x = y := Int32.toInt_inj.mp h
theorem own_mod3 (x : Int32) : (x &&& 2147483647) % 3 = 0 ∨ (x &&& 2147483647) % 3 = 1 ∨ (x &&& 2147483647) % 3 = 2 := by
  have h := own_mod x 3 3 rfl (by decide)
  simp only [← Int32.toInt_inj, show (0 : Int32).toInt = 0 from rfl, show (1 : Int32).toInt = 1 from rfl, show (2 : Int32).toInt = 2 from rfl]
  omega
theorem own_mod5 (x : Int32) : (x &&& 2147483647) % 5 = 0 ∨ (x &&& 2147483647) % 5 = 1 ∨ (x &&& 2147483647) % 5 = 2 ∨ (x &&& 2147483647) % 5 = 3 ∨ (x &&& 2147483647) % 5 = 4 := by
  have h := own_mod x 5 5 rfl (by decide)
  simp only [← Int32.toInt_inj, show (0 : Int32).toInt = 0 from rfl, show (1 : Int32).toInt = 1 from rfl, show (2 : Int32).toInt = 2 from rfl, show (3 : Int32).toInt = 3 from rfl, show (4 : Int32).toInt = 4 from rfl]
  omega
theorem own_mod6 (x : Int32) : (x &&& 2147483647) % 6 = 0 ∨ (x &&& 2147483647) % 6 = 1 ∨ (x &&& 2147483647) % 6 = 2 ∨ (x &&& 2147483647) % 6 = 3 ∨ (x &&& 2147483647) % 6 = 4 ∨ (x &&& 2147483647) % 6 = 5 := by
  have h := own_mod x 6 6 rfl (by decide)
  simp only [← Int32.toInt_inj, show (0 : Int32).toInt = 0 from rfl, show (1 : Int32).toInt = 1 from rfl, show (2 : Int32).toInt = 2 from rfl, show (3 : Int32).toInt = 3 from rfl, show (4 : Int32).toInt = 4 from rfl, show (5 : Int32).toInt = 5 from rfl]
  omega
theorem own_and1 (x : Int32) : x &&& 1 = 0 ∨ x &&& 1 = 1 := by
  have h := c_and x 1 (by decide)
  simp only [← Int32.toInt_inj, show (0 : Int32).toInt = 0 from rfl, show (1 : Int32).toInt = 1 from rfl] at *
  omega
theorem own_and3 (x : Int32) : x &&& 3 = 0 ∨ x &&& 3 = 1 ∨ x &&& 3 = 2 ∨ x &&& 3 = 3 := by
  have h := c_and x 3 (by decide)
  simp only [← Int32.toInt_inj, show (0 : Int32).toInt = 0 from rfl, show (1 : Int32).toInt = 1 from rfl, show (2 : Int32).toInt = 2 from rfl, show (3 : Int32).toInt = 3 from rfl] at *
  omega
def own_K (Z : State) (h0 : Heap) (w0 : Addr) (w1 : Addr) (w2 : Addr) : Prop :=
  Sta Z h0 "com/example/mailbox/mailbox/server/RequestDeadline$Expiry" "HEAD_NOT_WHOLE" "Lcom/example/mailbox/mailbox/server/RequestDeadline$Expiry;" (.ref w0) ∧
  Sta Z h0 "com/example/mailbox/mailbox/server/RequestDeadline$Expiry" "CLOSE" "Lcom/example/mailbox/mailbox/server/RequestDeadline$Expiry;" (.ref w1) ∧
  Sta Z h0 "com/example/mailbox/mailbox/server/RequestDeadline$Expiry" "BODY_STOPPED" "Lcom/example/mailbox/mailbox/server/RequestDeadline$Expiry;" (.ref w2) ∧
  Sta Z h0 "com/example/mailbox/mailbox/server/RequestDeadline" "TIMEOUT_NANOS" "J" (.long (10000000000 : Int64)) ∧
  Exa Z h0 w0 "com/example/mailbox/mailbox/server/RequestDeadline$Expiry" ∧
  Exa Z h0 w1 "com/example/mailbox/mailbox/server/RequestDeadline$Expiry" ∧
  Exa Z h0 w2 "com/example/mailbox/mailbox/server/RequestDeadline$Expiry"
def own_Obj0 (Z : State) (h : Heap) (a : Addr) (v0 : Int64) (v1 : Int64) (v2 : Int32) (v3 : Int64) (v4 : Int64) (v5 : Int64) (v6 : Int32) (v7 : Int64) : Prop :=
  Exa Z h a "com/example/mailbox/mailbox/server/RequestDeadline" ∧
  Fld Z h a "com/example/mailbox/mailbox/server/RequestDeadline" "answeredAt" "J" (.long v0) ∧
  Fld Z h a "com/example/mailbox/mailbox/server/RequestDeadline" "begun" "J" (.long v1) ∧
  Fld Z h a "com/example/mailbox/mailbox/server/RequestDeadline" "expired" "Z" (.int v2) ∧
  Fld Z h a "com/example/mailbox/mailbox/server/RequestDeadline" "answered" "J" (.long v3) ∧
  Fld Z h a "com/example/mailbox/mailbox/server/RequestDeadline" "whole" "J" (.long v4) ∧
  Fld Z h a "com/example/mailbox/mailbox/server/RequestDeadline" "arrivedAt" "J" (.long v5) ∧
  Fld Z h a "com/example/mailbox/mailbox/server/RequestDeadline" "arrivedSinceAnswer" "Z" (.int v6) ∧
  Fld Z h a "com/example/mailbox/mailbox/server/RequestDeadline" "expiredAt" "J" (.long v7)
theorem own_put0_0 {Z : State} {a0 : Array Value} (hw : ∀ d ∈ tables_1, d.before a0 Z = true) {h h' : Heap} {a : Addr} {v0 : Int64} {v1 : Int64} {v2 : Int32} {v3 : Int64} {v4 : Int64} {v5 : Int64} {v6 : Int32} {v7 : Int64} {v : Int64} (q : own_Obj0 Z h a v0 v1 v2 v3 v4 v5 v6 v7) (W : Wr h h' a (Jvm.RoadKit.slotOf Z "com/example/mailbox/mailbox/server/RequestDeadline" "answeredAt" "J") (.long v)) : own_Obj0 Z h' a v v1 v2 v3 v4 v5 v6 v7 :=
  ⟨q.1.wr W,
   (q.2.1).same W,
   (q.2.2.1).other W (Or.inr (slot_ne (C := "com/example/mailbox/mailbox/server/RequestDeadline") (t := .long) (t' := .long) (Or.inl (hw _ (List.mem_of_getElem? (i := 17) rfl))) (Or.inl (hw _ (List.mem_of_getElem? (i := 10) rfl))) (by decide) (by decide) (by decide))),
   (q.2.2.2.1).other W (Or.inr (slot_ne (C := "com/example/mailbox/mailbox/server/RequestDeadline") (t := .boolean) (t' := .long) (Or.inl (hw _ (List.mem_of_getElem? (i := 24) rfl))) (Or.inl (hw _ (List.mem_of_getElem? (i := 10) rfl))) (by decide) (by decide) (by decide))),
   (q.2.2.2.2.1).other W (Or.inr (slot_ne (C := "com/example/mailbox/mailbox/server/RequestDeadline") (t := .long) (t' := .long) (Or.inl (hw _ (List.mem_of_getElem? (i := 26) rfl))) (Or.inl (hw _ (List.mem_of_getElem? (i := 10) rfl))) (by decide) (by decide) (by decide))),
   (q.2.2.2.2.2.1).other W (Or.inr (slot_ne (C := "com/example/mailbox/mailbox/server/RequestDeadline") (t := .long) (t' := .long) (Or.inl (hw _ (List.mem_of_getElem? (i := 28) rfl))) (Or.inl (hw _ (List.mem_of_getElem? (i := 10) rfl))) (by decide) (by decide) (by decide))),
   (q.2.2.2.2.2.2.1).other W (Or.inr (slot_ne (C := "com/example/mailbox/mailbox/server/RequestDeadline") (t := .long) (t' := .long) (Or.inl (hw _ (List.mem_of_getElem? (i := 32) rfl))) (Or.inl (hw _ (List.mem_of_getElem? (i := 10) rfl))) (by decide) (by decide) (by decide))),
   (q.2.2.2.2.2.2.2.1).other W (Or.inr (slot_ne (C := "com/example/mailbox/mailbox/server/RequestDeadline") (t := .boolean) (t' := .long) (Or.inl (hw _ (List.mem_of_getElem? (i := 47) rfl))) (Or.inl (hw _ (List.mem_of_getElem? (i := 10) rfl))) (by decide) (by decide) (by decide))),
   (q.2.2.2.2.2.2.2.2).other W (Or.inr (slot_ne (C := "com/example/mailbox/mailbox/server/RequestDeadline") (t := .long) (t' := .long) (Or.inl (hw _ (List.mem_of_getElem? (i := 54) rfl))) (Or.inl (hw _ (List.mem_of_getElem? (i := 10) rfl))) (by decide) (by decide) (by decide)))⟩
theorem own_put0_1 {Z : State} {a0 : Array Value} (hw : ∀ d ∈ tables_1, d.before a0 Z = true) {h h' : Heap} {a : Addr} {v0 : Int64} {v1 : Int64} {v2 : Int32} {v3 : Int64} {v4 : Int64} {v5 : Int64} {v6 : Int32} {v7 : Int64} {v : Int64} (q : own_Obj0 Z h a v0 v1 v2 v3 v4 v5 v6 v7) (W : Wr h h' a (Jvm.RoadKit.slotOf Z "com/example/mailbox/mailbox/server/RequestDeadline" "begun" "J") (.long v)) : own_Obj0 Z h' a v0 v v2 v3 v4 v5 v6 v7 :=
  ⟨q.1.wr W,
   (q.2.1).other W (Or.inr (slot_ne (C := "com/example/mailbox/mailbox/server/RequestDeadline") (t := .long) (t' := .long) (Or.inl (hw _ (List.mem_of_getElem? (i := 10) rfl))) (Or.inl (hw _ (List.mem_of_getElem? (i := 17) rfl))) (by decide) (by decide) (by decide))),
   (q.2.2.1).same W,
   (q.2.2.2.1).other W (Or.inr (slot_ne (C := "com/example/mailbox/mailbox/server/RequestDeadline") (t := .boolean) (t' := .long) (Or.inl (hw _ (List.mem_of_getElem? (i := 24) rfl))) (Or.inl (hw _ (List.mem_of_getElem? (i := 17) rfl))) (by decide) (by decide) (by decide))),
   (q.2.2.2.2.1).other W (Or.inr (slot_ne (C := "com/example/mailbox/mailbox/server/RequestDeadline") (t := .long) (t' := .long) (Or.inl (hw _ (List.mem_of_getElem? (i := 26) rfl))) (Or.inl (hw _ (List.mem_of_getElem? (i := 17) rfl))) (by decide) (by decide) (by decide))),
   (q.2.2.2.2.2.1).other W (Or.inr (slot_ne (C := "com/example/mailbox/mailbox/server/RequestDeadline") (t := .long) (t' := .long) (Or.inl (hw _ (List.mem_of_getElem? (i := 28) rfl))) (Or.inl (hw _ (List.mem_of_getElem? (i := 17) rfl))) (by decide) (by decide) (by decide))),
   (q.2.2.2.2.2.2.1).other W (Or.inr (slot_ne (C := "com/example/mailbox/mailbox/server/RequestDeadline") (t := .long) (t' := .long) (Or.inl (hw _ (List.mem_of_getElem? (i := 32) rfl))) (Or.inl (hw _ (List.mem_of_getElem? (i := 17) rfl))) (by decide) (by decide) (by decide))),
   (q.2.2.2.2.2.2.2.1).other W (Or.inr (slot_ne (C := "com/example/mailbox/mailbox/server/RequestDeadline") (t := .boolean) (t' := .long) (Or.inl (hw _ (List.mem_of_getElem? (i := 47) rfl))) (Or.inl (hw _ (List.mem_of_getElem? (i := 17) rfl))) (by decide) (by decide) (by decide))),
   (q.2.2.2.2.2.2.2.2).other W (Or.inr (slot_ne (C := "com/example/mailbox/mailbox/server/RequestDeadline") (t := .long) (t' := .long) (Or.inl (hw _ (List.mem_of_getElem? (i := 54) rfl))) (Or.inl (hw _ (List.mem_of_getElem? (i := 17) rfl))) (by decide) (by decide) (by decide)))⟩
theorem own_put0_2 {Z : State} {a0 : Array Value} (hw : ∀ d ∈ tables_1, d.before a0 Z = true) {h h' : Heap} {a : Addr} {v0 : Int64} {v1 : Int64} {v2 : Int32} {v3 : Int64} {v4 : Int64} {v5 : Int64} {v6 : Int32} {v7 : Int64} {v : Int32} (q : own_Obj0 Z h a v0 v1 v2 v3 v4 v5 v6 v7) (W : Wr h h' a (Jvm.RoadKit.slotOf Z "com/example/mailbox/mailbox/server/RequestDeadline" "expired" "Z") (.int v)) : own_Obj0 Z h' a v0 v1 v v3 v4 v5 v6 v7 :=
  ⟨q.1.wr W,
   (q.2.1).other W (Or.inr (slot_ne (C := "com/example/mailbox/mailbox/server/RequestDeadline") (t := .long) (t' := .boolean) (Or.inl (hw _ (List.mem_of_getElem? (i := 10) rfl))) (Or.inl (hw _ (List.mem_of_getElem? (i := 24) rfl))) (by decide) (by decide) (by decide))),
   (q.2.2.1).other W (Or.inr (slot_ne (C := "com/example/mailbox/mailbox/server/RequestDeadline") (t := .long) (t' := .boolean) (Or.inl (hw _ (List.mem_of_getElem? (i := 17) rfl))) (Or.inl (hw _ (List.mem_of_getElem? (i := 24) rfl))) (by decide) (by decide) (by decide))),
   (q.2.2.2.1).same W,
   (q.2.2.2.2.1).other W (Or.inr (slot_ne (C := "com/example/mailbox/mailbox/server/RequestDeadline") (t := .long) (t' := .boolean) (Or.inl (hw _ (List.mem_of_getElem? (i := 26) rfl))) (Or.inl (hw _ (List.mem_of_getElem? (i := 24) rfl))) (by decide) (by decide) (by decide))),
   (q.2.2.2.2.2.1).other W (Or.inr (slot_ne (C := "com/example/mailbox/mailbox/server/RequestDeadline") (t := .long) (t' := .boolean) (Or.inl (hw _ (List.mem_of_getElem? (i := 28) rfl))) (Or.inl (hw _ (List.mem_of_getElem? (i := 24) rfl))) (by decide) (by decide) (by decide))),
   (q.2.2.2.2.2.2.1).other W (Or.inr (slot_ne (C := "com/example/mailbox/mailbox/server/RequestDeadline") (t := .long) (t' := .boolean) (Or.inl (hw _ (List.mem_of_getElem? (i := 32) rfl))) (Or.inl (hw _ (List.mem_of_getElem? (i := 24) rfl))) (by decide) (by decide) (by decide))),
   (q.2.2.2.2.2.2.2.1).other W (Or.inr (slot_ne (C := "com/example/mailbox/mailbox/server/RequestDeadline") (t := .boolean) (t' := .boolean) (Or.inl (hw _ (List.mem_of_getElem? (i := 47) rfl))) (Or.inl (hw _ (List.mem_of_getElem? (i := 24) rfl))) (by decide) (by decide) (by decide))),
   (q.2.2.2.2.2.2.2.2).other W (Or.inr (slot_ne (C := "com/example/mailbox/mailbox/server/RequestDeadline") (t := .long) (t' := .boolean) (Or.inl (hw _ (List.mem_of_getElem? (i := 54) rfl))) (Or.inl (hw _ (List.mem_of_getElem? (i := 24) rfl))) (by decide) (by decide) (by decide)))⟩
theorem own_put0_3 {Z : State} {a0 : Array Value} (hw : ∀ d ∈ tables_1, d.before a0 Z = true) {h h' : Heap} {a : Addr} {v0 : Int64} {v1 : Int64} {v2 : Int32} {v3 : Int64} {v4 : Int64} {v5 : Int64} {v6 : Int32} {v7 : Int64} {v : Int64} (q : own_Obj0 Z h a v0 v1 v2 v3 v4 v5 v6 v7) (W : Wr h h' a (Jvm.RoadKit.slotOf Z "com/example/mailbox/mailbox/server/RequestDeadline" "answered" "J") (.long v)) : own_Obj0 Z h' a v0 v1 v2 v v4 v5 v6 v7 :=
  ⟨q.1.wr W,
   (q.2.1).other W (Or.inr (slot_ne (C := "com/example/mailbox/mailbox/server/RequestDeadline") (t := .long) (t' := .long) (Or.inl (hw _ (List.mem_of_getElem? (i := 10) rfl))) (Or.inl (hw _ (List.mem_of_getElem? (i := 26) rfl))) (by decide) (by decide) (by decide))),
   (q.2.2.1).other W (Or.inr (slot_ne (C := "com/example/mailbox/mailbox/server/RequestDeadline") (t := .long) (t' := .long) (Or.inl (hw _ (List.mem_of_getElem? (i := 17) rfl))) (Or.inl (hw _ (List.mem_of_getElem? (i := 26) rfl))) (by decide) (by decide) (by decide))),
   (q.2.2.2.1).other W (Or.inr (slot_ne (C := "com/example/mailbox/mailbox/server/RequestDeadline") (t := .boolean) (t' := .long) (Or.inl (hw _ (List.mem_of_getElem? (i := 24) rfl))) (Or.inl (hw _ (List.mem_of_getElem? (i := 26) rfl))) (by decide) (by decide) (by decide))),
   (q.2.2.2.2.1).same W,
   (q.2.2.2.2.2.1).other W (Or.inr (slot_ne (C := "com/example/mailbox/mailbox/server/RequestDeadline") (t := .long) (t' := .long) (Or.inl (hw _ (List.mem_of_getElem? (i := 28) rfl))) (Or.inl (hw _ (List.mem_of_getElem? (i := 26) rfl))) (by decide) (by decide) (by decide))),
   (q.2.2.2.2.2.2.1).other W (Or.inr (slot_ne (C := "com/example/mailbox/mailbox/server/RequestDeadline") (t := .long) (t' := .long) (Or.inl (hw _ (List.mem_of_getElem? (i := 32) rfl))) (Or.inl (hw _ (List.mem_of_getElem? (i := 26) rfl))) (by decide) (by decide) (by decide))),
   (q.2.2.2.2.2.2.2.1).other W (Or.inr (slot_ne (C := "com/example/mailbox/mailbox/server/RequestDeadline") (t := .boolean) (t' := .long) (Or.inl (hw _ (List.mem_of_getElem? (i := 47) rfl))) (Or.inl (hw _ (List.mem_of_getElem? (i := 26) rfl))) (by decide) (by decide) (by decide))),
   (q.2.2.2.2.2.2.2.2).other W (Or.inr (slot_ne (C := "com/example/mailbox/mailbox/server/RequestDeadline") (t := .long) (t' := .long) (Or.inl (hw _ (List.mem_of_getElem? (i := 54) rfl))) (Or.inl (hw _ (List.mem_of_getElem? (i := 26) rfl))) (by decide) (by decide) (by decide)))⟩
theorem own_put0_4 {Z : State} {a0 : Array Value} (hw : ∀ d ∈ tables_1, d.before a0 Z = true) {h h' : Heap} {a : Addr} {v0 : Int64} {v1 : Int64} {v2 : Int32} {v3 : Int64} {v4 : Int64} {v5 : Int64} {v6 : Int32} {v7 : Int64} {v : Int64} (q : own_Obj0 Z h a v0 v1 v2 v3 v4 v5 v6 v7) (W : Wr h h' a (Jvm.RoadKit.slotOf Z "com/example/mailbox/mailbox/server/RequestDeadline" "whole" "J") (.long v)) : own_Obj0 Z h' a v0 v1 v2 v3 v v5 v6 v7 :=
  ⟨q.1.wr W,
   (q.2.1).other W (Or.inr (slot_ne (C := "com/example/mailbox/mailbox/server/RequestDeadline") (t := .long) (t' := .long) (Or.inl (hw _ (List.mem_of_getElem? (i := 10) rfl))) (Or.inl (hw _ (List.mem_of_getElem? (i := 28) rfl))) (by decide) (by decide) (by decide))),
   (q.2.2.1).other W (Or.inr (slot_ne (C := "com/example/mailbox/mailbox/server/RequestDeadline") (t := .long) (t' := .long) (Or.inl (hw _ (List.mem_of_getElem? (i := 17) rfl))) (Or.inl (hw _ (List.mem_of_getElem? (i := 28) rfl))) (by decide) (by decide) (by decide))),
   (q.2.2.2.1).other W (Or.inr (slot_ne (C := "com/example/mailbox/mailbox/server/RequestDeadline") (t := .boolean) (t' := .long) (Or.inl (hw _ (List.mem_of_getElem? (i := 24) rfl))) (Or.inl (hw _ (List.mem_of_getElem? (i := 28) rfl))) (by decide) (by decide) (by decide))),
   (q.2.2.2.2.1).other W (Or.inr (slot_ne (C := "com/example/mailbox/mailbox/server/RequestDeadline") (t := .long) (t' := .long) (Or.inl (hw _ (List.mem_of_getElem? (i := 26) rfl))) (Or.inl (hw _ (List.mem_of_getElem? (i := 28) rfl))) (by decide) (by decide) (by decide))),
   (q.2.2.2.2.2.1).same W,
   (q.2.2.2.2.2.2.1).other W (Or.inr (slot_ne (C := "com/example/mailbox/mailbox/server/RequestDeadline") (t := .long) (t' := .long) (Or.inl (hw _ (List.mem_of_getElem? (i := 32) rfl))) (Or.inl (hw _ (List.mem_of_getElem? (i := 28) rfl))) (by decide) (by decide) (by decide))),
   (q.2.2.2.2.2.2.2.1).other W (Or.inr (slot_ne (C := "com/example/mailbox/mailbox/server/RequestDeadline") (t := .boolean) (t' := .long) (Or.inl (hw _ (List.mem_of_getElem? (i := 47) rfl))) (Or.inl (hw _ (List.mem_of_getElem? (i := 28) rfl))) (by decide) (by decide) (by decide))),
   (q.2.2.2.2.2.2.2.2).other W (Or.inr (slot_ne (C := "com/example/mailbox/mailbox/server/RequestDeadline") (t := .long) (t' := .long) (Or.inl (hw _ (List.mem_of_getElem? (i := 54) rfl))) (Or.inl (hw _ (List.mem_of_getElem? (i := 28) rfl))) (by decide) (by decide) (by decide)))⟩
theorem own_put0_5 {Z : State} {a0 : Array Value} (hw : ∀ d ∈ tables_1, d.before a0 Z = true) {h h' : Heap} {a : Addr} {v0 : Int64} {v1 : Int64} {v2 : Int32} {v3 : Int64} {v4 : Int64} {v5 : Int64} {v6 : Int32} {v7 : Int64} {v : Int64} (q : own_Obj0 Z h a v0 v1 v2 v3 v4 v5 v6 v7) (W : Wr h h' a (Jvm.RoadKit.slotOf Z "com/example/mailbox/mailbox/server/RequestDeadline" "arrivedAt" "J") (.long v)) : own_Obj0 Z h' a v0 v1 v2 v3 v4 v v6 v7 :=
  ⟨q.1.wr W,
   (q.2.1).other W (Or.inr (slot_ne (C := "com/example/mailbox/mailbox/server/RequestDeadline") (t := .long) (t' := .long) (Or.inl (hw _ (List.mem_of_getElem? (i := 10) rfl))) (Or.inl (hw _ (List.mem_of_getElem? (i := 32) rfl))) (by decide) (by decide) (by decide))),
   (q.2.2.1).other W (Or.inr (slot_ne (C := "com/example/mailbox/mailbox/server/RequestDeadline") (t := .long) (t' := .long) (Or.inl (hw _ (List.mem_of_getElem? (i := 17) rfl))) (Or.inl (hw _ (List.mem_of_getElem? (i := 32) rfl))) (by decide) (by decide) (by decide))),
   (q.2.2.2.1).other W (Or.inr (slot_ne (C := "com/example/mailbox/mailbox/server/RequestDeadline") (t := .boolean) (t' := .long) (Or.inl (hw _ (List.mem_of_getElem? (i := 24) rfl))) (Or.inl (hw _ (List.mem_of_getElem? (i := 32) rfl))) (by decide) (by decide) (by decide))),
   (q.2.2.2.2.1).other W (Or.inr (slot_ne (C := "com/example/mailbox/mailbox/server/RequestDeadline") (t := .long) (t' := .long) (Or.inl (hw _ (List.mem_of_getElem? (i := 26) rfl))) (Or.inl (hw _ (List.mem_of_getElem? (i := 32) rfl))) (by decide) (by decide) (by decide))),
   (q.2.2.2.2.2.1).other W (Or.inr (slot_ne (C := "com/example/mailbox/mailbox/server/RequestDeadline") (t := .long) (t' := .long) (Or.inl (hw _ (List.mem_of_getElem? (i := 28) rfl))) (Or.inl (hw _ (List.mem_of_getElem? (i := 32) rfl))) (by decide) (by decide) (by decide))),
   (q.2.2.2.2.2.2.1).same W,
   (q.2.2.2.2.2.2.2.1).other W (Or.inr (slot_ne (C := "com/example/mailbox/mailbox/server/RequestDeadline") (t := .boolean) (t' := .long) (Or.inl (hw _ (List.mem_of_getElem? (i := 47) rfl))) (Or.inl (hw _ (List.mem_of_getElem? (i := 32) rfl))) (by decide) (by decide) (by decide))),
   (q.2.2.2.2.2.2.2.2).other W (Or.inr (slot_ne (C := "com/example/mailbox/mailbox/server/RequestDeadline") (t := .long) (t' := .long) (Or.inl (hw _ (List.mem_of_getElem? (i := 54) rfl))) (Or.inl (hw _ (List.mem_of_getElem? (i := 32) rfl))) (by decide) (by decide) (by decide)))⟩
theorem own_put0_6 {Z : State} {a0 : Array Value} (hw : ∀ d ∈ tables_1, d.before a0 Z = true) {h h' : Heap} {a : Addr} {v0 : Int64} {v1 : Int64} {v2 : Int32} {v3 : Int64} {v4 : Int64} {v5 : Int64} {v6 : Int32} {v7 : Int64} {v : Int32} (q : own_Obj0 Z h a v0 v1 v2 v3 v4 v5 v6 v7) (W : Wr h h' a (Jvm.RoadKit.slotOf Z "com/example/mailbox/mailbox/server/RequestDeadline" "arrivedSinceAnswer" "Z") (.int v)) : own_Obj0 Z h' a v0 v1 v2 v3 v4 v5 v v7 :=
  ⟨q.1.wr W,
   (q.2.1).other W (Or.inr (slot_ne (C := "com/example/mailbox/mailbox/server/RequestDeadline") (t := .long) (t' := .boolean) (Or.inl (hw _ (List.mem_of_getElem? (i := 10) rfl))) (Or.inl (hw _ (List.mem_of_getElem? (i := 47) rfl))) (by decide) (by decide) (by decide))),
   (q.2.2.1).other W (Or.inr (slot_ne (C := "com/example/mailbox/mailbox/server/RequestDeadline") (t := .long) (t' := .boolean) (Or.inl (hw _ (List.mem_of_getElem? (i := 17) rfl))) (Or.inl (hw _ (List.mem_of_getElem? (i := 47) rfl))) (by decide) (by decide) (by decide))),
   (q.2.2.2.1).other W (Or.inr (slot_ne (C := "com/example/mailbox/mailbox/server/RequestDeadline") (t := .boolean) (t' := .boolean) (Or.inl (hw _ (List.mem_of_getElem? (i := 24) rfl))) (Or.inl (hw _ (List.mem_of_getElem? (i := 47) rfl))) (by decide) (by decide) (by decide))),
   (q.2.2.2.2.1).other W (Or.inr (slot_ne (C := "com/example/mailbox/mailbox/server/RequestDeadline") (t := .long) (t' := .boolean) (Or.inl (hw _ (List.mem_of_getElem? (i := 26) rfl))) (Or.inl (hw _ (List.mem_of_getElem? (i := 47) rfl))) (by decide) (by decide) (by decide))),
   (q.2.2.2.2.2.1).other W (Or.inr (slot_ne (C := "com/example/mailbox/mailbox/server/RequestDeadline") (t := .long) (t' := .boolean) (Or.inl (hw _ (List.mem_of_getElem? (i := 28) rfl))) (Or.inl (hw _ (List.mem_of_getElem? (i := 47) rfl))) (by decide) (by decide) (by decide))),
   (q.2.2.2.2.2.2.1).other W (Or.inr (slot_ne (C := "com/example/mailbox/mailbox/server/RequestDeadline") (t := .long) (t' := .boolean) (Or.inl (hw _ (List.mem_of_getElem? (i := 32) rfl))) (Or.inl (hw _ (List.mem_of_getElem? (i := 47) rfl))) (by decide) (by decide) (by decide))),
   (q.2.2.2.2.2.2.2.1).same W,
   (q.2.2.2.2.2.2.2.2).other W (Or.inr (slot_ne (C := "com/example/mailbox/mailbox/server/RequestDeadline") (t := .long) (t' := .boolean) (Or.inl (hw _ (List.mem_of_getElem? (i := 54) rfl))) (Or.inl (hw _ (List.mem_of_getElem? (i := 47) rfl))) (by decide) (by decide) (by decide)))⟩
theorem own_put0_7 {Z : State} {a0 : Array Value} (hw : ∀ d ∈ tables_1, d.before a0 Z = true) {h h' : Heap} {a : Addr} {v0 : Int64} {v1 : Int64} {v2 : Int32} {v3 : Int64} {v4 : Int64} {v5 : Int64} {v6 : Int32} {v7 : Int64} {v : Int64} (q : own_Obj0 Z h a v0 v1 v2 v3 v4 v5 v6 v7) (W : Wr h h' a (Jvm.RoadKit.slotOf Z "com/example/mailbox/mailbox/server/RequestDeadline" "expiredAt" "J") (.long v)) : own_Obj0 Z h' a v0 v1 v2 v3 v4 v5 v6 v :=
  ⟨q.1.wr W,
   (q.2.1).other W (Or.inr (slot_ne (C := "com/example/mailbox/mailbox/server/RequestDeadline") (t := .long) (t' := .long) (Or.inl (hw _ (List.mem_of_getElem? (i := 10) rfl))) (Or.inl (hw _ (List.mem_of_getElem? (i := 54) rfl))) (by decide) (by decide) (by decide))),
   (q.2.2.1).other W (Or.inr (slot_ne (C := "com/example/mailbox/mailbox/server/RequestDeadline") (t := .long) (t' := .long) (Or.inl (hw _ (List.mem_of_getElem? (i := 17) rfl))) (Or.inl (hw _ (List.mem_of_getElem? (i := 54) rfl))) (by decide) (by decide) (by decide))),
   (q.2.2.2.1).other W (Or.inr (slot_ne (C := "com/example/mailbox/mailbox/server/RequestDeadline") (t := .boolean) (t' := .long) (Or.inl (hw _ (List.mem_of_getElem? (i := 24) rfl))) (Or.inl (hw _ (List.mem_of_getElem? (i := 54) rfl))) (by decide) (by decide) (by decide))),
   (q.2.2.2.2.1).other W (Or.inr (slot_ne (C := "com/example/mailbox/mailbox/server/RequestDeadline") (t := .long) (t' := .long) (Or.inl (hw _ (List.mem_of_getElem? (i := 26) rfl))) (Or.inl (hw _ (List.mem_of_getElem? (i := 54) rfl))) (by decide) (by decide) (by decide))),
   (q.2.2.2.2.2.1).other W (Or.inr (slot_ne (C := "com/example/mailbox/mailbox/server/RequestDeadline") (t := .long) (t' := .long) (Or.inl (hw _ (List.mem_of_getElem? (i := 28) rfl))) (Or.inl (hw _ (List.mem_of_getElem? (i := 54) rfl))) (by decide) (by decide) (by decide))),
   (q.2.2.2.2.2.2.1).other W (Or.inr (slot_ne (C := "com/example/mailbox/mailbox/server/RequestDeadline") (t := .long) (t' := .long) (Or.inl (hw _ (List.mem_of_getElem? (i := 32) rfl))) (Or.inl (hw _ (List.mem_of_getElem? (i := 54) rfl))) (by decide) (by decide) (by decide))),
   (q.2.2.2.2.2.2.2.1).other W (Or.inr (slot_ne (C := "com/example/mailbox/mailbox/server/RequestDeadline") (t := .boolean) (t' := .long) (Or.inl (hw _ (List.mem_of_getElem? (i := 47) rfl))) (Or.inl (hw _ (List.mem_of_getElem? (i := 54) rfl))) (by decide) (by decide) (by decide))),
   (q.2.2.2.2.2.2.2.2).same W⟩
theorem own_Obj0.ext {Z : State} {h h' : Heap} {a : Addr} {v0 : Int64} {v1 : Int64} {v2 : Int32} {v3 : Int64} {v4 : Int64} {v5 : Int64} {v6 : Int32} {v7 : Int64} (q : own_Obj0 Z h a v0 v1 v2 v3 v4 v5 v6 v7) (E : Ext h h') : own_Obj0 Z h' a v0 v1 v2 v3 v4 v5 v6 v7 :=
  ⟨q.1.ext E, (q.2.1).ext E, (q.2.2.1).ext E, (q.2.2.2.1).ext E, (q.2.2.2.2.1).ext E, (q.2.2.2.2.2.1).ext E, (q.2.2.2.2.2.2.1).ext E, (q.2.2.2.2.2.2.2.1).ext E, (q.2.2.2.2.2.2.2.2).ext E⟩
theorem pn0 : plainName "com/example/mailbox/mailbox/server/RequestDeadline" = true := by first | (simp [plainName, overriddenIn]; done) | decide +kernel
theorem pn1 : plainName "com/example/mailbox/mailbox/server/RequestDeadlineRemainingPinLaw" = true := by first | (simp [plainName, overriddenIn]; done) | decide +kernel
theorem pd0 : parseMethodDescriptor "(J)J" = some ⟨[.long], some .long⟩ := by decide +kernel
theorem pd1 : parseMethodDescriptor "(J)Lcom/example/mailbox/mailbox/server/RequestDeadline$Expiry;" = some ⟨[.long], some (.object "com/example/mailbox/mailbox/server/RequestDeadline$Expiry")⟩ := by decide +kernel
theorem pd2 : parseMethodDescriptor "(J)V" = some ⟨[.long], none⟩ := by decide +kernel
theorem pd3 : parseMethodDescriptor "()V" = some ⟨[], none⟩ := by decide +kernel
theorem d1_0 : decode prog_124_method_1_code 0 = .ok (.aload_n 0, 1) := by decide +kernel
theorem d1_1 : decode prog_124_method_1_code 1 = .ok (.invokespecial 3, 3) := by decide +kernel
theorem d1_4 : decode prog_124_method_1_code 4 = .ok (.aload_n 0, 1) := by decide +kernel
theorem d1_5 : decode prog_124_method_1_code 5 = .ok (.lload_n 1, 1) := by decide +kernel
theorem d1_6 : decode prog_124_method_1_code 6 = .ok (.putfield 9, 3) := by decide +kernel
theorem d1_9 : decode prog_124_method_1_code 9 = .ok (.return_, 1) := by decide +kernel
theorem d3_0 : decode prog_124_method_3_code 0 = .ok (.aload_n 0, 1) := by decide +kernel
theorem d3_1 : decode prog_124_method_3_code 1 = .ok (.dup, 1) := by decide +kernel
theorem d3_2 : decode prog_124_method_3_code 2 = .ok (.getfield 22, 3) := by decide +kernel
theorem d3_5 : decode prog_124_method_3_code 5 = .ok (.lconst 1, 1) := by decide +kernel
theorem d3_6 : decode prog_124_method_3_code 6 = .ok (.ladd, 1) := by decide +kernel
theorem d3_7 : decode prog_124_method_3_code 7 = .ok (.putfield 22, 3) := by decide +kernel
theorem d3_10 : decode prog_124_method_3_code 10 = .ok (.return_, 1) := by decide +kernel
theorem d4_0 : decode prog_124_method_6_code 0 = .ok (.aload_n 0, 1) := by decide +kernel
theorem d4_1 : decode prog_124_method_6_code 1 = .ok (.getfield 31, 3) := by decide +kernel
theorem d4_4 : decode prog_124_method_6_code 4 = .ok (.ifCond .eq 14, 3) := by decide +kernel
theorem d4_7 : decode prog_124_method_6_code 7 = .ok (.getstatic 34, 3) := by decide +kernel
theorem d4_10 : decode prog_124_method_6_code 10 = .ok (.lload_n 1, 1) := by decide +kernel
theorem d4_11 : decode prog_124_method_6_code 11 = .ok (.aload_n 0, 1) := by decide +kernel
theorem d4_12 : decode prog_124_method_6_code 12 = .ok (.getfield 37, 3) := by decide +kernel
theorem d4_15 : decode prog_124_method_6_code 15 = .ok (.lsub, 1) := by decide +kernel
theorem d4_16 : decode prog_124_method_6_code 16 = .ok (.lsub, 1) := by decide +kernel
theorem d4_17 : decode prog_124_method_6_code 17 = .ok (.lreturn, 1) := by decide +kernel
theorem d4_18 : decode prog_124_method_6_code 18 = .ok (.aload_n 0, 1) := by decide +kernel
theorem d4_19 : decode prog_124_method_6_code 19 = .ok (.getfield 28, 3) := by decide +kernel
theorem d4_22 : decode prog_124_method_6_code 22 = .ok (.aload_n 0, 1) := by decide +kernel
theorem d4_23 : decode prog_124_method_6_code 23 = .ok (.getfield 22, 3) := by decide +kernel
theorem d4_26 : decode prog_124_method_6_code 26 = .ok (.lcmp, 1) := by decide +kernel
theorem d4_27 : decode prog_124_method_6_code 27 = .ok (.ifCond .ne 14, 3) := by decide +kernel
theorem d4_30 : decode prog_124_method_6_code 30 = .ok (.getstatic 34, 3) := by decide +kernel
theorem d4_33 : decode prog_124_method_6_code 33 = .ok (.lload_n 1, 1) := by decide +kernel
theorem d4_34 : decode prog_124_method_6_code 34 = .ok (.aload_n 0, 1) := by decide +kernel
theorem d4_35 : decode prog_124_method_6_code 35 = .ok (.getfield 9, 3) := by decide +kernel
theorem d4_38 : decode prog_124_method_6_code 38 = .ok (.lsub, 1) := by decide +kernel
theorem d4_39 : decode prog_124_method_6_code 39 = .ok (.lsub, 1) := by decide +kernel
theorem d4_40 : decode prog_124_method_6_code 40 = .ok (.lreturn, 1) := by decide +kernel
theorem d4_41 : decode prog_124_method_6_code 41 = .ok (.aload_n 0, 1) := by decide +kernel
theorem d4_42 : decode prog_124_method_6_code 42 = .ok (.getfield 25, 3) := by decide +kernel
theorem d4_45 : decode prog_124_method_6_code 45 = .ok (.aload_n 0, 1) := by decide +kernel
theorem d4_46 : decode prog_124_method_6_code 46 = .ok (.getfield 22, 3) := by decide +kernel
theorem d4_49 : decode prog_124_method_6_code 49 = .ok (.lcmp, 1) := by decide +kernel
theorem d4_50 : decode prog_124_method_6_code 50 = .ok (.ifCond .ge 26, 3) := by decide +kernel
theorem d4_53 : decode prog_124_method_6_code 53 = .ok (.aload_n 0, 1) := by decide +kernel
theorem d4_54 : decode prog_124_method_6_code 54 = .ok (.getfield 28, 3) := by decide +kernel
theorem d4_57 : decode prog_124_method_6_code 57 = .ok (.aload_n 0, 1) := by decide +kernel
theorem d4_58 : decode prog_124_method_6_code 58 = .ok (.getfield 25, 3) := by decide +kernel
theorem d4_61 : decode prog_124_method_6_code 61 = .ok (.lcmp, 1) := by decide +kernel
theorem d4_62 : decode prog_124_method_6_code 62 = .ok (.ifCond .ne 14, 3) := by decide +kernel
theorem d4_65 : decode prog_124_method_6_code 65 = .ok (.getstatic 34, 3) := by decide +kernel
theorem d4_68 : decode prog_124_method_6_code 68 = .ok (.lload_n 1, 1) := by decide +kernel
theorem d4_69 : decode prog_124_method_6_code 69 = .ok (.aload_n 0, 1) := by decide +kernel
theorem d4_70 : decode prog_124_method_6_code 70 = .ok (.getfield 15, 3) := by decide +kernel
theorem d4_73 : decode prog_124_method_6_code 73 = .ok (.lsub, 1) := by decide +kernel
theorem d4_74 : decode prog_124_method_6_code 74 = .ok (.lsub, 1) := by decide +kernel
theorem d4_75 : decode prog_124_method_6_code 75 = .ok (.lreturn, 1) := by decide +kernel
theorem d4_76 : decode prog_124_method_6_code 76 = .ok (.ldc2_w 40, 3) := by decide +kernel
theorem d4_79 : decode prog_124_method_6_code 79 = .ok (.lreturn, 1) := by decide +kernel
theorem d5_0 : decode prog_124_method_4_code 0 = .ok (.aload_n 0, 1) := by decide +kernel
theorem d5_1 : decode prog_124_method_4_code 1 = .ok (.dup, 1) := by decide +kernel
theorem d5_2 : decode prog_124_method_4_code 2 = .ok (.getfield 25, 3) := by decide +kernel
theorem d5_5 : decode prog_124_method_4_code 5 = .ok (.lconst 1, 1) := by decide +kernel
theorem d5_6 : decode prog_124_method_4_code 6 = .ok (.ladd, 1) := by decide +kernel
theorem d5_7 : decode prog_124_method_4_code 7 = .ok (.putfield 25, 3) := by decide +kernel
theorem d5_10 : decode prog_124_method_4_code 10 = .ok (.return_, 1) := by decide +kernel
theorem d6_0 : decode prog_124_method_2_code 0 = .ok (.aload_n 0, 1) := by decide +kernel
theorem d6_1 : decode prog_124_method_2_code 1 = .ok (.lload_n 1, 1) := by decide +kernel
theorem d6_2 : decode prog_124_method_2_code 2 = .ok (.putfield 15, 3) := by decide +kernel
theorem d6_5 : decode prog_124_method_2_code 5 = .ok (.aload_n 0, 1) := by decide +kernel
theorem d6_6 : decode prog_124_method_2_code 6 = .ok (.iconst 1, 1) := by decide +kernel
theorem d6_7 : decode prog_124_method_2_code 7 = .ok (.putfield 18, 3) := by decide +kernel
theorem d6_10 : decode prog_124_method_2_code 10 = .ok (.return_, 1) := by decide +kernel
theorem d7_0 : decode prog_124_method_7_code 0 = .ok (.aload_n 0, 1) := by decide +kernel
theorem d7_1 : decode prog_124_method_7_code 1 = .ok (.getfield 31, 3) := by decide +kernel
theorem d7_4 : decode prog_124_method_7_code 4 = .ok (.ifCond .ne 7, 3) := by decide +kernel
theorem d7_7 : decode prog_124_method_7_code 7 = .ok (.iconst 1, 1) := by decide +kernel
theorem d7_8 : decode prog_124_method_7_code 8 = .ok (.goto 4, 3) := by decide +kernel
theorem d7_11 : decode prog_124_method_7_code 11 = .ok (.iconst 0, 1) := by decide +kernel
theorem d7_12 : decode prog_124_method_7_code 12 = .ok (.istore_n 3, 1) := by decide +kernel
theorem d7_13 : decode prog_124_method_7_code 13 = .ok (.aload_n 0, 1) := by decide +kernel
theorem d7_14 : decode prog_124_method_7_code 14 = .ok (.iconst 1, 1) := by decide +kernel
theorem d7_15 : decode prog_124_method_7_code 15 = .ok (.putfield 31, 3) := by decide +kernel
theorem d7_18 : decode prog_124_method_7_code 18 = .ok (.iload_n 3, 1) := by decide +kernel
theorem d7_19 : decode prog_124_method_7_code 19 = .ok (.ifCond .ne 7, 3) := by decide +kernel
theorem d7_22 : decode prog_124_method_7_code 22 = .ok (.getstatic 42, 3) := by decide +kernel
theorem d7_25 : decode prog_124_method_7_code 25 = .ok (.areturn, 1) := by decide +kernel
theorem d7_26 : decode prog_124_method_7_code 26 = .ok (.aload_n 0, 1) := by decide +kernel
theorem d7_27 : decode prog_124_method_7_code 27 = .ok (.lload_n 1, 1) := by decide +kernel
theorem d7_28 : decode prog_124_method_7_code 28 = .ok (.putfield 37, 3) := by decide +kernel
theorem d7_31 : decode prog_124_method_7_code 31 = .ok (.aload_n 0, 1) := by decide +kernel
theorem d7_32 : decode prog_124_method_7_code 32 = .ok (.getfield 28, 3) := by decide +kernel
theorem d7_35 : decode prog_124_method_7_code 35 = .ok (.aload_n 0, 1) := by decide +kernel
theorem d7_36 : decode prog_124_method_7_code 36 = .ok (.getfield 22, 3) := by decide +kernel
theorem d7_39 : decode prog_124_method_7_code 39 = .ok (.lcmp, 1) := by decide +kernel
theorem d7_40 : decode prog_124_method_7_code 40 = .ok (.ifCond .eq 7, 3) := by decide +kernel
theorem d7_43 : decode prog_124_method_7_code 43 = .ok (.getstatic 48, 3) := by decide +kernel
theorem d7_46 : decode prog_124_method_7_code 46 = .ok (.areturn, 1) := by decide +kernel
theorem d7_47 : decode prog_124_method_7_code 47 = .ok (.aload_n 0, 1) := by decide +kernel
theorem d7_48 : decode prog_124_method_7_code 48 = .ok (.getfield 18, 3) := by decide +kernel
theorem d7_51 : decode prog_124_method_7_code 51 = .ok (.ifCond .eq 9, 3) := by decide +kernel
theorem d7_54 : decode prog_124_method_7_code 54 = .ok (.getstatic 51, 3) := by decide +kernel
theorem d7_57 : decode prog_124_method_7_code 57 = .ok (.goto 6, 3) := by decide +kernel
theorem d7_60 : decode prog_124_method_7_code 60 = .ok (.getstatic 42, 3) := by decide +kernel
theorem d7_63 : decode prog_124_method_7_code 63 = .ok (.areturn, 1) := by decide +kernel
theorem d8_0 : decode prog_124_method_5_code 0 = .ok (.aload_n 0, 1) := by decide +kernel
theorem d8_1 : decode prog_124_method_5_code 1 = .ok (.dup, 1) := by decide +kernel
theorem d8_2 : decode prog_124_method_5_code 2 = .ok (.getfield 28, 3) := by decide +kernel
theorem d8_5 : decode prog_124_method_5_code 5 = .ok (.lconst 1, 1) := by decide +kernel
theorem d8_6 : decode prog_124_method_5_code 6 = .ok (.ladd, 1) := by decide +kernel
theorem d8_7 : decode prog_124_method_5_code 7 = .ok (.putfield 28, 3) := by decide +kernel
theorem d8_10 : decode prog_124_method_5_code 10 = .ok (.aload_n 0, 1) := by decide +kernel
theorem d8_11 : decode prog_124_method_5_code 11 = .ok (.lload_n 1, 1) := by decide +kernel
theorem d8_12 : decode prog_124_method_5_code 12 = .ok (.putfield 9, 3) := by decide +kernel
theorem d8_15 : decode prog_124_method_5_code 15 = .ok (.aload_n 0, 1) := by decide +kernel
theorem d8_16 : decode prog_124_method_5_code 16 = .ok (.iconst 0, 1) := by decide +kernel
theorem d8_17 : decode prog_124_method_5_code 17 = .ok (.putfield 18, 3) := by decide +kernel
theorem d8_20 : decode prog_124_method_5_code 20 = .ok (.return_, 1) := by decide +kernel
def Q4_0 (Z : State) (x0 : Addr) (x0_answeredAt : Int64) (x0_begun : Int64) (x0_expired : Int32) (x0_answered : Int64) (x0_whole : Int64) (x0_arrivedAt : Int64) (x0_arrivedSinceAnswer : Int32) (x0_expiredAt : Int64) (x1 : Int64) (w0 : Addr) (w1 : Addr) (w2 : Addr) (n0 : Nat) (v : Option Value) (h : Heap) (L : List Loc) : Prop := Fr n0 L ∧ Old Z n0 h ∧ n0 ≤ h.size ∧ ((x0_expired = (0 : Int32) ∧ x0_answered = x0_begun ∧ v = some (.long ((10000000000 : Int64) - (x1 - x0_answeredAt))) ∧ own_Obj0 Z h x0 x0_answeredAt x0_begun x0_expired x0_answered x0_whole x0_arrivedAt x0_arrivedSinceAnswer x0_expiredAt) ∨ (x0_expired = (0 : Int32) ∧ ¬ (x0_answered = x0_begun) ∧ x0_whole < x0_begun ∧ x0_answered = x0_whole ∧ v = some (.long ((10000000000 : Int64) - (x1 - x0_arrivedAt))) ∧ own_Obj0 Z h x0 x0_answeredAt x0_begun x0_expired x0_answered x0_whole x0_arrivedAt x0_arrivedSinceAnswer x0_expiredAt) ∨ (x0_expired = (0 : Int32) ∧ ¬ (x0_answered = x0_begun) ∧ x0_whole < x0_begun ∧ ¬ (x0_answered = x0_whole) ∧ v = some (.long (9223372036854775807 : Int64)) ∧ own_Obj0 Z h x0 x0_answeredAt x0_begun x0_expired x0_answered x0_whole x0_arrivedAt x0_arrivedSinceAnswer x0_expiredAt) ∨ (x0_expired = (0 : Int32) ∧ ¬ (x0_answered = x0_begun) ∧ ¬ (x0_whole < x0_begun) ∧ v = some (.long (9223372036854775807 : Int64)) ∧ own_Obj0 Z h x0 x0_answeredAt x0_begun x0_expired x0_answered x0_whole x0_arrivedAt x0_arrivedSinceAnswer x0_expiredAt) ∨ (¬ (x0_expired = (0 : Int32)) ∧ v = some (.long ((10000000000 : Int64) - (x1 - x0_expiredAt))) ∧ own_Obj0 Z h x0 x0_answeredAt x0_begun x0_expired x0_answered x0_whole x0_arrivedAt x0_arrivedSinceAnswer x0_expiredAt))
set_option maxRecDepth 65536 in
set_option maxHeartbeats 40000000 in
theorem rm4_0 (l : Launch) (Z : State) (a0 : Array Value) (hw : ∀ d ∈ tables_1, d.before a0 Z = true) (ws : List Jvm.Cond) (x0 : Addr) (x0_answeredAt : Int64) (x0_begun : Int64) (x0_expired : Int32) (x0_answered : Int64) (x0_whole : Int64) (x0_arrivedAt : Int64) (x0_arrivedSinceAnswer : Int32) (x0_expiredAt : Int64) (x1 : Int64) (w0 : Addr) (w1 : Addr) (w2 : Addr) (h0 : Heap) (n0 : Nat) (Z0 : n0 ≤ h0.size) (K : own_K Z Z.heap w0 w1 w2) (OL : Old Z n0 h0) (OB_x0 : own_Obj0 Z h0 x0 x0_answeredAt x0_begun x0_expired x0_answered x0_whole x0_arrivedAt x0_arrivedSinceAnswer x0_expiredAt) (g_x0 : n0 ≤ x0) :
    MetFree l (⟨"com/example/mailbox/mailbox/server/RequestDeadline", "remaining", "(J)J"⟩ : MethodName) (head1 (Jvm.Cond.code (⟨"com/example/mailbox/mailbox/server/RequestDeadline", "remaining", "(J)J"⟩ : MethodName) prog_124_method_6_code 3 (some .long) :: ws) ({ frames := 0, cells := 0, slots := 0, locals := 0 } : Room)) (fun a U => a = #[(.ref x0), (.long x1)] ∧ Z.Warmed39 U.vm ∧ U.heap = h0) (fun _ _ _ _ _ => True) (fun _ U o U' => ∃ v L, o = .returned v ∧ Q4_0 Z x0 x0_answeredAt x0_begun x0_expired x0_answered x0_whole x0_arrivedAt x0_arrivedSinceAnswer x0_expiredAt x1 w0 w1 w2 n0 v U'.heap L ∧ FrameEnd U o U' L ({ frames := 0, cells := 0, slots := 0, locals := 0 } : Room).cells ({ frames := 0, cells := 0, slots := 0, locals := 0 } : Room).slots) := by
  refine MetFree.of_bodySF (plainFor_of_name pn0) hisR ?_
  intro p e s m args below meth c s₁ Bd hml0 hP hK
  obtain ⟨rfl, hZ, hh⟩ := hP
  have hx := Bd.exec
  have hby := Bd.bytes
  have hml : c.maxLocals = 3 := hml0
  have hown : s.vm.findClass "com/example/mailbox/mailbox/server/RequestDeadline" = some m.cls := findClass_of_methodNamed Bd.named
  have hnm := (name_of_methodNamed Bd.named Bd.method).1
  have hlk := Bd.notSynchronized
  have X0 : Stand p l e ({ frames := 0, cells := 0, slots := 0, locals := 0 } : Room) s m #[(.ref x0), (.long x1)] below meth c s₁ [] 0 0 := Stand.of_body Bd
  have e0 : s₁.heap = h0 := by rw [← hh, Bd.state]; rfl
  have K0 := K
  obtain ⟨S_w0, S_w1, S_w2, S_TIMEOUT_NANOS, E_w0, E_w1, E_w2⟩ := K
  show own_Go p e below s (Q4_0 Z x0 x0_answeredAt x0_begun x0_expired x0_answered x0_whole x0_arrivedAt x0_arrivedSinceAnswer x0_expiredAt x1 w0 w1 w2 n0) 0 0 (s₁.setTop (entryFrame m #[(.ref x0), (.long x1)] 3))
  rw [show entryFrame m #[(.ref x0), (.long x1)] 3 = mkF m 0 #[.val (.ref x0), .val (.long x1), .second] [] from by first | (simp [entryFrame, mkF, argsToLocals, Value.category]; done) | rfl]
  show own_Go p e below s _ _ _ (s₁.setTop (mkF m 0 #[.val (.ref x0), .val (.long x1), .second] []))
  refine own_via (fun _ k => XS.aloadN X0.here hx rfl (hb hby d4_0) rfl rfl k) ?_
  show own_Go p e below s _ _ _ (s₁.setTop (mkF m 1 #[.val (.ref x0), .val (.long x1), .second] [(.ref x0)]))
  obtain ⟨T1, X1, e1, st1⟩ := getF X0 hx hZ hown (host := "") (Or.inl (hw _ (List.mem_of_getElem? (i := 23) rfl))) Via.refl e0 (OB_x0.2.2.2.1) (g := (mkF m 1 #[.val (.ref x0), .val (.long x1), .second] [(.ref x0)])) rfl rfl (hb hby d4_1)
  refine own_via st1 ?_
  show own_Go p e below s _ _ _ (T1.setTop (mkF m 4 #[.val (.ref x0), .val (.long x1), .second] [(.int x0_expired)]))
  by_cases hc2 : x0_expired = (0 : Int32)
  · refine own_via (fun _ k => XS.ifYes X1.here hx rfl (pc0 := 4) (pc' := 18) rfl (hb hby d4_4) rfl ((if0 _ _).trans (teq hc2).1) (by decide) (by decide) k) ?_
    show own_Go p e below s _ _ _ (T1.setTop (mkF m 18 #[.val (.ref x0), .val (.long x1), .second] []))
    refine own_via (fun _ k => XS.aloadN X1.here hx rfl (hb hby d4_18) rfl rfl k) ?_
    show own_Go p e below s _ _ _ (T1.setTop (mkF m 19 #[.val (.ref x0), .val (.long x1), .second] [(.ref x0)]))
    obtain ⟨T3, X3, e3, st3⟩ := getF X1 hx hZ hown (host := "") (Or.inl (hw _ (List.mem_of_getElem? (i := 25) rfl))) Via.refl e1 (OB_x0.2.2.2.2.1) (g := (mkF m 19 #[.val (.ref x0), .val (.long x1), .second] [(.ref x0)])) rfl rfl (hb hby d4_19)
    refine own_via st3 ?_
    show own_Go p e below s _ _ _ (T3.setTop (mkF m 22 #[.val (.ref x0), .val (.long x1), .second] [(.long x0_answered)]))
    refine own_via (fun _ k => XS.aloadN X3.here hx rfl (hb hby d4_22) rfl rfl k) ?_
    show own_Go p e below s _ _ _ (T3.setTop (mkF m 23 #[.val (.ref x0), .val (.long x1), .second] [(.ref x0), (.long x0_answered)]))
    obtain ⟨T4, X4, e4, st4⟩ := getF X3 hx hZ hown (host := "") (Or.inl (hw _ (List.mem_of_getElem? (i := 16) rfl))) Via.refl e3 (OB_x0.2.2.1) (g := (mkF m 23 #[.val (.ref x0), .val (.long x1), .second] [(.ref x0), (.long x0_answered)])) rfl rfl (hb hby d4_23)
    refine own_via st4 ?_
    show own_Go p e below s _ _ _ (T4.setTop (mkF m 26 #[.val (.ref x0), .val (.long x1), .second] [(.long x0_begun), (.long x0_answered)]))
    refine own_via (fun _ k => XS.lcmp X4.here hx rfl (hb hby d4_26) rfl k) ?_
    show own_Go p e below s _ _ _ (T4.setTop (mkF m 27 #[.val (.ref x0), .val (.long x1), .second] [(.int (lcmpW x0_answered x0_begun))]))
    by_cases hc5 : x0_answered = x0_begun
    · refine own_via (fun _ k => XS.ifNo X4.here hx rfl (hb hby d4_27) rfl ((if0 _ _).trans (teq ((lw_eq x0_answered x0_begun).mpr hc5)).2) k) ?_
      show own_Go p e below s _ _ _ (T4.setTop (mkF m 30 #[.val (.ref x0), .val (.long x1), .second] []))
      obtain ⟨T6, X6, e6, st6⟩ := getS2 X4 hx hZ hown (host := "") (Or.inl (hw _ (List.mem_of_getElem? (i := 29) rfl))) Via.refl e4 (S_TIMEOUT_NANOS.ext OL.2) (g := (mkF m 30 #[.val (.ref x0), .val (.long x1), .second] [])) rfl (hb hby d4_30)
      refine own_via st6 ?_
      show own_Go p e below s _ _ _ (T6.setTop (mkF m 33 #[.val (.ref x0), .val (.long x1), .second] [(.long (10000000000 : Int64))]))
      refine own_via (fun _ k => XS.lloadN X6.here hx rfl (hb hby d4_33) rfl k) ?_
      show own_Go p e below s _ _ _ (T6.setTop (mkF m 34 #[.val (.ref x0), .val (.long x1), .second] [(.long x1), (.long (10000000000 : Int64))]))
      refine own_via (fun _ k => XS.aloadN X6.here hx rfl (hb hby d4_34) rfl rfl k) ?_
      show own_Go p e below s _ _ _ (T6.setTop (mkF m 35 #[.val (.ref x0), .val (.long x1), .second] [(.ref x0), (.long x1), (.long (10000000000 : Int64))]))
      obtain ⟨T7, X7, e7, st7⟩ := getF X6 hx hZ hown (host := "") (Or.inl (hw _ (List.mem_of_getElem? (i := 9) rfl))) Via.refl e6 (OB_x0.2.1) (g := (mkF m 35 #[.val (.ref x0), .val (.long x1), .second] [(.ref x0), (.long x1), (.long (10000000000 : Int64))])) rfl rfl (hb hby d4_35)
      refine own_via st7 ?_
      show own_Go p e below s _ _ _ (T7.setTop (mkF m 38 #[.val (.ref x0), .val (.long x1), .second] [(.long x0_answeredAt), (.long x1), (.long (10000000000 : Int64))]))
      refine own_via (fun _ k => XS.lsub X7.here hx rfl (hb hby d4_38) rfl k) ?_
      show own_Go p e below s _ _ _ (T7.setTop (mkF m 39 #[.val (.ref x0), .val (.long x1), .second] [(.long (x1 - x0_answeredAt)), (.long (10000000000 : Int64))]))
      refine own_via (fun _ k => XS.lsub X7.here hx rfl (hb hby d4_39) rfl k) ?_
      show own_Go p e below s _ _ _ (T7.setTop (mkF m 40 #[.val (.ref x0), .val (.long x1), .second] [(.long ((10000000000 : Int64) - (x1 - x0_answeredAt)))]))
      exact own_retJ X7 hx hlk Bd.returns (hb hby d4_40) (by rw [e7]; exact ⟨(Fr.nil n0), OL, Z0, Or.inl ⟨hc2, hc5, rfl, OB_x0⟩⟩) (by decide) (by decide)
    · refine own_via (fun _ k => XS.ifYes X4.here hx rfl (pc0 := 27) (pc' := 41) rfl (hb hby d4_27) rfl ((if0 _ _).trans (feq (mt (lw_eq x0_answered x0_begun).mp hc5)).2) (by decide) (by decide) k) ?_
      show own_Go p e below s _ _ _ (T4.setTop (mkF m 41 #[.val (.ref x0), .val (.long x1), .second] []))
      refine own_via (fun _ k => XS.aloadN X4.here hx rfl (hb hby d4_41) rfl rfl k) ?_
      show own_Go p e below s _ _ _ (T4.setTop (mkF m 42 #[.val (.ref x0), .val (.long x1), .second] [(.ref x0)]))
      obtain ⟨T8, X8, e8, st8⟩ := getF X4 hx hZ hown (host := "") (Or.inl (hw _ (List.mem_of_getElem? (i := 27) rfl))) Via.refl e4 (OB_x0.2.2.2.2.2.1) (g := (mkF m 42 #[.val (.ref x0), .val (.long x1), .second] [(.ref x0)])) rfl rfl (hb hby d4_42)
      refine own_via st8 ?_
      show own_Go p e below s _ _ _ (T8.setTop (mkF m 45 #[.val (.ref x0), .val (.long x1), .second] [(.long x0_whole)]))
      refine own_via (fun _ k => XS.aloadN X8.here hx rfl (hb hby d4_45) rfl rfl k) ?_
      show own_Go p e below s _ _ _ (T8.setTop (mkF m 46 #[.val (.ref x0), .val (.long x1), .second] [(.ref x0), (.long x0_whole)]))
      obtain ⟨T9, X9, e9, st9⟩ := getF X8 hx hZ hown (host := "") (Or.inl (hw _ (List.mem_of_getElem? (i := 16) rfl))) Via.refl e8 (OB_x0.2.2.1) (g := (mkF m 46 #[.val (.ref x0), .val (.long x1), .second] [(.ref x0), (.long x0_whole)])) rfl rfl (hb hby d4_46)
      refine own_via st9 ?_
      show own_Go p e below s _ _ _ (T9.setTop (mkF m 49 #[.val (.ref x0), .val (.long x1), .second] [(.long x0_begun), (.long x0_whole)]))
      refine own_via (fun _ k => XS.lcmp X9.here hx rfl (hb hby d4_49) rfl k) ?_
      show own_Go p e below s _ _ _ (T9.setTop (mkF m 50 #[.val (.ref x0), .val (.long x1), .second] [(.int (lcmpW x0_whole x0_begun))]))
      by_cases hc10 : x0_whole < x0_begun
      · refine own_via (fun _ k => XS.ifNo X9.here hx rfl (hb hby d4_50) rfl ((if0 _ _).trans (tlt ((lw_lt x0_whole x0_begun).mpr hc10)).2.1) k) ?_
        show own_Go p e below s _ _ _ (T9.setTop (mkF m 53 #[.val (.ref x0), .val (.long x1), .second] []))
        refine own_via (fun _ k => XS.aloadN X9.here hx rfl (hb hby d4_53) rfl rfl k) ?_
        show own_Go p e below s _ _ _ (T9.setTop (mkF m 54 #[.val (.ref x0), .val (.long x1), .second] [(.ref x0)]))
        obtain ⟨T11, X11, e11, st11⟩ := getF X9 hx hZ hown (host := "") (Or.inl (hw _ (List.mem_of_getElem? (i := 25) rfl))) Via.refl e9 (OB_x0.2.2.2.2.1) (g := (mkF m 54 #[.val (.ref x0), .val (.long x1), .second] [(.ref x0)])) rfl rfl (hb hby d4_54)
        refine own_via st11 ?_
        show own_Go p e below s _ _ _ (T11.setTop (mkF m 57 #[.val (.ref x0), .val (.long x1), .second] [(.long x0_answered)]))
        refine own_via (fun _ k => XS.aloadN X11.here hx rfl (hb hby d4_57) rfl rfl k) ?_
        show own_Go p e below s _ _ _ (T11.setTop (mkF m 58 #[.val (.ref x0), .val (.long x1), .second] [(.ref x0), (.long x0_answered)]))
        obtain ⟨T12, X12, e12, st12⟩ := getF X11 hx hZ hown (host := "") (Or.inl (hw _ (List.mem_of_getElem? (i := 27) rfl))) Via.refl e11 (OB_x0.2.2.2.2.2.1) (g := (mkF m 58 #[.val (.ref x0), .val (.long x1), .second] [(.ref x0), (.long x0_answered)])) rfl rfl (hb hby d4_58)
        refine own_via st12 ?_
        show own_Go p e below s _ _ _ (T12.setTop (mkF m 61 #[.val (.ref x0), .val (.long x1), .second] [(.long x0_whole), (.long x0_answered)]))
        refine own_via (fun _ k => XS.lcmp X12.here hx rfl (hb hby d4_61) rfl k) ?_
        show own_Go p e below s _ _ _ (T12.setTop (mkF m 62 #[.val (.ref x0), .val (.long x1), .second] [(.int (lcmpW x0_answered x0_whole))]))
        by_cases hc13 : x0_answered = x0_whole
        · refine own_via (fun _ k => XS.ifNo X12.here hx rfl (hb hby d4_62) rfl ((if0 _ _).trans (teq ((lw_eq x0_answered x0_whole).mpr hc13)).2) k) ?_
          show own_Go p e below s _ _ _ (T12.setTop (mkF m 65 #[.val (.ref x0), .val (.long x1), .second] []))
          obtain ⟨T14, X14, e14, st14⟩ := getS2 X12 hx hZ hown (host := "") (Or.inl (hw _ (List.mem_of_getElem? (i := 29) rfl))) Via.refl e12 (S_TIMEOUT_NANOS.ext OL.2) (g := (mkF m 65 #[.val (.ref x0), .val (.long x1), .second] [])) rfl (hb hby d4_65)
          refine own_via st14 ?_
          show own_Go p e below s _ _ _ (T14.setTop (mkF m 68 #[.val (.ref x0), .val (.long x1), .second] [(.long (10000000000 : Int64))]))
          refine own_via (fun _ k => XS.lloadN X14.here hx rfl (hb hby d4_68) rfl k) ?_
          show own_Go p e below s _ _ _ (T14.setTop (mkF m 69 #[.val (.ref x0), .val (.long x1), .second] [(.long x1), (.long (10000000000 : Int64))]))
          refine own_via (fun _ k => XS.aloadN X14.here hx rfl (hb hby d4_69) rfl rfl k) ?_
          show own_Go p e below s _ _ _ (T14.setTop (mkF m 70 #[.val (.ref x0), .val (.long x1), .second] [(.ref x0), (.long x1), (.long (10000000000 : Int64))]))
          obtain ⟨T15, X15, e15, st15⟩ := getF X14 hx hZ hown (host := "") (Or.inl (hw _ (List.mem_of_getElem? (i := 31) rfl))) Via.refl e14 (OB_x0.2.2.2.2.2.2.1) (g := (mkF m 70 #[.val (.ref x0), .val (.long x1), .second] [(.ref x0), (.long x1), (.long (10000000000 : Int64))])) rfl rfl (hb hby d4_70)
          refine own_via st15 ?_
          show own_Go p e below s _ _ _ (T15.setTop (mkF m 73 #[.val (.ref x0), .val (.long x1), .second] [(.long x0_arrivedAt), (.long x1), (.long (10000000000 : Int64))]))
          refine own_via (fun _ k => XS.lsub X15.here hx rfl (hb hby d4_73) rfl k) ?_
          show own_Go p e below s _ _ _ (T15.setTop (mkF m 74 #[.val (.ref x0), .val (.long x1), .second] [(.long (x1 - x0_arrivedAt)), (.long (10000000000 : Int64))]))
          refine own_via (fun _ k => XS.lsub X15.here hx rfl (hb hby d4_74) rfl k) ?_
          show own_Go p e below s _ _ _ (T15.setTop (mkF m 75 #[.val (.ref x0), .val (.long x1), .second] [(.long ((10000000000 : Int64) - (x1 - x0_arrivedAt)))]))
          exact own_retJ X15 hx hlk Bd.returns (hb hby d4_75) (by rw [e15]; exact ⟨(Fr.nil n0), OL, Z0, Or.inr (Or.inl ⟨hc2, hc5, hc10, hc13, rfl, OB_x0⟩)⟩) (by decide) (by decide)
        · refine own_via (fun _ k => XS.ifYes X12.here hx rfl (pc0 := 62) (pc' := 76) rfl (hb hby d4_62) rfl ((if0 _ _).trans (feq (mt (lw_eq x0_answered x0_whole).mp hc13)).2) (by decide) (by decide) k) ?_
          show own_Go p e below s _ _ _ (T12.setTop (mkF m 76 #[.val (.ref x0), .val (.long x1), .second] []))
          refine own_via (fun _ k => X12.ldc2Long hx hown (mvT hZ (hw _ (List.mem_of_getElem? (i := 39) rfl))) (g := (mkF m 76 #[.val (.ref x0), .val (.long x1), .second] [])) rfl (hb hby d4_76) _ k) ?_
          show own_Go p e below s _ _ _ (T12.setTop (mkF m 79 #[.val (.ref x0), .val (.long x1), .second] [(.long (9223372036854775807 : Int64))]))
          exact own_retJ X12 hx hlk Bd.returns (hb hby d4_79) (by rw [e12]; exact ⟨(Fr.nil n0), OL, Z0, Or.inr (Or.inr (Or.inl ⟨hc2, hc5, hc10, hc13, rfl, OB_x0⟩))⟩) (by decide) (by decide)
      · refine own_via (fun _ k => XS.ifYes X9.here hx rfl (pc0 := 50) (pc' := 76) rfl (hb hby d4_50) rfl ((if0 _ _).trans (flt (mt (lw_lt x0_whole x0_begun).mp hc10)).2.1) (by decide) (by decide) k) ?_
        show own_Go p e below s _ _ _ (T9.setTop (mkF m 76 #[.val (.ref x0), .val (.long x1), .second] []))
        refine own_via (fun _ k => X9.ldc2Long hx hown (mvT hZ (hw _ (List.mem_of_getElem? (i := 39) rfl))) (g := (mkF m 76 #[.val (.ref x0), .val (.long x1), .second] [])) rfl (hb hby d4_76) _ k) ?_
        show own_Go p e below s _ _ _ (T9.setTop (mkF m 79 #[.val (.ref x0), .val (.long x1), .second] [(.long (9223372036854775807 : Int64))]))
        exact own_retJ X9 hx hlk Bd.returns (hb hby d4_79) (by rw [e9]; exact ⟨(Fr.nil n0), OL, Z0, Or.inr (Or.inr (Or.inr (Or.inl ⟨hc2, hc5, hc10, rfl, OB_x0⟩)))⟩) (by decide) (by decide)
  · refine own_via (fun _ k => XS.ifNo X1.here hx rfl (hb hby d4_4) rfl ((if0 _ _).trans (feq hc2).1) k) ?_
    show own_Go p e below s _ _ _ (T1.setTop (mkF m 7 #[.val (.ref x0), .val (.long x1), .second] []))
    obtain ⟨T16, X16, e16, st16⟩ := getS2 X1 hx hZ hown (host := "") (Or.inl (hw _ (List.mem_of_getElem? (i := 29) rfl))) Via.refl e1 (S_TIMEOUT_NANOS.ext OL.2) (g := (mkF m 7 #[.val (.ref x0), .val (.long x1), .second] [])) rfl (hb hby d4_7)
    refine own_via st16 ?_
    show own_Go p e below s _ _ _ (T16.setTop (mkF m 10 #[.val (.ref x0), .val (.long x1), .second] [(.long (10000000000 : Int64))]))
    refine own_via (fun _ k => XS.lloadN X16.here hx rfl (hb hby d4_10) rfl k) ?_
    show own_Go p e below s _ _ _ (T16.setTop (mkF m 11 #[.val (.ref x0), .val (.long x1), .second] [(.long x1), (.long (10000000000 : Int64))]))
    refine own_via (fun _ k => XS.aloadN X16.here hx rfl (hb hby d4_11) rfl rfl k) ?_
    show own_Go p e below s _ _ _ (T16.setTop (mkF m 12 #[.val (.ref x0), .val (.long x1), .second] [(.ref x0), (.long x1), (.long (10000000000 : Int64))]))
    obtain ⟨T17, X17, e17, st17⟩ := getF X16 hx hZ hown (host := "") (Or.inl (hw _ (List.mem_of_getElem? (i := 53) rfl))) Via.refl e16 (OB_x0.2.2.2.2.2.2.2.2) (g := (mkF m 12 #[.val (.ref x0), .val (.long x1), .second] [(.ref x0), (.long x1), (.long (10000000000 : Int64))])) rfl rfl (hb hby d4_12)
    refine own_via st17 ?_
    show own_Go p e below s _ _ _ (T17.setTop (mkF m 15 #[.val (.ref x0), .val (.long x1), .second] [(.long x0_expiredAt), (.long x1), (.long (10000000000 : Int64))]))
    refine own_via (fun _ k => XS.lsub X17.here hx rfl (hb hby d4_15) rfl k) ?_
    show own_Go p e below s _ _ _ (T17.setTop (mkF m 16 #[.val (.ref x0), .val (.long x1), .second] [(.long (x1 - x0_expiredAt)), (.long (10000000000 : Int64))]))
    refine own_via (fun _ k => XS.lsub X17.here hx rfl (hb hby d4_16) rfl k) ?_
    show own_Go p e below s _ _ _ (T17.setTop (mkF m 17 #[.val (.ref x0), .val (.long x1), .second] [(.long ((10000000000 : Int64) - (x1 - x0_expiredAt)))]))
    exact own_retJ X17 hx hlk Bd.returns (hb hby d4_17) (by rw [e17]; exact ⟨(Fr.nil n0), OL, Z0, Or.inr (Or.inr (Or.inr (Or.inr (⟨hc2, rfl, OB_x0⟩))))⟩) (by decide) (by decide)
def Q7_0 (Z : State) (x0 : Addr) (x0_answeredAt : Int64) (x0_begun : Int64) (x0_answered : Int64) (x0_whole : Int64) (x0_arrivedAt : Int64) (x0_arrivedSinceAnswer : Int32) (x1 : Int64) (w0 : Addr) (w1 : Addr) (w2 : Addr) (n0 : Nat) (v : Option Value) (h : Heap) (L : List Loc) : Prop := Fr n0 L ∧ Old Z n0 h ∧ n0 ≤ h.size ∧ (∃ z : Addr, (v = some (.ref z) ∧ own_Obj0 Z h x0 x0_answeredAt x0_begun (1 : Int32) x0_answered x0_whole x0_arrivedAt x0_arrivedSinceAnswer x1))
set_option maxRecDepth 65536 in
set_option maxHeartbeats 40000000 in
theorem rm7_0 (l : Launch) (Z : State) (a0 : Array Value) (hw : ∀ d ∈ tables_1, d.before a0 Z = true) (ws : List Jvm.Cond) (x0 : Addr) (x0_answeredAt : Int64) (x0_begun : Int64) (x0_answered : Int64) (x0_whole : Int64) (x0_arrivedAt : Int64) (x0_arrivedSinceAnswer : Int32) (x1 : Int64) (w0 : Addr) (w1 : Addr) (w2 : Addr) (h0 : Heap) (n0 : Nat) (Z0 : n0 ≤ h0.size) (K : own_K Z Z.heap w0 w1 w2) (OL : Old Z n0 h0) (OB_x0 : own_Obj0 Z h0 x0 x0_answeredAt x0_begun (0 : Int32) x0_answered x0_whole x0_arrivedAt x0_arrivedSinceAnswer (0 : Int64)) (g_x0 : n0 ≤ x0) :
    MetFree l (⟨"com/example/mailbox/mailbox/server/RequestDeadline", "expire", "(J)Lcom/example/mailbox/mailbox/server/RequestDeadline$Expiry;"⟩ : MethodName) (head1 (Jvm.Cond.code (⟨"com/example/mailbox/mailbox/server/RequestDeadline", "expire", "(J)Lcom/example/mailbox/mailbox/server/RequestDeadline$Expiry;"⟩ : MethodName) prog_124_method_7_code 4 (some (.object "com/example/mailbox/mailbox/server/RequestDeadline$Expiry")) :: ws) ({ frames := 0, cells := 0, slots := 0, locals := 0 } : Room)) (fun a U => a = #[(.ref x0), (.long x1)] ∧ Z.Warmed39 U.vm ∧ U.heap = h0) (fun _ _ _ _ _ => True) (fun _ U o U' => ∃ v L, o = .returned v ∧ Q7_0 Z x0 x0_answeredAt x0_begun x0_answered x0_whole x0_arrivedAt x0_arrivedSinceAnswer x1 w0 w1 w2 n0 v U'.heap L ∧ FrameEnd U o U' L ({ frames := 0, cells := 0, slots := 0, locals := 0 } : Room).cells ({ frames := 0, cells := 0, slots := 0, locals := 0 } : Room).slots) := by
  refine MetFree.of_bodySF (plainFor_of_name pn0) hisR ?_
  intro p e s m args below meth c s₁ Bd hml0 hP hK
  obtain ⟨rfl, hZ, hh⟩ := hP
  have hx := Bd.exec
  have hby := Bd.bytes
  have hml : c.maxLocals = 4 := hml0
  have hown : s.vm.findClass "com/example/mailbox/mailbox/server/RequestDeadline" = some m.cls := findClass_of_methodNamed Bd.named
  have hnm := (name_of_methodNamed Bd.named Bd.method).1
  have hlk := Bd.notSynchronized
  have X0 : Stand p l e ({ frames := 0, cells := 0, slots := 0, locals := 0 } : Room) s m #[(.ref x0), (.long x1)] below meth c s₁ [] 0 0 := Stand.of_body Bd
  have e0 : s₁.heap = h0 := by rw [← hh, Bd.state]; rfl
  have K0 := K
  obtain ⟨S_w0, S_w1, S_w2, S_TIMEOUT_NANOS, E_w0, E_w1, E_w2⟩ := K
  show own_Go p e below s (Q7_0 Z x0 x0_answeredAt x0_begun x0_answered x0_whole x0_arrivedAt x0_arrivedSinceAnswer x1 w0 w1 w2 n0) 0 0 (s₁.setTop (entryFrame m #[(.ref x0), (.long x1)] 4))
  rw [show entryFrame m #[(.ref x0), (.long x1)] 4 = mkF m 0 #[.val (.ref x0), .val (.long x1), .second, .unset] [] from by first | (simp [entryFrame, mkF, argsToLocals, Value.category]; done) | rfl]
  show own_Go p e below s _ _ _ (s₁.setTop (mkF m 0 #[.val (.ref x0), .val (.long x1), .second, .unset] []))
  refine own_via (fun _ k => XS.aloadN X0.here hx rfl (hb hby d7_0) rfl rfl k) ?_
  show own_Go p e below s _ _ _ (s₁.setTop (mkF m 1 #[.val (.ref x0), .val (.long x1), .second, .unset] [(.ref x0)]))
  obtain ⟨T1, X1, e1, st1⟩ := getF X0 hx hZ hown (host := "") (Or.inl (hw _ (List.mem_of_getElem? (i := 23) rfl))) Via.refl e0 (OB_x0.2.2.2.1) (g := (mkF m 1 #[.val (.ref x0), .val (.long x1), .second, .unset] [(.ref x0)])) rfl rfl (hb hby d7_1)
  refine own_via st1 ?_
  show own_Go p e below s _ _ _ (T1.setTop (mkF m 4 #[.val (.ref x0), .val (.long x1), .second, .unset] [(.int (0 : Int32))]))
  refine own_via (fun _ k => XS.ifNo X1.here hx rfl (hb hby d7_4) rfl ((if0 _ _).trans (teq (by decide : (0 : Int32) = (0 : Int32))).2) k) ?_
  show own_Go p e below s _ _ _ (T1.setTop (mkF m 7 #[.val (.ref x0), .val (.long x1), .second, .unset] []))
  refine own_via (fun _ k => XS.iconst X1.here hx rfl (hb hby d7_7) k) ?_
  show own_Go p e below s _ _ _ (T1.setTop (mkF m 8 #[.val (.ref x0), .val (.long x1), .second, .unset] [(.int (1 : Int32))]))
  refine own_via (fun _ k => XS.goto X1.here hx rfl (pc0 := 8) (pc' := 12) rfl (hb hby d7_8) (by decide) (by decide) k) ?_
  show own_Go p e below s _ _ _ (T1.setTop (mkF m 12 #[.val (.ref x0), .val (.long x1), .second, .unset] [(.int (1 : Int32))]))
  refine own_via (fun _ k => XS.istoreN X1.here hx rfl (hb hby d7_12) rfl (l' := #[.val (.ref x0), .val (.long x1), .second, .val (.int (1 : Int32))]) rfl k) ?_
  show own_Go p e below s _ _ _ (T1.setTop (mkF m 13 #[.val (.ref x0), .val (.long x1), .second, .val (.int (1 : Int32))] []))
  refine own_via (fun _ k => XS.aloadN X1.here hx rfl (hb hby d7_13) rfl rfl k) ?_
  show own_Go p e below s _ _ _ (T1.setTop (mkF m 14 #[.val (.ref x0), .val (.long x1), .second, .val (.int (1 : Int32))] [(.ref x0)]))
  refine own_via (fun _ k => XS.iconst X1.here hx rfl (hb hby d7_14) k) ?_
  show own_Go p e below s _ _ _ (T1.setTop (mkF m 15 #[.val (.ref x0), .val (.long x1), .second, .val (.int (1 : Int32))] [(.int (1 : Int32)), (.ref x0)]))
  obtain ⟨T2, h2, X2, e2, W2, st2⟩ := putFN X1 hx hZ hown (hw _ (List.mem_of_getElem? (i := 23) rfl)) Via.refl e1 (OB_x0.2.2.2.1) OB_x0.1 (Or.inl (hw _ (List.mem_of_getElem? (i := 24) rfl))) (hw _ (List.mem_of_getElem? (i := 1) rfl)) (ty := .boolean) (v' := (.int (1 : Int32))) (by decide) rfl (by decide) (g := (mkF m 15 #[.val (.ref x0), .val (.long x1), .second, .val (.int (1 : Int32))] [(.int (1 : Int32)), (.ref x0)])) rfl rfl (hb hby d7_15)
  have OB_x0 := own_put0_2 hw OB_x0 W2
  have N2 := Fr.snoc X2 (Fr.nil n0) g_x0
  have Z0 := Nat.le_trans Z0 (Keep.of_wr W2).1
  have OL := OL.wr W2 g_x0
  refine own_via st2 ?_
  show own_Go p e below s _ _ _ (T2.setTop (mkF m 18 #[.val (.ref x0), .val (.long x1), .second, .val (.int (1 : Int32))] []))
  refine own_via (fun _ k => XS.iloadN X2.here hx rfl (hb hby d7_18) rfl k) ?_
  show own_Go p e below s _ _ _ (T2.setTop (mkF m 19 #[.val (.ref x0), .val (.long x1), .second, .val (.int (1 : Int32))] [(.int (1 : Int32))]))
  refine own_via (fun _ k => XS.ifYes X2.here hx rfl (pc0 := 19) (pc' := 26) rfl (hb hby d7_19) rfl ((if0 _ _).trans (feq (by decide : ¬ ((1 : Int32) = (0 : Int32)))).2) (by decide) (by decide) k) ?_
  show own_Go p e below s _ _ _ (T2.setTop (mkF m 26 #[.val (.ref x0), .val (.long x1), .second, .val (.int (1 : Int32))] []))
  refine own_via (fun _ k => XS.aloadN X2.here hx rfl (hb hby d7_26) rfl rfl k) ?_
  show own_Go p e below s _ _ _ (T2.setTop (mkF m 27 #[.val (.ref x0), .val (.long x1), .second, .val (.int (1 : Int32))] [(.ref x0)]))
  refine own_via (fun _ k => XS.lloadN X2.here hx rfl (hb hby d7_27) rfl k) ?_
  show own_Go p e below s _ _ _ (T2.setTop (mkF m 28 #[.val (.ref x0), .val (.long x1), .second, .val (.int (1 : Int32))] [(.long x1), (.ref x0)]))
  obtain ⟨T3, h3, X3, e3, W3, st3⟩ := putF X2 hx hZ hown (host := "") (Or.inl (hw _ (List.mem_of_getElem? (i := 53) rfl))) Via.refl e2 (OB_x0.2.2.2.2.2.2.2.2) OB_x0.1 (Or.inl (hw _ (List.mem_of_getElem? (i := 54) rfl))) (hw _ (List.mem_of_getElem? (i := 1) rfl)) (ty := .long) (by decide) rfl rfl (g := (mkF m 28 #[.val (.ref x0), .val (.long x1), .second, .val (.int (1 : Int32))] [(.long x1), (.ref x0)])) rfl rfl (hb hby d7_28)
  have OB_x0 := own_put0_7 hw OB_x0 W3
  have N3 := Fr.snoc X3 N2 g_x0
  have Z0 := Nat.le_trans Z0 (Keep.of_wr W3).1
  have OL := OL.wr W3 g_x0
  refine own_via st3 ?_
  show own_Go p e below s _ _ _ (T3.setTop (mkF m 31 #[.val (.ref x0), .val (.long x1), .second, .val (.int (1 : Int32))] []))
  refine own_via (fun _ k => XS.aloadN X3.here hx rfl (hb hby d7_31) rfl rfl k) ?_
  show own_Go p e below s _ _ _ (T3.setTop (mkF m 32 #[.val (.ref x0), .val (.long x1), .second, .val (.int (1 : Int32))] [(.ref x0)]))
  obtain ⟨T4, X4, e4, st4⟩ := getF X3 hx hZ hown (host := "") (Or.inl (hw _ (List.mem_of_getElem? (i := 25) rfl))) Via.refl e3 (OB_x0.2.2.2.2.1) (g := (mkF m 32 #[.val (.ref x0), .val (.long x1), .second, .val (.int (1 : Int32))] [(.ref x0)])) rfl rfl (hb hby d7_32)
  refine own_via st4 ?_
  show own_Go p e below s _ _ _ (T4.setTop (mkF m 35 #[.val (.ref x0), .val (.long x1), .second, .val (.int (1 : Int32))] [(.long x0_answered)]))
  refine own_via (fun _ k => XS.aloadN X4.here hx rfl (hb hby d7_35) rfl rfl k) ?_
  show own_Go p e below s _ _ _ (T4.setTop (mkF m 36 #[.val (.ref x0), .val (.long x1), .second, .val (.int (1 : Int32))] [(.ref x0), (.long x0_answered)]))
  obtain ⟨T5, X5, e5, st5⟩ := getF X4 hx hZ hown (host := "") (Or.inl (hw _ (List.mem_of_getElem? (i := 16) rfl))) Via.refl e4 (OB_x0.2.2.1) (g := (mkF m 36 #[.val (.ref x0), .val (.long x1), .second, .val (.int (1 : Int32))] [(.ref x0), (.long x0_answered)])) rfl rfl (hb hby d7_36)
  refine own_via st5 ?_
  show own_Go p e below s _ _ _ (T5.setTop (mkF m 39 #[.val (.ref x0), .val (.long x1), .second, .val (.int (1 : Int32))] [(.long x0_begun), (.long x0_answered)]))
  refine own_via (fun _ k => XS.lcmp X5.here hx rfl (hb hby d7_39) rfl k) ?_
  show own_Go p e below s _ _ _ (T5.setTop (mkF m 40 #[.val (.ref x0), .val (.long x1), .second, .val (.int (1 : Int32))] [(.int (lcmpW x0_answered x0_begun))]))
  by_cases hc6 : x0_answered = x0_begun
  · refine own_via (fun _ k => XS.ifYes X5.here hx rfl (pc0 := 40) (pc' := 47) rfl (hb hby d7_40) rfl ((if0 _ _).trans (teq ((lw_eq x0_answered x0_begun).mpr hc6)).1) (by decide) (by decide) k) ?_
    show own_Go p e below s _ _ _ (T5.setTop (mkF m 47 #[.val (.ref x0), .val (.long x1), .second, .val (.int (1 : Int32))] []))
    refine own_via (fun _ k => XS.aloadN X5.here hx rfl (hb hby d7_47) rfl rfl k) ?_
    show own_Go p e below s _ _ _ (T5.setTop (mkF m 48 #[.val (.ref x0), .val (.long x1), .second, .val (.int (1 : Int32))] [(.ref x0)]))
    obtain ⟨T7, X7, e7, st7⟩ := getF X5 hx hZ hown (host := "") (Or.inl (hw _ (List.mem_of_getElem? (i := 46) rfl))) Via.refl e5 (OB_x0.2.2.2.2.2.2.2.1) (g := (mkF m 48 #[.val (.ref x0), .val (.long x1), .second, .val (.int (1 : Int32))] [(.ref x0)])) rfl rfl (hb hby d7_48)
    refine own_via st7 ?_
    show own_Go p e below s _ _ _ (T7.setTop (mkF m 51 #[.val (.ref x0), .val (.long x1), .second, .val (.int (1 : Int32))] [(.int x0_arrivedSinceAnswer)]))
    by_cases hc8 : x0_arrivedSinceAnswer = (0 : Int32)
    · refine own_via (fun _ k => XS.ifYes X7.here hx rfl (pc0 := 51) (pc' := 60) rfl (hb hby d7_51) rfl ((if0 _ _).trans (teq hc8).1) (by decide) (by decide) k) ?_
      show own_Go p e below s _ _ _ (T7.setTop (mkF m 60 #[.val (.ref x0), .val (.long x1), .second, .val (.int (1 : Int32))] []))
      obtain ⟨T9, X9, e9, st9⟩ := getS2 X7 hx hZ hown (host := "") (Or.inl (hw _ (List.mem_of_getElem? (i := 63) rfl))) Via.refl e7 (S_w1.ext OL.2) (g := (mkF m 60 #[.val (.ref x0), .val (.long x1), .second, .val (.int (1 : Int32))] [])) rfl (hb hby d7_60)
      refine own_via st9 ?_
      show own_Go p e below s _ _ _ (T9.setTop (mkF m 63 #[.val (.ref x0), .val (.long x1), .second, .val (.int (1 : Int32))] [(.ref w1)]))
      exact own_retR X9 hx hlk Bd.returns rfl rfl (hb hby d7_63) (by rw [e9]; exact ⟨N3, OL, Z0, ⟨_, rfl, OB_x0⟩⟩) (by decide) (by decide)
    · refine own_via (fun _ k => XS.ifNo X7.here hx rfl (hb hby d7_51) rfl ((if0 _ _).trans (feq hc8).1) k) ?_
      show own_Go p e below s _ _ _ (T7.setTop (mkF m 54 #[.val (.ref x0), .val (.long x1), .second, .val (.int (1 : Int32))] []))
      obtain ⟨T10, X10, e10, st10⟩ := getS2 X7 hx hZ hown (host := "") (Or.inl (hw _ (List.mem_of_getElem? (i := 55) rfl))) Via.refl e7 (S_w0.ext OL.2) (g := (mkF m 54 #[.val (.ref x0), .val (.long x1), .second, .val (.int (1 : Int32))] [])) rfl (hb hby d7_54)
      refine own_via st10 ?_
      show own_Go p e below s _ _ _ (T10.setTop (mkF m 57 #[.val (.ref x0), .val (.long x1), .second, .val (.int (1 : Int32))] [(.ref w0)]))
      refine own_via (fun _ k => XS.goto X10.here hx rfl (pc0 := 57) (pc' := 63) rfl (hb hby d7_57) (by decide) (by decide) k) ?_
      show own_Go p e below s _ _ _ (T10.setTop (mkF m 63 #[.val (.ref x0), .val (.long x1), .second, .val (.int (1 : Int32))] [(.ref w0)]))
      exact own_retR X10 hx hlk Bd.returns rfl rfl (hb hby d7_63) (by rw [e10]; exact ⟨N3, OL, Z0, ⟨_, rfl, OB_x0⟩⟩) (by decide) (by decide)
  · refine own_via (fun _ k => XS.ifNo X5.here hx rfl (hb hby d7_40) rfl ((if0 _ _).trans (feq (mt (lw_eq x0_answered x0_begun).mp hc6)).1) k) ?_
    show own_Go p e below s _ _ _ (T5.setTop (mkF m 43 #[.val (.ref x0), .val (.long x1), .second, .val (.int (1 : Int32))] []))
    obtain ⟨T11, X11, e11, st11⟩ := getS2 X5 hx hZ hown (host := "") (Or.inl (hw _ (List.mem_of_getElem? (i := 65) rfl))) Via.refl e5 (S_w2.ext OL.2) (g := (mkF m 43 #[.val (.ref x0), .val (.long x1), .second, .val (.int (1 : Int32))] [])) rfl (hb hby d7_43)
    refine own_via st11 ?_
    show own_Go p e below s _ _ _ (T11.setTop (mkF m 46 #[.val (.ref x0), .val (.long x1), .second, .val (.int (1 : Int32))] [(.ref w2)]))
    exact own_retR X11 hx hlk Bd.returns rfl rfl (hb hby d7_46) (by rw [e11]; exact ⟨N3, OL, Z0, ⟨_, rfl, OB_x0⟩⟩) (by decide) (by decide)
def Q7_1 (Z : State) (x0 : Addr) (x0_answeredAt : Int64) (x0_begun : Int64) (x0_answered : Int64) (x0_whole : Int64) (x0_arrivedAt : Int64) (x0_arrivedSinceAnswer : Int32) (x0_expiredAt : Int64) (x1 : Int64) (w0 : Addr) (w1 : Addr) (w2 : Addr) (n0 : Nat) (v : Option Value) (h : Heap) (L : List Loc) : Prop := Fr n0 L ∧ Old Z n0 h ∧ n0 ≤ h.size ∧ (∃ z : Addr, (v = some (.ref z) ∧ own_Obj0 Z h x0 x0_answeredAt x0_begun (1 : Int32) x0_answered x0_whole x0_arrivedAt x0_arrivedSinceAnswer x0_expiredAt))
set_option maxRecDepth 65536 in
set_option maxHeartbeats 40000000 in
theorem rm7_1 (l : Launch) (Z : State) (a0 : Array Value) (hw : ∀ d ∈ tables_1, d.before a0 Z = true) (ws : List Jvm.Cond) (x0 : Addr) (x0_answeredAt : Int64) (x0_begun : Int64) (x0_answered : Int64) (x0_whole : Int64) (x0_arrivedAt : Int64) (x0_arrivedSinceAnswer : Int32) (x0_expiredAt : Int64) (x1 : Int64) (w0 : Addr) (w1 : Addr) (w2 : Addr) (h0 : Heap) (n0 : Nat) (Z0 : n0 ≤ h0.size) (K : own_K Z Z.heap w0 w1 w2) (OL : Old Z n0 h0) (OB_x0 : own_Obj0 Z h0 x0 x0_answeredAt x0_begun (1 : Int32) x0_answered x0_whole x0_arrivedAt x0_arrivedSinceAnswer x0_expiredAt) (g_x0 : n0 ≤ x0) :
    MetFree l (⟨"com/example/mailbox/mailbox/server/RequestDeadline", "expire", "(J)Lcom/example/mailbox/mailbox/server/RequestDeadline$Expiry;"⟩ : MethodName) (head1 (Jvm.Cond.code (⟨"com/example/mailbox/mailbox/server/RequestDeadline", "expire", "(J)Lcom/example/mailbox/mailbox/server/RequestDeadline$Expiry;"⟩ : MethodName) prog_124_method_7_code 4 (some (.object "com/example/mailbox/mailbox/server/RequestDeadline$Expiry")) :: ws) ({ frames := 0, cells := 0, slots := 0, locals := 0 } : Room)) (fun a U => a = #[(.ref x0), (.long x1)] ∧ Z.Warmed39 U.vm ∧ U.heap = h0) (fun _ _ _ _ _ => True) (fun _ U o U' => ∃ v L, o = .returned v ∧ Q7_1 Z x0 x0_answeredAt x0_begun x0_answered x0_whole x0_arrivedAt x0_arrivedSinceAnswer x0_expiredAt x1 w0 w1 w2 n0 v U'.heap L ∧ FrameEnd U o U' L ({ frames := 0, cells := 0, slots := 0, locals := 0 } : Room).cells ({ frames := 0, cells := 0, slots := 0, locals := 0 } : Room).slots) := by
  refine MetFree.of_bodySF (plainFor_of_name pn0) hisR ?_
  intro p e s m args below meth c s₁ Bd hml0 hP hK
  obtain ⟨rfl, hZ, hh⟩ := hP
  have hx := Bd.exec
  have hby := Bd.bytes
  have hml : c.maxLocals = 4 := hml0
  have hown : s.vm.findClass "com/example/mailbox/mailbox/server/RequestDeadline" = some m.cls := findClass_of_methodNamed Bd.named
  have hnm := (name_of_methodNamed Bd.named Bd.method).1
  have hlk := Bd.notSynchronized
  have X0 : Stand p l e ({ frames := 0, cells := 0, slots := 0, locals := 0 } : Room) s m #[(.ref x0), (.long x1)] below meth c s₁ [] 0 0 := Stand.of_body Bd
  have e0 : s₁.heap = h0 := by rw [← hh, Bd.state]; rfl
  have K0 := K
  obtain ⟨S_w0, S_w1, S_w2, S_TIMEOUT_NANOS, E_w0, E_w1, E_w2⟩ := K
  show own_Go p e below s (Q7_1 Z x0 x0_answeredAt x0_begun x0_answered x0_whole x0_arrivedAt x0_arrivedSinceAnswer x0_expiredAt x1 w0 w1 w2 n0) 0 0 (s₁.setTop (entryFrame m #[(.ref x0), (.long x1)] 4))
  rw [show entryFrame m #[(.ref x0), (.long x1)] 4 = mkF m 0 #[.val (.ref x0), .val (.long x1), .second, .unset] [] from by first | (simp [entryFrame, mkF, argsToLocals, Value.category]; done) | rfl]
  show own_Go p e below s _ _ _ (s₁.setTop (mkF m 0 #[.val (.ref x0), .val (.long x1), .second, .unset] []))
  refine own_via (fun _ k => XS.aloadN X0.here hx rfl (hb hby d7_0) rfl rfl k) ?_
  show own_Go p e below s _ _ _ (s₁.setTop (mkF m 1 #[.val (.ref x0), .val (.long x1), .second, .unset] [(.ref x0)]))
  obtain ⟨T1, X1, e1, st1⟩ := getF X0 hx hZ hown (host := "") (Or.inl (hw _ (List.mem_of_getElem? (i := 23) rfl))) Via.refl e0 (OB_x0.2.2.2.1) (g := (mkF m 1 #[.val (.ref x0), .val (.long x1), .second, .unset] [(.ref x0)])) rfl rfl (hb hby d7_1)
  refine own_via st1 ?_
  show own_Go p e below s _ _ _ (T1.setTop (mkF m 4 #[.val (.ref x0), .val (.long x1), .second, .unset] [(.int (1 : Int32))]))
  refine own_via (fun _ k => XS.ifYes X1.here hx rfl (pc0 := 4) (pc' := 11) rfl (hb hby d7_4) rfl ((if0 _ _).trans (feq (by decide : ¬ ((1 : Int32) = (0 : Int32)))).2) (by decide) (by decide) k) ?_
  show own_Go p e below s _ _ _ (T1.setTop (mkF m 11 #[.val (.ref x0), .val (.long x1), .second, .unset] []))
  refine own_via (fun _ k => XS.iconst X1.here hx rfl (hb hby d7_11) k) ?_
  show own_Go p e below s _ _ _ (T1.setTop (mkF m 12 #[.val (.ref x0), .val (.long x1), .second, .unset] [(.int (0 : Int32))]))
  refine own_via (fun _ k => XS.istoreN X1.here hx rfl (hb hby d7_12) rfl (l' := #[.val (.ref x0), .val (.long x1), .second, .val (.int (0 : Int32))]) rfl k) ?_
  show own_Go p e below s _ _ _ (T1.setTop (mkF m 13 #[.val (.ref x0), .val (.long x1), .second, .val (.int (0 : Int32))] []))
  refine own_via (fun _ k => XS.aloadN X1.here hx rfl (hb hby d7_13) rfl rfl k) ?_
  show own_Go p e below s _ _ _ (T1.setTop (mkF m 14 #[.val (.ref x0), .val (.long x1), .second, .val (.int (0 : Int32))] [(.ref x0)]))
  refine own_via (fun _ k => XS.iconst X1.here hx rfl (hb hby d7_14) k) ?_
  show own_Go p e below s _ _ _ (T1.setTop (mkF m 15 #[.val (.ref x0), .val (.long x1), .second, .val (.int (0 : Int32))] [(.int (1 : Int32)), (.ref x0)]))
  obtain ⟨T2, h2, X2, e2, W2, st2⟩ := putFN X1 hx hZ hown (hw _ (List.mem_of_getElem? (i := 23) rfl)) Via.refl e1 (OB_x0.2.2.2.1) OB_x0.1 (Or.inl (hw _ (List.mem_of_getElem? (i := 24) rfl))) (hw _ (List.mem_of_getElem? (i := 1) rfl)) (ty := .boolean) (v' := (.int (1 : Int32))) (by decide) rfl (by decide) (g := (mkF m 15 #[.val (.ref x0), .val (.long x1), .second, .val (.int (0 : Int32))] [(.int (1 : Int32)), (.ref x0)])) rfl rfl (hb hby d7_15)
  have OB_x0 := own_put0_2 hw OB_x0 W2
  have N2 := Fr.snoc X2 (Fr.nil n0) g_x0
  have Z0 := Nat.le_trans Z0 (Keep.of_wr W2).1
  have OL := OL.wr W2 g_x0
  refine own_via st2 ?_
  show own_Go p e below s _ _ _ (T2.setTop (mkF m 18 #[.val (.ref x0), .val (.long x1), .second, .val (.int (0 : Int32))] []))
  refine own_via (fun _ k => XS.iloadN X2.here hx rfl (hb hby d7_18) rfl k) ?_
  show own_Go p e below s _ _ _ (T2.setTop (mkF m 19 #[.val (.ref x0), .val (.long x1), .second, .val (.int (0 : Int32))] [(.int (0 : Int32))]))
  refine own_via (fun _ k => XS.ifNo X2.here hx rfl (hb hby d7_19) rfl ((if0 _ _).trans (teq (by decide : (0 : Int32) = (0 : Int32))).2) k) ?_
  show own_Go p e below s _ _ _ (T2.setTop (mkF m 22 #[.val (.ref x0), .val (.long x1), .second, .val (.int (0 : Int32))] []))
  obtain ⟨T3, X3, e3, st3⟩ := getS2 X2 hx hZ hown (host := "") (Or.inl (hw _ (List.mem_of_getElem? (i := 63) rfl))) Via.refl e2 (S_w1.ext OL.2) (g := (mkF m 22 #[.val (.ref x0), .val (.long x1), .second, .val (.int (0 : Int32))] [])) rfl (hb hby d7_22)
  refine own_via st3 ?_
  show own_Go p e below s _ _ _ (T3.setTop (mkF m 25 #[.val (.ref x0), .val (.long x1), .second, .val (.int (0 : Int32))] [(.ref w1)]))
  exact own_retR X3 hx hlk Bd.returns rfl rfl (hb hby d7_25) (by rw [e3]; exact ⟨N2, OL, Z0, ⟨_, rfl, OB_x0⟩⟩) (by decide) (by decide)
def Q8_0 (Z : State) (x0 : Addr) (x0_answeredAt : Int64) (x0_begun : Int64) (x0_expired : Int32) (x0_answered : Int64) (x0_whole : Int64) (x0_arrivedAt : Int64) (x0_arrivedSinceAnswer : Int32) (x0_expiredAt : Int64) (x1 : Int64) (w0 : Addr) (w1 : Addr) (w2 : Addr) (n0 : Nat) (v : Option Value) (h : Heap) (L : List Loc) : Prop := Fr n0 L ∧ Old Z n0 h ∧ n0 ≤ h.size ∧ ((v = none ∧ own_Obj0 Z h x0 x1 x0_begun x0_expired (x0_answered + (1 : Int64)) x0_whole x0_arrivedAt (0 : Int32) x0_expiredAt))
set_option maxRecDepth 65536 in
set_option maxHeartbeats 40000000 in
theorem rm8_0 (l : Launch) (Z : State) (a0 : Array Value) (hw : ∀ d ∈ tables_1, d.before a0 Z = true) (ws : List Jvm.Cond) (x0 : Addr) (x0_answeredAt : Int64) (x0_begun : Int64) (x0_expired : Int32) (x0_answered : Int64) (x0_whole : Int64) (x0_arrivedAt : Int64) (x0_arrivedSinceAnswer : Int32) (x0_expiredAt : Int64) (x1 : Int64) (w0 : Addr) (w1 : Addr) (w2 : Addr) (h0 : Heap) (n0 : Nat) (Z0 : n0 ≤ h0.size) (K : own_K Z Z.heap w0 w1 w2) (OL : Old Z n0 h0) (OB_x0 : own_Obj0 Z h0 x0 x0_answeredAt x0_begun x0_expired x0_answered x0_whole x0_arrivedAt x0_arrivedSinceAnswer x0_expiredAt) (g_x0 : n0 ≤ x0) :
    MetFree l (⟨"com/example/mailbox/mailbox/server/RequestDeadline", "answered", "(J)V"⟩ : MethodName) (head1 (Jvm.Cond.code (⟨"com/example/mailbox/mailbox/server/RequestDeadline", "answered", "(J)V"⟩ : MethodName) prog_124_method_5_code 3 none :: ws) ({ frames := 0, cells := 0, slots := 0, locals := 0 } : Room)) (fun a U => a = #[(.ref x0), (.long x1)] ∧ Z.Warmed39 U.vm ∧ U.heap = h0) (fun _ _ _ _ _ => True) (fun _ U o U' => ∃ v L, o = .returned v ∧ Q8_0 Z x0 x0_answeredAt x0_begun x0_expired x0_answered x0_whole x0_arrivedAt x0_arrivedSinceAnswer x0_expiredAt x1 w0 w1 w2 n0 v U'.heap L ∧ FrameEnd U o U' L ({ frames := 0, cells := 0, slots := 0, locals := 0 } : Room).cells ({ frames := 0, cells := 0, slots := 0, locals := 0 } : Room).slots) := by
  refine MetFree.of_bodySF (plainFor_of_name pn0) hisR ?_
  intro p e s m args below meth c s₁ Bd hml0 hP hK
  obtain ⟨rfl, hZ, hh⟩ := hP
  have hx := Bd.exec
  have hby := Bd.bytes
  have hml : c.maxLocals = 3 := hml0
  have hown : s.vm.findClass "com/example/mailbox/mailbox/server/RequestDeadline" = some m.cls := findClass_of_methodNamed Bd.named
  have hnm := (name_of_methodNamed Bd.named Bd.method).1
  have hlk := Bd.notSynchronized
  have X0 : Stand p l e ({ frames := 0, cells := 0, slots := 0, locals := 0 } : Room) s m #[(.ref x0), (.long x1)] below meth c s₁ [] 0 0 := Stand.of_body Bd
  have e0 : s₁.heap = h0 := by rw [← hh, Bd.state]; rfl
  have K0 := K
  obtain ⟨S_w0, S_w1, S_w2, S_TIMEOUT_NANOS, E_w0, E_w1, E_w2⟩ := K
  show own_Go p e below s (Q8_0 Z x0 x0_answeredAt x0_begun x0_expired x0_answered x0_whole x0_arrivedAt x0_arrivedSinceAnswer x0_expiredAt x1 w0 w1 w2 n0) 0 0 (s₁.setTop (entryFrame m #[(.ref x0), (.long x1)] 3))
  rw [show entryFrame m #[(.ref x0), (.long x1)] 3 = mkF m 0 #[.val (.ref x0), .val (.long x1), .second] [] from by first | (simp [entryFrame, mkF, argsToLocals, Value.category]; done) | rfl]
  show own_Go p e below s _ _ _ (s₁.setTop (mkF m 0 #[.val (.ref x0), .val (.long x1), .second] []))
  refine own_via (fun _ k => XS.aloadN X0.here hx rfl (hb hby d8_0) rfl rfl k) ?_
  show own_Go p e below s _ _ _ (s₁.setTop (mkF m 1 #[.val (.ref x0), .val (.long x1), .second] [(.ref x0)]))
  refine own_via (fun _ k => XS.dup X0.here hx rfl (hb hby d8_1) rfl rfl k) ?_
  show own_Go p e below s _ _ _ (s₁.setTop (mkF m 2 #[.val (.ref x0), .val (.long x1), .second] [(.ref x0), (.ref x0)]))
  obtain ⟨T1, X1, e1, st1⟩ := getF X0 hx hZ hown (host := "") (Or.inl (hw _ (List.mem_of_getElem? (i := 25) rfl))) Via.refl e0 (OB_x0.2.2.2.2.1) (g := (mkF m 2 #[.val (.ref x0), .val (.long x1), .second] [(.ref x0), (.ref x0)])) rfl rfl (hb hby d8_2)
  refine own_via st1 ?_
  show own_Go p e below s _ _ _ (T1.setTop (mkF m 5 #[.val (.ref x0), .val (.long x1), .second] [(.long x0_answered), (.ref x0)]))
  refine own_via (fun _ k => XS.lconst X1.here hx rfl (hb hby d8_5) k) ?_
  show own_Go p e below s _ _ _ (T1.setTop (mkF m 6 #[.val (.ref x0), .val (.long x1), .second] [(.long (1 : Int64)), (.long x0_answered), (.ref x0)]))
  refine own_via (fun _ k => XS.ladd X1.here hx rfl (hb hby d8_6) rfl k) ?_
  show own_Go p e below s _ _ _ (T1.setTop (mkF m 7 #[.val (.ref x0), .val (.long x1), .second] [(.long (x0_answered + (1 : Int64))), (.ref x0)]))
  obtain ⟨T2, h2, X2, e2, W2, st2⟩ := putF X1 hx hZ hown (host := "") (Or.inl (hw _ (List.mem_of_getElem? (i := 25) rfl))) Via.refl e1 (OB_x0.2.2.2.2.1) OB_x0.1 (Or.inl (hw _ (List.mem_of_getElem? (i := 26) rfl))) (hw _ (List.mem_of_getElem? (i := 1) rfl)) (ty := .long) (by decide) rfl rfl (g := (mkF m 7 #[.val (.ref x0), .val (.long x1), .second] [(.long (x0_answered + (1 : Int64))), (.ref x0)])) rfl rfl (hb hby d8_7)
  have OB_x0 := own_put0_3 hw OB_x0 W2
  have N2 := Fr.snoc X2 (Fr.nil n0) g_x0
  have Z0 := Nat.le_trans Z0 (Keep.of_wr W2).1
  have OL := OL.wr W2 g_x0
  refine own_via st2 ?_
  show own_Go p e below s _ _ _ (T2.setTop (mkF m 10 #[.val (.ref x0), .val (.long x1), .second] []))
  refine own_via (fun _ k => XS.aloadN X2.here hx rfl (hb hby d8_10) rfl rfl k) ?_
  show own_Go p e below s _ _ _ (T2.setTop (mkF m 11 #[.val (.ref x0), .val (.long x1), .second] [(.ref x0)]))
  refine own_via (fun _ k => XS.lloadN X2.here hx rfl (hb hby d8_11) rfl k) ?_
  show own_Go p e below s _ _ _ (T2.setTop (mkF m 12 #[.val (.ref x0), .val (.long x1), .second] [(.long x1), (.ref x0)]))
  obtain ⟨T3, h3, X3, e3, W3, st3⟩ := putF X2 hx hZ hown (host := "") (Or.inl (hw _ (List.mem_of_getElem? (i := 9) rfl))) Via.refl e2 (OB_x0.2.1) OB_x0.1 (Or.inl (hw _ (List.mem_of_getElem? (i := 10) rfl))) (hw _ (List.mem_of_getElem? (i := 1) rfl)) (ty := .long) (by decide) rfl rfl (g := (mkF m 12 #[.val (.ref x0), .val (.long x1), .second] [(.long x1), (.ref x0)])) rfl rfl (hb hby d8_12)
  have OB_x0 := own_put0_0 hw OB_x0 W3
  have N3 := Fr.snoc X3 N2 g_x0
  have Z0 := Nat.le_trans Z0 (Keep.of_wr W3).1
  have OL := OL.wr W3 g_x0
  refine own_via st3 ?_
  show own_Go p e below s _ _ _ (T3.setTop (mkF m 15 #[.val (.ref x0), .val (.long x1), .second] []))
  refine own_via (fun _ k => XS.aloadN X3.here hx rfl (hb hby d8_15) rfl rfl k) ?_
  show own_Go p e below s _ _ _ (T3.setTop (mkF m 16 #[.val (.ref x0), .val (.long x1), .second] [(.ref x0)]))
  refine own_via (fun _ k => XS.iconst X3.here hx rfl (hb hby d8_16) k) ?_
  show own_Go p e below s _ _ _ (T3.setTop (mkF m 17 #[.val (.ref x0), .val (.long x1), .second] [(.int (0 : Int32)), (.ref x0)]))
  obtain ⟨T4, h4, X4, e4, W4, st4⟩ := putFN X3 hx hZ hown (hw _ (List.mem_of_getElem? (i := 46) rfl)) Via.refl e3 (OB_x0.2.2.2.2.2.2.2.1) OB_x0.1 (Or.inl (hw _ (List.mem_of_getElem? (i := 47) rfl))) (hw _ (List.mem_of_getElem? (i := 1) rfl)) (ty := .boolean) (v' := (.int (0 : Int32))) (by decide) rfl (by decide) (g := (mkF m 17 #[.val (.ref x0), .val (.long x1), .second] [(.int (0 : Int32)), (.ref x0)])) rfl rfl (hb hby d8_17)
  have OB_x0 := own_put0_6 hw OB_x0 W4
  have N4 := Fr.snoc X4 N3 g_x0
  have Z0 := Nat.le_trans Z0 (Keep.of_wr W4).1
  have OL := OL.wr W4 g_x0
  refine own_via st4 ?_
  show own_Go p e below s _ _ _ (T4.setTop (mkF m 20 #[.val (.ref x0), .val (.long x1), .second] []))
  exact own_retV X4 hx hlk Bd.returns (hb hby d8_20) (by rw [e4]; exact ⟨N4, OL, Z0, ⟨rfl, OB_x0⟩⟩) (by decide) (by decide)
def Q5_0 (Z : State) (x0 : Addr) (x0_answeredAt : Int64) (x0_begun : Int64) (x0_expired : Int32) (x0_answered : Int64) (x0_whole : Int64) (x0_arrivedAt : Int64) (x0_arrivedSinceAnswer : Int32) (x0_expiredAt : Int64) (w0 : Addr) (w1 : Addr) (w2 : Addr) (n0 : Nat) (v : Option Value) (h : Heap) (L : List Loc) : Prop := Fr n0 L ∧ Old Z n0 h ∧ n0 ≤ h.size ∧ ((v = none ∧ own_Obj0 Z h x0 x0_answeredAt x0_begun x0_expired x0_answered (x0_whole + (1 : Int64)) x0_arrivedAt x0_arrivedSinceAnswer x0_expiredAt))
set_option maxRecDepth 65536 in
set_option maxHeartbeats 40000000 in
theorem rm5_0 (l : Launch) (Z : State) (a0 : Array Value) (hw : ∀ d ∈ tables_1, d.before a0 Z = true) (ws : List Jvm.Cond) (x0 : Addr) (x0_answeredAt : Int64) (x0_begun : Int64) (x0_expired : Int32) (x0_answered : Int64) (x0_whole : Int64) (x0_arrivedAt : Int64) (x0_arrivedSinceAnswer : Int32) (x0_expiredAt : Int64) (w0 : Addr) (w1 : Addr) (w2 : Addr) (h0 : Heap) (n0 : Nat) (Z0 : n0 ≤ h0.size) (K : own_K Z Z.heap w0 w1 w2) (OL : Old Z n0 h0) (OB_x0 : own_Obj0 Z h0 x0 x0_answeredAt x0_begun x0_expired x0_answered x0_whole x0_arrivedAt x0_arrivedSinceAnswer x0_expiredAt) (g_x0 : n0 ≤ x0) :
    MetFree l (⟨"com/example/mailbox/mailbox/server/RequestDeadline", "whole", "()V"⟩ : MethodName) (head1 (Jvm.Cond.code (⟨"com/example/mailbox/mailbox/server/RequestDeadline", "whole", "()V"⟩ : MethodName) prog_124_method_4_code 1 none :: ws) ({ frames := 0, cells := 0, slots := 0, locals := 0 } : Room)) (fun a U => a = #[(.ref x0)] ∧ Z.Warmed39 U.vm ∧ U.heap = h0) (fun _ _ _ _ _ => True) (fun _ U o U' => ∃ v L, o = .returned v ∧ Q5_0 Z x0 x0_answeredAt x0_begun x0_expired x0_answered x0_whole x0_arrivedAt x0_arrivedSinceAnswer x0_expiredAt w0 w1 w2 n0 v U'.heap L ∧ FrameEnd U o U' L ({ frames := 0, cells := 0, slots := 0, locals := 0 } : Room).cells ({ frames := 0, cells := 0, slots := 0, locals := 0 } : Room).slots) := by
  refine MetFree.of_bodySF (plainFor_of_name pn0) hisR ?_
  intro p e s m args below meth c s₁ Bd hml0 hP hK
  obtain ⟨rfl, hZ, hh⟩ := hP
  have hx := Bd.exec
  have hby := Bd.bytes
  have hml : c.maxLocals = 1 := hml0
  have hown : s.vm.findClass "com/example/mailbox/mailbox/server/RequestDeadline" = some m.cls := findClass_of_methodNamed Bd.named
  have hnm := (name_of_methodNamed Bd.named Bd.method).1
  have hlk := Bd.notSynchronized
  have X0 : Stand p l e ({ frames := 0, cells := 0, slots := 0, locals := 0 } : Room) s m #[(.ref x0)] below meth c s₁ [] 0 0 := Stand.of_body Bd
  have e0 : s₁.heap = h0 := by rw [← hh, Bd.state]; rfl
  have K0 := K
  obtain ⟨S_w0, S_w1, S_w2, S_TIMEOUT_NANOS, E_w0, E_w1, E_w2⟩ := K
  show own_Go p e below s (Q5_0 Z x0 x0_answeredAt x0_begun x0_expired x0_answered x0_whole x0_arrivedAt x0_arrivedSinceAnswer x0_expiredAt w0 w1 w2 n0) 0 0 (s₁.setTop (entryFrame m #[(.ref x0)] 1))
  rw [show entryFrame m #[(.ref x0)] 1 = mkF m 0 #[.val (.ref x0)] [] from by first | (simp [entryFrame, mkF, argsToLocals, Value.category]; done) | rfl]
  show own_Go p e below s _ _ _ (s₁.setTop (mkF m 0 #[.val (.ref x0)] []))
  refine own_via (fun _ k => XS.aloadN X0.here hx rfl (hb hby d5_0) rfl rfl k) ?_
  show own_Go p e below s _ _ _ (s₁.setTop (mkF m 1 #[.val (.ref x0)] [(.ref x0)]))
  refine own_via (fun _ k => XS.dup X0.here hx rfl (hb hby d5_1) rfl rfl k) ?_
  show own_Go p e below s _ _ _ (s₁.setTop (mkF m 2 #[.val (.ref x0)] [(.ref x0), (.ref x0)]))
  obtain ⟨T1, X1, e1, st1⟩ := getF X0 hx hZ hown (host := "") (Or.inl (hw _ (List.mem_of_getElem? (i := 27) rfl))) Via.refl e0 (OB_x0.2.2.2.2.2.1) (g := (mkF m 2 #[.val (.ref x0)] [(.ref x0), (.ref x0)])) rfl rfl (hb hby d5_2)
  refine own_via st1 ?_
  show own_Go p e below s _ _ _ (T1.setTop (mkF m 5 #[.val (.ref x0)] [(.long x0_whole), (.ref x0)]))
  refine own_via (fun _ k => XS.lconst X1.here hx rfl (hb hby d5_5) k) ?_
  show own_Go p e below s _ _ _ (T1.setTop (mkF m 6 #[.val (.ref x0)] [(.long (1 : Int64)), (.long x0_whole), (.ref x0)]))
  refine own_via (fun _ k => XS.ladd X1.here hx rfl (hb hby d5_6) rfl k) ?_
  show own_Go p e below s _ _ _ (T1.setTop (mkF m 7 #[.val (.ref x0)] [(.long (x0_whole + (1 : Int64))), (.ref x0)]))
  obtain ⟨T2, h2, X2, e2, W2, st2⟩ := putF X1 hx hZ hown (host := "") (Or.inl (hw _ (List.mem_of_getElem? (i := 27) rfl))) Via.refl e1 (OB_x0.2.2.2.2.2.1) OB_x0.1 (Or.inl (hw _ (List.mem_of_getElem? (i := 28) rfl))) (hw _ (List.mem_of_getElem? (i := 1) rfl)) (ty := .long) (by decide) rfl rfl (g := (mkF m 7 #[.val (.ref x0)] [(.long (x0_whole + (1 : Int64))), (.ref x0)])) rfl rfl (hb hby d5_7)
  have OB_x0 := own_put0_4 hw OB_x0 W2
  have N2 := Fr.snoc X2 (Fr.nil n0) g_x0
  have Z0 := Nat.le_trans Z0 (Keep.of_wr W2).1
  have OL := OL.wr W2 g_x0
  refine own_via st2 ?_
  show own_Go p e below s _ _ _ (T2.setTop (mkF m 10 #[.val (.ref x0)] []))
  exact own_retV X2 hx hlk Bd.returns (hb hby d5_10) (by rw [e2]; exact ⟨N2, OL, Z0, ⟨rfl, OB_x0⟩⟩) (by decide) (by decide)
def Q3_0 (Z : State) (x0 : Addr) (x0_answeredAt : Int64) (x0_begun : Int64) (x0_expired : Int32) (x0_answered : Int64) (x0_whole : Int64) (x0_arrivedAt : Int64) (x0_arrivedSinceAnswer : Int32) (x0_expiredAt : Int64) (w0 : Addr) (w1 : Addr) (w2 : Addr) (n0 : Nat) (v : Option Value) (h : Heap) (L : List Loc) : Prop := Fr n0 L ∧ Old Z n0 h ∧ n0 ≤ h.size ∧ ((v = none ∧ own_Obj0 Z h x0 x0_answeredAt (x0_begun + (1 : Int64)) x0_expired x0_answered x0_whole x0_arrivedAt x0_arrivedSinceAnswer x0_expiredAt))
set_option maxRecDepth 65536 in
set_option maxHeartbeats 40000000 in
theorem rm3_0 (l : Launch) (Z : State) (a0 : Array Value) (hw : ∀ d ∈ tables_1, d.before a0 Z = true) (ws : List Jvm.Cond) (x0 : Addr) (x0_answeredAt : Int64) (x0_begun : Int64) (x0_expired : Int32) (x0_answered : Int64) (x0_whole : Int64) (x0_arrivedAt : Int64) (x0_arrivedSinceAnswer : Int32) (x0_expiredAt : Int64) (w0 : Addr) (w1 : Addr) (w2 : Addr) (h0 : Heap) (n0 : Nat) (Z0 : n0 ≤ h0.size) (K : own_K Z Z.heap w0 w1 w2) (OL : Old Z n0 h0) (OB_x0 : own_Obj0 Z h0 x0 x0_answeredAt x0_begun x0_expired x0_answered x0_whole x0_arrivedAt x0_arrivedSinceAnswer x0_expiredAt) (g_x0 : n0 ≤ x0) :
    MetFree l (⟨"com/example/mailbox/mailbox/server/RequestDeadline", "begun", "()V"⟩ : MethodName) (head1 (Jvm.Cond.code (⟨"com/example/mailbox/mailbox/server/RequestDeadline", "begun", "()V"⟩ : MethodName) prog_124_method_3_code 1 none :: ws) ({ frames := 0, cells := 0, slots := 0, locals := 0 } : Room)) (fun a U => a = #[(.ref x0)] ∧ Z.Warmed39 U.vm ∧ U.heap = h0) (fun _ _ _ _ _ => True) (fun _ U o U' => ∃ v L, o = .returned v ∧ Q3_0 Z x0 x0_answeredAt x0_begun x0_expired x0_answered x0_whole x0_arrivedAt x0_arrivedSinceAnswer x0_expiredAt w0 w1 w2 n0 v U'.heap L ∧ FrameEnd U o U' L ({ frames := 0, cells := 0, slots := 0, locals := 0 } : Room).cells ({ frames := 0, cells := 0, slots := 0, locals := 0 } : Room).slots) := by
  refine MetFree.of_bodySF (plainFor_of_name pn0) hisR ?_
  intro p e s m args below meth c s₁ Bd hml0 hP hK
  obtain ⟨rfl, hZ, hh⟩ := hP
  have hx := Bd.exec
  have hby := Bd.bytes
  have hml : c.maxLocals = 1 := hml0
  have hown : s.vm.findClass "com/example/mailbox/mailbox/server/RequestDeadline" = some m.cls := findClass_of_methodNamed Bd.named
  have hnm := (name_of_methodNamed Bd.named Bd.method).1
  have hlk := Bd.notSynchronized
  have X0 : Stand p l e ({ frames := 0, cells := 0, slots := 0, locals := 0 } : Room) s m #[(.ref x0)] below meth c s₁ [] 0 0 := Stand.of_body Bd
  have e0 : s₁.heap = h0 := by rw [← hh, Bd.state]; rfl
  have K0 := K
  obtain ⟨S_w0, S_w1, S_w2, S_TIMEOUT_NANOS, E_w0, E_w1, E_w2⟩ := K
  show own_Go p e below s (Q3_0 Z x0 x0_answeredAt x0_begun x0_expired x0_answered x0_whole x0_arrivedAt x0_arrivedSinceAnswer x0_expiredAt w0 w1 w2 n0) 0 0 (s₁.setTop (entryFrame m #[(.ref x0)] 1))
  rw [show entryFrame m #[(.ref x0)] 1 = mkF m 0 #[.val (.ref x0)] [] from by first | (simp [entryFrame, mkF, argsToLocals, Value.category]; done) | rfl]
  show own_Go p e below s _ _ _ (s₁.setTop (mkF m 0 #[.val (.ref x0)] []))
  refine own_via (fun _ k => XS.aloadN X0.here hx rfl (hb hby d3_0) rfl rfl k) ?_
  show own_Go p e below s _ _ _ (s₁.setTop (mkF m 1 #[.val (.ref x0)] [(.ref x0)]))
  refine own_via (fun _ k => XS.dup X0.here hx rfl (hb hby d3_1) rfl rfl k) ?_
  show own_Go p e below s _ _ _ (s₁.setTop (mkF m 2 #[.val (.ref x0)] [(.ref x0), (.ref x0)]))
  obtain ⟨T1, X1, e1, st1⟩ := getF X0 hx hZ hown (host := "") (Or.inl (hw _ (List.mem_of_getElem? (i := 16) rfl))) Via.refl e0 (OB_x0.2.2.1) (g := (mkF m 2 #[.val (.ref x0)] [(.ref x0), (.ref x0)])) rfl rfl (hb hby d3_2)
  refine own_via st1 ?_
  show own_Go p e below s _ _ _ (T1.setTop (mkF m 5 #[.val (.ref x0)] [(.long x0_begun), (.ref x0)]))
  refine own_via (fun _ k => XS.lconst X1.here hx rfl (hb hby d3_5) k) ?_
  show own_Go p e below s _ _ _ (T1.setTop (mkF m 6 #[.val (.ref x0)] [(.long (1 : Int64)), (.long x0_begun), (.ref x0)]))
  refine own_via (fun _ k => XS.ladd X1.here hx rfl (hb hby d3_6) rfl k) ?_
  show own_Go p e below s _ _ _ (T1.setTop (mkF m 7 #[.val (.ref x0)] [(.long (x0_begun + (1 : Int64))), (.ref x0)]))
  obtain ⟨T2, h2, X2, e2, W2, st2⟩ := putF X1 hx hZ hown (host := "") (Or.inl (hw _ (List.mem_of_getElem? (i := 16) rfl))) Via.refl e1 (OB_x0.2.2.1) OB_x0.1 (Or.inl (hw _ (List.mem_of_getElem? (i := 17) rfl))) (hw _ (List.mem_of_getElem? (i := 1) rfl)) (ty := .long) (by decide) rfl rfl (g := (mkF m 7 #[.val (.ref x0)] [(.long (x0_begun + (1 : Int64))), (.ref x0)])) rfl rfl (hb hby d3_7)
  have OB_x0 := own_put0_1 hw OB_x0 W2
  have N2 := Fr.snoc X2 (Fr.nil n0) g_x0
  have Z0 := Nat.le_trans Z0 (Keep.of_wr W2).1
  have OL := OL.wr W2 g_x0
  refine own_via st2 ?_
  show own_Go p e below s _ _ _ (T2.setTop (mkF m 10 #[.val (.ref x0)] []))
  exact own_retV X2 hx hlk Bd.returns (hb hby d3_10) (by rw [e2]; exact ⟨N2, OL, Z0, ⟨rfl, OB_x0⟩⟩) (by decide) (by decide)
def Q1_0 (Z : State) (x0 : Addr) (x0_answeredAt : Int64) (x0_begun : Int64) (x0_expired : Int32) (x0_answered : Int64) (x0_whole : Int64) (x0_arrivedAt : Int64) (x0_arrivedSinceAnswer : Int32) (x0_expiredAt : Int64) (x1 : Int64) (w0 : Addr) (w1 : Addr) (w2 : Addr) (n0 : Nat) (v : Option Value) (h : Heap) (L : List Loc) : Prop := Fr n0 L ∧ Old Z n0 h ∧ n0 ≤ h.size ∧ ((v = none ∧ own_Obj0 Z h x0 x1 x0_begun x0_expired x0_answered x0_whole x0_arrivedAt x0_arrivedSinceAnswer x0_expiredAt))
set_option maxRecDepth 65536 in
set_option maxHeartbeats 40000000 in
theorem rm1_0 (l : Launch) (Z : State) (a0 : Array Value) (hw : ∀ d ∈ tables_1, d.before a0 Z = true) (ws : List Jvm.Cond) (x0 : Addr) (x0_answeredAt : Int64) (x0_begun : Int64) (x0_expired : Int32) (x0_answered : Int64) (x0_whole : Int64) (x0_arrivedAt : Int64) (x0_arrivedSinceAnswer : Int32) (x0_expiredAt : Int64) (x1 : Int64) (w0 : Addr) (w1 : Addr) (w2 : Addr) (h0 : Heap) (n0 : Nat) (Z0 : n0 ≤ h0.size) (K : own_K Z Z.heap w0 w1 w2) (OL : Old Z n0 h0) (OB_x0 : own_Obj0 Z h0 x0 x0_answeredAt x0_begun x0_expired x0_answered x0_whole x0_arrivedAt x0_arrivedSinceAnswer x0_expiredAt) (g_x0 : n0 ≤ x0) :
    MetFree l (⟨"com/example/mailbox/mailbox/server/RequestDeadline", "<init>", "(J)V"⟩ : MethodName) (head1 (Jvm.Cond.code (⟨"com/example/mailbox/mailbox/server/RequestDeadline", "<init>", "(J)V"⟩ : MethodName) prog_124_method_1_code 3 none :: ws) ({ frames := 1, cells := 0, slots := 0, locals := 12 } : Room)) (fun a U => a = #[(.ref x0), (.long x1)] ∧ Z.Warmed39 U.vm ∧ U.heap = h0) (fun _ _ _ _ _ => True) (fun _ U o U' => ∃ v L, o = .returned v ∧ Q1_0 Z x0 x0_answeredAt x0_begun x0_expired x0_answered x0_whole x0_arrivedAt x0_arrivedSinceAnswer x0_expiredAt x1 w0 w1 w2 n0 v U'.heap L ∧ FrameEnd U o U' L ({ frames := 1, cells := 0, slots := 0, locals := 12 } : Room).cells ({ frames := 1, cells := 0, slots := 0, locals := 12 } : Room).slots) := by
  refine MetFree.of_bodySF (plainFor_of_name pn0) hisR ?_
  intro p e s m args below meth c s₁ Bd hml0 hP hK
  obtain ⟨rfl, hZ, hh⟩ := hP
  have hx := Bd.exec
  have hby := Bd.bytes
  have hml : c.maxLocals = 3 := hml0
  have hown : s.vm.findClass "com/example/mailbox/mailbox/server/RequestDeadline" = some m.cls := findClass_of_methodNamed Bd.named
  have hnm := (name_of_methodNamed Bd.named Bd.method).1
  have hlk := Bd.notSynchronized
  have X0 : Stand p l e ({ frames := 1, cells := 0, slots := 0, locals := 12 } : Room) s m #[(.ref x0), (.long x1)] below meth c s₁ [] 0 0 := Stand.of_body Bd
  have e0 : s₁.heap = h0 := by rw [← hh, Bd.state]; rfl
  have K0 := K
  obtain ⟨S_w0, S_w1, S_w2, S_TIMEOUT_NANOS, E_w0, E_w1, E_w2⟩ := K
  show own_Go p e below s (Q1_0 Z x0 x0_answeredAt x0_begun x0_expired x0_answered x0_whole x0_arrivedAt x0_arrivedSinceAnswer x0_expiredAt x1 w0 w1 w2 n0) 0 0 (s₁.setTop (entryFrame m #[(.ref x0), (.long x1)] 3))
  rw [show entryFrame m #[(.ref x0), (.long x1)] 3 = mkF m 0 #[.val (.ref x0), .val (.long x1), .second] [] from by first | (simp [entryFrame, mkF, argsToLocals, Value.category]; done) | rfl]
  show own_Go p e below s _ _ _ (s₁.setTop (mkF m 0 #[.val (.ref x0), .val (.long x1), .second] []))
  refine own_via (fun _ k => XS.aloadN X0.here hx rfl (hb hby d1_0) rfl rfl k) ?_
  show own_Go p e below s _ _ _ (s₁.setTop (mkF m 1 #[.val (.ref x0), .val (.long x1), .second] [(.ref x0)]))
  obtain ⟨T1, X1, e1, st1⟩ := initO X0 hx hZ hown (hw _ (List.mem_of_getElem? (i := 6) rfl)) (hw _ (List.mem_of_getElem? (i := 7) rfl)) (hw _ (List.mem_of_getElem? (i := 8) rfl)) e0 (g := (mkF m 1 #[.val (.ref x0), .val (.long x1), .second] [(.ref x0)])) rfl (by rw [hml]; rfl) rfl (hb hby d1_1) (by decide) (W := 0) (by show 2 * 0 + _ ≤ _; exact Nat.le_of_eq rfl) (by decide)
  refine own_via st1 ?_
  show own_Go p e below s _ _ _ (T1.setTop (mkF m 4 #[.val (.ref x0), .val (.long x1), .second] []))
  refine own_via (fun _ k => XS.aloadN X1.here hx rfl (hb hby d1_4) rfl rfl k) ?_
  show own_Go p e below s _ _ _ (T1.setTop (mkF m 5 #[.val (.ref x0), .val (.long x1), .second] [(.ref x0)]))
  refine own_via (fun _ k => XS.lloadN X1.here hx rfl (hb hby d1_5) rfl k) ?_
  show own_Go p e below s _ _ _ (T1.setTop (mkF m 6 #[.val (.ref x0), .val (.long x1), .second] [(.long x1), (.ref x0)]))
  obtain ⟨T2, h2, X2, e2, W2, st2⟩ := putF X1 hx hZ hown (host := "") (Or.inl (hw _ (List.mem_of_getElem? (i := 9) rfl))) Via.refl e1 (OB_x0.2.1) OB_x0.1 (Or.inl (hw _ (List.mem_of_getElem? (i := 10) rfl))) (hw _ (List.mem_of_getElem? (i := 1) rfl)) (ty := .long) (by decide) rfl rfl (g := (mkF m 6 #[.val (.ref x0), .val (.long x1), .second] [(.long x1), (.ref x0)])) rfl rfl (hb hby d1_6)
  have OB_x0 := own_put0_0 hw OB_x0 W2
  have N2 := Fr.snoc X2 (Fr.nil n0) g_x0
  have Z0 := Nat.le_trans Z0 (Keep.of_wr W2).1
  have OL := OL.wr W2 g_x0
  refine own_via st2 ?_
  show own_Go p e below s _ _ _ (T2.setTop (mkF m 9 #[.val (.ref x0), .val (.long x1), .second] []))
  exact own_retV X2 hx hlk Bd.returns (hb hby d1_9) (by rw [e2]; exact ⟨N2, OL, Z0, ⟨rfl, OB_x0⟩⟩) (by decide) (by decide)
def Q6_0 (Z : State) (x0 : Addr) (x0_answeredAt : Int64) (x0_begun : Int64) (x0_expired : Int32) (x0_answered : Int64) (x0_whole : Int64) (x0_arrivedAt : Int64) (x0_arrivedSinceAnswer : Int32) (x0_expiredAt : Int64) (x1 : Int64) (w0 : Addr) (w1 : Addr) (w2 : Addr) (n0 : Nat) (v : Option Value) (h : Heap) (L : List Loc) : Prop := Fr n0 L ∧ Old Z n0 h ∧ n0 ≤ h.size ∧ ((v = none ∧ own_Obj0 Z h x0 x0_answeredAt x0_begun x0_expired x0_answered x0_whole x1 (1 : Int32) x0_expiredAt))
set_option maxRecDepth 65536 in
set_option maxHeartbeats 40000000 in
theorem rm6_0 (l : Launch) (Z : State) (a0 : Array Value) (hw : ∀ d ∈ tables_1, d.before a0 Z = true) (ws : List Jvm.Cond) (x0 : Addr) (x0_answeredAt : Int64) (x0_begun : Int64) (x0_expired : Int32) (x0_answered : Int64) (x0_whole : Int64) (x0_arrivedAt : Int64) (x0_arrivedSinceAnswer : Int32) (x0_expiredAt : Int64) (x1 : Int64) (w0 : Addr) (w1 : Addr) (w2 : Addr) (h0 : Heap) (n0 : Nat) (Z0 : n0 ≤ h0.size) (K : own_K Z Z.heap w0 w1 w2) (OL : Old Z n0 h0) (OB_x0 : own_Obj0 Z h0 x0 x0_answeredAt x0_begun x0_expired x0_answered x0_whole x0_arrivedAt x0_arrivedSinceAnswer x0_expiredAt) (g_x0 : n0 ≤ x0) :
    MetFree l (⟨"com/example/mailbox/mailbox/server/RequestDeadline", "arrived", "(J)V"⟩ : MethodName) (head1 (Jvm.Cond.code (⟨"com/example/mailbox/mailbox/server/RequestDeadline", "arrived", "(J)V"⟩ : MethodName) prog_124_method_2_code 3 none :: ws) ({ frames := 0, cells := 0, slots := 0, locals := 0 } : Room)) (fun a U => a = #[(.ref x0), (.long x1)] ∧ Z.Warmed39 U.vm ∧ U.heap = h0) (fun _ _ _ _ _ => True) (fun _ U o U' => ∃ v L, o = .returned v ∧ Q6_0 Z x0 x0_answeredAt x0_begun x0_expired x0_answered x0_whole x0_arrivedAt x0_arrivedSinceAnswer x0_expiredAt x1 w0 w1 w2 n0 v U'.heap L ∧ FrameEnd U o U' L ({ frames := 0, cells := 0, slots := 0, locals := 0 } : Room).cells ({ frames := 0, cells := 0, slots := 0, locals := 0 } : Room).slots) := by
  refine MetFree.of_bodySF (plainFor_of_name pn0) hisR ?_
  intro p e s m args below meth c s₁ Bd hml0 hP hK
  obtain ⟨rfl, hZ, hh⟩ := hP
  have hx := Bd.exec
  have hby := Bd.bytes
  have hml : c.maxLocals = 3 := hml0
  have hown : s.vm.findClass "com/example/mailbox/mailbox/server/RequestDeadline" = some m.cls := findClass_of_methodNamed Bd.named
  have hnm := (name_of_methodNamed Bd.named Bd.method).1
  have hlk := Bd.notSynchronized
  have X0 : Stand p l e ({ frames := 0, cells := 0, slots := 0, locals := 0 } : Room) s m #[(.ref x0), (.long x1)] below meth c s₁ [] 0 0 := Stand.of_body Bd
  have e0 : s₁.heap = h0 := by rw [← hh, Bd.state]; rfl
  have K0 := K
  obtain ⟨S_w0, S_w1, S_w2, S_TIMEOUT_NANOS, E_w0, E_w1, E_w2⟩ := K
  show own_Go p e below s (Q6_0 Z x0 x0_answeredAt x0_begun x0_expired x0_answered x0_whole x0_arrivedAt x0_arrivedSinceAnswer x0_expiredAt x1 w0 w1 w2 n0) 0 0 (s₁.setTop (entryFrame m #[(.ref x0), (.long x1)] 3))
  rw [show entryFrame m #[(.ref x0), (.long x1)] 3 = mkF m 0 #[.val (.ref x0), .val (.long x1), .second] [] from by first | (simp [entryFrame, mkF, argsToLocals, Value.category]; done) | rfl]
  show own_Go p e below s _ _ _ (s₁.setTop (mkF m 0 #[.val (.ref x0), .val (.long x1), .second] []))
  refine own_via (fun _ k => XS.aloadN X0.here hx rfl (hb hby d6_0) rfl rfl k) ?_
  show own_Go p e below s _ _ _ (s₁.setTop (mkF m 1 #[.val (.ref x0), .val (.long x1), .second] [(.ref x0)]))
  refine own_via (fun _ k => XS.lloadN X0.here hx rfl (hb hby d6_1) rfl k) ?_
  show own_Go p e below s _ _ _ (s₁.setTop (mkF m 2 #[.val (.ref x0), .val (.long x1), .second] [(.long x1), (.ref x0)]))
  obtain ⟨T1, h1, X1, e1, W1, st1⟩ := putF X0 hx hZ hown (host := "") (Or.inl (hw _ (List.mem_of_getElem? (i := 31) rfl))) Via.refl e0 (OB_x0.2.2.2.2.2.2.1) OB_x0.1 (Or.inl (hw _ (List.mem_of_getElem? (i := 32) rfl))) (hw _ (List.mem_of_getElem? (i := 1) rfl)) (ty := .long) (by decide) rfl rfl (g := (mkF m 2 #[.val (.ref x0), .val (.long x1), .second] [(.long x1), (.ref x0)])) rfl rfl (hb hby d6_2)
  have OB_x0 := own_put0_5 hw OB_x0 W1
  have N1 := Fr.snoc X1 (Fr.nil n0) g_x0
  have Z0 := Nat.le_trans Z0 (Keep.of_wr W1).1
  have OL := OL.wr W1 g_x0
  refine own_via st1 ?_
  show own_Go p e below s _ _ _ (T1.setTop (mkF m 5 #[.val (.ref x0), .val (.long x1), .second] []))
  refine own_via (fun _ k => XS.aloadN X1.here hx rfl (hb hby d6_5) rfl rfl k) ?_
  show own_Go p e below s _ _ _ (T1.setTop (mkF m 6 #[.val (.ref x0), .val (.long x1), .second] [(.ref x0)]))
  refine own_via (fun _ k => XS.iconst X1.here hx rfl (hb hby d6_6) k) ?_
  show own_Go p e below s _ _ _ (T1.setTop (mkF m 7 #[.val (.ref x0), .val (.long x1), .second] [(.int (1 : Int32)), (.ref x0)]))
  obtain ⟨T2, h2, X2, e2, W2, st2⟩ := putFN X1 hx hZ hown (hw _ (List.mem_of_getElem? (i := 46) rfl)) Via.refl e1 (OB_x0.2.2.2.2.2.2.2.1) OB_x0.1 (Or.inl (hw _ (List.mem_of_getElem? (i := 47) rfl))) (hw _ (List.mem_of_getElem? (i := 1) rfl)) (ty := .boolean) (v' := (.int (1 : Int32))) (by decide) rfl (by decide) (g := (mkF m 7 #[.val (.ref x0), .val (.long x1), .second] [(.int (1 : Int32)), (.ref x0)])) rfl rfl (hb hby d6_7)
  have OB_x0 := own_put0_6 hw OB_x0 W2
  have N2 := Fr.snoc X2 N1 g_x0
  have Z0 := Nat.le_trans Z0 (Keep.of_wr W2).1
  have OL := OL.wr W2 g_x0
  refine own_via st2 ?_
  show own_Go p e below s _ _ _ (T2.setTop (mkF m 10 #[.val (.ref x0), .val (.long x1), .second] []))
  exact own_retV X2 hx hlk Bd.returns (hb hby d6_10) (by rw [e2]; exact ⟨N2, OL, Z0, ⟨rfl, OB_x0⟩⟩) (by decide) (by decide)
def Q0 (n0 : Nat) (v : Option Value) (h : Heap) (L : List Loc) : Prop := v = some (.int 1) ∧ Fr n0 L
set_option maxRecDepth 65536 in
set_option maxHeartbeats 40000000 in
theorem pt220 (l : Launch) (Z : State) (a0 : Array Value) (hw : ∀ d ∈ tables_1, d.before a0 Z = true) (p0 : Int64) (p1 : Int64) (p2 : Int64) (p3 : Int64) (p4 : Int64) (p5 : Int32) (w0 : Addr) (w1 : Addr) (w2 : Addr) (n0 : Nat) (K : own_K Z Z.heap w0 w1 w2) {p : Program} {e : Env} {s : State} {m : MethodId} {below : List Frame} {meth : Method} {c : Code} {s₁ : State} {S : Spec} (Bd : BodyLoose p l x S code maxLocals ret e s m #[(.long p0), (.long p1), (.long p2), (.long p3), (.long p4), (.int p5)] below meth c s₁) (hml : c.maxLocals = 26) (hZ : Z.Warmed39 s.vm)
    (T : State) (h : Heap) (lc : List Loc) (X : Stand p l e room_1 s m #[(.long p0), (.long p1), (.long p2), (.long p3), (.long p4), (.int p5)] below meth c T lc (0 + 1) (0 + 8)) (eT : T.heap = h) (N : Fr n0 lc) (Z0 : n0 ≤ h.size) (OL : Old Z n0 h) (vb : Int32) (vw : Int32) (va : Int32) (vr : Int32) (vx : Int32) (vy : Int32) (b : Addr) (ta : Int64) (bg : Int64) (ex : Int32) (an : Int64) (wh : Int64) (aa : Int64) (ar : Int32) (ea : Int64) (OB_b : own_Obj0 Z h b ta bg ex an wh aa ar ea) (g_b : n0 ≤ b) (hb0 : 0 ≤ vb.toInt ∧ vb.toInt ≤ 2) (hb1 : 0 ≤ vw.toInt ∧ vw.toInt ≤ vb.toInt) (hb2 : 0 ≤ va.toInt ∧ va.toInt ≤ vb.toInt) (hb3 : vr.toInt = 0 ∨ vr.toInt = 1) (hb4 : vx.toInt = 0 ∨ vx.toInt = 1) (hb5 : vy.toInt = 0 ∨ vy.toInt = 1) (hb6 : (vr.toInt = 0 ∧ aa.toInt = 0) ∨ (vr.toInt = 1 ∧ aa.toInt = p1.toInt)) (hb7 : bg.toInt = vb.toInt) (hb8 : wh.toInt = vw.toInt) (hb9 : an.toInt = va.toInt) (hb10 : (va.toInt < 1 ∧ ta.toInt = p0.toInt) ∨ (1 ≤ va.toInt ∧ ta.toInt = p2.toInt)) (hb11 : (vx.toInt = 0 ∧ ex.toInt = 0) ∨ (vx.toInt = 1 ∧ ex.toInt = 1 ∧ ea.toInt = p3.toInt)) :
    own_Go p e below s (Q0 n0) 16 128 (T.setTop (mkF m 220 #[.val (.long p0), .second, .val (.long p1), .second, .val (.long p2), .second, .val (.long p3), .second, .val (.long p4), .second, .val (.int p5), .val (.int vb), .val (.int vw), .val (.int va), .val (.int vr), .val (.int vx), .val (.int vy), .val (.ref b), .unset, .unset, .unset, .unset, .unset, .unset, .unset, .unset] [])) := by
  have hx := Bd.exec
  have hby := Bd.bytes
  have hown : s.vm.findClass "com/example/mailbox/mailbox/server/RequestDeadlineRemainingPinLaw" = some m.cls := findClass_of_methodNamed Bd.named
  have hlk := Bd.notSynchronized
  have K0 := K
  obtain ⟨S_w0, S_w1, S_w2, S_TIMEOUT_NANOS, E_w0, E_w1, E_w2⟩ := K
  show own_Go p e below s _ _ _ (T.setTop (mkF m 220 #[.val (.long p0), .second, .val (.long p1), .second, .val (.long p2), .second, .val (.long p3), .second, .val (.long p4), .second, .val (.int p5), .val (.int vb), .val (.int vw), .val (.int va), .val (.int vr), .val (.int vx), .val (.int vy), .val (.ref b), .unset, .unset, .unset, .unset, .unset, .unset, .unset, .unset] []))
  refine own_via (fun _ k => XS.aload X.here hx rfl (hb hby at_220) rfl rfl k) ?_
  show own_Go p e below s _ _ _ (T.setTop (mkF m 222 #[.val (.long p0), .second, .val (.long p1), .second, .val (.long p2), .second, .val (.long p3), .second, .val (.long p4), .second, .val (.int p5), .val (.int vb), .val (.int vw), .val (.int va), .val (.int vr), .val (.int vx), .val (.int vy), .val (.ref b), .unset, .unset, .unset, .unset, .unset, .unset, .unset, .unset] [(.ref b)]))
  refine own_via (fun _ k => XS.lload X.here hx rfl (hb hby at_222) rfl k) ?_
  show own_Go p e below s _ _ _ (T.setTop (mkF m 224 #[.val (.long p0), .second, .val (.long p1), .second, .val (.long p2), .second, .val (.long p3), .second, .val (.long p4), .second, .val (.int p5), .val (.int vb), .val (.int vw), .val (.int va), .val (.int vr), .val (.int vx), .val (.int vy), .val (.ref b), .unset, .unset, .unset, .unset, .unset, .unset, .unset, .unset] [(.long p4), (.ref b)]))
  obtain ⟨cq1, kq1, q1a, q1b, q1c⟩ := isOf hZ eT OB_b.1
  obtain ⟨_, _, ⟨T1, L1, k1, n1⟩, -, X1, ⟨Lc1, hQ1, l1, y1, z1⟩, st1⟩ := X.virtualBack hx (y := (⟨"com/example/mailbox/mailbox/server/RequestDeadline", "remaining", "(J)J"⟩ : MethodName)) (z := (⟨"com/example/mailbox/mailbox/server/RequestDeadline", "remaining", "(J)J"⟩ : MethodName)) hown (mvT hZ (hw _ (List.mem_of_getElem? (i := 18) rfl))) (mvT hZ (hw _ (List.mem_of_getElem? (i := 19) rfl))) (notFace_of_selects (args := #[]) (mvT hZ (hw _ (List.mem_of_getElem? (i := 21) rfl)))) (mvT hZ (hw _ (List.mem_of_getElem? (i := 21) rfl))) (mvT hZ (hw _ (List.mem_of_getElem? (i := 20) rfl))) (by decide) (backOf (W := 0) (rm4_0 l Z a0 hw [] b ta bg ex an wh aa ar ea p4 w0 w1 w2 h n0 Z0 K0 OL OB_b g_b) hZ (hw _ (List.mem_of_getElem? (i := 22) rfl)) (hw _ (List.mem_of_getElem? (i := 2) rfl)) (by decide) (by decide)) q1a q1c (g := (mkF m 224 #[.val (.long p0), .second, .val (.long p1), .second, .val (.long p2), .second, .val (.long p3), .second, .val (.long p4), .second, .val (.int p5), .val (.int vb), .val (.int vw), .val (.int va), .val (.int vr), .val (.int vx), .val (.int vy), .val (.ref b), .unset, .unset, .unset, .unset, .unset, .unset, .unset, .unset] [(.long p4), (.ref b)])) rfl (by rw [hml]; rfl) (Steps.refl _) (argsL := [(.long p4)]) (rest := []) (lenOf pd0 rfl) rfl (by show 2 * 0 + _ ≤ _; exact Nat.le_of_eq rfl) (hb hby at_224) (fun _ _ => ⟨rfl, eT, (by decide : 0 + 1 + 0 ≤ _), (by decide : 0 + 8 + 0 ≤ _)⟩)
  dsimp only [Pt.U, Pt.locs, Pt.cells, Pt.slots] at X1 l1 y1 z1 st1 hQ1
  subst l1 y1 z1
  obtain ⟨NQ1, OLq1, Zq1, hO1⟩ := hQ1
  rcases hO1 with ⟨hr1_0_0, hr1_0_1, rfl, OBq1_b⟩ | ⟨hr1_1_0, hr1_1_1, hr1_1_2, hr1_1_3, rfl, OBq1_b⟩ | ⟨hr1_2_0, hr1_2_1, hr1_2_2, hr1_2_3, rfl, OBq1_b⟩ | ⟨hr1_3_0, hr1_3_1, hr1_3_2, rfl, OBq1_b⟩ | ⟨hr1_4_0, rfl, OBq1_b⟩
  · have OL := OLq1
    have Z0 := Zq1
    have OB_b := OBq1_b
    refine own_tr st1 ?_
    show own_Go p e below s _ _ _ (T1.setTop (mkF m 227 #[.val (.long p0), .second, .val (.long p1), .second, .val (.long p2), .second, .val (.long p3), .second, .val (.long p4), .second, .val (.int p5), .val (.int vb), .val (.int vw), .val (.int va), .val (.int vr), .val (.int vx), .val (.int vy), .val (.ref b), .unset, .unset, .unset, .unset, .unset, .unset, .unset, .unset] [(.long ((10000000000 : Int64) - (p4 - ta)))]))
    refine own_via (fun _ k => XS.lstore X1.here hx rfl (hb hby at_227) rfl (l' := #[.val (.long p0), .second, .val (.long p1), .second, .val (.long p2), .second, .val (.long p3), .second, .val (.long p4), .second, .val (.int p5), .val (.int vb), .val (.int vw), .val (.int va), .val (.int vr), .val (.int vx), .val (.int vy), .val (.ref b), .val (.long ((10000000000 : Int64) - (p4 - ta))), .second, .unset, .unset, .unset, .unset, .unset, .unset]) rfl k) ?_
    show own_Go p e below s _ _ _ (T1.setTop (mkF m 229 #[.val (.long p0), .second, .val (.long p1), .second, .val (.long p2), .second, .val (.long p3), .second, .val (.long p4), .second, .val (.int p5), .val (.int vb), .val (.int vw), .val (.int va), .val (.int vr), .val (.int vx), .val (.int vy), .val (.ref b), .val (.long ((10000000000 : Int64) - (p4 - ta))), .second, .unset, .unset, .unset, .unset, .unset, .unset] []))
    refine own_via (fun _ k => X1.ldc2Long hx hown (mvT hZ (hw _ (List.mem_of_getElem? (i := 33) rfl))) (g := (mkF m 229 #[.val (.long p0), .second, .val (.long p1), .second, .val (.long p2), .second, .val (.long p3), .second, .val (.long p4), .second, .val (.int p5), .val (.int vb), .val (.int vw), .val (.int va), .val (.int vr), .val (.int vx), .val (.int vy), .val (.ref b), .val (.long ((10000000000 : Int64) - (p4 - ta))), .second, .unset, .unset, .unset, .unset, .unset, .unset] [])) rfl (hb hby at_229) _ k) ?_
    show own_Go p e below s _ _ _ (T1.setTop (mkF m 232 #[.val (.long p0), .second, .val (.long p1), .second, .val (.long p2), .second, .val (.long p3), .second, .val (.long p4), .second, .val (.int p5), .val (.int vb), .val (.int vw), .val (.int va), .val (.int vr), .val (.int vx), .val (.int vy), .val (.ref b), .val (.long ((10000000000 : Int64) - (p4 - ta))), .second, .unset, .unset, .unset, .unset, .unset, .unset] [(.long (10000000000 : Int64))]))
    refine own_via (fun _ k => XS.lstore X1.here hx rfl (hb hby at_232) rfl (l' := #[.val (.long p0), .second, .val (.long p1), .second, .val (.long p2), .second, .val (.long p3), .second, .val (.long p4), .second, .val (.int p5), .val (.int vb), .val (.int vw), .val (.int va), .val (.int vr), .val (.int vx), .val (.int vy), .val (.ref b), .val (.long ((10000000000 : Int64) - (p4 - ta))), .second, .val (.long (10000000000 : Int64)), .second, .unset, .unset, .unset, .unset]) rfl k) ?_
    show own_Go p e below s _ _ _ (T1.setTop (mkF m 234 #[.val (.long p0), .second, .val (.long p1), .second, .val (.long p2), .second, .val (.long p3), .second, .val (.long p4), .second, .val (.int p5), .val (.int vb), .val (.int vw), .val (.int va), .val (.int vr), .val (.int vx), .val (.int vy), .val (.ref b), .val (.long ((10000000000 : Int64) - (p4 - ta))), .second, .val (.long (10000000000 : Int64)), .second, .unset, .unset, .unset, .unset] []))
    refine own_via (fun _ k => XS.iload X1.here hx rfl (hb hby at_234) rfl k) ?_
    show own_Go p e below s _ _ _ (T1.setTop (mkF m 236 #[.val (.long p0), .second, .val (.long p1), .second, .val (.long p2), .second, .val (.long p3), .second, .val (.long p4), .second, .val (.int p5), .val (.int vb), .val (.int vw), .val (.int va), .val (.int vr), .val (.int vx), .val (.int vy), .val (.ref b), .val (.long ((10000000000 : Int64) - (p4 - ta))), .second, .val (.long (10000000000 : Int64)), .second, .unset, .unset, .unset, .unset] [(.int vx)]))
    by_cases hc2 : vx = (0 : Int32)
    · refine own_via (fun _ k => XS.ifYes X1.here hx rfl (pc0 := 236) (pc' := 252) rfl (hb hby at_236) rfl ((if0 _ _).trans (teq hc2).1) (by decide) (by decide) k) ?_
      show own_Go p e below s _ _ _ (T1.setTop (mkF m 252 #[.val (.long p0), .second, .val (.long p1), .second, .val (.long p2), .second, .val (.long p3), .second, .val (.long p4), .second, .val (.int p5), .val (.int vb), .val (.int vw), .val (.int va), .val (.int vr), .val (.int vx), .val (.int vy), .val (.ref b), .val (.long ((10000000000 : Int64) - (p4 - ta))), .second, .val (.long (10000000000 : Int64)), .second, .unset, .unset, .unset, .unset] []))
      refine own_via (fun _ k => XS.iload X1.here hx rfl (hb hby at_252) rfl k) ?_
      show own_Go p e below s _ _ _ (T1.setTop (mkF m 254 #[.val (.long p0), .second, .val (.long p1), .second, .val (.long p2), .second, .val (.long p3), .second, .val (.long p4), .second, .val (.int p5), .val (.int vb), .val (.int vw), .val (.int va), .val (.int vr), .val (.int vx), .val (.int vy), .val (.ref b), .val (.long ((10000000000 : Int64) - (p4 - ta))), .second, .val (.long (10000000000 : Int64)), .second, .unset, .unset, .unset, .unset] [(.int va)]))
      refine own_via (fun _ k => XS.iload X1.here hx rfl (hb hby at_254) rfl k) ?_
      show own_Go p e below s _ _ _ (T1.setTop (mkF m 256 #[.val (.long p0), .second, .val (.long p1), .second, .val (.long p2), .second, .val (.long p3), .second, .val (.long p4), .second, .val (.int p5), .val (.int vb), .val (.int vw), .val (.int va), .val (.int vr), .val (.int vx), .val (.int vy), .val (.ref b), .val (.long ((10000000000 : Int64) - (p4 - ta))), .second, .val (.long (10000000000 : Int64)), .second, .unset, .unset, .unset, .unset] [(.int vb), (.int va)]))
      by_cases hc3 : va = vb
      · refine own_via (fun _ k => XS.icmpNo X1.here hx rfl (hb hby at_256) rfl (teq hc3).2 k) ?_
        show own_Go p e below s _ _ _ (T1.setTop (mkF m 259 #[.val (.long p0), .second, .val (.long p1), .second, .val (.long p2), .second, .val (.long p3), .second, .val (.long p4), .second, .val (.int p5), .val (.int vb), .val (.int vw), .val (.int va), .val (.int vr), .val (.int vx), .val (.int vy), .val (.ref b), .val (.long ((10000000000 : Int64) - (p4 - ta))), .second, .val (.long (10000000000 : Int64)), .second, .unset, .unset, .unset, .unset] []))
        refine own_via (fun _ k => XS.iload X1.here hx rfl (hb hby at_259) rfl k) ?_
        show own_Go p e below s _ _ _ (T1.setTop (mkF m 261 #[.val (.long p0), .second, .val (.long p1), .second, .val (.long p2), .second, .val (.long p3), .second, .val (.long p4), .second, .val (.int p5), .val (.int vb), .val (.int vw), .val (.int va), .val (.int vr), .val (.int vx), .val (.int vy), .val (.ref b), .val (.long ((10000000000 : Int64) - (p4 - ta))), .second, .val (.long (10000000000 : Int64)), .second, .unset, .unset, .unset, .unset] [(.int va)]))
        by_cases hc4 : (0 : Int32) < va
        · refine own_via (fun _ k => XS.ifNo X1.here hx rfl (hb hby at_261) rfl ((if0 _ _).trans (tlt hc4).2.2.2) k) ?_
          show own_Go p e below s _ _ _ (T1.setTop (mkF m 264 #[.val (.long p0), .second, .val (.long p1), .second, .val (.long p2), .second, .val (.long p3), .second, .val (.long p4), .second, .val (.int p5), .val (.int vb), .val (.int vw), .val (.int va), .val (.int vr), .val (.int vx), .val (.int vy), .val (.ref b), .val (.long ((10000000000 : Int64) - (p4 - ta))), .second, .val (.long (10000000000 : Int64)), .second, .unset, .unset, .unset, .unset] []))
          refine own_via (fun _ k => XS.lload X1.here hx rfl (hb hby at_264) rfl k) ?_
          show own_Go p e below s _ _ _ (T1.setTop (mkF m 266 #[.val (.long p0), .second, .val (.long p1), .second, .val (.long p2), .second, .val (.long p3), .second, .val (.long p4), .second, .val (.int p5), .val (.int vb), .val (.int vw), .val (.int va), .val (.int vr), .val (.int vx), .val (.int vy), .val (.ref b), .val (.long ((10000000000 : Int64) - (p4 - ta))), .second, .val (.long (10000000000 : Int64)), .second, .unset, .unset, .unset, .unset] [(.long p2)]))
          refine own_via (fun _ k => XS.goto X1.here hx rfl (pc0 := 266) (pc' := 270) rfl (hb hby at_266) (by decide) (by decide) k) ?_
          show own_Go p e below s _ _ _ (T1.setTop (mkF m 270 #[.val (.long p0), .second, .val (.long p1), .second, .val (.long p2), .second, .val (.long p3), .second, .val (.long p4), .second, .val (.int p5), .val (.int vb), .val (.int vw), .val (.int va), .val (.int vr), .val (.int vx), .val (.int vy), .val (.ref b), .val (.long ((10000000000 : Int64) - (p4 - ta))), .second, .val (.long (10000000000 : Int64)), .second, .unset, .unset, .unset, .unset] [(.long p2)]))
          refine own_via (fun _ k => XS.lstore X1.here hx rfl (hb hby at_270) rfl (l' := #[.val (.long p0), .second, .val (.long p1), .second, .val (.long p2), .second, .val (.long p3), .second, .val (.long p4), .second, .val (.int p5), .val (.int vb), .val (.int vw), .val (.int va), .val (.int vr), .val (.int vx), .val (.int vy), .val (.ref b), .val (.long ((10000000000 : Int64) - (p4 - ta))), .second, .val (.long (10000000000 : Int64)), .second, .unset, .unset, .val (.long p2), .second]) rfl k) ?_
          show own_Go p e below s _ _ _ (T1.setTop (mkF m 272 #[.val (.long p0), .second, .val (.long p1), .second, .val (.long p2), .second, .val (.long p3), .second, .val (.long p4), .second, .val (.int p5), .val (.int vb), .val (.int vw), .val (.int va), .val (.int vr), .val (.int vx), .val (.int vy), .val (.ref b), .val (.long ((10000000000 : Int64) - (p4 - ta))), .second, .val (.long (10000000000 : Int64)), .second, .unset, .unset, .val (.long p2), .second] []))
          refine own_via (fun _ k => XS.lload X1.here hx rfl (hb hby at_272) rfl k) ?_
          show own_Go p e below s _ _ _ (T1.setTop (mkF m 274 #[.val (.long p0), .second, .val (.long p1), .second, .val (.long p2), .second, .val (.long p3), .second, .val (.long p4), .second, .val (.int p5), .val (.int vb), .val (.int vw), .val (.int va), .val (.int vr), .val (.int vx), .val (.int vy), .val (.ref b), .val (.long ((10000000000 : Int64) - (p4 - ta))), .second, .val (.long (10000000000 : Int64)), .second, .unset, .unset, .val (.long p2), .second] [(.long (10000000000 : Int64))]))
          refine own_via (fun _ k => XS.lload X1.here hx rfl (hb hby at_274) rfl k) ?_
          show own_Go p e below s _ _ _ (T1.setTop (mkF m 276 #[.val (.long p0), .second, .val (.long p1), .second, .val (.long p2), .second, .val (.long p3), .second, .val (.long p4), .second, .val (.int p5), .val (.int vb), .val (.int vw), .val (.int va), .val (.int vr), .val (.int vx), .val (.int vy), .val (.ref b), .val (.long ((10000000000 : Int64) - (p4 - ta))), .second, .val (.long (10000000000 : Int64)), .second, .unset, .unset, .val (.long p2), .second] [(.long p4), (.long (10000000000 : Int64))]))
          refine own_via (fun _ k => XS.lload X1.here hx rfl (hb hby at_276) rfl k) ?_
          show own_Go p e below s _ _ _ (T1.setTop (mkF m 278 #[.val (.long p0), .second, .val (.long p1), .second, .val (.long p2), .second, .val (.long p3), .second, .val (.long p4), .second, .val (.int p5), .val (.int vb), .val (.int vw), .val (.int va), .val (.int vr), .val (.int vx), .val (.int vy), .val (.ref b), .val (.long ((10000000000 : Int64) - (p4 - ta))), .second, .val (.long (10000000000 : Int64)), .second, .unset, .unset, .val (.long p2), .second] [(.long p2), (.long p4), (.long (10000000000 : Int64))]))
          refine own_via (fun _ k => XS.lsub X1.here hx rfl (hb hby at_278) rfl k) ?_
          show own_Go p e below s _ _ _ (T1.setTop (mkF m 279 #[.val (.long p0), .second, .val (.long p1), .second, .val (.long p2), .second, .val (.long p3), .second, .val (.long p4), .second, .val (.int p5), .val (.int vb), .val (.int vw), .val (.int va), .val (.int vr), .val (.int vx), .val (.int vy), .val (.ref b), .val (.long ((10000000000 : Int64) - (p4 - ta))), .second, .val (.long (10000000000 : Int64)), .second, .unset, .unset, .val (.long p2), .second] [(.long (p4 - p2)), (.long (10000000000 : Int64))]))
          refine own_via (fun _ k => XS.lsub X1.here hx rfl (hb hby at_279) rfl k) ?_
          show own_Go p e below s _ _ _ (T1.setTop (mkF m 280 #[.val (.long p0), .second, .val (.long p1), .second, .val (.long p2), .second, .val (.long p3), .second, .val (.long p4), .second, .val (.int p5), .val (.int vb), .val (.int vw), .val (.int va), .val (.int vr), .val (.int vx), .val (.int vy), .val (.ref b), .val (.long ((10000000000 : Int64) - (p4 - ta))), .second, .val (.long (10000000000 : Int64)), .second, .unset, .unset, .val (.long p2), .second] [(.long ((10000000000 : Int64) - (p4 - p2)))]))
          refine own_via (fun _ k => XS.lstore X1.here hx rfl (hb hby at_280) rfl (l' := #[.val (.long p0), .second, .val (.long p1), .second, .val (.long p2), .second, .val (.long p3), .second, .val (.long p4), .second, .val (.int p5), .val (.int vb), .val (.int vw), .val (.int va), .val (.int vr), .val (.int vx), .val (.int vy), .val (.ref b), .val (.long ((10000000000 : Int64) - (p4 - ta))), .second, .val (.long (10000000000 : Int64)), .second, .val (.long ((10000000000 : Int64) - (p4 - p2))), .second, .val (.long p2), .second]) rfl k) ?_
          show own_Go p e below s _ _ _ (T1.setTop (mkF m 282 #[.val (.long p0), .second, .val (.long p1), .second, .val (.long p2), .second, .val (.long p3), .second, .val (.long p4), .second, .val (.int p5), .val (.int vb), .val (.int vw), .val (.int va), .val (.int vr), .val (.int vx), .val (.int vy), .val (.ref b), .val (.long ((10000000000 : Int64) - (p4 - ta))), .second, .val (.long (10000000000 : Int64)), .second, .val (.long ((10000000000 : Int64) - (p4 - p2))), .second, .val (.long p2), .second] []))
          refine own_via (fun _ k => XS.goto X1.here hx rfl (pc0 := 282) (pc' := 329) rfl (hb hby at_282) (by decide) (by decide) k) ?_
          show own_Go p e below s _ _ _ (T1.setTop (mkF m 329 #[.val (.long p0), .second, .val (.long p1), .second, .val (.long p2), .second, .val (.long p3), .second, .val (.long p4), .second, .val (.int p5), .val (.int vb), .val (.int vw), .val (.int va), .val (.int vr), .val (.int vx), .val (.int vy), .val (.ref b), .val (.long ((10000000000 : Int64) - (p4 - ta))), .second, .val (.long (10000000000 : Int64)), .second, .val (.long ((10000000000 : Int64) - (p4 - p2))), .second, .val (.long p2), .second] []))
          refine own_via (fun _ k => XS.lload X1.here hx rfl (hb hby at_329) rfl k) ?_
          show own_Go p e below s _ _ _ (T1.setTop (mkF m 331 #[.val (.long p0), .second, .val (.long p1), .second, .val (.long p2), .second, .val (.long p3), .second, .val (.long p4), .second, .val (.int p5), .val (.int vb), .val (.int vw), .val (.int va), .val (.int vr), .val (.int vx), .val (.int vy), .val (.ref b), .val (.long ((10000000000 : Int64) - (p4 - ta))), .second, .val (.long (10000000000 : Int64)), .second, .val (.long ((10000000000 : Int64) - (p4 - p2))), .second, .val (.long p2), .second] [(.long ((10000000000 : Int64) - (p4 - ta)))]))
          refine own_via (fun _ k => XS.lload X1.here hx rfl (hb hby at_331) rfl k) ?_
          show own_Go p e below s _ _ _ (T1.setTop (mkF m 333 #[.val (.long p0), .second, .val (.long p1), .second, .val (.long p2), .second, .val (.long p3), .second, .val (.long p4), .second, .val (.int p5), .val (.int vb), .val (.int vw), .val (.int va), .val (.int vr), .val (.int vx), .val (.int vy), .val (.ref b), .val (.long ((10000000000 : Int64) - (p4 - ta))), .second, .val (.long (10000000000 : Int64)), .second, .val (.long ((10000000000 : Int64) - (p4 - p2))), .second, .val (.long p2), .second] [(.long ((10000000000 : Int64) - (p4 - p2))), (.long ((10000000000 : Int64) - (p4 - ta)))]))
          refine own_via (fun _ k => XS.lcmp X1.here hx rfl (hb hby at_333) rfl k) ?_
          show own_Go p e below s _ _ _ (T1.setTop (mkF m 334 #[.val (.long p0), .second, .val (.long p1), .second, .val (.long p2), .second, .val (.long p3), .second, .val (.long p4), .second, .val (.int p5), .val (.int vb), .val (.int vw), .val (.int va), .val (.int vr), .val (.int vx), .val (.int vy), .val (.ref b), .val (.long ((10000000000 : Int64) - (p4 - ta))), .second, .val (.long (10000000000 : Int64)), .second, .val (.long ((10000000000 : Int64) - (p4 - p2))), .second, .val (.long p2), .second] [(.int (lcmpW ((10000000000 : Int64) - (p4 - ta)) ((10000000000 : Int64) - (p4 - p2))))]))
          by_cases hc5 : ((10000000000 : Int64) - (p4 - ta)) = ((10000000000 : Int64) - (p4 - p2))
          · refine own_via (fun _ k => XS.ifNo X1.here hx rfl (hb hby at_334) rfl ((if0 _ _).trans (teq ((lw_eq ((10000000000 : Int64) - (p4 - ta)) ((10000000000 : Int64) - (p4 - p2))).mpr hc5)).2) k) ?_
            show own_Go p e below s _ _ _ (T1.setTop (mkF m 337 #[.val (.long p0), .second, .val (.long p1), .second, .val (.long p2), .second, .val (.long p3), .second, .val (.long p4), .second, .val (.int p5), .val (.int vb), .val (.int vw), .val (.int va), .val (.int vr), .val (.int vx), .val (.int vy), .val (.ref b), .val (.long ((10000000000 : Int64) - (p4 - ta))), .second, .val (.long (10000000000 : Int64)), .second, .val (.long ((10000000000 : Int64) - (p4 - p2))), .second, .val (.long p2), .second] []))
            refine own_via (fun _ k => XS.iconst X1.here hx rfl (hb hby at_337) k) ?_
            show own_Go p e below s _ _ _ (T1.setTop (mkF m 338 #[.val (.long p0), .second, .val (.long p1), .second, .val (.long p2), .second, .val (.long p3), .second, .val (.long p4), .second, .val (.int p5), .val (.int vb), .val (.int vw), .val (.int va), .val (.int vr), .val (.int vx), .val (.int vy), .val (.ref b), .val (.long ((10000000000 : Int64) - (p4 - ta))), .second, .val (.long (10000000000 : Int64)), .second, .val (.long ((10000000000 : Int64) - (p4 - p2))), .second, .val (.long p2), .second] [(.int (1 : Int32))]))
            refine own_via (fun _ k => XS.goto X1.here hx rfl (pc0 := 338) (pc' := 342) rfl (hb hby at_338) (by decide) (by decide) k) ?_
            show own_Go p e below s _ _ _ (T1.setTop (mkF m 342 #[.val (.long p0), .second, .val (.long p1), .second, .val (.long p2), .second, .val (.long p3), .second, .val (.long p4), .second, .val (.int p5), .val (.int vb), .val (.int vw), .val (.int va), .val (.int vr), .val (.int vx), .val (.int vy), .val (.ref b), .val (.long ((10000000000 : Int64) - (p4 - ta))), .second, .val (.long (10000000000 : Int64)), .second, .val (.long ((10000000000 : Int64) - (p4 - p2))), .second, .val (.long p2), .second] [(.int (1 : Int32))]))
            exact own_retZ X1 hx hlk (t := .boolean) Bd.returns (by simp) (hb hby at_342) (z' := (1 : Int32)) (by first | rfl | decide) ⟨rfl, (Fr.app N NQ1)⟩ (by decide) (by decide)
          · have hXY : ta = p2 := by
              apply Int64.toInt_inj.mp
              clear hb0 hb1 hb2 hb3 hb4 hb5 hb6 hb7 hb8 hb9 hb11
              have ar0 := rng32 va
              have ar1 := rng64 ta
              have ar2 := rng64 p2
              simp only [Int64.lt_iff_toInt_lt, ← Int64.toInt_inj, Int32.lt_iff_toInt_lt, ← Int32.toInt_inj, (show (0 : Int32).toInt = 0 from rfl), and_true, true_and, and_false, false_and, or_true, true_or, or_false, false_or] at hc4 ar0 ar1 ar2 ⊢ <;> omega
            exact absurd (by rw [hXY]) hc5
        · refine own_via (fun _ k => XS.ifYes X1.here hx rfl (pc0 := 261) (pc' := 269) rfl (hb hby at_261) rfl ((if0 _ _).trans (flt hc4).2.2.2) (by decide) (by decide) k) ?_
          show own_Go p e below s _ _ _ (T1.setTop (mkF m 269 #[.val (.long p0), .second, .val (.long p1), .second, .val (.long p2), .second, .val (.long p3), .second, .val (.long p4), .second, .val (.int p5), .val (.int vb), .val (.int vw), .val (.int va), .val (.int vr), .val (.int vx), .val (.int vy), .val (.ref b), .val (.long ((10000000000 : Int64) - (p4 - ta))), .second, .val (.long (10000000000 : Int64)), .second, .unset, .unset, .unset, .unset] []))
          refine own_via (fun _ k => XS.lloadN X1.here hx rfl (hb hby at_269) rfl k) ?_
          show own_Go p e below s _ _ _ (T1.setTop (mkF m 270 #[.val (.long p0), .second, .val (.long p1), .second, .val (.long p2), .second, .val (.long p3), .second, .val (.long p4), .second, .val (.int p5), .val (.int vb), .val (.int vw), .val (.int va), .val (.int vr), .val (.int vx), .val (.int vy), .val (.ref b), .val (.long ((10000000000 : Int64) - (p4 - ta))), .second, .val (.long (10000000000 : Int64)), .second, .unset, .unset, .unset, .unset] [(.long p0)]))
          refine own_via (fun _ k => XS.lstore X1.here hx rfl (hb hby at_270) rfl (l' := #[.val (.long p0), .second, .val (.long p1), .second, .val (.long p2), .second, .val (.long p3), .second, .val (.long p4), .second, .val (.int p5), .val (.int vb), .val (.int vw), .val (.int va), .val (.int vr), .val (.int vx), .val (.int vy), .val (.ref b), .val (.long ((10000000000 : Int64) - (p4 - ta))), .second, .val (.long (10000000000 : Int64)), .second, .unset, .unset, .val (.long p0), .second]) rfl k) ?_
          show own_Go p e below s _ _ _ (T1.setTop (mkF m 272 #[.val (.long p0), .second, .val (.long p1), .second, .val (.long p2), .second, .val (.long p3), .second, .val (.long p4), .second, .val (.int p5), .val (.int vb), .val (.int vw), .val (.int va), .val (.int vr), .val (.int vx), .val (.int vy), .val (.ref b), .val (.long ((10000000000 : Int64) - (p4 - ta))), .second, .val (.long (10000000000 : Int64)), .second, .unset, .unset, .val (.long p0), .second] []))
          refine own_via (fun _ k => XS.lload X1.here hx rfl (hb hby at_272) rfl k) ?_
          show own_Go p e below s _ _ _ (T1.setTop (mkF m 274 #[.val (.long p0), .second, .val (.long p1), .second, .val (.long p2), .second, .val (.long p3), .second, .val (.long p4), .second, .val (.int p5), .val (.int vb), .val (.int vw), .val (.int va), .val (.int vr), .val (.int vx), .val (.int vy), .val (.ref b), .val (.long ((10000000000 : Int64) - (p4 - ta))), .second, .val (.long (10000000000 : Int64)), .second, .unset, .unset, .val (.long p0), .second] [(.long (10000000000 : Int64))]))
          refine own_via (fun _ k => XS.lload X1.here hx rfl (hb hby at_274) rfl k) ?_
          show own_Go p e below s _ _ _ (T1.setTop (mkF m 276 #[.val (.long p0), .second, .val (.long p1), .second, .val (.long p2), .second, .val (.long p3), .second, .val (.long p4), .second, .val (.int p5), .val (.int vb), .val (.int vw), .val (.int va), .val (.int vr), .val (.int vx), .val (.int vy), .val (.ref b), .val (.long ((10000000000 : Int64) - (p4 - ta))), .second, .val (.long (10000000000 : Int64)), .second, .unset, .unset, .val (.long p0), .second] [(.long p4), (.long (10000000000 : Int64))]))
          refine own_via (fun _ k => XS.lload X1.here hx rfl (hb hby at_276) rfl k) ?_
          show own_Go p e below s _ _ _ (T1.setTop (mkF m 278 #[.val (.long p0), .second, .val (.long p1), .second, .val (.long p2), .second, .val (.long p3), .second, .val (.long p4), .second, .val (.int p5), .val (.int vb), .val (.int vw), .val (.int va), .val (.int vr), .val (.int vx), .val (.int vy), .val (.ref b), .val (.long ((10000000000 : Int64) - (p4 - ta))), .second, .val (.long (10000000000 : Int64)), .second, .unset, .unset, .val (.long p0), .second] [(.long p0), (.long p4), (.long (10000000000 : Int64))]))
          refine own_via (fun _ k => XS.lsub X1.here hx rfl (hb hby at_278) rfl k) ?_
          show own_Go p e below s _ _ _ (T1.setTop (mkF m 279 #[.val (.long p0), .second, .val (.long p1), .second, .val (.long p2), .second, .val (.long p3), .second, .val (.long p4), .second, .val (.int p5), .val (.int vb), .val (.int vw), .val (.int va), .val (.int vr), .val (.int vx), .val (.int vy), .val (.ref b), .val (.long ((10000000000 : Int64) - (p4 - ta))), .second, .val (.long (10000000000 : Int64)), .second, .unset, .unset, .val (.long p0), .second] [(.long (p4 - p0)), (.long (10000000000 : Int64))]))
          refine own_via (fun _ k => XS.lsub X1.here hx rfl (hb hby at_279) rfl k) ?_
          show own_Go p e below s _ _ _ (T1.setTop (mkF m 280 #[.val (.long p0), .second, .val (.long p1), .second, .val (.long p2), .second, .val (.long p3), .second, .val (.long p4), .second, .val (.int p5), .val (.int vb), .val (.int vw), .val (.int va), .val (.int vr), .val (.int vx), .val (.int vy), .val (.ref b), .val (.long ((10000000000 : Int64) - (p4 - ta))), .second, .val (.long (10000000000 : Int64)), .second, .unset, .unset, .val (.long p0), .second] [(.long ((10000000000 : Int64) - (p4 - p0)))]))
          refine own_via (fun _ k => XS.lstore X1.here hx rfl (hb hby at_280) rfl (l' := #[.val (.long p0), .second, .val (.long p1), .second, .val (.long p2), .second, .val (.long p3), .second, .val (.long p4), .second, .val (.int p5), .val (.int vb), .val (.int vw), .val (.int va), .val (.int vr), .val (.int vx), .val (.int vy), .val (.ref b), .val (.long ((10000000000 : Int64) - (p4 - ta))), .second, .val (.long (10000000000 : Int64)), .second, .val (.long ((10000000000 : Int64) - (p4 - p0))), .second, .val (.long p0), .second]) rfl k) ?_
          show own_Go p e below s _ _ _ (T1.setTop (mkF m 282 #[.val (.long p0), .second, .val (.long p1), .second, .val (.long p2), .second, .val (.long p3), .second, .val (.long p4), .second, .val (.int p5), .val (.int vb), .val (.int vw), .val (.int va), .val (.int vr), .val (.int vx), .val (.int vy), .val (.ref b), .val (.long ((10000000000 : Int64) - (p4 - ta))), .second, .val (.long (10000000000 : Int64)), .second, .val (.long ((10000000000 : Int64) - (p4 - p0))), .second, .val (.long p0), .second] []))
          refine own_via (fun _ k => XS.goto X1.here hx rfl (pc0 := 282) (pc' := 329) rfl (hb hby at_282) (by decide) (by decide) k) ?_
          show own_Go p e below s _ _ _ (T1.setTop (mkF m 329 #[.val (.long p0), .second, .val (.long p1), .second, .val (.long p2), .second, .val (.long p3), .second, .val (.long p4), .second, .val (.int p5), .val (.int vb), .val (.int vw), .val (.int va), .val (.int vr), .val (.int vx), .val (.int vy), .val (.ref b), .val (.long ((10000000000 : Int64) - (p4 - ta))), .second, .val (.long (10000000000 : Int64)), .second, .val (.long ((10000000000 : Int64) - (p4 - p0))), .second, .val (.long p0), .second] []))
          refine own_via (fun _ k => XS.lload X1.here hx rfl (hb hby at_329) rfl k) ?_
          show own_Go p e below s _ _ _ (T1.setTop (mkF m 331 #[.val (.long p0), .second, .val (.long p1), .second, .val (.long p2), .second, .val (.long p3), .second, .val (.long p4), .second, .val (.int p5), .val (.int vb), .val (.int vw), .val (.int va), .val (.int vr), .val (.int vx), .val (.int vy), .val (.ref b), .val (.long ((10000000000 : Int64) - (p4 - ta))), .second, .val (.long (10000000000 : Int64)), .second, .val (.long ((10000000000 : Int64) - (p4 - p0))), .second, .val (.long p0), .second] [(.long ((10000000000 : Int64) - (p4 - ta)))]))
          refine own_via (fun _ k => XS.lload X1.here hx rfl (hb hby at_331) rfl k) ?_
          show own_Go p e below s _ _ _ (T1.setTop (mkF m 333 #[.val (.long p0), .second, .val (.long p1), .second, .val (.long p2), .second, .val (.long p3), .second, .val (.long p4), .second, .val (.int p5), .val (.int vb), .val (.int vw), .val (.int va), .val (.int vr), .val (.int vx), .val (.int vy), .val (.ref b), .val (.long ((10000000000 : Int64) - (p4 - ta))), .second, .val (.long (10000000000 : Int64)), .second, .val (.long ((10000000000 : Int64) - (p4 - p0))), .second, .val (.long p0), .second] [(.long ((10000000000 : Int64) - (p4 - p0))), (.long ((10000000000 : Int64) - (p4 - ta)))]))
          refine own_via (fun _ k => XS.lcmp X1.here hx rfl (hb hby at_333) rfl k) ?_
          show own_Go p e below s _ _ _ (T1.setTop (mkF m 334 #[.val (.long p0), .second, .val (.long p1), .second, .val (.long p2), .second, .val (.long p3), .second, .val (.long p4), .second, .val (.int p5), .val (.int vb), .val (.int vw), .val (.int va), .val (.int vr), .val (.int vx), .val (.int vy), .val (.ref b), .val (.long ((10000000000 : Int64) - (p4 - ta))), .second, .val (.long (10000000000 : Int64)), .second, .val (.long ((10000000000 : Int64) - (p4 - p0))), .second, .val (.long p0), .second] [(.int (lcmpW ((10000000000 : Int64) - (p4 - ta)) ((10000000000 : Int64) - (p4 - p0))))]))
          by_cases hc6 : ((10000000000 : Int64) - (p4 - ta)) = ((10000000000 : Int64) - (p4 - p0))
          · refine own_via (fun _ k => XS.ifNo X1.here hx rfl (hb hby at_334) rfl ((if0 _ _).trans (teq ((lw_eq ((10000000000 : Int64) - (p4 - ta)) ((10000000000 : Int64) - (p4 - p0))).mpr hc6)).2) k) ?_
            show own_Go p e below s _ _ _ (T1.setTop (mkF m 337 #[.val (.long p0), .second, .val (.long p1), .second, .val (.long p2), .second, .val (.long p3), .second, .val (.long p4), .second, .val (.int p5), .val (.int vb), .val (.int vw), .val (.int va), .val (.int vr), .val (.int vx), .val (.int vy), .val (.ref b), .val (.long ((10000000000 : Int64) - (p4 - ta))), .second, .val (.long (10000000000 : Int64)), .second, .val (.long ((10000000000 : Int64) - (p4 - p0))), .second, .val (.long p0), .second] []))
            refine own_via (fun _ k => XS.iconst X1.here hx rfl (hb hby at_337) k) ?_
            show own_Go p e below s _ _ _ (T1.setTop (mkF m 338 #[.val (.long p0), .second, .val (.long p1), .second, .val (.long p2), .second, .val (.long p3), .second, .val (.long p4), .second, .val (.int p5), .val (.int vb), .val (.int vw), .val (.int va), .val (.int vr), .val (.int vx), .val (.int vy), .val (.ref b), .val (.long ((10000000000 : Int64) - (p4 - ta))), .second, .val (.long (10000000000 : Int64)), .second, .val (.long ((10000000000 : Int64) - (p4 - p0))), .second, .val (.long p0), .second] [(.int (1 : Int32))]))
            refine own_via (fun _ k => XS.goto X1.here hx rfl (pc0 := 338) (pc' := 342) rfl (hb hby at_338) (by decide) (by decide) k) ?_
            show own_Go p e below s _ _ _ (T1.setTop (mkF m 342 #[.val (.long p0), .second, .val (.long p1), .second, .val (.long p2), .second, .val (.long p3), .second, .val (.long p4), .second, .val (.int p5), .val (.int vb), .val (.int vw), .val (.int va), .val (.int vr), .val (.int vx), .val (.int vy), .val (.ref b), .val (.long ((10000000000 : Int64) - (p4 - ta))), .second, .val (.long (10000000000 : Int64)), .second, .val (.long ((10000000000 : Int64) - (p4 - p0))), .second, .val (.long p0), .second] [(.int (1 : Int32))]))
            exact own_retZ X1 hx hlk (t := .boolean) Bd.returns (by simp) (hb hby at_342) (z' := (1 : Int32)) (by first | rfl | decide) ⟨rfl, (Fr.app N NQ1)⟩ (by decide) (by decide)
          · have hXY : ta = p0 := by
              apply Int64.toInt_inj.mp
              clear hb0 hb1 hb2 hb3 hb4 hb5 hb6 hb7 hb8 hb9 hb11
              have ar0 := rng32 va
              have ar1 := rng64 ta
              have ar2 := rng64 p0
              simp only [Int64.lt_iff_toInt_lt, ← Int64.toInt_inj, Int32.lt_iff_toInt_lt, ← Int32.toInt_inj, (show (0 : Int32).toInt = 0 from rfl), and_true, true_and, and_false, false_and, or_true, true_or, or_false, false_or] at hc4 ar0 ar1 ar2 ⊢ <;> omega
            exact absurd (by rw [hXY]) hc6
      · exfalso
        clear hb0 hb1 hb2 hb3 hb4 hb5 hb6 hb8 hb10 hb11
        have ar0 := rng64 an
        have ar1 := rng64 bg
        have ar2 := rng32 va
        have ar3 := rng32 vb
        simp only [Int64.lt_iff_toInt_lt, ← Int64.toInt_inj, Int32.lt_iff_toInt_lt, ← Int32.toInt_inj] at hr1_0_1 hc3 ar0 ar1 ar2 ar3
        omega
    · exfalso
      clear hb0 hb1 hb2 hb3 hb4 hb5 hb6 hb7 hb8 hb9 hb10
      have ar0 := rng32 ex
      have ar1 := rng32 vx
      simp only [Int64.lt_iff_toInt_lt, ← Int64.toInt_inj, Int32.lt_iff_toInt_lt, ← Int32.toInt_inj, (show (0 : Int32).toInt = 0 from rfl)] at hr1_0_0 hc2 ar0 ar1
      omega
  · have OL := OLq1
    have Z0 := Zq1
    have OB_b := OBq1_b
    refine own_tr st1 ?_
    show own_Go p e below s _ _ _ (T1.setTop (mkF m 227 #[.val (.long p0), .second, .val (.long p1), .second, .val (.long p2), .second, .val (.long p3), .second, .val (.long p4), .second, .val (.int p5), .val (.int vb), .val (.int vw), .val (.int va), .val (.int vr), .val (.int vx), .val (.int vy), .val (.ref b), .unset, .unset, .unset, .unset, .unset, .unset, .unset, .unset] [(.long ((10000000000 : Int64) - (p4 - aa)))]))
    refine own_via (fun _ k => XS.lstore X1.here hx rfl (hb hby at_227) rfl (l' := #[.val (.long p0), .second, .val (.long p1), .second, .val (.long p2), .second, .val (.long p3), .second, .val (.long p4), .second, .val (.int p5), .val (.int vb), .val (.int vw), .val (.int va), .val (.int vr), .val (.int vx), .val (.int vy), .val (.ref b), .val (.long ((10000000000 : Int64) - (p4 - aa))), .second, .unset, .unset, .unset, .unset, .unset, .unset]) rfl k) ?_
    show own_Go p e below s _ _ _ (T1.setTop (mkF m 229 #[.val (.long p0), .second, .val (.long p1), .second, .val (.long p2), .second, .val (.long p3), .second, .val (.long p4), .second, .val (.int p5), .val (.int vb), .val (.int vw), .val (.int va), .val (.int vr), .val (.int vx), .val (.int vy), .val (.ref b), .val (.long ((10000000000 : Int64) - (p4 - aa))), .second, .unset, .unset, .unset, .unset, .unset, .unset] []))
    refine own_via (fun _ k => X1.ldc2Long hx hown (mvT hZ (hw _ (List.mem_of_getElem? (i := 33) rfl))) (g := (mkF m 229 #[.val (.long p0), .second, .val (.long p1), .second, .val (.long p2), .second, .val (.long p3), .second, .val (.long p4), .second, .val (.int p5), .val (.int vb), .val (.int vw), .val (.int va), .val (.int vr), .val (.int vx), .val (.int vy), .val (.ref b), .val (.long ((10000000000 : Int64) - (p4 - aa))), .second, .unset, .unset, .unset, .unset, .unset, .unset] [])) rfl (hb hby at_229) _ k) ?_
    show own_Go p e below s _ _ _ (T1.setTop (mkF m 232 #[.val (.long p0), .second, .val (.long p1), .second, .val (.long p2), .second, .val (.long p3), .second, .val (.long p4), .second, .val (.int p5), .val (.int vb), .val (.int vw), .val (.int va), .val (.int vr), .val (.int vx), .val (.int vy), .val (.ref b), .val (.long ((10000000000 : Int64) - (p4 - aa))), .second, .unset, .unset, .unset, .unset, .unset, .unset] [(.long (10000000000 : Int64))]))
    refine own_via (fun _ k => XS.lstore X1.here hx rfl (hb hby at_232) rfl (l' := #[.val (.long p0), .second, .val (.long p1), .second, .val (.long p2), .second, .val (.long p3), .second, .val (.long p4), .second, .val (.int p5), .val (.int vb), .val (.int vw), .val (.int va), .val (.int vr), .val (.int vx), .val (.int vy), .val (.ref b), .val (.long ((10000000000 : Int64) - (p4 - aa))), .second, .val (.long (10000000000 : Int64)), .second, .unset, .unset, .unset, .unset]) rfl k) ?_
    show own_Go p e below s _ _ _ (T1.setTop (mkF m 234 #[.val (.long p0), .second, .val (.long p1), .second, .val (.long p2), .second, .val (.long p3), .second, .val (.long p4), .second, .val (.int p5), .val (.int vb), .val (.int vw), .val (.int va), .val (.int vr), .val (.int vx), .val (.int vy), .val (.ref b), .val (.long ((10000000000 : Int64) - (p4 - aa))), .second, .val (.long (10000000000 : Int64)), .second, .unset, .unset, .unset, .unset] []))
    refine own_via (fun _ k => XS.iload X1.here hx rfl (hb hby at_234) rfl k) ?_
    show own_Go p e below s _ _ _ (T1.setTop (mkF m 236 #[.val (.long p0), .second, .val (.long p1), .second, .val (.long p2), .second, .val (.long p3), .second, .val (.long p4), .second, .val (.int p5), .val (.int vb), .val (.int vw), .val (.int va), .val (.int vr), .val (.int vx), .val (.int vy), .val (.ref b), .val (.long ((10000000000 : Int64) - (p4 - aa))), .second, .val (.long (10000000000 : Int64)), .second, .unset, .unset, .unset, .unset] [(.int vx)]))
    by_cases hc7 : vx = (0 : Int32)
    · refine own_via (fun _ k => XS.ifYes X1.here hx rfl (pc0 := 236) (pc' := 252) rfl (hb hby at_236) rfl ((if0 _ _).trans (teq hc7).1) (by decide) (by decide) k) ?_
      show own_Go p e below s _ _ _ (T1.setTop (mkF m 252 #[.val (.long p0), .second, .val (.long p1), .second, .val (.long p2), .second, .val (.long p3), .second, .val (.long p4), .second, .val (.int p5), .val (.int vb), .val (.int vw), .val (.int va), .val (.int vr), .val (.int vx), .val (.int vy), .val (.ref b), .val (.long ((10000000000 : Int64) - (p4 - aa))), .second, .val (.long (10000000000 : Int64)), .second, .unset, .unset, .unset, .unset] []))
      refine own_via (fun _ k => XS.iload X1.here hx rfl (hb hby at_252) rfl k) ?_
      show own_Go p e below s _ _ _ (T1.setTop (mkF m 254 #[.val (.long p0), .second, .val (.long p1), .second, .val (.long p2), .second, .val (.long p3), .second, .val (.long p4), .second, .val (.int p5), .val (.int vb), .val (.int vw), .val (.int va), .val (.int vr), .val (.int vx), .val (.int vy), .val (.ref b), .val (.long ((10000000000 : Int64) - (p4 - aa))), .second, .val (.long (10000000000 : Int64)), .second, .unset, .unset, .unset, .unset] [(.int va)]))
      refine own_via (fun _ k => XS.iload X1.here hx rfl (hb hby at_254) rfl k) ?_
      show own_Go p e below s _ _ _ (T1.setTop (mkF m 256 #[.val (.long p0), .second, .val (.long p1), .second, .val (.long p2), .second, .val (.long p3), .second, .val (.long p4), .second, .val (.int p5), .val (.int vb), .val (.int vw), .val (.int va), .val (.int vr), .val (.int vx), .val (.int vy), .val (.ref b), .val (.long ((10000000000 : Int64) - (p4 - aa))), .second, .val (.long (10000000000 : Int64)), .second, .unset, .unset, .unset, .unset] [(.int vb), (.int va)]))
      by_cases hc8 : va = vb
      · exfalso
        clear hb0 hb1 hb2 hb3 hb4 hb5 hb6 hb8 hb10 hb11
        have ar0 := rng64 an
        have ar1 := rng64 bg
        have ar2 := rng32 va
        have ar3 := rng32 vb
        simp only [Int64.lt_iff_toInt_lt, ← Int64.toInt_inj, Int32.lt_iff_toInt_lt, ← Int32.toInt_inj] at hr1_1_1 hc8 ar0 ar1 ar2 ar3
        omega
      · refine own_via (fun _ k => XS.icmpYes X1.here hx rfl (pc0 := 256) (pc' := 285) rfl (hb hby at_256) rfl (feq hc8).2 (by decide) (by decide) k) ?_
        show own_Go p e below s _ _ _ (T1.setTop (mkF m 285 #[.val (.long p0), .second, .val (.long p1), .second, .val (.long p2), .second, .val (.long p3), .second, .val (.long p4), .second, .val (.int p5), .val (.int vb), .val (.int vw), .val (.int va), .val (.int vr), .val (.int vx), .val (.int vy), .val (.ref b), .val (.long ((10000000000 : Int64) - (p4 - aa))), .second, .val (.long (10000000000 : Int64)), .second, .unset, .unset, .unset, .unset] []))
        refine own_via (fun _ k => XS.iload X1.here hx rfl (hb hby at_285) rfl k) ?_
        show own_Go p e below s _ _ _ (T1.setTop (mkF m 287 #[.val (.long p0), .second, .val (.long p1), .second, .val (.long p2), .second, .val (.long p3), .second, .val (.long p4), .second, .val (.int p5), .val (.int vb), .val (.int vw), .val (.int va), .val (.int vr), .val (.int vx), .val (.int vy), .val (.ref b), .val (.long ((10000000000 : Int64) - (p4 - aa))), .second, .val (.long (10000000000 : Int64)), .second, .unset, .unset, .unset, .unset] [(.int vw)]))
        refine own_via (fun _ k => XS.iload X1.here hx rfl (hb hby at_287) rfl k) ?_
        show own_Go p e below s _ _ _ (T1.setTop (mkF m 289 #[.val (.long p0), .second, .val (.long p1), .second, .val (.long p2), .second, .val (.long p3), .second, .val (.long p4), .second, .val (.int p5), .val (.int vb), .val (.int vw), .val (.int va), .val (.int vr), .val (.int vx), .val (.int vy), .val (.ref b), .val (.long ((10000000000 : Int64) - (p4 - aa))), .second, .val (.long (10000000000 : Int64)), .second, .unset, .unset, .unset, .unset] [(.int vb), (.int vw)]))
        by_cases hc9 : vw < vb
        · refine own_via (fun _ k => XS.icmpNo X1.here hx rfl (hb hby at_289) rfl (tlt hc9).2.1 k) ?_
          show own_Go p e below s _ _ _ (T1.setTop (mkF m 292 #[.val (.long p0), .second, .val (.long p1), .second, .val (.long p2), .second, .val (.long p3), .second, .val (.long p4), .second, .val (.int p5), .val (.int vb), .val (.int vw), .val (.int va), .val (.int vr), .val (.int vx), .val (.int vy), .val (.ref b), .val (.long ((10000000000 : Int64) - (p4 - aa))), .second, .val (.long (10000000000 : Int64)), .second, .unset, .unset, .unset, .unset] []))
          refine own_via (fun _ k => XS.iload X1.here hx rfl (hb hby at_292) rfl k) ?_
          show own_Go p e below s _ _ _ (T1.setTop (mkF m 294 #[.val (.long p0), .second, .val (.long p1), .second, .val (.long p2), .second, .val (.long p3), .second, .val (.long p4), .second, .val (.int p5), .val (.int vb), .val (.int vw), .val (.int va), .val (.int vr), .val (.int vx), .val (.int vy), .val (.ref b), .val (.long ((10000000000 : Int64) - (p4 - aa))), .second, .val (.long (10000000000 : Int64)), .second, .unset, .unset, .unset, .unset] [(.int va)]))
          refine own_via (fun _ k => XS.iload X1.here hx rfl (hb hby at_294) rfl k) ?_
          show own_Go p e below s _ _ _ (T1.setTop (mkF m 296 #[.val (.long p0), .second, .val (.long p1), .second, .val (.long p2), .second, .val (.long p3), .second, .val (.long p4), .second, .val (.int p5), .val (.int vb), .val (.int vw), .val (.int va), .val (.int vr), .val (.int vx), .val (.int vy), .val (.ref b), .val (.long ((10000000000 : Int64) - (p4 - aa))), .second, .val (.long (10000000000 : Int64)), .second, .unset, .unset, .unset, .unset] [(.int vw), (.int va)]))
          by_cases hc10 : va = vw
          · refine own_via (fun _ k => XS.icmpNo X1.here hx rfl (hb hby at_296) rfl (teq hc10).2 k) ?_
            show own_Go p e below s _ _ _ (T1.setTop (mkF m 299 #[.val (.long p0), .second, .val (.long p1), .second, .val (.long p2), .second, .val (.long p3), .second, .val (.long p4), .second, .val (.int p5), .val (.int vb), .val (.int vw), .val (.int va), .val (.int vr), .val (.int vx), .val (.int vy), .val (.ref b), .val (.long ((10000000000 : Int64) - (p4 - aa))), .second, .val (.long (10000000000 : Int64)), .second, .unset, .unset, .unset, .unset] []))
            refine own_via (fun _ k => XS.iload X1.here hx rfl (hb hby at_299) rfl k) ?_
            show own_Go p e below s _ _ _ (T1.setTop (mkF m 301 #[.val (.long p0), .second, .val (.long p1), .second, .val (.long p2), .second, .val (.long p3), .second, .val (.long p4), .second, .val (.int p5), .val (.int vb), .val (.int vw), .val (.int va), .val (.int vr), .val (.int vx), .val (.int vy), .val (.ref b), .val (.long ((10000000000 : Int64) - (p4 - aa))), .second, .val (.long (10000000000 : Int64)), .second, .unset, .unset, .unset, .unset] [(.int vr)]))
            by_cases hc11 : vr = (0 : Int32)
            · refine own_via (fun _ k => XS.ifYes X1.here hx rfl (pc0 := 301) (pc' := 308) rfl (hb hby at_301) rfl ((if0 _ _).trans (teq hc11).1) (by decide) (by decide) k) ?_
              show own_Go p e below s _ _ _ (T1.setTop (mkF m 308 #[.val (.long p0), .second, .val (.long p1), .second, .val (.long p2), .second, .val (.long p3), .second, .val (.long p4), .second, .val (.int p5), .val (.int vb), .val (.int vw), .val (.int va), .val (.int vr), .val (.int vx), .val (.int vy), .val (.ref b), .val (.long ((10000000000 : Int64) - (p4 - aa))), .second, .val (.long (10000000000 : Int64)), .second, .unset, .unset, .unset, .unset] []))
              refine own_via (fun _ k => XS.lconst X1.here hx rfl (hb hby at_308) k) ?_
              show own_Go p e below s _ _ _ (T1.setTop (mkF m 309 #[.val (.long p0), .second, .val (.long p1), .second, .val (.long p2), .second, .val (.long p3), .second, .val (.long p4), .second, .val (.int p5), .val (.int vb), .val (.int vw), .val (.int va), .val (.int vr), .val (.int vx), .val (.int vy), .val (.ref b), .val (.long ((10000000000 : Int64) - (p4 - aa))), .second, .val (.long (10000000000 : Int64)), .second, .unset, .unset, .unset, .unset] [(.long (0 : Int64))]))
              refine own_via (fun _ k => XS.lstore X1.here hx rfl (hb hby at_309) rfl (l' := #[.val (.long p0), .second, .val (.long p1), .second, .val (.long p2), .second, .val (.long p3), .second, .val (.long p4), .second, .val (.int p5), .val (.int vb), .val (.int vw), .val (.int va), .val (.int vr), .val (.int vx), .val (.int vy), .val (.ref b), .val (.long ((10000000000 : Int64) - (p4 - aa))), .second, .val (.long (10000000000 : Int64)), .second, .unset, .unset, .val (.long (0 : Int64)), .second]) rfl k) ?_
              show own_Go p e below s _ _ _ (T1.setTop (mkF m 311 #[.val (.long p0), .second, .val (.long p1), .second, .val (.long p2), .second, .val (.long p3), .second, .val (.long p4), .second, .val (.int p5), .val (.int vb), .val (.int vw), .val (.int va), .val (.int vr), .val (.int vx), .val (.int vy), .val (.ref b), .val (.long ((10000000000 : Int64) - (p4 - aa))), .second, .val (.long (10000000000 : Int64)), .second, .unset, .unset, .val (.long (0 : Int64)), .second] []))
              refine own_via (fun _ k => XS.lload X1.here hx rfl (hb hby at_311) rfl k) ?_
              show own_Go p e below s _ _ _ (T1.setTop (mkF m 313 #[.val (.long p0), .second, .val (.long p1), .second, .val (.long p2), .second, .val (.long p3), .second, .val (.long p4), .second, .val (.int p5), .val (.int vb), .val (.int vw), .val (.int va), .val (.int vr), .val (.int vx), .val (.int vy), .val (.ref b), .val (.long ((10000000000 : Int64) - (p4 - aa))), .second, .val (.long (10000000000 : Int64)), .second, .unset, .unset, .val (.long (0 : Int64)), .second] [(.long (10000000000 : Int64))]))
              refine own_via (fun _ k => XS.lload X1.here hx rfl (hb hby at_313) rfl k) ?_
              show own_Go p e below s _ _ _ (T1.setTop (mkF m 315 #[.val (.long p0), .second, .val (.long p1), .second, .val (.long p2), .second, .val (.long p3), .second, .val (.long p4), .second, .val (.int p5), .val (.int vb), .val (.int vw), .val (.int va), .val (.int vr), .val (.int vx), .val (.int vy), .val (.ref b), .val (.long ((10000000000 : Int64) - (p4 - aa))), .second, .val (.long (10000000000 : Int64)), .second, .unset, .unset, .val (.long (0 : Int64)), .second] [(.long p4), (.long (10000000000 : Int64))]))
              refine own_via (fun _ k => XS.lload X1.here hx rfl (hb hby at_315) rfl k) ?_
              show own_Go p e below s _ _ _ (T1.setTop (mkF m 317 #[.val (.long p0), .second, .val (.long p1), .second, .val (.long p2), .second, .val (.long p3), .second, .val (.long p4), .second, .val (.int p5), .val (.int vb), .val (.int vw), .val (.int va), .val (.int vr), .val (.int vx), .val (.int vy), .val (.ref b), .val (.long ((10000000000 : Int64) - (p4 - aa))), .second, .val (.long (10000000000 : Int64)), .second, .unset, .unset, .val (.long (0 : Int64)), .second] [(.long (0 : Int64)), (.long p4), (.long (10000000000 : Int64))]))
              refine own_via (fun _ k => XS.lsub X1.here hx rfl (hb hby at_317) rfl k) ?_
              show own_Go p e below s _ _ _ (T1.setTop (mkF m 318 #[.val (.long p0), .second, .val (.long p1), .second, .val (.long p2), .second, .val (.long p3), .second, .val (.long p4), .second, .val (.int p5), .val (.int vb), .val (.int vw), .val (.int va), .val (.int vr), .val (.int vx), .val (.int vy), .val (.ref b), .val (.long ((10000000000 : Int64) - (p4 - aa))), .second, .val (.long (10000000000 : Int64)), .second, .unset, .unset, .val (.long (0 : Int64)), .second] [(.long (p4 - (0 : Int64))), (.long (10000000000 : Int64))]))
              refine own_via (fun _ k => XS.lsub X1.here hx rfl (hb hby at_318) rfl k) ?_
              show own_Go p e below s _ _ _ (T1.setTop (mkF m 319 #[.val (.long p0), .second, .val (.long p1), .second, .val (.long p2), .second, .val (.long p3), .second, .val (.long p4), .second, .val (.int p5), .val (.int vb), .val (.int vw), .val (.int va), .val (.int vr), .val (.int vx), .val (.int vy), .val (.ref b), .val (.long ((10000000000 : Int64) - (p4 - aa))), .second, .val (.long (10000000000 : Int64)), .second, .unset, .unset, .val (.long (0 : Int64)), .second] [(.long ((10000000000 : Int64) - (p4 - (0 : Int64))))]))
              refine own_via (fun _ k => XS.lstore X1.here hx rfl (hb hby at_319) rfl (l' := #[.val (.long p0), .second, .val (.long p1), .second, .val (.long p2), .second, .val (.long p3), .second, .val (.long p4), .second, .val (.int p5), .val (.int vb), .val (.int vw), .val (.int va), .val (.int vr), .val (.int vx), .val (.int vy), .val (.ref b), .val (.long ((10000000000 : Int64) - (p4 - aa))), .second, .val (.long (10000000000 : Int64)), .second, .val (.long ((10000000000 : Int64) - (p4 - (0 : Int64)))), .second, .val (.long (0 : Int64)), .second]) rfl k) ?_
              show own_Go p e below s _ _ _ (T1.setTop (mkF m 321 #[.val (.long p0), .second, .val (.long p1), .second, .val (.long p2), .second, .val (.long p3), .second, .val (.long p4), .second, .val (.int p5), .val (.int vb), .val (.int vw), .val (.int va), .val (.int vr), .val (.int vx), .val (.int vy), .val (.ref b), .val (.long ((10000000000 : Int64) - (p4 - aa))), .second, .val (.long (10000000000 : Int64)), .second, .val (.long ((10000000000 : Int64) - (p4 - (0 : Int64)))), .second, .val (.long (0 : Int64)), .second] []))
              refine own_via (fun _ k => XS.goto X1.here hx rfl (pc0 := 321) (pc' := 329) rfl (hb hby at_321) (by decide) (by decide) k) ?_
              show own_Go p e below s _ _ _ (T1.setTop (mkF m 329 #[.val (.long p0), .second, .val (.long p1), .second, .val (.long p2), .second, .val (.long p3), .second, .val (.long p4), .second, .val (.int p5), .val (.int vb), .val (.int vw), .val (.int va), .val (.int vr), .val (.int vx), .val (.int vy), .val (.ref b), .val (.long ((10000000000 : Int64) - (p4 - aa))), .second, .val (.long (10000000000 : Int64)), .second, .val (.long ((10000000000 : Int64) - (p4 - (0 : Int64)))), .second, .val (.long (0 : Int64)), .second] []))
              refine own_via (fun _ k => XS.lload X1.here hx rfl (hb hby at_329) rfl k) ?_
              show own_Go p e below s _ _ _ (T1.setTop (mkF m 331 #[.val (.long p0), .second, .val (.long p1), .second, .val (.long p2), .second, .val (.long p3), .second, .val (.long p4), .second, .val (.int p5), .val (.int vb), .val (.int vw), .val (.int va), .val (.int vr), .val (.int vx), .val (.int vy), .val (.ref b), .val (.long ((10000000000 : Int64) - (p4 - aa))), .second, .val (.long (10000000000 : Int64)), .second, .val (.long ((10000000000 : Int64) - (p4 - (0 : Int64)))), .second, .val (.long (0 : Int64)), .second] [(.long ((10000000000 : Int64) - (p4 - aa)))]))
              refine own_via (fun _ k => XS.lload X1.here hx rfl (hb hby at_331) rfl k) ?_
              show own_Go p e below s _ _ _ (T1.setTop (mkF m 333 #[.val (.long p0), .second, .val (.long p1), .second, .val (.long p2), .second, .val (.long p3), .second, .val (.long p4), .second, .val (.int p5), .val (.int vb), .val (.int vw), .val (.int va), .val (.int vr), .val (.int vx), .val (.int vy), .val (.ref b), .val (.long ((10000000000 : Int64) - (p4 - aa))), .second, .val (.long (10000000000 : Int64)), .second, .val (.long ((10000000000 : Int64) - (p4 - (0 : Int64)))), .second, .val (.long (0 : Int64)), .second] [(.long ((10000000000 : Int64) - (p4 - (0 : Int64)))), (.long ((10000000000 : Int64) - (p4 - aa)))]))
              refine own_via (fun _ k => XS.lcmp X1.here hx rfl (hb hby at_333) rfl k) ?_
              show own_Go p e below s _ _ _ (T1.setTop (mkF m 334 #[.val (.long p0), .second, .val (.long p1), .second, .val (.long p2), .second, .val (.long p3), .second, .val (.long p4), .second, .val (.int p5), .val (.int vb), .val (.int vw), .val (.int va), .val (.int vr), .val (.int vx), .val (.int vy), .val (.ref b), .val (.long ((10000000000 : Int64) - (p4 - aa))), .second, .val (.long (10000000000 : Int64)), .second, .val (.long ((10000000000 : Int64) - (p4 - (0 : Int64)))), .second, .val (.long (0 : Int64)), .second] [(.int (lcmpW ((10000000000 : Int64) - (p4 - aa)) ((10000000000 : Int64) - (p4 - (0 : Int64)))))]))
              by_cases hc12 : ((10000000000 : Int64) - (p4 - aa)) = ((10000000000 : Int64) - (p4 - (0 : Int64)))
              · refine own_via (fun _ k => XS.ifNo X1.here hx rfl (hb hby at_334) rfl ((if0 _ _).trans (teq ((lw_eq ((10000000000 : Int64) - (p4 - aa)) ((10000000000 : Int64) - (p4 - (0 : Int64)))).mpr hc12)).2) k) ?_
                show own_Go p e below s _ _ _ (T1.setTop (mkF m 337 #[.val (.long p0), .second, .val (.long p1), .second, .val (.long p2), .second, .val (.long p3), .second, .val (.long p4), .second, .val (.int p5), .val (.int vb), .val (.int vw), .val (.int va), .val (.int vr), .val (.int vx), .val (.int vy), .val (.ref b), .val (.long ((10000000000 : Int64) - (p4 - aa))), .second, .val (.long (10000000000 : Int64)), .second, .val (.long ((10000000000 : Int64) - (p4 - (0 : Int64)))), .second, .val (.long (0 : Int64)), .second] []))
                refine own_via (fun _ k => XS.iconst X1.here hx rfl (hb hby at_337) k) ?_
                show own_Go p e below s _ _ _ (T1.setTop (mkF m 338 #[.val (.long p0), .second, .val (.long p1), .second, .val (.long p2), .second, .val (.long p3), .second, .val (.long p4), .second, .val (.int p5), .val (.int vb), .val (.int vw), .val (.int va), .val (.int vr), .val (.int vx), .val (.int vy), .val (.ref b), .val (.long ((10000000000 : Int64) - (p4 - aa))), .second, .val (.long (10000000000 : Int64)), .second, .val (.long ((10000000000 : Int64) - (p4 - (0 : Int64)))), .second, .val (.long (0 : Int64)), .second] [(.int (1 : Int32))]))
                refine own_via (fun _ k => XS.goto X1.here hx rfl (pc0 := 338) (pc' := 342) rfl (hb hby at_338) (by decide) (by decide) k) ?_
                show own_Go p e below s _ _ _ (T1.setTop (mkF m 342 #[.val (.long p0), .second, .val (.long p1), .second, .val (.long p2), .second, .val (.long p3), .second, .val (.long p4), .second, .val (.int p5), .val (.int vb), .val (.int vw), .val (.int va), .val (.int vr), .val (.int vx), .val (.int vy), .val (.ref b), .val (.long ((10000000000 : Int64) - (p4 - aa))), .second, .val (.long (10000000000 : Int64)), .second, .val (.long ((10000000000 : Int64) - (p4 - (0 : Int64)))), .second, .val (.long (0 : Int64)), .second] [(.int (1 : Int32))]))
                exact own_retZ X1 hx hlk (t := .boolean) Bd.returns (by simp) (hb hby at_342) (z' := (1 : Int32)) (by first | rfl | decide) ⟨rfl, (Fr.app N NQ1)⟩ (by decide) (by decide)
              · have hXY : aa = (0 : Int64) := by
                  apply Int64.toInt_inj.mp
                  clear hb0 hb1 hb2 hb3 hb4 hb5 hb7 hb8 hb9 hb10 hb11
                  have ar0 := rng32 vr
                  have ar1 := rng64 aa
                  simp only [Int64.lt_iff_toInt_lt, ← Int64.toInt_inj, Int32.lt_iff_toInt_lt, ← Int32.toInt_inj, (show (0 : Int32).toInt = 0 from rfl), (show (0 : Int64).toInt = 0 from rfl), and_true, true_and, and_false, false_and, or_true, true_or, or_false, false_or] at hc11 ar0 ar1 ⊢ <;> omega
                exact absurd (by rw [hXY]) hc12
            · refine own_via (fun _ k => XS.ifNo X1.here hx rfl (hb hby at_301) rfl ((if0 _ _).trans (feq hc11).1) k) ?_
              show own_Go p e below s _ _ _ (T1.setTop (mkF m 304 #[.val (.long p0), .second, .val (.long p1), .second, .val (.long p2), .second, .val (.long p3), .second, .val (.long p4), .second, .val (.int p5), .val (.int vb), .val (.int vw), .val (.int va), .val (.int vr), .val (.int vx), .val (.int vy), .val (.ref b), .val (.long ((10000000000 : Int64) - (p4 - aa))), .second, .val (.long (10000000000 : Int64)), .second, .unset, .unset, .unset, .unset] []))
              refine own_via (fun _ k => XS.lloadN X1.here hx rfl (hb hby at_304) rfl k) ?_
              show own_Go p e below s _ _ _ (T1.setTop (mkF m 305 #[.val (.long p0), .second, .val (.long p1), .second, .val (.long p2), .second, .val (.long p3), .second, .val (.long p4), .second, .val (.int p5), .val (.int vb), .val (.int vw), .val (.int va), .val (.int vr), .val (.int vx), .val (.int vy), .val (.ref b), .val (.long ((10000000000 : Int64) - (p4 - aa))), .second, .val (.long (10000000000 : Int64)), .second, .unset, .unset, .unset, .unset] [(.long p1)]))
              refine own_via (fun _ k => XS.goto X1.here hx rfl (pc0 := 305) (pc' := 309) rfl (hb hby at_305) (by decide) (by decide) k) ?_
              show own_Go p e below s _ _ _ (T1.setTop (mkF m 309 #[.val (.long p0), .second, .val (.long p1), .second, .val (.long p2), .second, .val (.long p3), .second, .val (.long p4), .second, .val (.int p5), .val (.int vb), .val (.int vw), .val (.int va), .val (.int vr), .val (.int vx), .val (.int vy), .val (.ref b), .val (.long ((10000000000 : Int64) - (p4 - aa))), .second, .val (.long (10000000000 : Int64)), .second, .unset, .unset, .unset, .unset] [(.long p1)]))
              refine own_via (fun _ k => XS.lstore X1.here hx rfl (hb hby at_309) rfl (l' := #[.val (.long p0), .second, .val (.long p1), .second, .val (.long p2), .second, .val (.long p3), .second, .val (.long p4), .second, .val (.int p5), .val (.int vb), .val (.int vw), .val (.int va), .val (.int vr), .val (.int vx), .val (.int vy), .val (.ref b), .val (.long ((10000000000 : Int64) - (p4 - aa))), .second, .val (.long (10000000000 : Int64)), .second, .unset, .unset, .val (.long p1), .second]) rfl k) ?_
              show own_Go p e below s _ _ _ (T1.setTop (mkF m 311 #[.val (.long p0), .second, .val (.long p1), .second, .val (.long p2), .second, .val (.long p3), .second, .val (.long p4), .second, .val (.int p5), .val (.int vb), .val (.int vw), .val (.int va), .val (.int vr), .val (.int vx), .val (.int vy), .val (.ref b), .val (.long ((10000000000 : Int64) - (p4 - aa))), .second, .val (.long (10000000000 : Int64)), .second, .unset, .unset, .val (.long p1), .second] []))
              refine own_via (fun _ k => XS.lload X1.here hx rfl (hb hby at_311) rfl k) ?_
              show own_Go p e below s _ _ _ (T1.setTop (mkF m 313 #[.val (.long p0), .second, .val (.long p1), .second, .val (.long p2), .second, .val (.long p3), .second, .val (.long p4), .second, .val (.int p5), .val (.int vb), .val (.int vw), .val (.int va), .val (.int vr), .val (.int vx), .val (.int vy), .val (.ref b), .val (.long ((10000000000 : Int64) - (p4 - aa))), .second, .val (.long (10000000000 : Int64)), .second, .unset, .unset, .val (.long p1), .second] [(.long (10000000000 : Int64))]))
              refine own_via (fun _ k => XS.lload X1.here hx rfl (hb hby at_313) rfl k) ?_
              show own_Go p e below s _ _ _ (T1.setTop (mkF m 315 #[.val (.long p0), .second, .val (.long p1), .second, .val (.long p2), .second, .val (.long p3), .second, .val (.long p4), .second, .val (.int p5), .val (.int vb), .val (.int vw), .val (.int va), .val (.int vr), .val (.int vx), .val (.int vy), .val (.ref b), .val (.long ((10000000000 : Int64) - (p4 - aa))), .second, .val (.long (10000000000 : Int64)), .second, .unset, .unset, .val (.long p1), .second] [(.long p4), (.long (10000000000 : Int64))]))
              refine own_via (fun _ k => XS.lload X1.here hx rfl (hb hby at_315) rfl k) ?_
              show own_Go p e below s _ _ _ (T1.setTop (mkF m 317 #[.val (.long p0), .second, .val (.long p1), .second, .val (.long p2), .second, .val (.long p3), .second, .val (.long p4), .second, .val (.int p5), .val (.int vb), .val (.int vw), .val (.int va), .val (.int vr), .val (.int vx), .val (.int vy), .val (.ref b), .val (.long ((10000000000 : Int64) - (p4 - aa))), .second, .val (.long (10000000000 : Int64)), .second, .unset, .unset, .val (.long p1), .second] [(.long p1), (.long p4), (.long (10000000000 : Int64))]))
              refine own_via (fun _ k => XS.lsub X1.here hx rfl (hb hby at_317) rfl k) ?_
              show own_Go p e below s _ _ _ (T1.setTop (mkF m 318 #[.val (.long p0), .second, .val (.long p1), .second, .val (.long p2), .second, .val (.long p3), .second, .val (.long p4), .second, .val (.int p5), .val (.int vb), .val (.int vw), .val (.int va), .val (.int vr), .val (.int vx), .val (.int vy), .val (.ref b), .val (.long ((10000000000 : Int64) - (p4 - aa))), .second, .val (.long (10000000000 : Int64)), .second, .unset, .unset, .val (.long p1), .second] [(.long (p4 - p1)), (.long (10000000000 : Int64))]))
              refine own_via (fun _ k => XS.lsub X1.here hx rfl (hb hby at_318) rfl k) ?_
              show own_Go p e below s _ _ _ (T1.setTop (mkF m 319 #[.val (.long p0), .second, .val (.long p1), .second, .val (.long p2), .second, .val (.long p3), .second, .val (.long p4), .second, .val (.int p5), .val (.int vb), .val (.int vw), .val (.int va), .val (.int vr), .val (.int vx), .val (.int vy), .val (.ref b), .val (.long ((10000000000 : Int64) - (p4 - aa))), .second, .val (.long (10000000000 : Int64)), .second, .unset, .unset, .val (.long p1), .second] [(.long ((10000000000 : Int64) - (p4 - p1)))]))
              refine own_via (fun _ k => XS.lstore X1.here hx rfl (hb hby at_319) rfl (l' := #[.val (.long p0), .second, .val (.long p1), .second, .val (.long p2), .second, .val (.long p3), .second, .val (.long p4), .second, .val (.int p5), .val (.int vb), .val (.int vw), .val (.int va), .val (.int vr), .val (.int vx), .val (.int vy), .val (.ref b), .val (.long ((10000000000 : Int64) - (p4 - aa))), .second, .val (.long (10000000000 : Int64)), .second, .val (.long ((10000000000 : Int64) - (p4 - p1))), .second, .val (.long p1), .second]) rfl k) ?_
              show own_Go p e below s _ _ _ (T1.setTop (mkF m 321 #[.val (.long p0), .second, .val (.long p1), .second, .val (.long p2), .second, .val (.long p3), .second, .val (.long p4), .second, .val (.int p5), .val (.int vb), .val (.int vw), .val (.int va), .val (.int vr), .val (.int vx), .val (.int vy), .val (.ref b), .val (.long ((10000000000 : Int64) - (p4 - aa))), .second, .val (.long (10000000000 : Int64)), .second, .val (.long ((10000000000 : Int64) - (p4 - p1))), .second, .val (.long p1), .second] []))
              refine own_via (fun _ k => XS.goto X1.here hx rfl (pc0 := 321) (pc' := 329) rfl (hb hby at_321) (by decide) (by decide) k) ?_
              show own_Go p e below s _ _ _ (T1.setTop (mkF m 329 #[.val (.long p0), .second, .val (.long p1), .second, .val (.long p2), .second, .val (.long p3), .second, .val (.long p4), .second, .val (.int p5), .val (.int vb), .val (.int vw), .val (.int va), .val (.int vr), .val (.int vx), .val (.int vy), .val (.ref b), .val (.long ((10000000000 : Int64) - (p4 - aa))), .second, .val (.long (10000000000 : Int64)), .second, .val (.long ((10000000000 : Int64) - (p4 - p1))), .second, .val (.long p1), .second] []))
              refine own_via (fun _ k => XS.lload X1.here hx rfl (hb hby at_329) rfl k) ?_
              show own_Go p e below s _ _ _ (T1.setTop (mkF m 331 #[.val (.long p0), .second, .val (.long p1), .second, .val (.long p2), .second, .val (.long p3), .second, .val (.long p4), .second, .val (.int p5), .val (.int vb), .val (.int vw), .val (.int va), .val (.int vr), .val (.int vx), .val (.int vy), .val (.ref b), .val (.long ((10000000000 : Int64) - (p4 - aa))), .second, .val (.long (10000000000 : Int64)), .second, .val (.long ((10000000000 : Int64) - (p4 - p1))), .second, .val (.long p1), .second] [(.long ((10000000000 : Int64) - (p4 - aa)))]))
              refine own_via (fun _ k => XS.lload X1.here hx rfl (hb hby at_331) rfl k) ?_
              show own_Go p e below s _ _ _ (T1.setTop (mkF m 333 #[.val (.long p0), .second, .val (.long p1), .second, .val (.long p2), .second, .val (.long p3), .second, .val (.long p4), .second, .val (.int p5), .val (.int vb), .val (.int vw), .val (.int va), .val (.int vr), .val (.int vx), .val (.int vy), .val (.ref b), .val (.long ((10000000000 : Int64) - (p4 - aa))), .second, .val (.long (10000000000 : Int64)), .second, .val (.long ((10000000000 : Int64) - (p4 - p1))), .second, .val (.long p1), .second] [(.long ((10000000000 : Int64) - (p4 - p1))), (.long ((10000000000 : Int64) - (p4 - aa)))]))
              refine own_via (fun _ k => XS.lcmp X1.here hx rfl (hb hby at_333) rfl k) ?_
              show own_Go p e below s _ _ _ (T1.setTop (mkF m 334 #[.val (.long p0), .second, .val (.long p1), .second, .val (.long p2), .second, .val (.long p3), .second, .val (.long p4), .second, .val (.int p5), .val (.int vb), .val (.int vw), .val (.int va), .val (.int vr), .val (.int vx), .val (.int vy), .val (.ref b), .val (.long ((10000000000 : Int64) - (p4 - aa))), .second, .val (.long (10000000000 : Int64)), .second, .val (.long ((10000000000 : Int64) - (p4 - p1))), .second, .val (.long p1), .second] [(.int (lcmpW ((10000000000 : Int64) - (p4 - aa)) ((10000000000 : Int64) - (p4 - p1))))]))
              by_cases hc13 : ((10000000000 : Int64) - (p4 - aa)) = ((10000000000 : Int64) - (p4 - p1))
              · refine own_via (fun _ k => XS.ifNo X1.here hx rfl (hb hby at_334) rfl ((if0 _ _).trans (teq ((lw_eq ((10000000000 : Int64) - (p4 - aa)) ((10000000000 : Int64) - (p4 - p1))).mpr hc13)).2) k) ?_
                show own_Go p e below s _ _ _ (T1.setTop (mkF m 337 #[.val (.long p0), .second, .val (.long p1), .second, .val (.long p2), .second, .val (.long p3), .second, .val (.long p4), .second, .val (.int p5), .val (.int vb), .val (.int vw), .val (.int va), .val (.int vr), .val (.int vx), .val (.int vy), .val (.ref b), .val (.long ((10000000000 : Int64) - (p4 - aa))), .second, .val (.long (10000000000 : Int64)), .second, .val (.long ((10000000000 : Int64) - (p4 - p1))), .second, .val (.long p1), .second] []))
                refine own_via (fun _ k => XS.iconst X1.here hx rfl (hb hby at_337) k) ?_
                show own_Go p e below s _ _ _ (T1.setTop (mkF m 338 #[.val (.long p0), .second, .val (.long p1), .second, .val (.long p2), .second, .val (.long p3), .second, .val (.long p4), .second, .val (.int p5), .val (.int vb), .val (.int vw), .val (.int va), .val (.int vr), .val (.int vx), .val (.int vy), .val (.ref b), .val (.long ((10000000000 : Int64) - (p4 - aa))), .second, .val (.long (10000000000 : Int64)), .second, .val (.long ((10000000000 : Int64) - (p4 - p1))), .second, .val (.long p1), .second] [(.int (1 : Int32))]))
                refine own_via (fun _ k => XS.goto X1.here hx rfl (pc0 := 338) (pc' := 342) rfl (hb hby at_338) (by decide) (by decide) k) ?_
                show own_Go p e below s _ _ _ (T1.setTop (mkF m 342 #[.val (.long p0), .second, .val (.long p1), .second, .val (.long p2), .second, .val (.long p3), .second, .val (.long p4), .second, .val (.int p5), .val (.int vb), .val (.int vw), .val (.int va), .val (.int vr), .val (.int vx), .val (.int vy), .val (.ref b), .val (.long ((10000000000 : Int64) - (p4 - aa))), .second, .val (.long (10000000000 : Int64)), .second, .val (.long ((10000000000 : Int64) - (p4 - p1))), .second, .val (.long p1), .second] [(.int (1 : Int32))]))
                exact own_retZ X1 hx hlk (t := .boolean) Bd.returns (by simp) (hb hby at_342) (z' := (1 : Int32)) (by first | rfl | decide) ⟨rfl, (Fr.app N NQ1)⟩ (by decide) (by decide)
              · have hXY : aa = p1 := by
                  apply Int64.toInt_inj.mp
                  clear hb0 hb1 hb2 hb3 hb4 hb5 hb7 hb8 hb9 hb10 hb11
                  have ar0 := rng32 vr
                  have ar1 := rng64 aa
                  have ar2 := rng64 p1
                  simp only [Int64.lt_iff_toInt_lt, ← Int64.toInt_inj, Int32.lt_iff_toInt_lt, ← Int32.toInt_inj, (show (0 : Int32).toInt = 0 from rfl), and_true, true_and, and_false, false_and, or_true, true_or, or_false, false_or] at hc11 ar0 ar1 ar2 ⊢ <;> omega
                exact absurd (by rw [hXY]) hc13
          · exfalso
            clear hb0 hb1 hb2 hb3 hb4 hb5 hb6 hb7 hb10 hb11
            have ar0 := rng64 an
            have ar1 := rng64 wh
            have ar2 := rng32 va
            have ar3 := rng32 vw
            simp only [Int64.lt_iff_toInt_lt, ← Int64.toInt_inj, Int32.lt_iff_toInt_lt, ← Int32.toInt_inj] at hr1_1_3 hc10 ar0 ar1 ar2 ar3
            omega
        · exfalso
          clear hb0 hb1 hb2 hb3 hb4 hb5 hb6 hb9 hb10 hb11
          have ar0 := rng64 wh
          have ar1 := rng64 bg
          have ar2 := rng32 vw
          have ar3 := rng32 vb
          simp only [Int64.lt_iff_toInt_lt, ← Int64.toInt_inj, Int32.lt_iff_toInt_lt, ← Int32.toInt_inj] at hr1_1_2 hc9 ar0 ar1 ar2 ar3
          omega
    · exfalso
      clear hb0 hb1 hb2 hb3 hb4 hb5 hb6 hb7 hb8 hb9 hb10
      have ar0 := rng32 ex
      have ar1 := rng32 vx
      simp only [Int64.lt_iff_toInt_lt, ← Int64.toInt_inj, Int32.lt_iff_toInt_lt, ← Int32.toInt_inj, (show (0 : Int32).toInt = 0 from rfl)] at hr1_1_0 hc7 ar0 ar1
      omega
  · have OL := OLq1
    have Z0 := Zq1
    have OB_b := OBq1_b
    refine own_tr st1 ?_
    show own_Go p e below s _ _ _ (T1.setTop (mkF m 227 #[.val (.long p0), .second, .val (.long p1), .second, .val (.long p2), .second, .val (.long p3), .second, .val (.long p4), .second, .val (.int p5), .val (.int vb), .val (.int vw), .val (.int va), .val (.int vr), .val (.int vx), .val (.int vy), .val (.ref b), .unset, .unset, .unset, .unset, .unset, .unset, .unset, .unset] [(.long (9223372036854775807 : Int64))]))
    refine own_via (fun _ k => XS.lstore X1.here hx rfl (hb hby at_227) rfl (l' := #[.val (.long p0), .second, .val (.long p1), .second, .val (.long p2), .second, .val (.long p3), .second, .val (.long p4), .second, .val (.int p5), .val (.int vb), .val (.int vw), .val (.int va), .val (.int vr), .val (.int vx), .val (.int vy), .val (.ref b), .val (.long (9223372036854775807 : Int64)), .second, .unset, .unset, .unset, .unset, .unset, .unset]) rfl k) ?_
    show own_Go p e below s _ _ _ (T1.setTop (mkF m 229 #[.val (.long p0), .second, .val (.long p1), .second, .val (.long p2), .second, .val (.long p3), .second, .val (.long p4), .second, .val (.int p5), .val (.int vb), .val (.int vw), .val (.int va), .val (.int vr), .val (.int vx), .val (.int vy), .val (.ref b), .val (.long (9223372036854775807 : Int64)), .second, .unset, .unset, .unset, .unset, .unset, .unset] []))
    refine own_via (fun _ k => X1.ldc2Long hx hown (mvT hZ (hw _ (List.mem_of_getElem? (i := 33) rfl))) (g := (mkF m 229 #[.val (.long p0), .second, .val (.long p1), .second, .val (.long p2), .second, .val (.long p3), .second, .val (.long p4), .second, .val (.int p5), .val (.int vb), .val (.int vw), .val (.int va), .val (.int vr), .val (.int vx), .val (.int vy), .val (.ref b), .val (.long (9223372036854775807 : Int64)), .second, .unset, .unset, .unset, .unset, .unset, .unset] [])) rfl (hb hby at_229) _ k) ?_
    show own_Go p e below s _ _ _ (T1.setTop (mkF m 232 #[.val (.long p0), .second, .val (.long p1), .second, .val (.long p2), .second, .val (.long p3), .second, .val (.long p4), .second, .val (.int p5), .val (.int vb), .val (.int vw), .val (.int va), .val (.int vr), .val (.int vx), .val (.int vy), .val (.ref b), .val (.long (9223372036854775807 : Int64)), .second, .unset, .unset, .unset, .unset, .unset, .unset] [(.long (10000000000 : Int64))]))
    refine own_via (fun _ k => XS.lstore X1.here hx rfl (hb hby at_232) rfl (l' := #[.val (.long p0), .second, .val (.long p1), .second, .val (.long p2), .second, .val (.long p3), .second, .val (.long p4), .second, .val (.int p5), .val (.int vb), .val (.int vw), .val (.int va), .val (.int vr), .val (.int vx), .val (.int vy), .val (.ref b), .val (.long (9223372036854775807 : Int64)), .second, .val (.long (10000000000 : Int64)), .second, .unset, .unset, .unset, .unset]) rfl k) ?_
    show own_Go p e below s _ _ _ (T1.setTop (mkF m 234 #[.val (.long p0), .second, .val (.long p1), .second, .val (.long p2), .second, .val (.long p3), .second, .val (.long p4), .second, .val (.int p5), .val (.int vb), .val (.int vw), .val (.int va), .val (.int vr), .val (.int vx), .val (.int vy), .val (.ref b), .val (.long (9223372036854775807 : Int64)), .second, .val (.long (10000000000 : Int64)), .second, .unset, .unset, .unset, .unset] []))
    refine own_via (fun _ k => XS.iload X1.here hx rfl (hb hby at_234) rfl k) ?_
    show own_Go p e below s _ _ _ (T1.setTop (mkF m 236 #[.val (.long p0), .second, .val (.long p1), .second, .val (.long p2), .second, .val (.long p3), .second, .val (.long p4), .second, .val (.int p5), .val (.int vb), .val (.int vw), .val (.int va), .val (.int vr), .val (.int vx), .val (.int vy), .val (.ref b), .val (.long (9223372036854775807 : Int64)), .second, .val (.long (10000000000 : Int64)), .second, .unset, .unset, .unset, .unset] [(.int vx)]))
    by_cases hc14 : vx = (0 : Int32)
    · refine own_via (fun _ k => XS.ifYes X1.here hx rfl (pc0 := 236) (pc' := 252) rfl (hb hby at_236) rfl ((if0 _ _).trans (teq hc14).1) (by decide) (by decide) k) ?_
      show own_Go p e below s _ _ _ (T1.setTop (mkF m 252 #[.val (.long p0), .second, .val (.long p1), .second, .val (.long p2), .second, .val (.long p3), .second, .val (.long p4), .second, .val (.int p5), .val (.int vb), .val (.int vw), .val (.int va), .val (.int vr), .val (.int vx), .val (.int vy), .val (.ref b), .val (.long (9223372036854775807 : Int64)), .second, .val (.long (10000000000 : Int64)), .second, .unset, .unset, .unset, .unset] []))
      refine own_via (fun _ k => XS.iload X1.here hx rfl (hb hby at_252) rfl k) ?_
      show own_Go p e below s _ _ _ (T1.setTop (mkF m 254 #[.val (.long p0), .second, .val (.long p1), .second, .val (.long p2), .second, .val (.long p3), .second, .val (.long p4), .second, .val (.int p5), .val (.int vb), .val (.int vw), .val (.int va), .val (.int vr), .val (.int vx), .val (.int vy), .val (.ref b), .val (.long (9223372036854775807 : Int64)), .second, .val (.long (10000000000 : Int64)), .second, .unset, .unset, .unset, .unset] [(.int va)]))
      refine own_via (fun _ k => XS.iload X1.here hx rfl (hb hby at_254) rfl k) ?_
      show own_Go p e below s _ _ _ (T1.setTop (mkF m 256 #[.val (.long p0), .second, .val (.long p1), .second, .val (.long p2), .second, .val (.long p3), .second, .val (.long p4), .second, .val (.int p5), .val (.int vb), .val (.int vw), .val (.int va), .val (.int vr), .val (.int vx), .val (.int vy), .val (.ref b), .val (.long (9223372036854775807 : Int64)), .second, .val (.long (10000000000 : Int64)), .second, .unset, .unset, .unset, .unset] [(.int vb), (.int va)]))
      by_cases hc15 : va = vb
      · exfalso
        clear hb0 hb1 hb2 hb3 hb4 hb5 hb6 hb8 hb10 hb11
        have ar0 := rng64 an
        have ar1 := rng64 bg
        have ar2 := rng32 va
        have ar3 := rng32 vb
        simp only [Int64.lt_iff_toInt_lt, ← Int64.toInt_inj, Int32.lt_iff_toInt_lt, ← Int32.toInt_inj] at hr1_2_1 hc15 ar0 ar1 ar2 ar3
        omega
      · refine own_via (fun _ k => XS.icmpYes X1.here hx rfl (pc0 := 256) (pc' := 285) rfl (hb hby at_256) rfl (feq hc15).2 (by decide) (by decide) k) ?_
        show own_Go p e below s _ _ _ (T1.setTop (mkF m 285 #[.val (.long p0), .second, .val (.long p1), .second, .val (.long p2), .second, .val (.long p3), .second, .val (.long p4), .second, .val (.int p5), .val (.int vb), .val (.int vw), .val (.int va), .val (.int vr), .val (.int vx), .val (.int vy), .val (.ref b), .val (.long (9223372036854775807 : Int64)), .second, .val (.long (10000000000 : Int64)), .second, .unset, .unset, .unset, .unset] []))
        refine own_via (fun _ k => XS.iload X1.here hx rfl (hb hby at_285) rfl k) ?_
        show own_Go p e below s _ _ _ (T1.setTop (mkF m 287 #[.val (.long p0), .second, .val (.long p1), .second, .val (.long p2), .second, .val (.long p3), .second, .val (.long p4), .second, .val (.int p5), .val (.int vb), .val (.int vw), .val (.int va), .val (.int vr), .val (.int vx), .val (.int vy), .val (.ref b), .val (.long (9223372036854775807 : Int64)), .second, .val (.long (10000000000 : Int64)), .second, .unset, .unset, .unset, .unset] [(.int vw)]))
        refine own_via (fun _ k => XS.iload X1.here hx rfl (hb hby at_287) rfl k) ?_
        show own_Go p e below s _ _ _ (T1.setTop (mkF m 289 #[.val (.long p0), .second, .val (.long p1), .second, .val (.long p2), .second, .val (.long p3), .second, .val (.long p4), .second, .val (.int p5), .val (.int vb), .val (.int vw), .val (.int va), .val (.int vr), .val (.int vx), .val (.int vy), .val (.ref b), .val (.long (9223372036854775807 : Int64)), .second, .val (.long (10000000000 : Int64)), .second, .unset, .unset, .unset, .unset] [(.int vb), (.int vw)]))
        by_cases hc16 : vw < vb
        · refine own_via (fun _ k => XS.icmpNo X1.here hx rfl (hb hby at_289) rfl (tlt hc16).2.1 k) ?_
          show own_Go p e below s _ _ _ (T1.setTop (mkF m 292 #[.val (.long p0), .second, .val (.long p1), .second, .val (.long p2), .second, .val (.long p3), .second, .val (.long p4), .second, .val (.int p5), .val (.int vb), .val (.int vw), .val (.int va), .val (.int vr), .val (.int vx), .val (.int vy), .val (.ref b), .val (.long (9223372036854775807 : Int64)), .second, .val (.long (10000000000 : Int64)), .second, .unset, .unset, .unset, .unset] []))
          refine own_via (fun _ k => XS.iload X1.here hx rfl (hb hby at_292) rfl k) ?_
          show own_Go p e below s _ _ _ (T1.setTop (mkF m 294 #[.val (.long p0), .second, .val (.long p1), .second, .val (.long p2), .second, .val (.long p3), .second, .val (.long p4), .second, .val (.int p5), .val (.int vb), .val (.int vw), .val (.int va), .val (.int vr), .val (.int vx), .val (.int vy), .val (.ref b), .val (.long (9223372036854775807 : Int64)), .second, .val (.long (10000000000 : Int64)), .second, .unset, .unset, .unset, .unset] [(.int va)]))
          refine own_via (fun _ k => XS.iload X1.here hx rfl (hb hby at_294) rfl k) ?_
          show own_Go p e below s _ _ _ (T1.setTop (mkF m 296 #[.val (.long p0), .second, .val (.long p1), .second, .val (.long p2), .second, .val (.long p3), .second, .val (.long p4), .second, .val (.int p5), .val (.int vb), .val (.int vw), .val (.int va), .val (.int vr), .val (.int vx), .val (.int vy), .val (.ref b), .val (.long (9223372036854775807 : Int64)), .second, .val (.long (10000000000 : Int64)), .second, .unset, .unset, .unset, .unset] [(.int vw), (.int va)]))
          by_cases hc17 : va = vw
          · exfalso
            clear hb0 hb1 hb2 hb3 hb4 hb5 hb6 hb7 hb10 hb11
            have ar0 := rng64 an
            have ar1 := rng64 wh
            have ar2 := rng32 va
            have ar3 := rng32 vw
            simp only [Int64.lt_iff_toInt_lt, ← Int64.toInt_inj, Int32.lt_iff_toInt_lt, ← Int32.toInt_inj] at hr1_2_3 hc17 ar0 ar1 ar2 ar3
            omega
          · refine own_via (fun _ k => XS.icmpYes X1.here hx rfl (pc0 := 296) (pc' := 324) rfl (hb hby at_296) rfl (feq hc17).2 (by decide) (by decide) k) ?_
            show own_Go p e below s _ _ _ (T1.setTop (mkF m 324 #[.val (.long p0), .second, .val (.long p1), .second, .val (.long p2), .second, .val (.long p3), .second, .val (.long p4), .second, .val (.int p5), .val (.int vb), .val (.int vw), .val (.int va), .val (.int vr), .val (.int vx), .val (.int vy), .val (.ref b), .val (.long (9223372036854775807 : Int64)), .second, .val (.long (10000000000 : Int64)), .second, .unset, .unset, .unset, .unset] []))
            refine own_via (fun _ k => X1.ldc2Long hx hown (mvT hZ (hw _ (List.mem_of_getElem? (i := 40) rfl))) (g := (mkF m 324 #[.val (.long p0), .second, .val (.long p1), .second, .val (.long p2), .second, .val (.long p3), .second, .val (.long p4), .second, .val (.int p5), .val (.int vb), .val (.int vw), .val (.int va), .val (.int vr), .val (.int vx), .val (.int vy), .val (.ref b), .val (.long (9223372036854775807 : Int64)), .second, .val (.long (10000000000 : Int64)), .second, .unset, .unset, .unset, .unset] [])) rfl (hb hby at_324) _ k) ?_
            show own_Go p e below s _ _ _ (T1.setTop (mkF m 327 #[.val (.long p0), .second, .val (.long p1), .second, .val (.long p2), .second, .val (.long p3), .second, .val (.long p4), .second, .val (.int p5), .val (.int vb), .val (.int vw), .val (.int va), .val (.int vr), .val (.int vx), .val (.int vy), .val (.ref b), .val (.long (9223372036854775807 : Int64)), .second, .val (.long (10000000000 : Int64)), .second, .unset, .unset, .unset, .unset] [(.long (9223372036854775807 : Int64))]))
            refine own_via (fun _ k => XS.lstore X1.here hx rfl (hb hby at_327) rfl (l' := #[.val (.long p0), .second, .val (.long p1), .second, .val (.long p2), .second, .val (.long p3), .second, .val (.long p4), .second, .val (.int p5), .val (.int vb), .val (.int vw), .val (.int va), .val (.int vr), .val (.int vx), .val (.int vy), .val (.ref b), .val (.long (9223372036854775807 : Int64)), .second, .val (.long (10000000000 : Int64)), .second, .val (.long (9223372036854775807 : Int64)), .second, .unset, .unset]) rfl k) ?_
            show own_Go p e below s _ _ _ (T1.setTop (mkF m 329 #[.val (.long p0), .second, .val (.long p1), .second, .val (.long p2), .second, .val (.long p3), .second, .val (.long p4), .second, .val (.int p5), .val (.int vb), .val (.int vw), .val (.int va), .val (.int vr), .val (.int vx), .val (.int vy), .val (.ref b), .val (.long (9223372036854775807 : Int64)), .second, .val (.long (10000000000 : Int64)), .second, .val (.long (9223372036854775807 : Int64)), .second, .unset, .unset] []))
            refine own_via (fun _ k => XS.lload X1.here hx rfl (hb hby at_329) rfl k) ?_
            show own_Go p e below s _ _ _ (T1.setTop (mkF m 331 #[.val (.long p0), .second, .val (.long p1), .second, .val (.long p2), .second, .val (.long p3), .second, .val (.long p4), .second, .val (.int p5), .val (.int vb), .val (.int vw), .val (.int va), .val (.int vr), .val (.int vx), .val (.int vy), .val (.ref b), .val (.long (9223372036854775807 : Int64)), .second, .val (.long (10000000000 : Int64)), .second, .val (.long (9223372036854775807 : Int64)), .second, .unset, .unset] [(.long (9223372036854775807 : Int64))]))
            refine own_via (fun _ k => XS.lload X1.here hx rfl (hb hby at_331) rfl k) ?_
            show own_Go p e below s _ _ _ (T1.setTop (mkF m 333 #[.val (.long p0), .second, .val (.long p1), .second, .val (.long p2), .second, .val (.long p3), .second, .val (.long p4), .second, .val (.int p5), .val (.int vb), .val (.int vw), .val (.int va), .val (.int vr), .val (.int vx), .val (.int vy), .val (.ref b), .val (.long (9223372036854775807 : Int64)), .second, .val (.long (10000000000 : Int64)), .second, .val (.long (9223372036854775807 : Int64)), .second, .unset, .unset] [(.long (9223372036854775807 : Int64)), (.long (9223372036854775807 : Int64))]))
            refine own_via (fun _ k => XS.lcmp X1.here hx rfl (hb hby at_333) rfl k) ?_
            show own_Go p e below s _ _ _ (T1.setTop (mkF m 334 #[.val (.long p0), .second, .val (.long p1), .second, .val (.long p2), .second, .val (.long p3), .second, .val (.long p4), .second, .val (.int p5), .val (.int vb), .val (.int vw), .val (.int va), .val (.int vr), .val (.int vx), .val (.int vy), .val (.ref b), .val (.long (9223372036854775807 : Int64)), .second, .val (.long (10000000000 : Int64)), .second, .val (.long (9223372036854775807 : Int64)), .second, .unset, .unset] [(.int (lcmpW (9223372036854775807 : Int64) (9223372036854775807 : Int64)))]))
            refine own_via (fun _ k => XS.ifNo X1.here hx rfl (hb hby at_334) rfl ((if0 _ _).trans (teq (by decide : (lcmpW (9223372036854775807 : Int64) (9223372036854775807 : Int64)) = (0 : Int32))).2) k) ?_
            show own_Go p e below s _ _ _ (T1.setTop (mkF m 337 #[.val (.long p0), .second, .val (.long p1), .second, .val (.long p2), .second, .val (.long p3), .second, .val (.long p4), .second, .val (.int p5), .val (.int vb), .val (.int vw), .val (.int va), .val (.int vr), .val (.int vx), .val (.int vy), .val (.ref b), .val (.long (9223372036854775807 : Int64)), .second, .val (.long (10000000000 : Int64)), .second, .val (.long (9223372036854775807 : Int64)), .second, .unset, .unset] []))
            refine own_via (fun _ k => XS.iconst X1.here hx rfl (hb hby at_337) k) ?_
            show own_Go p e below s _ _ _ (T1.setTop (mkF m 338 #[.val (.long p0), .second, .val (.long p1), .second, .val (.long p2), .second, .val (.long p3), .second, .val (.long p4), .second, .val (.int p5), .val (.int vb), .val (.int vw), .val (.int va), .val (.int vr), .val (.int vx), .val (.int vy), .val (.ref b), .val (.long (9223372036854775807 : Int64)), .second, .val (.long (10000000000 : Int64)), .second, .val (.long (9223372036854775807 : Int64)), .second, .unset, .unset] [(.int (1 : Int32))]))
            refine own_via (fun _ k => XS.goto X1.here hx rfl (pc0 := 338) (pc' := 342) rfl (hb hby at_338) (by decide) (by decide) k) ?_
            show own_Go p e below s _ _ _ (T1.setTop (mkF m 342 #[.val (.long p0), .second, .val (.long p1), .second, .val (.long p2), .second, .val (.long p3), .second, .val (.long p4), .second, .val (.int p5), .val (.int vb), .val (.int vw), .val (.int va), .val (.int vr), .val (.int vx), .val (.int vy), .val (.ref b), .val (.long (9223372036854775807 : Int64)), .second, .val (.long (10000000000 : Int64)), .second, .val (.long (9223372036854775807 : Int64)), .second, .unset, .unset] [(.int (1 : Int32))]))
            exact own_retZ X1 hx hlk (t := .boolean) Bd.returns (by simp) (hb hby at_342) (z' := (1 : Int32)) (by first | rfl | decide) ⟨rfl, (Fr.app N NQ1)⟩ (by decide) (by decide)
        · exfalso
          clear hb0 hb1 hb2 hb3 hb4 hb5 hb6 hb9 hb10 hb11
          have ar0 := rng64 wh
          have ar1 := rng64 bg
          have ar2 := rng32 vw
          have ar3 := rng32 vb
          simp only [Int64.lt_iff_toInt_lt, ← Int64.toInt_inj, Int32.lt_iff_toInt_lt, ← Int32.toInt_inj] at hr1_2_2 hc16 ar0 ar1 ar2 ar3
          omega
    · exfalso
      clear hb0 hb1 hb2 hb3 hb4 hb5 hb6 hb7 hb8 hb9 hb10
      have ar0 := rng32 ex
      have ar1 := rng32 vx
      simp only [Int64.lt_iff_toInt_lt, ← Int64.toInt_inj, Int32.lt_iff_toInt_lt, ← Int32.toInt_inj, (show (0 : Int32).toInt = 0 from rfl)] at hr1_2_0 hc14 ar0 ar1
      omega
  · have OL := OLq1
    have Z0 := Zq1
    have OB_b := OBq1_b
    refine own_tr st1 ?_
    show own_Go p e below s _ _ _ (T1.setTop (mkF m 227 #[.val (.long p0), .second, .val (.long p1), .second, .val (.long p2), .second, .val (.long p3), .second, .val (.long p4), .second, .val (.int p5), .val (.int vb), .val (.int vw), .val (.int va), .val (.int vr), .val (.int vx), .val (.int vy), .val (.ref b), .unset, .unset, .unset, .unset, .unset, .unset, .unset, .unset] [(.long (9223372036854775807 : Int64))]))
    refine own_via (fun _ k => XS.lstore X1.here hx rfl (hb hby at_227) rfl (l' := #[.val (.long p0), .second, .val (.long p1), .second, .val (.long p2), .second, .val (.long p3), .second, .val (.long p4), .second, .val (.int p5), .val (.int vb), .val (.int vw), .val (.int va), .val (.int vr), .val (.int vx), .val (.int vy), .val (.ref b), .val (.long (9223372036854775807 : Int64)), .second, .unset, .unset, .unset, .unset, .unset, .unset]) rfl k) ?_
    show own_Go p e below s _ _ _ (T1.setTop (mkF m 229 #[.val (.long p0), .second, .val (.long p1), .second, .val (.long p2), .second, .val (.long p3), .second, .val (.long p4), .second, .val (.int p5), .val (.int vb), .val (.int vw), .val (.int va), .val (.int vr), .val (.int vx), .val (.int vy), .val (.ref b), .val (.long (9223372036854775807 : Int64)), .second, .unset, .unset, .unset, .unset, .unset, .unset] []))
    refine own_via (fun _ k => X1.ldc2Long hx hown (mvT hZ (hw _ (List.mem_of_getElem? (i := 33) rfl))) (g := (mkF m 229 #[.val (.long p0), .second, .val (.long p1), .second, .val (.long p2), .second, .val (.long p3), .second, .val (.long p4), .second, .val (.int p5), .val (.int vb), .val (.int vw), .val (.int va), .val (.int vr), .val (.int vx), .val (.int vy), .val (.ref b), .val (.long (9223372036854775807 : Int64)), .second, .unset, .unset, .unset, .unset, .unset, .unset] [])) rfl (hb hby at_229) _ k) ?_
    show own_Go p e below s _ _ _ (T1.setTop (mkF m 232 #[.val (.long p0), .second, .val (.long p1), .second, .val (.long p2), .second, .val (.long p3), .second, .val (.long p4), .second, .val (.int p5), .val (.int vb), .val (.int vw), .val (.int va), .val (.int vr), .val (.int vx), .val (.int vy), .val (.ref b), .val (.long (9223372036854775807 : Int64)), .second, .unset, .unset, .unset, .unset, .unset, .unset] [(.long (10000000000 : Int64))]))
    refine own_via (fun _ k => XS.lstore X1.here hx rfl (hb hby at_232) rfl (l' := #[.val (.long p0), .second, .val (.long p1), .second, .val (.long p2), .second, .val (.long p3), .second, .val (.long p4), .second, .val (.int p5), .val (.int vb), .val (.int vw), .val (.int va), .val (.int vr), .val (.int vx), .val (.int vy), .val (.ref b), .val (.long (9223372036854775807 : Int64)), .second, .val (.long (10000000000 : Int64)), .second, .unset, .unset, .unset, .unset]) rfl k) ?_
    show own_Go p e below s _ _ _ (T1.setTop (mkF m 234 #[.val (.long p0), .second, .val (.long p1), .second, .val (.long p2), .second, .val (.long p3), .second, .val (.long p4), .second, .val (.int p5), .val (.int vb), .val (.int vw), .val (.int va), .val (.int vr), .val (.int vx), .val (.int vy), .val (.ref b), .val (.long (9223372036854775807 : Int64)), .second, .val (.long (10000000000 : Int64)), .second, .unset, .unset, .unset, .unset] []))
    refine own_via (fun _ k => XS.iload X1.here hx rfl (hb hby at_234) rfl k) ?_
    show own_Go p e below s _ _ _ (T1.setTop (mkF m 236 #[.val (.long p0), .second, .val (.long p1), .second, .val (.long p2), .second, .val (.long p3), .second, .val (.long p4), .second, .val (.int p5), .val (.int vb), .val (.int vw), .val (.int va), .val (.int vr), .val (.int vx), .val (.int vy), .val (.ref b), .val (.long (9223372036854775807 : Int64)), .second, .val (.long (10000000000 : Int64)), .second, .unset, .unset, .unset, .unset] [(.int vx)]))
    by_cases hc18 : vx = (0 : Int32)
    · refine own_via (fun _ k => XS.ifYes X1.here hx rfl (pc0 := 236) (pc' := 252) rfl (hb hby at_236) rfl ((if0 _ _).trans (teq hc18).1) (by decide) (by decide) k) ?_
      show own_Go p e below s _ _ _ (T1.setTop (mkF m 252 #[.val (.long p0), .second, .val (.long p1), .second, .val (.long p2), .second, .val (.long p3), .second, .val (.long p4), .second, .val (.int p5), .val (.int vb), .val (.int vw), .val (.int va), .val (.int vr), .val (.int vx), .val (.int vy), .val (.ref b), .val (.long (9223372036854775807 : Int64)), .second, .val (.long (10000000000 : Int64)), .second, .unset, .unset, .unset, .unset] []))
      refine own_via (fun _ k => XS.iload X1.here hx rfl (hb hby at_252) rfl k) ?_
      show own_Go p e below s _ _ _ (T1.setTop (mkF m 254 #[.val (.long p0), .second, .val (.long p1), .second, .val (.long p2), .second, .val (.long p3), .second, .val (.long p4), .second, .val (.int p5), .val (.int vb), .val (.int vw), .val (.int va), .val (.int vr), .val (.int vx), .val (.int vy), .val (.ref b), .val (.long (9223372036854775807 : Int64)), .second, .val (.long (10000000000 : Int64)), .second, .unset, .unset, .unset, .unset] [(.int va)]))
      refine own_via (fun _ k => XS.iload X1.here hx rfl (hb hby at_254) rfl k) ?_
      show own_Go p e below s _ _ _ (T1.setTop (mkF m 256 #[.val (.long p0), .second, .val (.long p1), .second, .val (.long p2), .second, .val (.long p3), .second, .val (.long p4), .second, .val (.int p5), .val (.int vb), .val (.int vw), .val (.int va), .val (.int vr), .val (.int vx), .val (.int vy), .val (.ref b), .val (.long (9223372036854775807 : Int64)), .second, .val (.long (10000000000 : Int64)), .second, .unset, .unset, .unset, .unset] [(.int vb), (.int va)]))
      by_cases hc19 : va = vb
      · exfalso
        clear hb0 hb1 hb2 hb3 hb4 hb5 hb6 hb8 hb10 hb11
        have ar0 := rng64 an
        have ar1 := rng64 bg
        have ar2 := rng32 va
        have ar3 := rng32 vb
        simp only [Int64.lt_iff_toInt_lt, ← Int64.toInt_inj, Int32.lt_iff_toInt_lt, ← Int32.toInt_inj] at hr1_3_1 hc19 ar0 ar1 ar2 ar3
        omega
      · refine own_via (fun _ k => XS.icmpYes X1.here hx rfl (pc0 := 256) (pc' := 285) rfl (hb hby at_256) rfl (feq hc19).2 (by decide) (by decide) k) ?_
        show own_Go p e below s _ _ _ (T1.setTop (mkF m 285 #[.val (.long p0), .second, .val (.long p1), .second, .val (.long p2), .second, .val (.long p3), .second, .val (.long p4), .second, .val (.int p5), .val (.int vb), .val (.int vw), .val (.int va), .val (.int vr), .val (.int vx), .val (.int vy), .val (.ref b), .val (.long (9223372036854775807 : Int64)), .second, .val (.long (10000000000 : Int64)), .second, .unset, .unset, .unset, .unset] []))
        refine own_via (fun _ k => XS.iload X1.here hx rfl (hb hby at_285) rfl k) ?_
        show own_Go p e below s _ _ _ (T1.setTop (mkF m 287 #[.val (.long p0), .second, .val (.long p1), .second, .val (.long p2), .second, .val (.long p3), .second, .val (.long p4), .second, .val (.int p5), .val (.int vb), .val (.int vw), .val (.int va), .val (.int vr), .val (.int vx), .val (.int vy), .val (.ref b), .val (.long (9223372036854775807 : Int64)), .second, .val (.long (10000000000 : Int64)), .second, .unset, .unset, .unset, .unset] [(.int vw)]))
        refine own_via (fun _ k => XS.iload X1.here hx rfl (hb hby at_287) rfl k) ?_
        show own_Go p e below s _ _ _ (T1.setTop (mkF m 289 #[.val (.long p0), .second, .val (.long p1), .second, .val (.long p2), .second, .val (.long p3), .second, .val (.long p4), .second, .val (.int p5), .val (.int vb), .val (.int vw), .val (.int va), .val (.int vr), .val (.int vx), .val (.int vy), .val (.ref b), .val (.long (9223372036854775807 : Int64)), .second, .val (.long (10000000000 : Int64)), .second, .unset, .unset, .unset, .unset] [(.int vb), (.int vw)]))
        by_cases hc20 : vw < vb
        · exfalso
          clear hb0 hb1 hb2 hb3 hb4 hb5 hb6 hb9 hb10 hb11
          have ar0 := rng64 wh
          have ar1 := rng64 bg
          have ar2 := rng32 vw
          have ar3 := rng32 vb
          simp only [Int64.lt_iff_toInt_lt, ← Int64.toInt_inj, Int32.lt_iff_toInt_lt, ← Int32.toInt_inj] at hr1_3_2 hc20 ar0 ar1 ar2 ar3
          omega
        · refine own_via (fun _ k => XS.icmpYes X1.here hx rfl (pc0 := 289) (pc' := 324) rfl (hb hby at_289) rfl (flt hc20).2.1 (by decide) (by decide) k) ?_
          show own_Go p e below s _ _ _ (T1.setTop (mkF m 324 #[.val (.long p0), .second, .val (.long p1), .second, .val (.long p2), .second, .val (.long p3), .second, .val (.long p4), .second, .val (.int p5), .val (.int vb), .val (.int vw), .val (.int va), .val (.int vr), .val (.int vx), .val (.int vy), .val (.ref b), .val (.long (9223372036854775807 : Int64)), .second, .val (.long (10000000000 : Int64)), .second, .unset, .unset, .unset, .unset] []))
          refine own_via (fun _ k => X1.ldc2Long hx hown (mvT hZ (hw _ (List.mem_of_getElem? (i := 40) rfl))) (g := (mkF m 324 #[.val (.long p0), .second, .val (.long p1), .second, .val (.long p2), .second, .val (.long p3), .second, .val (.long p4), .second, .val (.int p5), .val (.int vb), .val (.int vw), .val (.int va), .val (.int vr), .val (.int vx), .val (.int vy), .val (.ref b), .val (.long (9223372036854775807 : Int64)), .second, .val (.long (10000000000 : Int64)), .second, .unset, .unset, .unset, .unset] [])) rfl (hb hby at_324) _ k) ?_
          show own_Go p e below s _ _ _ (T1.setTop (mkF m 327 #[.val (.long p0), .second, .val (.long p1), .second, .val (.long p2), .second, .val (.long p3), .second, .val (.long p4), .second, .val (.int p5), .val (.int vb), .val (.int vw), .val (.int va), .val (.int vr), .val (.int vx), .val (.int vy), .val (.ref b), .val (.long (9223372036854775807 : Int64)), .second, .val (.long (10000000000 : Int64)), .second, .unset, .unset, .unset, .unset] [(.long (9223372036854775807 : Int64))]))
          refine own_via (fun _ k => XS.lstore X1.here hx rfl (hb hby at_327) rfl (l' := #[.val (.long p0), .second, .val (.long p1), .second, .val (.long p2), .second, .val (.long p3), .second, .val (.long p4), .second, .val (.int p5), .val (.int vb), .val (.int vw), .val (.int va), .val (.int vr), .val (.int vx), .val (.int vy), .val (.ref b), .val (.long (9223372036854775807 : Int64)), .second, .val (.long (10000000000 : Int64)), .second, .val (.long (9223372036854775807 : Int64)), .second, .unset, .unset]) rfl k) ?_
          show own_Go p e below s _ _ _ (T1.setTop (mkF m 329 #[.val (.long p0), .second, .val (.long p1), .second, .val (.long p2), .second, .val (.long p3), .second, .val (.long p4), .second, .val (.int p5), .val (.int vb), .val (.int vw), .val (.int va), .val (.int vr), .val (.int vx), .val (.int vy), .val (.ref b), .val (.long (9223372036854775807 : Int64)), .second, .val (.long (10000000000 : Int64)), .second, .val (.long (9223372036854775807 : Int64)), .second, .unset, .unset] []))
          refine own_via (fun _ k => XS.lload X1.here hx rfl (hb hby at_329) rfl k) ?_
          show own_Go p e below s _ _ _ (T1.setTop (mkF m 331 #[.val (.long p0), .second, .val (.long p1), .second, .val (.long p2), .second, .val (.long p3), .second, .val (.long p4), .second, .val (.int p5), .val (.int vb), .val (.int vw), .val (.int va), .val (.int vr), .val (.int vx), .val (.int vy), .val (.ref b), .val (.long (9223372036854775807 : Int64)), .second, .val (.long (10000000000 : Int64)), .second, .val (.long (9223372036854775807 : Int64)), .second, .unset, .unset] [(.long (9223372036854775807 : Int64))]))
          refine own_via (fun _ k => XS.lload X1.here hx rfl (hb hby at_331) rfl k) ?_
          show own_Go p e below s _ _ _ (T1.setTop (mkF m 333 #[.val (.long p0), .second, .val (.long p1), .second, .val (.long p2), .second, .val (.long p3), .second, .val (.long p4), .second, .val (.int p5), .val (.int vb), .val (.int vw), .val (.int va), .val (.int vr), .val (.int vx), .val (.int vy), .val (.ref b), .val (.long (9223372036854775807 : Int64)), .second, .val (.long (10000000000 : Int64)), .second, .val (.long (9223372036854775807 : Int64)), .second, .unset, .unset] [(.long (9223372036854775807 : Int64)), (.long (9223372036854775807 : Int64))]))
          refine own_via (fun _ k => XS.lcmp X1.here hx rfl (hb hby at_333) rfl k) ?_
          show own_Go p e below s _ _ _ (T1.setTop (mkF m 334 #[.val (.long p0), .second, .val (.long p1), .second, .val (.long p2), .second, .val (.long p3), .second, .val (.long p4), .second, .val (.int p5), .val (.int vb), .val (.int vw), .val (.int va), .val (.int vr), .val (.int vx), .val (.int vy), .val (.ref b), .val (.long (9223372036854775807 : Int64)), .second, .val (.long (10000000000 : Int64)), .second, .val (.long (9223372036854775807 : Int64)), .second, .unset, .unset] [(.int (lcmpW (9223372036854775807 : Int64) (9223372036854775807 : Int64)))]))
          refine own_via (fun _ k => XS.ifNo X1.here hx rfl (hb hby at_334) rfl ((if0 _ _).trans (teq (by decide : (lcmpW (9223372036854775807 : Int64) (9223372036854775807 : Int64)) = (0 : Int32))).2) k) ?_
          show own_Go p e below s _ _ _ (T1.setTop (mkF m 337 #[.val (.long p0), .second, .val (.long p1), .second, .val (.long p2), .second, .val (.long p3), .second, .val (.long p4), .second, .val (.int p5), .val (.int vb), .val (.int vw), .val (.int va), .val (.int vr), .val (.int vx), .val (.int vy), .val (.ref b), .val (.long (9223372036854775807 : Int64)), .second, .val (.long (10000000000 : Int64)), .second, .val (.long (9223372036854775807 : Int64)), .second, .unset, .unset] []))
          refine own_via (fun _ k => XS.iconst X1.here hx rfl (hb hby at_337) k) ?_
          show own_Go p e below s _ _ _ (T1.setTop (mkF m 338 #[.val (.long p0), .second, .val (.long p1), .second, .val (.long p2), .second, .val (.long p3), .second, .val (.long p4), .second, .val (.int p5), .val (.int vb), .val (.int vw), .val (.int va), .val (.int vr), .val (.int vx), .val (.int vy), .val (.ref b), .val (.long (9223372036854775807 : Int64)), .second, .val (.long (10000000000 : Int64)), .second, .val (.long (9223372036854775807 : Int64)), .second, .unset, .unset] [(.int (1 : Int32))]))
          refine own_via (fun _ k => XS.goto X1.here hx rfl (pc0 := 338) (pc' := 342) rfl (hb hby at_338) (by decide) (by decide) k) ?_
          show own_Go p e below s _ _ _ (T1.setTop (mkF m 342 #[.val (.long p0), .second, .val (.long p1), .second, .val (.long p2), .second, .val (.long p3), .second, .val (.long p4), .second, .val (.int p5), .val (.int vb), .val (.int vw), .val (.int va), .val (.int vr), .val (.int vx), .val (.int vy), .val (.ref b), .val (.long (9223372036854775807 : Int64)), .second, .val (.long (10000000000 : Int64)), .second, .val (.long (9223372036854775807 : Int64)), .second, .unset, .unset] [(.int (1 : Int32))]))
          exact own_retZ X1 hx hlk (t := .boolean) Bd.returns (by simp) (hb hby at_342) (z' := (1 : Int32)) (by first | rfl | decide) ⟨rfl, (Fr.app N NQ1)⟩ (by decide) (by decide)
    · exfalso
      clear hb0 hb1 hb2 hb3 hb4 hb5 hb6 hb7 hb8 hb9 hb10
      have ar0 := rng32 ex
      have ar1 := rng32 vx
      simp only [Int64.lt_iff_toInt_lt, ← Int64.toInt_inj, Int32.lt_iff_toInt_lt, ← Int32.toInt_inj, (show (0 : Int32).toInt = 0 from rfl)] at hr1_3_0 hc18 ar0 ar1
      omega
  · have OL := OLq1
    have Z0 := Zq1
    have OB_b := OBq1_b
    refine own_tr st1 ?_
    show own_Go p e below s _ _ _ (T1.setTop (mkF m 227 #[.val (.long p0), .second, .val (.long p1), .second, .val (.long p2), .second, .val (.long p3), .second, .val (.long p4), .second, .val (.int p5), .val (.int vb), .val (.int vw), .val (.int va), .val (.int vr), .val (.int vx), .val (.int vy), .val (.ref b), .unset, .unset, .unset, .unset, .unset, .unset, .unset, .unset] [(.long ((10000000000 : Int64) - (p4 - ea)))]))
    refine own_via (fun _ k => XS.lstore X1.here hx rfl (hb hby at_227) rfl (l' := #[.val (.long p0), .second, .val (.long p1), .second, .val (.long p2), .second, .val (.long p3), .second, .val (.long p4), .second, .val (.int p5), .val (.int vb), .val (.int vw), .val (.int va), .val (.int vr), .val (.int vx), .val (.int vy), .val (.ref b), .val (.long ((10000000000 : Int64) - (p4 - ea))), .second, .unset, .unset, .unset, .unset, .unset, .unset]) rfl k) ?_
    show own_Go p e below s _ _ _ (T1.setTop (mkF m 229 #[.val (.long p0), .second, .val (.long p1), .second, .val (.long p2), .second, .val (.long p3), .second, .val (.long p4), .second, .val (.int p5), .val (.int vb), .val (.int vw), .val (.int va), .val (.int vr), .val (.int vx), .val (.int vy), .val (.ref b), .val (.long ((10000000000 : Int64) - (p4 - ea))), .second, .unset, .unset, .unset, .unset, .unset, .unset] []))
    refine own_via (fun _ k => X1.ldc2Long hx hown (mvT hZ (hw _ (List.mem_of_getElem? (i := 33) rfl))) (g := (mkF m 229 #[.val (.long p0), .second, .val (.long p1), .second, .val (.long p2), .second, .val (.long p3), .second, .val (.long p4), .second, .val (.int p5), .val (.int vb), .val (.int vw), .val (.int va), .val (.int vr), .val (.int vx), .val (.int vy), .val (.ref b), .val (.long ((10000000000 : Int64) - (p4 - ea))), .second, .unset, .unset, .unset, .unset, .unset, .unset] [])) rfl (hb hby at_229) _ k) ?_
    show own_Go p e below s _ _ _ (T1.setTop (mkF m 232 #[.val (.long p0), .second, .val (.long p1), .second, .val (.long p2), .second, .val (.long p3), .second, .val (.long p4), .second, .val (.int p5), .val (.int vb), .val (.int vw), .val (.int va), .val (.int vr), .val (.int vx), .val (.int vy), .val (.ref b), .val (.long ((10000000000 : Int64) - (p4 - ea))), .second, .unset, .unset, .unset, .unset, .unset, .unset] [(.long (10000000000 : Int64))]))
    refine own_via (fun _ k => XS.lstore X1.here hx rfl (hb hby at_232) rfl (l' := #[.val (.long p0), .second, .val (.long p1), .second, .val (.long p2), .second, .val (.long p3), .second, .val (.long p4), .second, .val (.int p5), .val (.int vb), .val (.int vw), .val (.int va), .val (.int vr), .val (.int vx), .val (.int vy), .val (.ref b), .val (.long ((10000000000 : Int64) - (p4 - ea))), .second, .val (.long (10000000000 : Int64)), .second, .unset, .unset, .unset, .unset]) rfl k) ?_
    show own_Go p e below s _ _ _ (T1.setTop (mkF m 234 #[.val (.long p0), .second, .val (.long p1), .second, .val (.long p2), .second, .val (.long p3), .second, .val (.long p4), .second, .val (.int p5), .val (.int vb), .val (.int vw), .val (.int va), .val (.int vr), .val (.int vx), .val (.int vy), .val (.ref b), .val (.long ((10000000000 : Int64) - (p4 - ea))), .second, .val (.long (10000000000 : Int64)), .second, .unset, .unset, .unset, .unset] []))
    refine own_via (fun _ k => XS.iload X1.here hx rfl (hb hby at_234) rfl k) ?_
    show own_Go p e below s _ _ _ (T1.setTop (mkF m 236 #[.val (.long p0), .second, .val (.long p1), .second, .val (.long p2), .second, .val (.long p3), .second, .val (.long p4), .second, .val (.int p5), .val (.int vb), .val (.int vw), .val (.int va), .val (.int vr), .val (.int vx), .val (.int vy), .val (.ref b), .val (.long ((10000000000 : Int64) - (p4 - ea))), .second, .val (.long (10000000000 : Int64)), .second, .unset, .unset, .unset, .unset] [(.int vx)]))
    by_cases hc21 : vx = (0 : Int32)
    · exfalso
      clear hb0 hb1 hb2 hb3 hb4 hb5 hb6 hb7 hb8 hb9 hb10
      have ar0 := rng32 ex
      have ar1 := rng32 vx
      simp only [Int64.lt_iff_toInt_lt, ← Int64.toInt_inj, Int32.lt_iff_toInt_lt, ← Int32.toInt_inj, (show (0 : Int32).toInt = 0 from rfl)] at hr1_4_0 hc21 ar0 ar1
      omega
    · refine own_via (fun _ k => XS.ifNo X1.here hx rfl (hb hby at_236) rfl ((if0 _ _).trans (feq hc21).1) k) ?_
      show own_Go p e below s _ _ _ (T1.setTop (mkF m 239 #[.val (.long p0), .second, .val (.long p1), .second, .val (.long p2), .second, .val (.long p3), .second, .val (.long p4), .second, .val (.int p5), .val (.int vb), .val (.int vw), .val (.int va), .val (.int vr), .val (.int vx), .val (.int vy), .val (.ref b), .val (.long ((10000000000 : Int64) - (p4 - ea))), .second, .val (.long (10000000000 : Int64)), .second, .unset, .unset, .unset, .unset] []))
      refine own_via (fun _ k => XS.lload X1.here hx rfl (hb hby at_239) rfl k) ?_
      show own_Go p e below s _ _ _ (T1.setTop (mkF m 241 #[.val (.long p0), .second, .val (.long p1), .second, .val (.long p2), .second, .val (.long p3), .second, .val (.long p4), .second, .val (.int p5), .val (.int vb), .val (.int vw), .val (.int va), .val (.int vr), .val (.int vx), .val (.int vy), .val (.ref b), .val (.long ((10000000000 : Int64) - (p4 - ea))), .second, .val (.long (10000000000 : Int64)), .second, .unset, .unset, .unset, .unset] [(.long (10000000000 : Int64))]))
      refine own_via (fun _ k => XS.lload X1.here hx rfl (hb hby at_241) rfl k) ?_
      show own_Go p e below s _ _ _ (T1.setTop (mkF m 243 #[.val (.long p0), .second, .val (.long p1), .second, .val (.long p2), .second, .val (.long p3), .second, .val (.long p4), .second, .val (.int p5), .val (.int vb), .val (.int vw), .val (.int va), .val (.int vr), .val (.int vx), .val (.int vy), .val (.ref b), .val (.long ((10000000000 : Int64) - (p4 - ea))), .second, .val (.long (10000000000 : Int64)), .second, .unset, .unset, .unset, .unset] [(.long p4), (.long (10000000000 : Int64))]))
      refine own_via (fun _ k => XS.lload X1.here hx rfl (hb hby at_243) rfl k) ?_
      show own_Go p e below s _ _ _ (T1.setTop (mkF m 245 #[.val (.long p0), .second, .val (.long p1), .second, .val (.long p2), .second, .val (.long p3), .second, .val (.long p4), .second, .val (.int p5), .val (.int vb), .val (.int vw), .val (.int va), .val (.int vr), .val (.int vx), .val (.int vy), .val (.ref b), .val (.long ((10000000000 : Int64) - (p4 - ea))), .second, .val (.long (10000000000 : Int64)), .second, .unset, .unset, .unset, .unset] [(.long p3), (.long p4), (.long (10000000000 : Int64))]))
      refine own_via (fun _ k => XS.lsub X1.here hx rfl (hb hby at_245) rfl k) ?_
      show own_Go p e below s _ _ _ (T1.setTop (mkF m 246 #[.val (.long p0), .second, .val (.long p1), .second, .val (.long p2), .second, .val (.long p3), .second, .val (.long p4), .second, .val (.int p5), .val (.int vb), .val (.int vw), .val (.int va), .val (.int vr), .val (.int vx), .val (.int vy), .val (.ref b), .val (.long ((10000000000 : Int64) - (p4 - ea))), .second, .val (.long (10000000000 : Int64)), .second, .unset, .unset, .unset, .unset] [(.long (p4 - p3)), (.long (10000000000 : Int64))]))
      refine own_via (fun _ k => XS.lsub X1.here hx rfl (hb hby at_246) rfl k) ?_
      show own_Go p e below s _ _ _ (T1.setTop (mkF m 247 #[.val (.long p0), .second, .val (.long p1), .second, .val (.long p2), .second, .val (.long p3), .second, .val (.long p4), .second, .val (.int p5), .val (.int vb), .val (.int vw), .val (.int va), .val (.int vr), .val (.int vx), .val (.int vy), .val (.ref b), .val (.long ((10000000000 : Int64) - (p4 - ea))), .second, .val (.long (10000000000 : Int64)), .second, .unset, .unset, .unset, .unset] [(.long ((10000000000 : Int64) - (p4 - p3)))]))
      refine own_via (fun _ k => XS.lstore X1.here hx rfl (hb hby at_247) rfl (l' := #[.val (.long p0), .second, .val (.long p1), .second, .val (.long p2), .second, .val (.long p3), .second, .val (.long p4), .second, .val (.int p5), .val (.int vb), .val (.int vw), .val (.int va), .val (.int vr), .val (.int vx), .val (.int vy), .val (.ref b), .val (.long ((10000000000 : Int64) - (p4 - ea))), .second, .val (.long (10000000000 : Int64)), .second, .val (.long ((10000000000 : Int64) - (p4 - p3))), .second, .unset, .unset]) rfl k) ?_
      show own_Go p e below s _ _ _ (T1.setTop (mkF m 249 #[.val (.long p0), .second, .val (.long p1), .second, .val (.long p2), .second, .val (.long p3), .second, .val (.long p4), .second, .val (.int p5), .val (.int vb), .val (.int vw), .val (.int va), .val (.int vr), .val (.int vx), .val (.int vy), .val (.ref b), .val (.long ((10000000000 : Int64) - (p4 - ea))), .second, .val (.long (10000000000 : Int64)), .second, .val (.long ((10000000000 : Int64) - (p4 - p3))), .second, .unset, .unset] []))
      refine own_via (fun _ k => XS.goto X1.here hx rfl (pc0 := 249) (pc' := 329) rfl (hb hby at_249) (by decide) (by decide) k) ?_
      show own_Go p e below s _ _ _ (T1.setTop (mkF m 329 #[.val (.long p0), .second, .val (.long p1), .second, .val (.long p2), .second, .val (.long p3), .second, .val (.long p4), .second, .val (.int p5), .val (.int vb), .val (.int vw), .val (.int va), .val (.int vr), .val (.int vx), .val (.int vy), .val (.ref b), .val (.long ((10000000000 : Int64) - (p4 - ea))), .second, .val (.long (10000000000 : Int64)), .second, .val (.long ((10000000000 : Int64) - (p4 - p3))), .second, .unset, .unset] []))
      refine own_via (fun _ k => XS.lload X1.here hx rfl (hb hby at_329) rfl k) ?_
      show own_Go p e below s _ _ _ (T1.setTop (mkF m 331 #[.val (.long p0), .second, .val (.long p1), .second, .val (.long p2), .second, .val (.long p3), .second, .val (.long p4), .second, .val (.int p5), .val (.int vb), .val (.int vw), .val (.int va), .val (.int vr), .val (.int vx), .val (.int vy), .val (.ref b), .val (.long ((10000000000 : Int64) - (p4 - ea))), .second, .val (.long (10000000000 : Int64)), .second, .val (.long ((10000000000 : Int64) - (p4 - p3))), .second, .unset, .unset] [(.long ((10000000000 : Int64) - (p4 - ea)))]))
      refine own_via (fun _ k => XS.lload X1.here hx rfl (hb hby at_331) rfl k) ?_
      show own_Go p e below s _ _ _ (T1.setTop (mkF m 333 #[.val (.long p0), .second, .val (.long p1), .second, .val (.long p2), .second, .val (.long p3), .second, .val (.long p4), .second, .val (.int p5), .val (.int vb), .val (.int vw), .val (.int va), .val (.int vr), .val (.int vx), .val (.int vy), .val (.ref b), .val (.long ((10000000000 : Int64) - (p4 - ea))), .second, .val (.long (10000000000 : Int64)), .second, .val (.long ((10000000000 : Int64) - (p4 - p3))), .second, .unset, .unset] [(.long ((10000000000 : Int64) - (p4 - p3))), (.long ((10000000000 : Int64) - (p4 - ea)))]))
      refine own_via (fun _ k => XS.lcmp X1.here hx rfl (hb hby at_333) rfl k) ?_
      show own_Go p e below s _ _ _ (T1.setTop (mkF m 334 #[.val (.long p0), .second, .val (.long p1), .second, .val (.long p2), .second, .val (.long p3), .second, .val (.long p4), .second, .val (.int p5), .val (.int vb), .val (.int vw), .val (.int va), .val (.int vr), .val (.int vx), .val (.int vy), .val (.ref b), .val (.long ((10000000000 : Int64) - (p4 - ea))), .second, .val (.long (10000000000 : Int64)), .second, .val (.long ((10000000000 : Int64) - (p4 - p3))), .second, .unset, .unset] [(.int (lcmpW ((10000000000 : Int64) - (p4 - ea)) ((10000000000 : Int64) - (p4 - p3))))]))
      by_cases hc22 : ((10000000000 : Int64) - (p4 - ea)) = ((10000000000 : Int64) - (p4 - p3))
      · refine own_via (fun _ k => XS.ifNo X1.here hx rfl (hb hby at_334) rfl ((if0 _ _).trans (teq ((lw_eq ((10000000000 : Int64) - (p4 - ea)) ((10000000000 : Int64) - (p4 - p3))).mpr hc22)).2) k) ?_
        show own_Go p e below s _ _ _ (T1.setTop (mkF m 337 #[.val (.long p0), .second, .val (.long p1), .second, .val (.long p2), .second, .val (.long p3), .second, .val (.long p4), .second, .val (.int p5), .val (.int vb), .val (.int vw), .val (.int va), .val (.int vr), .val (.int vx), .val (.int vy), .val (.ref b), .val (.long ((10000000000 : Int64) - (p4 - ea))), .second, .val (.long (10000000000 : Int64)), .second, .val (.long ((10000000000 : Int64) - (p4 - p3))), .second, .unset, .unset] []))
        refine own_via (fun _ k => XS.iconst X1.here hx rfl (hb hby at_337) k) ?_
        show own_Go p e below s _ _ _ (T1.setTop (mkF m 338 #[.val (.long p0), .second, .val (.long p1), .second, .val (.long p2), .second, .val (.long p3), .second, .val (.long p4), .second, .val (.int p5), .val (.int vb), .val (.int vw), .val (.int va), .val (.int vr), .val (.int vx), .val (.int vy), .val (.ref b), .val (.long ((10000000000 : Int64) - (p4 - ea))), .second, .val (.long (10000000000 : Int64)), .second, .val (.long ((10000000000 : Int64) - (p4 - p3))), .second, .unset, .unset] [(.int (1 : Int32))]))
        refine own_via (fun _ k => XS.goto X1.here hx rfl (pc0 := 338) (pc' := 342) rfl (hb hby at_338) (by decide) (by decide) k) ?_
        show own_Go p e below s _ _ _ (T1.setTop (mkF m 342 #[.val (.long p0), .second, .val (.long p1), .second, .val (.long p2), .second, .val (.long p3), .second, .val (.long p4), .second, .val (.int p5), .val (.int vb), .val (.int vw), .val (.int va), .val (.int vr), .val (.int vx), .val (.int vy), .val (.ref b), .val (.long ((10000000000 : Int64) - (p4 - ea))), .second, .val (.long (10000000000 : Int64)), .second, .val (.long ((10000000000 : Int64) - (p4 - p3))), .second, .unset, .unset] [(.int (1 : Int32))]))
        exact own_retZ X1 hx hlk (t := .boolean) Bd.returns (by simp) (hb hby at_342) (z' := (1 : Int32)) (by first | rfl | decide) ⟨rfl, (Fr.app N NQ1)⟩ (by decide) (by decide)
      · have hXY : ea = p3 := by
          apply Int64.toInt_inj.mp
          clear hb0 hb1 hb2 hb3 hb4 hb5 hb6 hb7 hb8 hb9 hb10
          have ar0 := rng32 vx
          have ar1 := rng64 ea
          have ar2 := rng64 p3
          simp only [Int64.lt_iff_toInt_lt, ← Int64.toInt_inj, Int32.lt_iff_toInt_lt, ← Int32.toInt_inj, (show (0 : Int32).toInt = 0 from rfl), and_true, true_and, and_false, false_and, or_true, true_or, or_false, false_or] at hc21 ar0 ar1 ar2 ⊢ <;> omega
        exact absurd (by rw [hXY]) hc22
set_option maxRecDepth 65536 in
set_option maxHeartbeats 40000000 in
theorem pt195 (l : Launch) (Z : State) (a0 : Array Value) (hw : ∀ d ∈ tables_1, d.before a0 Z = true) (p0 : Int64) (p1 : Int64) (p2 : Int64) (p3 : Int64) (p4 : Int64) (p5 : Int32) (w0 : Addr) (w1 : Addr) (w2 : Addr) (n0 : Nat) (K : own_K Z Z.heap w0 w1 w2) {p : Program} {e : Env} {s : State} {m : MethodId} {below : List Frame} {meth : Method} {c : Code} {s₁ : State} {S : Spec} (Bd : BodyLoose p l x S code maxLocals ret e s m #[(.long p0), (.long p1), (.long p2), (.long p3), (.long p4), (.int p5)] below meth c s₁) (hml : c.maxLocals = 26) (hZ : Z.Warmed39 s.vm)
    (T : State) (h : Heap) (lc : List Loc) (X : Stand p l e room_1 s m #[(.long p0), (.long p1), (.long p2), (.long p3), (.long p4), (.int p5)] below meth c T lc (0 + 1) (0 + 8)) (eT : T.heap = h) (N : Fr n0 lc) (Z0 : n0 ≤ h.size) (OL : Old Z n0 h) (vb : Int32) (vw : Int32) (va : Int32) (vr : Int32) (vx : Int32) (vy : Int32) (b : Addr) (ta : Int64) (bg : Int64) (an : Int64) (wh : Int64) (aa : Int64) (ar : Int32) (OB_b : own_Obj0 Z h b ta bg (0 : Int32) an wh aa ar (0 : Int64)) (g_b : n0 ≤ b) (hb0 : 0 ≤ vb.toInt ∧ vb.toInt ≤ 2) (hb1 : 0 ≤ vw.toInt ∧ vw.toInt ≤ vb.toInt) (hb2 : 0 ≤ va.toInt ∧ va.toInt ≤ vb.toInt) (hb3 : vr.toInt = 0 ∨ vr.toInt = 1) (hb4 : vx.toInt = 0 ∨ vx.toInt = 1) (hb5 : vy.toInt = 0 ∨ vy.toInt = 1) (hb6 : (vr.toInt = 0 ∧ aa.toInt = 0) ∨ (vr.toInt = 1 ∧ aa.toInt = p1.toInt)) (hb7 : bg.toInt = vb.toInt) (hb8 : wh.toInt = vw.toInt) (hb9 : an.toInt = va.toInt) (hb10 : (va.toInt < 1 ∧ ta.toInt = p0.toInt) ∨ (1 ≤ va.toInt ∧ ta.toInt = p2.toInt)) :
    own_Go p e below s (Q0 n0) 16 128 (T.setTop (mkF m 195 #[.val (.long p0), .second, .val (.long p1), .second, .val (.long p2), .second, .val (.long p3), .second, .val (.long p4), .second, .val (.int p5), .val (.int vb), .val (.int vw), .val (.int va), .val (.int vr), .val (.int vx), .val (.int vy), .val (.ref b), .unset, .unset, .unset, .unset, .unset, .unset, .unset, .unset] [])) := by
  have hx := Bd.exec
  have hby := Bd.bytes
  have hown : s.vm.findClass "com/example/mailbox/mailbox/server/RequestDeadlineRemainingPinLaw" = some m.cls := findClass_of_methodNamed Bd.named
  have hlk := Bd.notSynchronized
  have K0 := K
  obtain ⟨S_w0, S_w1, S_w2, S_TIMEOUT_NANOS, E_w0, E_w1, E_w2⟩ := K
  show own_Go p e below s _ _ _ (T.setTop (mkF m 195 #[.val (.long p0), .second, .val (.long p1), .second, .val (.long p2), .second, .val (.long p3), .second, .val (.long p4), .second, .val (.int p5), .val (.int vb), .val (.int vw), .val (.int va), .val (.int vr), .val (.int vx), .val (.int vy), .val (.ref b), .unset, .unset, .unset, .unset, .unset, .unset, .unset, .unset] []))
  refine own_via (fun _ k => XS.iload X.here hx rfl (hb hby at_195) rfl k) ?_
  show own_Go p e below s _ _ _ (T.setTop (mkF m 197 #[.val (.long p0), .second, .val (.long p1), .second, .val (.long p2), .second, .val (.long p3), .second, .val (.long p4), .second, .val (.int p5), .val (.int vb), .val (.int vw), .val (.int va), .val (.int vr), .val (.int vx), .val (.int vy), .val (.ref b), .unset, .unset, .unset, .unset, .unset, .unset, .unset, .unset] [(.int vx)]))
  by_cases hc1 : vx = (0 : Int32)
  · refine own_via (fun _ k => XS.ifYes X.here hx rfl (pc0 := 197) (pc' := 220) rfl (hb hby at_197) rfl ((if0 _ _).trans (teq hc1).1) (by decide) (by decide) k) ?_
    show own_Go p e below s _ _ _ (T.setTop (mkF m 220 #[.val (.long p0), .second, .val (.long p1), .second, .val (.long p2), .second, .val (.long p3), .second, .val (.long p4), .second, .val (.int p5), .val (.int vb), .val (.int vw), .val (.int va), .val (.int vr), .val (.int vx), .val (.int vy), .val (.ref b), .unset, .unset, .unset, .unset, .unset, .unset, .unset, .unset] []))
    refine pt220 l Z a0 hw p0 p1 p2 p3 p4 p5 w0 w1 w2 n0 K0 Bd hml hZ T h _ X eT N Z0 OL (vb) (vw) (va) (vr) (vx) (vy) (b) (ta) (bg) ((0 : Int32)) (an) (wh) (aa) (ar) ((0 : Int64)) OB_b g_b ?_ ?_ ?_ ?_ ?_ ?_ ?_ ?_ ?_ ?_ ?_ ?_
    · exact hb0
    · exact hb1
    · exact hb2
    · exact hb3
    · exact hb4
    · exact hb5
    · exact hb6
    · exact hb7
    · exact hb8
    · exact hb9
    · exact hb10
    · clear hb0 hb1 hb2 hb3 hb5 hb6 hb7 hb8 hb9 hb10
      have ar0 := rng32 vx
      simp only [Int64.lt_iff_toInt_lt, ← Int64.toInt_inj, Int32.lt_iff_toInt_lt, ← Int32.toInt_inj, (show (0 : Int32).toInt = 0 from rfl), (show (0 : Int64).toInt = 0 from rfl), and_true, true_and, and_false, false_and, or_true, true_or, or_false, false_or] at hc1 ar0 ⊢ <;> omega
  · refine own_via (fun _ k => XS.ifNo X.here hx rfl (hb hby at_197) rfl ((if0 _ _).trans (feq hc1).1) k) ?_
    show own_Go p e below s _ _ _ (T.setTop (mkF m 200 #[.val (.long p0), .second, .val (.long p1), .second, .val (.long p2), .second, .val (.long p3), .second, .val (.long p4), .second, .val (.int p5), .val (.int vb), .val (.int vw), .val (.int va), .val (.int vr), .val (.int vx), .val (.int vy), .val (.ref b), .unset, .unset, .unset, .unset, .unset, .unset, .unset, .unset] []))
    refine own_via (fun _ k => XS.aload X.here hx rfl (hb hby at_200) rfl rfl k) ?_
    show own_Go p e below s _ _ _ (T.setTop (mkF m 202 #[.val (.long p0), .second, .val (.long p1), .second, .val (.long p2), .second, .val (.long p3), .second, .val (.long p4), .second, .val (.int p5), .val (.int vb), .val (.int vw), .val (.int va), .val (.int vr), .val (.int vx), .val (.int vy), .val (.ref b), .unset, .unset, .unset, .unset, .unset, .unset, .unset, .unset] [(.ref b)]))
    refine own_via (fun _ k => XS.lload X.here hx rfl (hb hby at_202) rfl k) ?_
    show own_Go p e below s _ _ _ (T.setTop (mkF m 204 #[.val (.long p0), .second, .val (.long p1), .second, .val (.long p2), .second, .val (.long p3), .second, .val (.long p4), .second, .val (.int p5), .val (.int vb), .val (.int vw), .val (.int va), .val (.int vr), .val (.int vx), .val (.int vy), .val (.ref b), .unset, .unset, .unset, .unset, .unset, .unset, .unset, .unset] [(.long p3), (.ref b)]))
    obtain ⟨cq2, kq2, q2a, q2b, q2c⟩ := isOf hZ eT OB_b.1
    obtain ⟨_, _, ⟨T2, L2, k2, n2⟩, -, X2, ⟨Lc2, hQ2, l2, y2, z2⟩, st2⟩ := X.virtualBack hx (y := (⟨"com/example/mailbox/mailbox/server/RequestDeadline", "expire", "(J)Lcom/example/mailbox/mailbox/server/RequestDeadline$Expiry;"⟩ : MethodName)) (z := (⟨"com/example/mailbox/mailbox/server/RequestDeadline", "expire", "(J)Lcom/example/mailbox/mailbox/server/RequestDeadline$Expiry;"⟩ : MethodName)) hown (mvT hZ (hw _ (List.mem_of_getElem? (i := 48) rfl))) (mvT hZ (hw _ (List.mem_of_getElem? (i := 49) rfl))) (notFace_of_selects (args := #[]) (mvT hZ (hw _ (List.mem_of_getElem? (i := 51) rfl)))) (mvT hZ (hw _ (List.mem_of_getElem? (i := 51) rfl))) (mvT hZ (hw _ (List.mem_of_getElem? (i := 50) rfl))) (by decide) (backOf (W := 0) (rm7_0 l Z a0 hw [] b ta bg an wh aa ar p3 w0 w1 w2 h n0 Z0 K0 OL OB_b g_b) hZ (hw _ (List.mem_of_getElem? (i := 52) rfl)) (hw _ (List.mem_of_getElem? (i := 2) rfl)) (by decide) (by decide)) q2a q2c (g := (mkF m 204 #[.val (.long p0), .second, .val (.long p1), .second, .val (.long p2), .second, .val (.long p3), .second, .val (.long p4), .second, .val (.int p5), .val (.int vb), .val (.int vw), .val (.int va), .val (.int vr), .val (.int vx), .val (.int vy), .val (.ref b), .unset, .unset, .unset, .unset, .unset, .unset, .unset, .unset] [(.long p3), (.ref b)])) rfl (by rw [hml]; rfl) (Steps.refl _) (argsL := [(.long p3)]) (rest := []) (lenOf pd1 rfl) rfl (by show 2 * 0 + _ ≤ _; exact Nat.le_of_eq rfl) (hb hby at_204) (fun _ _ => ⟨rfl, eT, (by decide : 0 + 1 + 0 ≤ _), (by decide : 0 + 8 + 0 ≤ _)⟩)
    dsimp only [Pt.U, Pt.locs, Pt.cells, Pt.slots] at X2 l2 y2 z2 st2 hQ2
    subst l2 y2 z2
    obtain ⟨NQ2, OLq2, Zq2, hO2⟩ := hQ2
    obtain ⟨z2, rfl, OBq2_b⟩ := hO2
    have OL := OLq2
    have Z0 := Zq2
    have OB_b := OBq2_b
    refine own_tr st2 ?_
    show own_Go p e below s _ _ _ (T2.setTop (mkF m 207 #[.val (.long p0), .second, .val (.long p1), .second, .val (.long p2), .second, .val (.long p3), .second, .val (.long p4), .second, .val (.int p5), .val (.int vb), .val (.int vw), .val (.int va), .val (.int vr), .val (.int vx), .val (.int vy), .val (.ref b), .unset, .unset, .unset, .unset, .unset, .unset, .unset, .unset] [(.ref z2)]))
    refine own_via (fun _ k => XS.pop X2.here hx rfl (hb hby at_207) rfl rfl k) ?_
    show own_Go p e below s _ _ _ (T2.setTop (mkF m 208 #[.val (.long p0), .second, .val (.long p1), .second, .val (.long p2), .second, .val (.long p3), .second, .val (.long p4), .second, .val (.int p5), .val (.int vb), .val (.int vw), .val (.int va), .val (.int vr), .val (.int vx), .val (.int vy), .val (.ref b), .unset, .unset, .unset, .unset, .unset, .unset, .unset, .unset] []))
    refine own_via (fun _ k => XS.iload X2.here hx rfl (hb hby at_208) rfl k) ?_
    show own_Go p e below s _ _ _ (T2.setTop (mkF m 210 #[.val (.long p0), .second, .val (.long p1), .second, .val (.long p2), .second, .val (.long p3), .second, .val (.long p4), .second, .val (.int p5), .val (.int vb), .val (.int vw), .val (.int va), .val (.int vr), .val (.int vx), .val (.int vy), .val (.ref b), .unset, .unset, .unset, .unset, .unset, .unset, .unset, .unset] [(.int vy)]))
    by_cases hc3 : vy = (0 : Int32)
    · refine own_via (fun _ k => XS.ifYes X2.here hx rfl (pc0 := 210) (pc' := 220) rfl (hb hby at_210) rfl ((if0 _ _).trans (teq hc3).1) (by decide) (by decide) k) ?_
      show own_Go p e below s _ _ _ (T2.setTop (mkF m 220 #[.val (.long p0), .second, .val (.long p1), .second, .val (.long p2), .second, .val (.long p3), .second, .val (.long p4), .second, .val (.int p5), .val (.int vb), .val (.int vw), .val (.int va), .val (.int vr), .val (.int vx), .val (.int vy), .val (.ref b), .unset, .unset, .unset, .unset, .unset, .unset, .unset, .unset] []))
      refine pt220 l Z a0 hw p0 p1 p2 p3 p4 p5 w0 w1 w2 n0 K0 Bd hml hZ T2 T2.heap _ X2 rfl (Fr.app N NQ2) Z0 OL (vb) (vw) (va) (vr) (vx) (vy) (b) (ta) (bg) ((1 : Int32)) (an) (wh) (aa) (ar) (p3) OB_b g_b ?_ ?_ ?_ ?_ ?_ ?_ ?_ ?_ ?_ ?_ ?_ ?_
      · exact hb0
      · exact hb1
      · exact hb2
      · exact hb3
      · exact hb4
      · exact hb5
      · exact hb6
      · exact hb7
      · exact hb8
      · exact hb9
      · exact hb10
      · clear hb0 hb1 hb2 hb3 hb5 hb6 hb7 hb8 hb9 hb10
        have ar0 := rng32 vx
        have ar1 := rng32 vy
        have ar2 := rng64 p3
        simp only [Int64.lt_iff_toInt_lt, ← Int64.toInt_inj, Int32.lt_iff_toInt_lt, ← Int32.toInt_inj, (show (0 : Int32).toInt = 0 from rfl), (show (1 : Int32).toInt = 1 from rfl), and_true, true_and, and_false, false_and, or_true, true_or, or_false, false_or] at hc1 hc3 ar0 ar1 ar2 ⊢ <;> omega
    · refine own_via (fun _ k => XS.ifNo X2.here hx rfl (hb hby at_210) rfl ((if0 _ _).trans (feq hc3).1) k) ?_
      show own_Go p e below s _ _ _ (T2.setTop (mkF m 213 #[.val (.long p0), .second, .val (.long p1), .second, .val (.long p2), .second, .val (.long p3), .second, .val (.long p4), .second, .val (.int p5), .val (.int vb), .val (.int vw), .val (.int va), .val (.int vr), .val (.int vx), .val (.int vy), .val (.ref b), .unset, .unset, .unset, .unset, .unset, .unset, .unset, .unset] []))
      refine own_via (fun _ k => XS.aload X2.here hx rfl (hb hby at_213) rfl rfl k) ?_
      show own_Go p e below s _ _ _ (T2.setTop (mkF m 215 #[.val (.long p0), .second, .val (.long p1), .second, .val (.long p2), .second, .val (.long p3), .second, .val (.long p4), .second, .val (.int p5), .val (.int vb), .val (.int vw), .val (.int va), .val (.int vr), .val (.int vx), .val (.int vy), .val (.ref b), .unset, .unset, .unset, .unset, .unset, .unset, .unset, .unset] [(.ref b)]))
      refine own_via (fun _ k => XS.lloadN X2.here hx rfl (hb hby at_215) rfl k) ?_
      show own_Go p e below s _ _ _ (T2.setTop (mkF m 216 #[.val (.long p0), .second, .val (.long p1), .second, .val (.long p2), .second, .val (.long p3), .second, .val (.long p4), .second, .val (.int p5), .val (.int vb), .val (.int vw), .val (.int va), .val (.int vr), .val (.int vx), .val (.int vy), .val (.ref b), .unset, .unset, .unset, .unset, .unset, .unset, .unset, .unset] [(.long p1), (.ref b)]))
      obtain ⟨cq4, kq4, q4a, q4b, q4c⟩ := isOf hZ rfl OB_b.1
      obtain ⟨_, _, ⟨T4, L4, k4, n4⟩, -, X4, ⟨Lc4, hQ4, l4, y4, z4⟩, st4⟩ := X2.virtualBack hx (y := (⟨"com/example/mailbox/mailbox/server/RequestDeadline", "expire", "(J)Lcom/example/mailbox/mailbox/server/RequestDeadline$Expiry;"⟩ : MethodName)) (z := (⟨"com/example/mailbox/mailbox/server/RequestDeadline", "expire", "(J)Lcom/example/mailbox/mailbox/server/RequestDeadline$Expiry;"⟩ : MethodName)) hown (mvT hZ (hw _ (List.mem_of_getElem? (i := 48) rfl))) (mvT hZ (hw _ (List.mem_of_getElem? (i := 49) rfl))) (notFace_of_selects (args := #[]) (mvT hZ (hw _ (List.mem_of_getElem? (i := 51) rfl)))) (mvT hZ (hw _ (List.mem_of_getElem? (i := 51) rfl))) (mvT hZ (hw _ (List.mem_of_getElem? (i := 50) rfl))) (by decide) (backOf (W := 0) (rm7_1 l Z a0 hw [] b ta bg an wh aa ar p3 p1 w0 w1 w2 T2.heap n0 Z0 K0 OL OB_b g_b) hZ (hw _ (List.mem_of_getElem? (i := 52) rfl)) (hw _ (List.mem_of_getElem? (i := 2) rfl)) (by decide) (by decide)) q4a q4c (g := (mkF m 216 #[.val (.long p0), .second, .val (.long p1), .second, .val (.long p2), .second, .val (.long p3), .second, .val (.long p4), .second, .val (.int p5), .val (.int vb), .val (.int vw), .val (.int va), .val (.int vr), .val (.int vx), .val (.int vy), .val (.ref b), .unset, .unset, .unset, .unset, .unset, .unset, .unset, .unset] [(.long p1), (.ref b)])) rfl (by rw [hml]; rfl) (Steps.refl _) (argsL := [(.long p1)]) (rest := []) (lenOf pd1 rfl) rfl (by show 2 * 0 + _ ≤ _; exact Nat.le_of_eq rfl) (hb hby at_216) (fun _ _ => ⟨rfl, rfl, (by decide : 0 + 1 + 0 ≤ _), (by decide : 0 + 8 + 0 ≤ _)⟩)
      dsimp only [Pt.U, Pt.locs, Pt.cells, Pt.slots] at X4 l4 y4 z4 st4 hQ4
      subst l4 y4 z4
      obtain ⟨NQ4, OLq4, Zq4, hO4⟩ := hQ4
      obtain ⟨z4, rfl, OBq4_b⟩ := hO4
      have OL := OLq4
      have Z0 := Zq4
      have OB_b := OBq4_b
      refine own_tr st4 ?_
      show own_Go p e below s _ _ _ (T4.setTop (mkF m 219 #[.val (.long p0), .second, .val (.long p1), .second, .val (.long p2), .second, .val (.long p3), .second, .val (.long p4), .second, .val (.int p5), .val (.int vb), .val (.int vw), .val (.int va), .val (.int vr), .val (.int vx), .val (.int vy), .val (.ref b), .unset, .unset, .unset, .unset, .unset, .unset, .unset, .unset] [(.ref z4)]))
      refine own_via (fun _ k => XS.pop X4.here hx rfl (hb hby at_219) rfl rfl k) ?_
      show own_Go p e below s _ _ _ (T4.setTop (mkF m 220 #[.val (.long p0), .second, .val (.long p1), .second, .val (.long p2), .second, .val (.long p3), .second, .val (.long p4), .second, .val (.int p5), .val (.int vb), .val (.int vw), .val (.int va), .val (.int vr), .val (.int vx), .val (.int vy), .val (.ref b), .unset, .unset, .unset, .unset, .unset, .unset, .unset, .unset] []))
      refine pt220 l Z a0 hw p0 p1 p2 p3 p4 p5 w0 w1 w2 n0 K0 Bd hml hZ T4 T4.heap _ X4 rfl (Fr.app (Fr.app N NQ2) NQ4) Z0 OL (vb) (vw) (va) (vr) (vx) (vy) (b) (ta) (bg) ((1 : Int32)) (an) (wh) (aa) (ar) (p3) OB_b g_b ?_ ?_ ?_ ?_ ?_ ?_ ?_ ?_ ?_ ?_ ?_ ?_
      · exact hb0
      · exact hb1
      · exact hb2
      · exact hb3
      · exact hb4
      · exact hb5
      · exact hb6
      · exact hb7
      · exact hb8
      · exact hb9
      · exact hb10
      · clear hb0 hb1 hb2 hb3 hb5 hb6 hb7 hb8 hb9 hb10
        have ar0 := rng32 vx
        have ar1 := rng32 vy
        have ar2 := rng64 p3
        simp only [Int64.lt_iff_toInt_lt, ← Int64.toInt_inj, Int32.lt_iff_toInt_lt, ← Int32.toInt_inj, (show (0 : Int32).toInt = 0 from rfl), (show (1 : Int32).toInt = 1 from rfl), and_true, true_and, and_false, false_and, or_true, true_or, or_false, false_or] at hc1 hc3 ar0 ar1 ar2 ⊢ <;> omega
set_option maxRecDepth 65536 in
set_option maxHeartbeats 40000000 in
theorem pt182 (l : Launch) (Z : State) (a0 : Array Value) (hw : ∀ d ∈ tables_1, d.before a0 Z = true) (p0 : Int64) (p1 : Int64) (p2 : Int64) (p3 : Int64) (p4 : Int64) (p5 : Int32) (w0 : Addr) (w1 : Addr) (w2 : Addr) (n0 : Nat) (K : own_K Z Z.heap w0 w1 w2) {p : Program} {e : Env} {s : State} {m : MethodId} {below : List Frame} {meth : Method} {c : Code} {s₁ : State} {S : Spec} (Bd : BodyLoose p l x S code maxLocals ret e s m #[(.long p0), (.long p1), (.long p2), (.long p3), (.long p4), (.int p5)] below meth c s₁) (hml : c.maxLocals = 26) (hZ : Z.Warmed39 s.vm)
    (T : State) (h : Heap) (lc : List Loc) (X : Stand p l e room_1 s m #[(.long p0), (.long p1), (.long p2), (.long p3), (.long p4), (.int p5)] below meth c T lc (0 + 1) (0 + 8)) (eT : T.heap = h) (N : Fr n0 lc) (Z0 : n0 ≤ h.size) (OL : Old Z n0 h) (vb : Int32) (vw : Int32) (va : Int32) (vr : Int32) (vx : Int32) (vy : Int32) (b : Addr) (ta : Int64) (bg : Int64) (an : Int64) (wh : Int64) (aa : Int64) (ar : Int32) (OB_b : own_Obj0 Z h b ta bg (0 : Int32) an wh aa ar (0 : Int64)) (g_b : n0 ≤ b) (hb0 : 0 ≤ vb.toInt ∧ vb.toInt ≤ 2) (hb1 : 0 ≤ vw.toInt ∧ vw.toInt ≤ vb.toInt) (hb2 : 0 ≤ va.toInt ∧ va.toInt ≤ vb.toInt) (hb3 : vr.toInt = 0 ∨ vr.toInt = 1) (hb4 : vx.toInt = 0 ∨ vx.toInt = 1) (hb5 : vy.toInt = 0 ∨ vy.toInt = 1) (hb6 : (vr.toInt = 0 ∧ aa.toInt = 0) ∨ (vr.toInt = 1 ∧ aa.toInt = p1.toInt)) (hb7 : bg.toInt = vb.toInt) (hb8 : wh.toInt = vw.toInt) (hb9 : (va.toInt < 1 ∧ an.toInt = 0 ∧ ta.toInt = p0.toInt) ∨ (1 ≤ va.toInt ∧ an.toInt = 1 ∧ ta.toInt = p2.toInt)) :
    own_Go p e below s (Q0 n0) 16 128 (T.setTop (mkF m 182 #[.val (.long p0), .second, .val (.long p1), .second, .val (.long p2), .second, .val (.long p3), .second, .val (.long p4), .second, .val (.int p5), .val (.int vb), .val (.int vw), .val (.int va), .val (.int vr), .val (.int vx), .val (.int vy), .val (.ref b), .unset, .unset, .unset, .unset, .unset, .unset, .unset, .unset] [])) := by
  have hx := Bd.exec
  have hby := Bd.bytes
  have hown : s.vm.findClass "com/example/mailbox/mailbox/server/RequestDeadlineRemainingPinLaw" = some m.cls := findClass_of_methodNamed Bd.named
  have hlk := Bd.notSynchronized
  have K0 := K
  obtain ⟨S_w0, S_w1, S_w2, S_TIMEOUT_NANOS, E_w0, E_w1, E_w2⟩ := K
  show own_Go p e below s _ _ _ (T.setTop (mkF m 182 #[.val (.long p0), .second, .val (.long p1), .second, .val (.long p2), .second, .val (.long p3), .second, .val (.long p4), .second, .val (.int p5), .val (.int vb), .val (.int vw), .val (.int va), .val (.int vr), .val (.int vx), .val (.int vy), .val (.ref b), .unset, .unset, .unset, .unset, .unset, .unset, .unset, .unset] []))
  refine own_via (fun _ k => XS.iload X.here hx rfl (hb hby at_182) rfl k) ?_
  show own_Go p e below s _ _ _ (T.setTop (mkF m 184 #[.val (.long p0), .second, .val (.long p1), .second, .val (.long p2), .second, .val (.long p3), .second, .val (.long p4), .second, .val (.int p5), .val (.int vb), .val (.int vw), .val (.int va), .val (.int vr), .val (.int vx), .val (.int vy), .val (.ref b), .unset, .unset, .unset, .unset, .unset, .unset, .unset, .unset] [(.int va)]))
  refine own_via (fun _ k => XS.iconst X.here hx rfl (hb hby at_184) k) ?_
  show own_Go p e below s _ _ _ (T.setTop (mkF m 185 #[.val (.long p0), .second, .val (.long p1), .second, .val (.long p2), .second, .val (.long p3), .second, .val (.long p4), .second, .val (.int p5), .val (.int vb), .val (.int vw), .val (.int va), .val (.int vr), .val (.int vx), .val (.int vy), .val (.ref b), .unset, .unset, .unset, .unset, .unset, .unset, .unset, .unset] [(.int (2 : Int32)), (.int va)]))
  by_cases hc1 : va < (2 : Int32)
  · refine own_via (fun _ k => XS.icmpYes X.here hx rfl (pc0 := 185) (pc' := 195) rfl (hb hby at_185) rfl (tlt hc1).1 (by decide) (by decide) k) ?_
    show own_Go p e below s _ _ _ (T.setTop (mkF m 195 #[.val (.long p0), .second, .val (.long p1), .second, .val (.long p2), .second, .val (.long p3), .second, .val (.long p4), .second, .val (.int p5), .val (.int vb), .val (.int vw), .val (.int va), .val (.int vr), .val (.int vx), .val (.int vy), .val (.ref b), .unset, .unset, .unset, .unset, .unset, .unset, .unset, .unset] []))
    refine pt195 l Z a0 hw p0 p1 p2 p3 p4 p5 w0 w1 w2 n0 K0 Bd hml hZ T h _ X eT N Z0 OL (vb) (vw) (va) (vr) (vx) (vy) (b) (ta) (bg) (an) (wh) (aa) (ar) OB_b g_b ?_ ?_ ?_ ?_ ?_ ?_ ?_ ?_ ?_ ?_ ?_
    · exact hb0
    · exact hb1
    · exact hb2
    · exact hb3
    · exact hb4
    · exact hb5
    · exact hb6
    · exact hb7
    · exact hb8
    · clear hb1 hb3 hb4 hb5 hb6 hb7 hb8
      have ar0 := rng32 va
      have ar1 := rng64 ta
      have ar2 := rng64 an
      simp only [Int64.lt_iff_toInt_lt, ← Int64.toInt_inj, Int32.lt_iff_toInt_lt, ← Int32.toInt_inj, (show (2 : Int32).toInt = 2 from rfl), and_true, true_and, and_false, false_and, or_true, true_or, or_false, false_or] at hc1 ar0 ar1 ar2 ⊢ <;> omega
    · clear hb1 hb3 hb4 hb5 hb6 hb7 hb8
      have ar0 := rng32 va
      have ar1 := rng64 ta
      have ar2 := rng64 an
      simp only [Int64.lt_iff_toInt_lt, ← Int64.toInt_inj, Int32.lt_iff_toInt_lt, ← Int32.toInt_inj, (show (2 : Int32).toInt = 2 from rfl), and_true, true_and, and_false, false_and, or_true, true_or, or_false, false_or] at hc1 ar0 ar1 ar2 ⊢ <;> omega
  · refine own_via (fun _ k => XS.icmpNo X.here hx rfl (hb hby at_185) rfl (flt hc1).1 k) ?_
    show own_Go p e below s _ _ _ (T.setTop (mkF m 188 #[.val (.long p0), .second, .val (.long p1), .second, .val (.long p2), .second, .val (.long p3), .second, .val (.long p4), .second, .val (.int p5), .val (.int vb), .val (.int vw), .val (.int va), .val (.int vr), .val (.int vx), .val (.int vy), .val (.ref b), .unset, .unset, .unset, .unset, .unset, .unset, .unset, .unset] []))
    refine own_via (fun _ k => XS.aload X.here hx rfl (hb hby at_188) rfl rfl k) ?_
    show own_Go p e below s _ _ _ (T.setTop (mkF m 190 #[.val (.long p0), .second, .val (.long p1), .second, .val (.long p2), .second, .val (.long p3), .second, .val (.long p4), .second, .val (.int p5), .val (.int vb), .val (.int vw), .val (.int va), .val (.int vr), .val (.int vx), .val (.int vy), .val (.ref b), .unset, .unset, .unset, .unset, .unset, .unset, .unset, .unset] [(.ref b)]))
    refine own_via (fun _ k => XS.lload X.here hx rfl (hb hby at_190) rfl k) ?_
    show own_Go p e below s _ _ _ (T.setTop (mkF m 192 #[.val (.long p0), .second, .val (.long p1), .second, .val (.long p2), .second, .val (.long p3), .second, .val (.long p4), .second, .val (.int p5), .val (.int vb), .val (.int vw), .val (.int va), .val (.int vr), .val (.int vx), .val (.int vy), .val (.ref b), .unset, .unset, .unset, .unset, .unset, .unset, .unset, .unset] [(.long p2), (.ref b)]))
    obtain ⟨cq2, kq2, q2a, q2b, q2c⟩ := isOf hZ eT OB_b.1
    obtain ⟨_, _, ⟨T2, L2, k2, n2⟩, -, X2, ⟨Lc2, hQ2, l2, y2, z2⟩, st2⟩ := X.virtualBack hx (y := (⟨"com/example/mailbox/mailbox/server/RequestDeadline", "answered", "(J)V"⟩ : MethodName)) (z := (⟨"com/example/mailbox/mailbox/server/RequestDeadline", "answered", "(J)V"⟩ : MethodName)) hown (mvT hZ (hw _ (List.mem_of_getElem? (i := 58) rfl))) (mvT hZ (hw _ (List.mem_of_getElem? (i := 59) rfl))) (notFace_of_selects (args := #[]) (mvT hZ (hw _ (List.mem_of_getElem? (i := 61) rfl)))) (mvT hZ (hw _ (List.mem_of_getElem? (i := 61) rfl))) (mvT hZ (hw _ (List.mem_of_getElem? (i := 60) rfl))) (by decide) (backOf (W := 0) (rm8_0 l Z a0 hw [] b ta bg (0 : Int32) an wh aa ar (0 : Int64) p2 w0 w1 w2 h n0 Z0 K0 OL OB_b g_b) hZ (hw _ (List.mem_of_getElem? (i := 62) rfl)) (hw _ (List.mem_of_getElem? (i := 2) rfl)) (by decide) (by decide)) q2a q2c (g := (mkF m 192 #[.val (.long p0), .second, .val (.long p1), .second, .val (.long p2), .second, .val (.long p3), .second, .val (.long p4), .second, .val (.int p5), .val (.int vb), .val (.int vw), .val (.int va), .val (.int vr), .val (.int vx), .val (.int vy), .val (.ref b), .unset, .unset, .unset, .unset, .unset, .unset, .unset, .unset] [(.long p2), (.ref b)])) rfl (by rw [hml]; rfl) (Steps.refl _) (argsL := [(.long p2)]) (rest := []) (lenOf pd2 rfl) rfl (by show 2 * 0 + _ ≤ _; exact Nat.le_of_eq rfl) (hb hby at_192) (fun _ _ => ⟨rfl, eT, (by decide : 0 + 1 + 0 ≤ _), (by decide : 0 + 8 + 0 ≤ _)⟩)
    dsimp only [Pt.U, Pt.locs, Pt.cells, Pt.slots] at X2 l2 y2 z2 st2 hQ2
    subst l2 y2 z2
    obtain ⟨NQ2, OLq2, Zq2, hO2⟩ := hQ2
    obtain ⟨rfl, OBq2_b⟩ := hO2
    have OL := OLq2
    have Z0 := Zq2
    have OB_b := OBq2_b
    refine own_tr st2 ?_
    show own_Go p e below s _ _ _ (T2.setTop (mkF m 195 #[.val (.long p0), .second, .val (.long p1), .second, .val (.long p2), .second, .val (.long p3), .second, .val (.long p4), .second, .val (.int p5), .val (.int vb), .val (.int vw), .val (.int va), .val (.int vr), .val (.int vx), .val (.int vy), .val (.ref b), .unset, .unset, .unset, .unset, .unset, .unset, .unset, .unset] []))
    refine pt195 l Z a0 hw p0 p1 p2 p3 p4 p5 w0 w1 w2 n0 K0 Bd hml hZ T2 T2.heap _ X2 rfl (Fr.app N NQ2) Z0 OL (vb) (vw) (va) (vr) (vx) (vy) (b) (p2) (bg) ((an + (1 : Int64))) (wh) (aa) ((0 : Int32)) OB_b g_b ?_ ?_ ?_ ?_ ?_ ?_ ?_ ?_ ?_ ?_ ?_
    · exact hb0
    · exact hb1
    · exact hb2
    · exact hb3
    · exact hb4
    · exact hb5
    · exact hb6
    · exact hb7
    · exact hb8
    · clear hb1 hb3 hb4 hb5 hb6 hb7 hb8
      have ar0 := rng32 va
      have ar1 := rng64 p2
      have ar2 := rng64 an
      have ar3 := c_ladd an (1 : Int64)
      have ar4 := rng64 (an + (1 : Int64))
      simp only [Int64.lt_iff_toInt_lt, ← Int64.toInt_inj, Int32.lt_iff_toInt_lt, ← Int32.toInt_inj, (show (2 : Int32).toInt = 2 from rfl), (show (1 : Int64).toInt = 1 from rfl), and_true, true_and, and_false, false_and, or_true, true_or, or_false, false_or] at hc1 ar0 ar1 ar2 ar3 ar4 ⊢ <;> omega
    · clear hb1 hb3 hb4 hb5 hb6 hb7 hb8
      have ar0 := rng32 va
      have ar1 := rng64 p2
      have ar2 := rng64 an
      have ar3 := c_ladd an (1 : Int64)
      have ar4 := rng64 (an + (1 : Int64))
      simp only [Int64.lt_iff_toInt_lt, ← Int64.toInt_inj, Int32.lt_iff_toInt_lt, ← Int32.toInt_inj, (show (2 : Int32).toInt = 2 from rfl), (show (1 : Int64).toInt = 1 from rfl), and_true, true_and, and_false, false_and, or_true, true_or, or_false, false_or] at hc1 ar0 ar1 ar2 ar3 ar4 ⊢ <;> omega
set_option maxRecDepth 65536 in
set_option maxHeartbeats 40000000 in
theorem pt169 (l : Launch) (Z : State) (a0 : Array Value) (hw : ∀ d ∈ tables_1, d.before a0 Z = true) (p0 : Int64) (p1 : Int64) (p2 : Int64) (p3 : Int64) (p4 : Int64) (p5 : Int32) (w0 : Addr) (w1 : Addr) (w2 : Addr) (n0 : Nat) (K : own_K Z Z.heap w0 w1 w2) {p : Program} {e : Env} {s : State} {m : MethodId} {below : List Frame} {meth : Method} {c : Code} {s₁ : State} {S : Spec} (Bd : BodyLoose p l x S code maxLocals ret e s m #[(.long p0), (.long p1), (.long p2), (.long p3), (.long p4), (.int p5)] below meth c s₁) (hml : c.maxLocals = 26) (hZ : Z.Warmed39 s.vm)
    (T : State) (h : Heap) (lc : List Loc) (X : Stand p l e room_1 s m #[(.long p0), (.long p1), (.long p2), (.long p3), (.long p4), (.int p5)] below meth c T lc (0 + 1) (0 + 8)) (eT : T.heap = h) (N : Fr n0 lc) (Z0 : n0 ≤ h.size) (OL : Old Z n0 h) (vb : Int32) (vw : Int32) (va : Int32) (vr : Int32) (vx : Int32) (vy : Int32) (b : Addr) (bg : Int64) (wh : Int64) (aa : Int64) (ar : Int32) (OB_b : own_Obj0 Z h b p0 bg (0 : Int32) (0 : Int64) wh aa ar (0 : Int64)) (g_b : n0 ≤ b) (hb0 : 0 ≤ vb.toInt ∧ vb.toInt ≤ 2) (hb1 : 0 ≤ vw.toInt ∧ vw.toInt ≤ vb.toInt) (hb2 : 0 ≤ va.toInt ∧ va.toInt ≤ vb.toInt) (hb3 : vr.toInt = 0 ∨ vr.toInt = 1) (hb4 : vx.toInt = 0 ∨ vx.toInt = 1) (hb5 : vy.toInt = 0 ∨ vy.toInt = 1) (hb6 : (vr.toInt = 0 ∧ aa.toInt = 0) ∨ (vr.toInt = 1 ∧ aa.toInt = p1.toInt)) (hb7 : bg.toInt = vb.toInt) (hb8 : wh.toInt = vw.toInt) :
    own_Go p e below s (Q0 n0) 16 128 (T.setTop (mkF m 169 #[.val (.long p0), .second, .val (.long p1), .second, .val (.long p2), .second, .val (.long p3), .second, .val (.long p4), .second, .val (.int p5), .val (.int vb), .val (.int vw), .val (.int va), .val (.int vr), .val (.int vx), .val (.int vy), .val (.ref b), .unset, .unset, .unset, .unset, .unset, .unset, .unset, .unset] [])) := by
  have hx := Bd.exec
  have hby := Bd.bytes
  have hown : s.vm.findClass "com/example/mailbox/mailbox/server/RequestDeadlineRemainingPinLaw" = some m.cls := findClass_of_methodNamed Bd.named
  have hlk := Bd.notSynchronized
  have K0 := K
  obtain ⟨S_w0, S_w1, S_w2, S_TIMEOUT_NANOS, E_w0, E_w1, E_w2⟩ := K
  show own_Go p e below s _ _ _ (T.setTop (mkF m 169 #[.val (.long p0), .second, .val (.long p1), .second, .val (.long p2), .second, .val (.long p3), .second, .val (.long p4), .second, .val (.int p5), .val (.int vb), .val (.int vw), .val (.int va), .val (.int vr), .val (.int vx), .val (.int vy), .val (.ref b), .unset, .unset, .unset, .unset, .unset, .unset, .unset, .unset] []))
  refine own_via (fun _ k => XS.iload X.here hx rfl (hb hby at_169) rfl k) ?_
  show own_Go p e below s _ _ _ (T.setTop (mkF m 171 #[.val (.long p0), .second, .val (.long p1), .second, .val (.long p2), .second, .val (.long p3), .second, .val (.long p4), .second, .val (.int p5), .val (.int vb), .val (.int vw), .val (.int va), .val (.int vr), .val (.int vx), .val (.int vy), .val (.ref b), .unset, .unset, .unset, .unset, .unset, .unset, .unset, .unset] [(.int va)]))
  refine own_via (fun _ k => XS.iconst X.here hx rfl (hb hby at_171) k) ?_
  show own_Go p e below s _ _ _ (T.setTop (mkF m 172 #[.val (.long p0), .second, .val (.long p1), .second, .val (.long p2), .second, .val (.long p3), .second, .val (.long p4), .second, .val (.int p5), .val (.int vb), .val (.int vw), .val (.int va), .val (.int vr), .val (.int vx), .val (.int vy), .val (.ref b), .unset, .unset, .unset, .unset, .unset, .unset, .unset, .unset] [(.int (1 : Int32)), (.int va)]))
  by_cases hc1 : va < (1 : Int32)
  · refine own_via (fun _ k => XS.icmpYes X.here hx rfl (pc0 := 172) (pc' := 182) rfl (hb hby at_172) rfl (tlt hc1).1 (by decide) (by decide) k) ?_
    show own_Go p e below s _ _ _ (T.setTop (mkF m 182 #[.val (.long p0), .second, .val (.long p1), .second, .val (.long p2), .second, .val (.long p3), .second, .val (.long p4), .second, .val (.int p5), .val (.int vb), .val (.int vw), .val (.int va), .val (.int vr), .val (.int vx), .val (.int vy), .val (.ref b), .unset, .unset, .unset, .unset, .unset, .unset, .unset, .unset] []))
    refine pt182 l Z a0 hw p0 p1 p2 p3 p4 p5 w0 w1 w2 n0 K0 Bd hml hZ T h _ X eT N Z0 OL (vb) (vw) (va) (vr) (vx) (vy) (b) (p0) (bg) ((0 : Int64)) (wh) (aa) (ar) OB_b g_b ?_ ?_ ?_ ?_ ?_ ?_ ?_ ?_ ?_ ?_
    · exact hb0
    · exact hb1
    · exact hb2
    · exact hb3
    · exact hb4
    · exact hb5
    · exact hb6
    · exact hb7
    · exact hb8
    · clear hb0 hb1 hb3 hb4 hb5 hb6 hb7 hb8
      have ar0 := rng32 va
      have ar1 := rng64 p0
      simp only [Int64.lt_iff_toInt_lt, ← Int64.toInt_inj, Int32.lt_iff_toInt_lt, ← Int32.toInt_inj, (show (1 : Int32).toInt = 1 from rfl), (show (0 : Int64).toInt = 0 from rfl), and_true, true_and, and_false, false_and, or_true, true_or, or_false, false_or] at hc1 ar0 ar1 ⊢ <;> omega
  · refine own_via (fun _ k => XS.icmpNo X.here hx rfl (hb hby at_172) rfl (flt hc1).1 k) ?_
    show own_Go p e below s _ _ _ (T.setTop (mkF m 175 #[.val (.long p0), .second, .val (.long p1), .second, .val (.long p2), .second, .val (.long p3), .second, .val (.long p4), .second, .val (.int p5), .val (.int vb), .val (.int vw), .val (.int va), .val (.int vr), .val (.int vx), .val (.int vy), .val (.ref b), .unset, .unset, .unset, .unset, .unset, .unset, .unset, .unset] []))
    refine own_via (fun _ k => XS.aload X.here hx rfl (hb hby at_175) rfl rfl k) ?_
    show own_Go p e below s _ _ _ (T.setTop (mkF m 177 #[.val (.long p0), .second, .val (.long p1), .second, .val (.long p2), .second, .val (.long p3), .second, .val (.long p4), .second, .val (.int p5), .val (.int vb), .val (.int vw), .val (.int va), .val (.int vr), .val (.int vx), .val (.int vy), .val (.ref b), .unset, .unset, .unset, .unset, .unset, .unset, .unset, .unset] [(.ref b)]))
    refine own_via (fun _ k => XS.lload X.here hx rfl (hb hby at_177) rfl k) ?_
    show own_Go p e below s _ _ _ (T.setTop (mkF m 179 #[.val (.long p0), .second, .val (.long p1), .second, .val (.long p2), .second, .val (.long p3), .second, .val (.long p4), .second, .val (.int p5), .val (.int vb), .val (.int vw), .val (.int va), .val (.int vr), .val (.int vx), .val (.int vy), .val (.ref b), .unset, .unset, .unset, .unset, .unset, .unset, .unset, .unset] [(.long p2), (.ref b)]))
    obtain ⟨cq2, kq2, q2a, q2b, q2c⟩ := isOf hZ eT OB_b.1
    obtain ⟨_, _, ⟨T2, L2, k2, n2⟩, -, X2, ⟨Lc2, hQ2, l2, y2, z2⟩, st2⟩ := X.virtualBack hx (y := (⟨"com/example/mailbox/mailbox/server/RequestDeadline", "answered", "(J)V"⟩ : MethodName)) (z := (⟨"com/example/mailbox/mailbox/server/RequestDeadline", "answered", "(J)V"⟩ : MethodName)) hown (mvT hZ (hw _ (List.mem_of_getElem? (i := 58) rfl))) (mvT hZ (hw _ (List.mem_of_getElem? (i := 59) rfl))) (notFace_of_selects (args := #[]) (mvT hZ (hw _ (List.mem_of_getElem? (i := 61) rfl)))) (mvT hZ (hw _ (List.mem_of_getElem? (i := 61) rfl))) (mvT hZ (hw _ (List.mem_of_getElem? (i := 60) rfl))) (by decide) (backOf (W := 0) (rm8_0 l Z a0 hw [] b p0 bg (0 : Int32) (0 : Int64) wh aa ar (0 : Int64) p2 w0 w1 w2 h n0 Z0 K0 OL OB_b g_b) hZ (hw _ (List.mem_of_getElem? (i := 62) rfl)) (hw _ (List.mem_of_getElem? (i := 2) rfl)) (by decide) (by decide)) q2a q2c (g := (mkF m 179 #[.val (.long p0), .second, .val (.long p1), .second, .val (.long p2), .second, .val (.long p3), .second, .val (.long p4), .second, .val (.int p5), .val (.int vb), .val (.int vw), .val (.int va), .val (.int vr), .val (.int vx), .val (.int vy), .val (.ref b), .unset, .unset, .unset, .unset, .unset, .unset, .unset, .unset] [(.long p2), (.ref b)])) rfl (by rw [hml]; rfl) (Steps.refl _) (argsL := [(.long p2)]) (rest := []) (lenOf pd2 rfl) rfl (by show 2 * 0 + _ ≤ _; exact Nat.le_of_eq rfl) (hb hby at_179) (fun _ _ => ⟨rfl, eT, (by decide : 0 + 1 + 0 ≤ _), (by decide : 0 + 8 + 0 ≤ _)⟩)
    dsimp only [Pt.U, Pt.locs, Pt.cells, Pt.slots] at X2 l2 y2 z2 st2 hQ2
    subst l2 y2 z2
    obtain ⟨NQ2, OLq2, Zq2, hO2⟩ := hQ2
    obtain ⟨rfl, OBq2_b⟩ := hO2
    have OL := OLq2
    have Z0 := Zq2
    have OB_b := OBq2_b
    refine own_tr st2 ?_
    show own_Go p e below s _ _ _ (T2.setTop (mkF m 182 #[.val (.long p0), .second, .val (.long p1), .second, .val (.long p2), .second, .val (.long p3), .second, .val (.long p4), .second, .val (.int p5), .val (.int vb), .val (.int vw), .val (.int va), .val (.int vr), .val (.int vx), .val (.int vy), .val (.ref b), .unset, .unset, .unset, .unset, .unset, .unset, .unset, .unset] []))
    refine pt182 l Z a0 hw p0 p1 p2 p3 p4 p5 w0 w1 w2 n0 K0 Bd hml hZ T2 T2.heap _ X2 rfl (Fr.app N NQ2) Z0 OL (vb) (vw) (va) (vr) (vx) (vy) (b) (p2) (bg) (((0 : Int64) + (1 : Int64))) (wh) (aa) ((0 : Int32)) OB_b g_b ?_ ?_ ?_ ?_ ?_ ?_ ?_ ?_ ?_ ?_
    · exact hb0
    · exact hb1
    · exact hb2
    · exact hb3
    · exact hb4
    · exact hb5
    · exact hb6
    · exact hb7
    · exact hb8
    · clear hb0 hb1 hb3 hb4 hb5 hb6 hb7 hb8
      have ar0 := rng32 va
      have ar1 := rng64 p2
      have ar2 := c_ladd (0 : Int64) (1 : Int64)
      have ar3 := rng64 ((0 : Int64) + (1 : Int64))
      simp only [Int64.lt_iff_toInt_lt, ← Int64.toInt_inj, Int32.lt_iff_toInt_lt, ← Int32.toInt_inj, (show (1 : Int32).toInt = 1 from rfl), (show (0 : Int64).toInt = 0 from rfl), (show (1 : Int64).toInt = 1 from rfl), and_true, true_and, and_false, false_and, or_true, true_or, or_false, false_or] at hc1 ar0 ar1 ar2 ar3 ⊢ <;> omega
set_option maxRecDepth 65536 in
set_option maxHeartbeats 40000000 in
theorem pt158 (l : Launch) (Z : State) (a0 : Array Value) (hw : ∀ d ∈ tables_1, d.before a0 Z = true) (p0 : Int64) (p1 : Int64) (p2 : Int64) (p3 : Int64) (p4 : Int64) (p5 : Int32) (w0 : Addr) (w1 : Addr) (w2 : Addr) (n0 : Nat) (K : own_K Z Z.heap w0 w1 w2) {p : Program} {e : Env} {s : State} {m : MethodId} {below : List Frame} {meth : Method} {c : Code} {s₁ : State} {S : Spec} (Bd : BodyLoose p l x S code maxLocals ret e s m #[(.long p0), (.long p1), (.long p2), (.long p3), (.long p4), (.int p5)] below meth c s₁) (hml : c.maxLocals = 26) (hZ : Z.Warmed39 s.vm)
    (T : State) (h : Heap) (lc : List Loc) (X : Stand p l e room_1 s m #[(.long p0), (.long p1), (.long p2), (.long p3), (.long p4), (.int p5)] below meth c T lc (0 + 1) (0 + 8)) (eT : T.heap = h) (N : Fr n0 lc) (Z0 : n0 ≤ h.size) (OL : Old Z n0 h) (vb : Int32) (vw : Int32) (va : Int32) (vr : Int32) (vx : Int32) (vy : Int32) (b : Addr) (bg : Int64) (wh : Int64) (aa : Int64) (ar : Int32) (OB_b : own_Obj0 Z h b p0 bg (0 : Int32) (0 : Int64) wh aa ar (0 : Int64)) (g_b : n0 ≤ b) (hb0 : 0 ≤ vb.toInt ∧ vb.toInt ≤ 2) (hb1 : 0 ≤ vw.toInt ∧ vw.toInt ≤ vb.toInt) (hb2 : 0 ≤ va.toInt ∧ va.toInt ≤ vb.toInt) (hb3 : vr.toInt = 0 ∨ vr.toInt = 1) (hb4 : vx.toInt = 0 ∨ vx.toInt = 1) (hb5 : vy.toInt = 0 ∨ vy.toInt = 1) (hb6 : (vr.toInt = 0 ∧ aa.toInt = 0) ∨ (vr.toInt = 1 ∧ aa.toInt = p1.toInt)) (hb7 : bg.toInt = vb.toInt) (hb8 : (vw.toInt < 1 ∧ wh.toInt = 0) ∨ (1 ≤ vw.toInt ∧ wh.toInt = 1)) :
    own_Go p e below s (Q0 n0) 16 128 (T.setTop (mkF m 158 #[.val (.long p0), .second, .val (.long p1), .second, .val (.long p2), .second, .val (.long p3), .second, .val (.long p4), .second, .val (.int p5), .val (.int vb), .val (.int vw), .val (.int va), .val (.int vr), .val (.int vx), .val (.int vy), .val (.ref b), .unset, .unset, .unset, .unset, .unset, .unset, .unset, .unset] [])) := by
  have hx := Bd.exec
  have hby := Bd.bytes
  have hown : s.vm.findClass "com/example/mailbox/mailbox/server/RequestDeadlineRemainingPinLaw" = some m.cls := findClass_of_methodNamed Bd.named
  have hlk := Bd.notSynchronized
  have K0 := K
  obtain ⟨S_w0, S_w1, S_w2, S_TIMEOUT_NANOS, E_w0, E_w1, E_w2⟩ := K
  show own_Go p e below s _ _ _ (T.setTop (mkF m 158 #[.val (.long p0), .second, .val (.long p1), .second, .val (.long p2), .second, .val (.long p3), .second, .val (.long p4), .second, .val (.int p5), .val (.int vb), .val (.int vw), .val (.int va), .val (.int vr), .val (.int vx), .val (.int vy), .val (.ref b), .unset, .unset, .unset, .unset, .unset, .unset, .unset, .unset] []))
  refine own_via (fun _ k => XS.iload X.here hx rfl (hb hby at_158) rfl k) ?_
  show own_Go p e below s _ _ _ (T.setTop (mkF m 160 #[.val (.long p0), .second, .val (.long p1), .second, .val (.long p2), .second, .val (.long p3), .second, .val (.long p4), .second, .val (.int p5), .val (.int vb), .val (.int vw), .val (.int va), .val (.int vr), .val (.int vx), .val (.int vy), .val (.ref b), .unset, .unset, .unset, .unset, .unset, .unset, .unset, .unset] [(.int vw)]))
  refine own_via (fun _ k => XS.iconst X.here hx rfl (hb hby at_160) k) ?_
  show own_Go p e below s _ _ _ (T.setTop (mkF m 161 #[.val (.long p0), .second, .val (.long p1), .second, .val (.long p2), .second, .val (.long p3), .second, .val (.long p4), .second, .val (.int p5), .val (.int vb), .val (.int vw), .val (.int va), .val (.int vr), .val (.int vx), .val (.int vy), .val (.ref b), .unset, .unset, .unset, .unset, .unset, .unset, .unset, .unset] [(.int (2 : Int32)), (.int vw)]))
  by_cases hc1 : vw < (2 : Int32)
  · refine own_via (fun _ k => XS.icmpYes X.here hx rfl (pc0 := 161) (pc' := 169) rfl (hb hby at_161) rfl (tlt hc1).1 (by decide) (by decide) k) ?_
    show own_Go p e below s _ _ _ (T.setTop (mkF m 169 #[.val (.long p0), .second, .val (.long p1), .second, .val (.long p2), .second, .val (.long p3), .second, .val (.long p4), .second, .val (.int p5), .val (.int vb), .val (.int vw), .val (.int va), .val (.int vr), .val (.int vx), .val (.int vy), .val (.ref b), .unset, .unset, .unset, .unset, .unset, .unset, .unset, .unset] []))
    refine pt169 l Z a0 hw p0 p1 p2 p3 p4 p5 w0 w1 w2 n0 K0 Bd hml hZ T h _ X eT N Z0 OL (vb) (vw) (va) (vr) (vx) (vy) (b) (bg) (wh) (aa) (ar) OB_b g_b ?_ ?_ ?_ ?_ ?_ ?_ ?_ ?_ ?_
    · exact hb0
    · exact hb1
    · exact hb2
    · exact hb3
    · exact hb4
    · exact hb5
    · exact hb6
    · exact hb7
    · clear hb2 hb3 hb4 hb5 hb6 hb7
      have ar0 := rng32 vw
      have ar1 := rng64 wh
      simp only [Int64.lt_iff_toInt_lt, ← Int64.toInt_inj, Int32.lt_iff_toInt_lt, ← Int32.toInt_inj, (show (2 : Int32).toInt = 2 from rfl), and_true, true_and, and_false, false_and, or_true, true_or, or_false, false_or] at hc1 ar0 ar1 ⊢ <;> omega
  · refine own_via (fun _ k => XS.icmpNo X.here hx rfl (hb hby at_161) rfl (flt hc1).1 k) ?_
    show own_Go p e below s _ _ _ (T.setTop (mkF m 164 #[.val (.long p0), .second, .val (.long p1), .second, .val (.long p2), .second, .val (.long p3), .second, .val (.long p4), .second, .val (.int p5), .val (.int vb), .val (.int vw), .val (.int va), .val (.int vr), .val (.int vx), .val (.int vy), .val (.ref b), .unset, .unset, .unset, .unset, .unset, .unset, .unset, .unset] []))
    refine own_via (fun _ k => XS.aload X.here hx rfl (hb hby at_164) rfl rfl k) ?_
    show own_Go p e below s _ _ _ (T.setTop (mkF m 166 #[.val (.long p0), .second, .val (.long p1), .second, .val (.long p2), .second, .val (.long p3), .second, .val (.long p4), .second, .val (.int p5), .val (.int vb), .val (.int vw), .val (.int va), .val (.int vr), .val (.int vx), .val (.int vy), .val (.ref b), .unset, .unset, .unset, .unset, .unset, .unset, .unset, .unset] [(.ref b)]))
    obtain ⟨cq2, kq2, q2a, q2b, q2c⟩ := isOf hZ eT OB_b.1
    obtain ⟨_, _, ⟨T2, L2, k2, n2⟩, -, X2, ⟨Lc2, hQ2, l2, y2, z2⟩, st2⟩ := X.virtualBack hx (y := (⟨"com/example/mailbox/mailbox/server/RequestDeadline", "whole", "()V"⟩ : MethodName)) (z := (⟨"com/example/mailbox/mailbox/server/RequestDeadline", "whole", "()V"⟩ : MethodName)) hown (mvT hZ (hw _ (List.mem_of_getElem? (i := 34) rfl))) (mvT hZ (hw _ (List.mem_of_getElem? (i := 35) rfl))) (notFace_of_selects (args := #[]) (mvT hZ (hw _ (List.mem_of_getElem? (i := 37) rfl)))) (mvT hZ (hw _ (List.mem_of_getElem? (i := 37) rfl))) (mvT hZ (hw _ (List.mem_of_getElem? (i := 36) rfl))) (by decide) (backOf (W := 0) (rm5_0 l Z a0 hw [] b p0 bg (0 : Int32) (0 : Int64) wh aa ar (0 : Int64) w0 w1 w2 h n0 Z0 K0 OL OB_b g_b) hZ (hw _ (List.mem_of_getElem? (i := 38) rfl)) (hw _ (List.mem_of_getElem? (i := 2) rfl)) (by decide) (by decide)) q2a q2c (g := (mkF m 166 #[.val (.long p0), .second, .val (.long p1), .second, .val (.long p2), .second, .val (.long p3), .second, .val (.long p4), .second, .val (.int p5), .val (.int vb), .val (.int vw), .val (.int va), .val (.int vr), .val (.int vx), .val (.int vy), .val (.ref b), .unset, .unset, .unset, .unset, .unset, .unset, .unset, .unset] [(.ref b)])) rfl (by rw [hml]; rfl) (Steps.refl _) (argsL := []) (rest := []) (lenOf pd3 rfl) rfl (by show 2 * 0 + _ ≤ _; exact Nat.le_of_eq rfl) (hb hby at_166) (fun _ _ => ⟨rfl, eT, (by decide : 0 + 1 + 0 ≤ _), (by decide : 0 + 8 + 0 ≤ _)⟩)
    dsimp only [Pt.U, Pt.locs, Pt.cells, Pt.slots] at X2 l2 y2 z2 st2 hQ2
    subst l2 y2 z2
    obtain ⟨NQ2, OLq2, Zq2, hO2⟩ := hQ2
    obtain ⟨rfl, OBq2_b⟩ := hO2
    have OL := OLq2
    have Z0 := Zq2
    have OB_b := OBq2_b
    refine own_tr st2 ?_
    show own_Go p e below s _ _ _ (T2.setTop (mkF m 169 #[.val (.long p0), .second, .val (.long p1), .second, .val (.long p2), .second, .val (.long p3), .second, .val (.long p4), .second, .val (.int p5), .val (.int vb), .val (.int vw), .val (.int va), .val (.int vr), .val (.int vx), .val (.int vy), .val (.ref b), .unset, .unset, .unset, .unset, .unset, .unset, .unset, .unset] []))
    refine pt169 l Z a0 hw p0 p1 p2 p3 p4 p5 w0 w1 w2 n0 K0 Bd hml hZ T2 T2.heap _ X2 rfl (Fr.app N NQ2) Z0 OL (vb) (vw) (va) (vr) (vx) (vy) (b) (bg) ((wh + (1 : Int64))) (aa) (ar) OB_b g_b ?_ ?_ ?_ ?_ ?_ ?_ ?_ ?_ ?_
    · exact hb0
    · exact hb1
    · exact hb2
    · exact hb3
    · exact hb4
    · exact hb5
    · exact hb6
    · exact hb7
    · clear hb2 hb3 hb4 hb5 hb6 hb7
      have ar0 := rng32 vw
      have ar1 := rng64 wh
      have ar2 := c_ladd wh (1 : Int64)
      have ar3 := rng64 (wh + (1 : Int64))
      simp only [Int64.lt_iff_toInt_lt, ← Int64.toInt_inj, Int32.lt_iff_toInt_lt, ← Int32.toInt_inj, (show (2 : Int32).toInt = 2 from rfl), (show (1 : Int64).toInt = 1 from rfl), and_true, true_and, and_false, false_and, or_true, true_or, or_false, false_or] at hc1 ar0 ar1 ar2 ar3 ⊢ <;> omega
set_option maxRecDepth 65536 in
set_option maxHeartbeats 40000000 in
theorem pt147 (l : Launch) (Z : State) (a0 : Array Value) (hw : ∀ d ∈ tables_1, d.before a0 Z = true) (p0 : Int64) (p1 : Int64) (p2 : Int64) (p3 : Int64) (p4 : Int64) (p5 : Int32) (w0 : Addr) (w1 : Addr) (w2 : Addr) (n0 : Nat) (K : own_K Z Z.heap w0 w1 w2) {p : Program} {e : Env} {s : State} {m : MethodId} {below : List Frame} {meth : Method} {c : Code} {s₁ : State} {S : Spec} (Bd : BodyLoose p l x S code maxLocals ret e s m #[(.long p0), (.long p1), (.long p2), (.long p3), (.long p4), (.int p5)] below meth c s₁) (hml : c.maxLocals = 26) (hZ : Z.Warmed39 s.vm)
    (T : State) (h : Heap) (lc : List Loc) (X : Stand p l e room_1 s m #[(.long p0), (.long p1), (.long p2), (.long p3), (.long p4), (.int p5)] below meth c T lc (0 + 1) (0 + 8)) (eT : T.heap = h) (N : Fr n0 lc) (Z0 : n0 ≤ h.size) (OL : Old Z n0 h) (vb : Int32) (vw : Int32) (va : Int32) (vr : Int32) (vx : Int32) (vy : Int32) (b : Addr) (bg : Int64) (aa : Int64) (ar : Int32) (OB_b : own_Obj0 Z h b p0 bg (0 : Int32) (0 : Int64) (0 : Int64) aa ar (0 : Int64)) (g_b : n0 ≤ b) (hb0 : 0 ≤ vb.toInt ∧ vb.toInt ≤ 2) (hb1 : 0 ≤ vw.toInt ∧ vw.toInt ≤ vb.toInt) (hb2 : 0 ≤ va.toInt ∧ va.toInt ≤ vb.toInt) (hb3 : vr.toInt = 0 ∨ vr.toInt = 1) (hb4 : vx.toInt = 0 ∨ vx.toInt = 1) (hb5 : vy.toInt = 0 ∨ vy.toInt = 1) (hb6 : (vr.toInt = 0 ∧ aa.toInt = 0) ∨ (vr.toInt = 1 ∧ aa.toInt = p1.toInt)) (hb7 : bg.toInt = vb.toInt) :
    own_Go p e below s (Q0 n0) 16 128 (T.setTop (mkF m 147 #[.val (.long p0), .second, .val (.long p1), .second, .val (.long p2), .second, .val (.long p3), .second, .val (.long p4), .second, .val (.int p5), .val (.int vb), .val (.int vw), .val (.int va), .val (.int vr), .val (.int vx), .val (.int vy), .val (.ref b), .unset, .unset, .unset, .unset, .unset, .unset, .unset, .unset] [])) := by
  have hx := Bd.exec
  have hby := Bd.bytes
  have hown : s.vm.findClass "com/example/mailbox/mailbox/server/RequestDeadlineRemainingPinLaw" = some m.cls := findClass_of_methodNamed Bd.named
  have hlk := Bd.notSynchronized
  have K0 := K
  obtain ⟨S_w0, S_w1, S_w2, S_TIMEOUT_NANOS, E_w0, E_w1, E_w2⟩ := K
  show own_Go p e below s _ _ _ (T.setTop (mkF m 147 #[.val (.long p0), .second, .val (.long p1), .second, .val (.long p2), .second, .val (.long p3), .second, .val (.long p4), .second, .val (.int p5), .val (.int vb), .val (.int vw), .val (.int va), .val (.int vr), .val (.int vx), .val (.int vy), .val (.ref b), .unset, .unset, .unset, .unset, .unset, .unset, .unset, .unset] []))
  refine own_via (fun _ k => XS.iload X.here hx rfl (hb hby at_147) rfl k) ?_
  show own_Go p e below s _ _ _ (T.setTop (mkF m 149 #[.val (.long p0), .second, .val (.long p1), .second, .val (.long p2), .second, .val (.long p3), .second, .val (.long p4), .second, .val (.int p5), .val (.int vb), .val (.int vw), .val (.int va), .val (.int vr), .val (.int vx), .val (.int vy), .val (.ref b), .unset, .unset, .unset, .unset, .unset, .unset, .unset, .unset] [(.int vw)]))
  refine own_via (fun _ k => XS.iconst X.here hx rfl (hb hby at_149) k) ?_
  show own_Go p e below s _ _ _ (T.setTop (mkF m 150 #[.val (.long p0), .second, .val (.long p1), .second, .val (.long p2), .second, .val (.long p3), .second, .val (.long p4), .second, .val (.int p5), .val (.int vb), .val (.int vw), .val (.int va), .val (.int vr), .val (.int vx), .val (.int vy), .val (.ref b), .unset, .unset, .unset, .unset, .unset, .unset, .unset, .unset] [(.int (1 : Int32)), (.int vw)]))
  by_cases hc1 : vw < (1 : Int32)
  · refine own_via (fun _ k => XS.icmpYes X.here hx rfl (pc0 := 150) (pc' := 158) rfl (hb hby at_150) rfl (tlt hc1).1 (by decide) (by decide) k) ?_
    show own_Go p e below s _ _ _ (T.setTop (mkF m 158 #[.val (.long p0), .second, .val (.long p1), .second, .val (.long p2), .second, .val (.long p3), .second, .val (.long p4), .second, .val (.int p5), .val (.int vb), .val (.int vw), .val (.int va), .val (.int vr), .val (.int vx), .val (.int vy), .val (.ref b), .unset, .unset, .unset, .unset, .unset, .unset, .unset, .unset] []))
    refine pt158 l Z a0 hw p0 p1 p2 p3 p4 p5 w0 w1 w2 n0 K0 Bd hml hZ T h _ X eT N Z0 OL (vb) (vw) (va) (vr) (vx) (vy) (b) (bg) ((0 : Int64)) (aa) (ar) OB_b g_b ?_ ?_ ?_ ?_ ?_ ?_ ?_ ?_ ?_
    · exact hb0
    · exact hb1
    · exact hb2
    · exact hb3
    · exact hb4
    · exact hb5
    · exact hb6
    · exact hb7
    · clear hb0 hb2 hb3 hb4 hb5 hb6 hb7
      have ar0 := rng32 vw
      simp only [Int64.lt_iff_toInt_lt, ← Int64.toInt_inj, Int32.lt_iff_toInt_lt, ← Int32.toInt_inj, (show (1 : Int32).toInt = 1 from rfl), (show (0 : Int64).toInt = 0 from rfl), and_true, true_and, and_false, false_and, or_true, true_or, or_false, false_or] at hc1 ar0 ⊢ <;> omega
  · refine own_via (fun _ k => XS.icmpNo X.here hx rfl (hb hby at_150) rfl (flt hc1).1 k) ?_
    show own_Go p e below s _ _ _ (T.setTop (mkF m 153 #[.val (.long p0), .second, .val (.long p1), .second, .val (.long p2), .second, .val (.long p3), .second, .val (.long p4), .second, .val (.int p5), .val (.int vb), .val (.int vw), .val (.int va), .val (.int vr), .val (.int vx), .val (.int vy), .val (.ref b), .unset, .unset, .unset, .unset, .unset, .unset, .unset, .unset] []))
    refine own_via (fun _ k => XS.aload X.here hx rfl (hb hby at_153) rfl rfl k) ?_
    show own_Go p e below s _ _ _ (T.setTop (mkF m 155 #[.val (.long p0), .second, .val (.long p1), .second, .val (.long p2), .second, .val (.long p3), .second, .val (.long p4), .second, .val (.int p5), .val (.int vb), .val (.int vw), .val (.int va), .val (.int vr), .val (.int vx), .val (.int vy), .val (.ref b), .unset, .unset, .unset, .unset, .unset, .unset, .unset, .unset] [(.ref b)]))
    obtain ⟨cq2, kq2, q2a, q2b, q2c⟩ := isOf hZ eT OB_b.1
    obtain ⟨_, _, ⟨T2, L2, k2, n2⟩, -, X2, ⟨Lc2, hQ2, l2, y2, z2⟩, st2⟩ := X.virtualBack hx (y := (⟨"com/example/mailbox/mailbox/server/RequestDeadline", "whole", "()V"⟩ : MethodName)) (z := (⟨"com/example/mailbox/mailbox/server/RequestDeadline", "whole", "()V"⟩ : MethodName)) hown (mvT hZ (hw _ (List.mem_of_getElem? (i := 34) rfl))) (mvT hZ (hw _ (List.mem_of_getElem? (i := 35) rfl))) (notFace_of_selects (args := #[]) (mvT hZ (hw _ (List.mem_of_getElem? (i := 37) rfl)))) (mvT hZ (hw _ (List.mem_of_getElem? (i := 37) rfl))) (mvT hZ (hw _ (List.mem_of_getElem? (i := 36) rfl))) (by decide) (backOf (W := 0) (rm5_0 l Z a0 hw [] b p0 bg (0 : Int32) (0 : Int64) (0 : Int64) aa ar (0 : Int64) w0 w1 w2 h n0 Z0 K0 OL OB_b g_b) hZ (hw _ (List.mem_of_getElem? (i := 38) rfl)) (hw _ (List.mem_of_getElem? (i := 2) rfl)) (by decide) (by decide)) q2a q2c (g := (mkF m 155 #[.val (.long p0), .second, .val (.long p1), .second, .val (.long p2), .second, .val (.long p3), .second, .val (.long p4), .second, .val (.int p5), .val (.int vb), .val (.int vw), .val (.int va), .val (.int vr), .val (.int vx), .val (.int vy), .val (.ref b), .unset, .unset, .unset, .unset, .unset, .unset, .unset, .unset] [(.ref b)])) rfl (by rw [hml]; rfl) (Steps.refl _) (argsL := []) (rest := []) (lenOf pd3 rfl) rfl (by show 2 * 0 + _ ≤ _; exact Nat.le_of_eq rfl) (hb hby at_155) (fun _ _ => ⟨rfl, eT, (by decide : 0 + 1 + 0 ≤ _), (by decide : 0 + 8 + 0 ≤ _)⟩)
    dsimp only [Pt.U, Pt.locs, Pt.cells, Pt.slots] at X2 l2 y2 z2 st2 hQ2
    subst l2 y2 z2
    obtain ⟨NQ2, OLq2, Zq2, hO2⟩ := hQ2
    obtain ⟨rfl, OBq2_b⟩ := hO2
    have OL := OLq2
    have Z0 := Zq2
    have OB_b := OBq2_b
    refine own_tr st2 ?_
    show own_Go p e below s _ _ _ (T2.setTop (mkF m 158 #[.val (.long p0), .second, .val (.long p1), .second, .val (.long p2), .second, .val (.long p3), .second, .val (.long p4), .second, .val (.int p5), .val (.int vb), .val (.int vw), .val (.int va), .val (.int vr), .val (.int vx), .val (.int vy), .val (.ref b), .unset, .unset, .unset, .unset, .unset, .unset, .unset, .unset] []))
    refine pt158 l Z a0 hw p0 p1 p2 p3 p4 p5 w0 w1 w2 n0 K0 Bd hml hZ T2 T2.heap _ X2 rfl (Fr.app N NQ2) Z0 OL (vb) (vw) (va) (vr) (vx) (vy) (b) (bg) (((0 : Int64) + (1 : Int64))) (aa) (ar) OB_b g_b ?_ ?_ ?_ ?_ ?_ ?_ ?_ ?_ ?_
    · exact hb0
    · exact hb1
    · exact hb2
    · exact hb3
    · exact hb4
    · exact hb5
    · exact hb6
    · exact hb7
    · clear hb0 hb2 hb3 hb4 hb5 hb6 hb7
      have ar0 := rng32 vw
      have ar1 := c_ladd (0 : Int64) (1 : Int64)
      have ar2 := rng64 ((0 : Int64) + (1 : Int64))
      simp only [Int64.lt_iff_toInt_lt, ← Int64.toInt_inj, Int32.lt_iff_toInt_lt, ← Int32.toInt_inj, (show (1 : Int32).toInt = 1 from rfl), (show (0 : Int64).toInt = 0 from rfl), (show (1 : Int64).toInt = 1 from rfl), and_true, true_and, and_false, false_and, or_true, true_or, or_false, false_or] at hc1 ar0 ar1 ar2 ⊢ <;> omega
set_option maxRecDepth 65536 in
set_option maxHeartbeats 40000000 in
theorem pt136 (l : Launch) (Z : State) (a0 : Array Value) (hw : ∀ d ∈ tables_1, d.before a0 Z = true) (p0 : Int64) (p1 : Int64) (p2 : Int64) (p3 : Int64) (p4 : Int64) (p5 : Int32) (w0 : Addr) (w1 : Addr) (w2 : Addr) (n0 : Nat) (K : own_K Z Z.heap w0 w1 w2) {p : Program} {e : Env} {s : State} {m : MethodId} {below : List Frame} {meth : Method} {c : Code} {s₁ : State} {S : Spec} (Bd : BodyLoose p l x S code maxLocals ret e s m #[(.long p0), (.long p1), (.long p2), (.long p3), (.long p4), (.int p5)] below meth c s₁) (hml : c.maxLocals = 26) (hZ : Z.Warmed39 s.vm)
    (T : State) (h : Heap) (lc : List Loc) (X : Stand p l e room_1 s m #[(.long p0), (.long p1), (.long p2), (.long p3), (.long p4), (.int p5)] below meth c T lc (0 + 1) (0 + 8)) (eT : T.heap = h) (N : Fr n0 lc) (Z0 : n0 ≤ h.size) (OL : Old Z n0 h) (vb : Int32) (vw : Int32) (va : Int32) (vr : Int32) (vx : Int32) (vy : Int32) (b : Addr) (bg : Int64) (aa : Int64) (ar : Int32) (OB_b : own_Obj0 Z h b p0 bg (0 : Int32) (0 : Int64) (0 : Int64) aa ar (0 : Int64)) (g_b : n0 ≤ b) (hb0 : 0 ≤ vb.toInt ∧ vb.toInt ≤ 2) (hb1 : 0 ≤ vw.toInt ∧ vw.toInt ≤ vb.toInt) (hb2 : 0 ≤ va.toInt ∧ va.toInt ≤ vb.toInt) (hb3 : vr.toInt = 0 ∨ vr.toInt = 1) (hb4 : vx.toInt = 0 ∨ vx.toInt = 1) (hb5 : vy.toInt = 0 ∨ vy.toInt = 1) (hb6 : (vr.toInt = 0 ∧ aa.toInt = 0) ∨ (vr.toInt = 1 ∧ aa.toInt = p1.toInt)) (hb7 : (vb.toInt < 1 ∧ bg.toInt = 0) ∨ (1 ≤ vb.toInt ∧ bg.toInt = 1)) :
    own_Go p e below s (Q0 n0) 16 128 (T.setTop (mkF m 136 #[.val (.long p0), .second, .val (.long p1), .second, .val (.long p2), .second, .val (.long p3), .second, .val (.long p4), .second, .val (.int p5), .val (.int vb), .val (.int vw), .val (.int va), .val (.int vr), .val (.int vx), .val (.int vy), .val (.ref b), .unset, .unset, .unset, .unset, .unset, .unset, .unset, .unset] [])) := by
  have hx := Bd.exec
  have hby := Bd.bytes
  have hown : s.vm.findClass "com/example/mailbox/mailbox/server/RequestDeadlineRemainingPinLaw" = some m.cls := findClass_of_methodNamed Bd.named
  have hlk := Bd.notSynchronized
  have K0 := K
  obtain ⟨S_w0, S_w1, S_w2, S_TIMEOUT_NANOS, E_w0, E_w1, E_w2⟩ := K
  show own_Go p e below s _ _ _ (T.setTop (mkF m 136 #[.val (.long p0), .second, .val (.long p1), .second, .val (.long p2), .second, .val (.long p3), .second, .val (.long p4), .second, .val (.int p5), .val (.int vb), .val (.int vw), .val (.int va), .val (.int vr), .val (.int vx), .val (.int vy), .val (.ref b), .unset, .unset, .unset, .unset, .unset, .unset, .unset, .unset] []))
  refine own_via (fun _ k => XS.iload X.here hx rfl (hb hby at_136) rfl k) ?_
  show own_Go p e below s _ _ _ (T.setTop (mkF m 138 #[.val (.long p0), .second, .val (.long p1), .second, .val (.long p2), .second, .val (.long p3), .second, .val (.long p4), .second, .val (.int p5), .val (.int vb), .val (.int vw), .val (.int va), .val (.int vr), .val (.int vx), .val (.int vy), .val (.ref b), .unset, .unset, .unset, .unset, .unset, .unset, .unset, .unset] [(.int vb)]))
  refine own_via (fun _ k => XS.iconst X.here hx rfl (hb hby at_138) k) ?_
  show own_Go p e below s _ _ _ (T.setTop (mkF m 139 #[.val (.long p0), .second, .val (.long p1), .second, .val (.long p2), .second, .val (.long p3), .second, .val (.long p4), .second, .val (.int p5), .val (.int vb), .val (.int vw), .val (.int va), .val (.int vr), .val (.int vx), .val (.int vy), .val (.ref b), .unset, .unset, .unset, .unset, .unset, .unset, .unset, .unset] [(.int (2 : Int32)), (.int vb)]))
  by_cases hc1 : vb < (2 : Int32)
  · refine own_via (fun _ k => XS.icmpYes X.here hx rfl (pc0 := 139) (pc' := 147) rfl (hb hby at_139) rfl (tlt hc1).1 (by decide) (by decide) k) ?_
    show own_Go p e below s _ _ _ (T.setTop (mkF m 147 #[.val (.long p0), .second, .val (.long p1), .second, .val (.long p2), .second, .val (.long p3), .second, .val (.long p4), .second, .val (.int p5), .val (.int vb), .val (.int vw), .val (.int va), .val (.int vr), .val (.int vx), .val (.int vy), .val (.ref b), .unset, .unset, .unset, .unset, .unset, .unset, .unset, .unset] []))
    refine pt147 l Z a0 hw p0 p1 p2 p3 p4 p5 w0 w1 w2 n0 K0 Bd hml hZ T h _ X eT N Z0 OL (vb) (vw) (va) (vr) (vx) (vy) (b) (bg) (aa) (ar) OB_b g_b ?_ ?_ ?_ ?_ ?_ ?_ ?_ ?_
    · exact hb0
    · exact hb1
    · exact hb2
    · exact hb3
    · exact hb4
    · exact hb5
    · exact hb6
    · clear hb1 hb2 hb3 hb4 hb5 hb6
      have ar0 := rng32 vb
      have ar1 := rng64 bg
      simp only [Int64.lt_iff_toInt_lt, ← Int64.toInt_inj, Int32.lt_iff_toInt_lt, ← Int32.toInt_inj, (show (2 : Int32).toInt = 2 from rfl), and_true, true_and, and_false, false_and, or_true, true_or, or_false, false_or] at hc1 ar0 ar1 ⊢ <;> omega
  · refine own_via (fun _ k => XS.icmpNo X.here hx rfl (hb hby at_139) rfl (flt hc1).1 k) ?_
    show own_Go p e below s _ _ _ (T.setTop (mkF m 142 #[.val (.long p0), .second, .val (.long p1), .second, .val (.long p2), .second, .val (.long p3), .second, .val (.long p4), .second, .val (.int p5), .val (.int vb), .val (.int vw), .val (.int va), .val (.int vr), .val (.int vx), .val (.int vy), .val (.ref b), .unset, .unset, .unset, .unset, .unset, .unset, .unset, .unset] []))
    refine own_via (fun _ k => XS.aload X.here hx rfl (hb hby at_142) rfl rfl k) ?_
    show own_Go p e below s _ _ _ (T.setTop (mkF m 144 #[.val (.long p0), .second, .val (.long p1), .second, .val (.long p2), .second, .val (.long p3), .second, .val (.long p4), .second, .val (.int p5), .val (.int vb), .val (.int vw), .val (.int va), .val (.int vr), .val (.int vx), .val (.int vy), .val (.ref b), .unset, .unset, .unset, .unset, .unset, .unset, .unset, .unset] [(.ref b)]))
    obtain ⟨cq2, kq2, q2a, q2b, q2c⟩ := isOf hZ eT OB_b.1
    obtain ⟨_, _, ⟨T2, L2, k2, n2⟩, -, X2, ⟨Lc2, hQ2, l2, y2, z2⟩, st2⟩ := X.virtualBack hx (y := (⟨"com/example/mailbox/mailbox/server/RequestDeadline", "begun", "()V"⟩ : MethodName)) (z := (⟨"com/example/mailbox/mailbox/server/RequestDeadline", "begun", "()V"⟩ : MethodName)) hown (mvT hZ (hw _ (List.mem_of_getElem? (i := 11) rfl))) (mvT hZ (hw _ (List.mem_of_getElem? (i := 12) rfl))) (notFace_of_selects (args := #[]) (mvT hZ (hw _ (List.mem_of_getElem? (i := 14) rfl)))) (mvT hZ (hw _ (List.mem_of_getElem? (i := 14) rfl))) (mvT hZ (hw _ (List.mem_of_getElem? (i := 13) rfl))) (by decide) (backOf (W := 0) (rm3_0 l Z a0 hw [] b p0 bg (0 : Int32) (0 : Int64) (0 : Int64) aa ar (0 : Int64) w0 w1 w2 h n0 Z0 K0 OL OB_b g_b) hZ (hw _ (List.mem_of_getElem? (i := 15) rfl)) (hw _ (List.mem_of_getElem? (i := 2) rfl)) (by decide) (by decide)) q2a q2c (g := (mkF m 144 #[.val (.long p0), .second, .val (.long p1), .second, .val (.long p2), .second, .val (.long p3), .second, .val (.long p4), .second, .val (.int p5), .val (.int vb), .val (.int vw), .val (.int va), .val (.int vr), .val (.int vx), .val (.int vy), .val (.ref b), .unset, .unset, .unset, .unset, .unset, .unset, .unset, .unset] [(.ref b)])) rfl (by rw [hml]; rfl) (Steps.refl _) (argsL := []) (rest := []) (lenOf pd3 rfl) rfl (by show 2 * 0 + _ ≤ _; exact Nat.le_of_eq rfl) (hb hby at_144) (fun _ _ => ⟨rfl, eT, (by decide : 0 + 1 + 0 ≤ _), (by decide : 0 + 8 + 0 ≤ _)⟩)
    dsimp only [Pt.U, Pt.locs, Pt.cells, Pt.slots] at X2 l2 y2 z2 st2 hQ2
    subst l2 y2 z2
    obtain ⟨NQ2, OLq2, Zq2, hO2⟩ := hQ2
    obtain ⟨rfl, OBq2_b⟩ := hO2
    have OL := OLq2
    have Z0 := Zq2
    have OB_b := OBq2_b
    refine own_tr st2 ?_
    show own_Go p e below s _ _ _ (T2.setTop (mkF m 147 #[.val (.long p0), .second, .val (.long p1), .second, .val (.long p2), .second, .val (.long p3), .second, .val (.long p4), .second, .val (.int p5), .val (.int vb), .val (.int vw), .val (.int va), .val (.int vr), .val (.int vx), .val (.int vy), .val (.ref b), .unset, .unset, .unset, .unset, .unset, .unset, .unset, .unset] []))
    refine pt147 l Z a0 hw p0 p1 p2 p3 p4 p5 w0 w1 w2 n0 K0 Bd hml hZ T2 T2.heap _ X2 rfl (Fr.app N NQ2) Z0 OL (vb) (vw) (va) (vr) (vx) (vy) (b) ((bg + (1 : Int64))) (aa) (ar) OB_b g_b ?_ ?_ ?_ ?_ ?_ ?_ ?_ ?_
    · exact hb0
    · exact hb1
    · exact hb2
    · exact hb3
    · exact hb4
    · exact hb5
    · exact hb6
    · clear hb1 hb2 hb3 hb4 hb5 hb6
      have ar0 := rng32 vb
      have ar1 := rng64 bg
      have ar2 := c_ladd bg (1 : Int64)
      have ar3 := rng64 (bg + (1 : Int64))
      simp only [Int64.lt_iff_toInt_lt, ← Int64.toInt_inj, Int32.lt_iff_toInt_lt, ← Int32.toInt_inj, (show (2 : Int32).toInt = 2 from rfl), (show (1 : Int64).toInt = 1 from rfl), and_true, true_and, and_false, false_and, or_true, true_or, or_false, false_or] at hc1 ar0 ar1 ar2 ar3 ⊢ <;> omega
set_option maxRecDepth 65536 in
set_option maxHeartbeats 40000000 in
theorem pt125 (l : Launch) (Z : State) (a0 : Array Value) (hw : ∀ d ∈ tables_1, d.before a0 Z = true) (p0 : Int64) (p1 : Int64) (p2 : Int64) (p3 : Int64) (p4 : Int64) (p5 : Int32) (w0 : Addr) (w1 : Addr) (w2 : Addr) (n0 : Nat) (K : own_K Z Z.heap w0 w1 w2) {p : Program} {e : Env} {s : State} {m : MethodId} {below : List Frame} {meth : Method} {c : Code} {s₁ : State} {S : Spec} (Bd : BodyLoose p l x S code maxLocals ret e s m #[(.long p0), (.long p1), (.long p2), (.long p3), (.long p4), (.int p5)] below meth c s₁) (hml : c.maxLocals = 26) (hZ : Z.Warmed39 s.vm)
    (T : State) (h : Heap) (lc : List Loc) (X : Stand p l e room_1 s m #[(.long p0), (.long p1), (.long p2), (.long p3), (.long p4), (.int p5)] below meth c T lc (0 + 1) (0 + 8)) (eT : T.heap = h) (N : Fr n0 lc) (Z0 : n0 ≤ h.size) (OL : Old Z n0 h) (vb : Int32) (vw : Int32) (va : Int32) (vr : Int32) (vx : Int32) (vy : Int32) (b : Addr) (aa : Int64) (ar : Int32) (OB_b : own_Obj0 Z h b p0 (0 : Int64) (0 : Int32) (0 : Int64) (0 : Int64) aa ar (0 : Int64)) (g_b : n0 ≤ b) (hb0 : 0 ≤ vb.toInt ∧ vb.toInt ≤ 2) (hb1 : 0 ≤ vw.toInt ∧ vw.toInt ≤ vb.toInt) (hb2 : 0 ≤ va.toInt ∧ va.toInt ≤ vb.toInt) (hb3 : vr.toInt = 0 ∨ vr.toInt = 1) (hb4 : vx.toInt = 0 ∨ vx.toInt = 1) (hb5 : vy.toInt = 0 ∨ vy.toInt = 1) (hb6 : (vr.toInt = 0 ∧ aa.toInt = 0) ∨ (vr.toInt = 1 ∧ aa.toInt = p1.toInt)) :
    own_Go p e below s (Q0 n0) 16 128 (T.setTop (mkF m 125 #[.val (.long p0), .second, .val (.long p1), .second, .val (.long p2), .second, .val (.long p3), .second, .val (.long p4), .second, .val (.int p5), .val (.int vb), .val (.int vw), .val (.int va), .val (.int vr), .val (.int vx), .val (.int vy), .val (.ref b), .unset, .unset, .unset, .unset, .unset, .unset, .unset, .unset] [])) := by
  have hx := Bd.exec
  have hby := Bd.bytes
  have hown : s.vm.findClass "com/example/mailbox/mailbox/server/RequestDeadlineRemainingPinLaw" = some m.cls := findClass_of_methodNamed Bd.named
  have hlk := Bd.notSynchronized
  have K0 := K
  obtain ⟨S_w0, S_w1, S_w2, S_TIMEOUT_NANOS, E_w0, E_w1, E_w2⟩ := K
  show own_Go p e below s _ _ _ (T.setTop (mkF m 125 #[.val (.long p0), .second, .val (.long p1), .second, .val (.long p2), .second, .val (.long p3), .second, .val (.long p4), .second, .val (.int p5), .val (.int vb), .val (.int vw), .val (.int va), .val (.int vr), .val (.int vx), .val (.int vy), .val (.ref b), .unset, .unset, .unset, .unset, .unset, .unset, .unset, .unset] []))
  refine own_via (fun _ k => XS.iload X.here hx rfl (hb hby at_125) rfl k) ?_
  show own_Go p e below s _ _ _ (T.setTop (mkF m 127 #[.val (.long p0), .second, .val (.long p1), .second, .val (.long p2), .second, .val (.long p3), .second, .val (.long p4), .second, .val (.int p5), .val (.int vb), .val (.int vw), .val (.int va), .val (.int vr), .val (.int vx), .val (.int vy), .val (.ref b), .unset, .unset, .unset, .unset, .unset, .unset, .unset, .unset] [(.int vb)]))
  refine own_via (fun _ k => XS.iconst X.here hx rfl (hb hby at_127) k) ?_
  show own_Go p e below s _ _ _ (T.setTop (mkF m 128 #[.val (.long p0), .second, .val (.long p1), .second, .val (.long p2), .second, .val (.long p3), .second, .val (.long p4), .second, .val (.int p5), .val (.int vb), .val (.int vw), .val (.int va), .val (.int vr), .val (.int vx), .val (.int vy), .val (.ref b), .unset, .unset, .unset, .unset, .unset, .unset, .unset, .unset] [(.int (1 : Int32)), (.int vb)]))
  by_cases hc1 : vb < (1 : Int32)
  · refine own_via (fun _ k => XS.icmpYes X.here hx rfl (pc0 := 128) (pc' := 136) rfl (hb hby at_128) rfl (tlt hc1).1 (by decide) (by decide) k) ?_
    show own_Go p e below s _ _ _ (T.setTop (mkF m 136 #[.val (.long p0), .second, .val (.long p1), .second, .val (.long p2), .second, .val (.long p3), .second, .val (.long p4), .second, .val (.int p5), .val (.int vb), .val (.int vw), .val (.int va), .val (.int vr), .val (.int vx), .val (.int vy), .val (.ref b), .unset, .unset, .unset, .unset, .unset, .unset, .unset, .unset] []))
    refine pt136 l Z a0 hw p0 p1 p2 p3 p4 p5 w0 w1 w2 n0 K0 Bd hml hZ T h _ X eT N Z0 OL (vb) (vw) (va) (vr) (vx) (vy) (b) ((0 : Int64)) (aa) (ar) OB_b g_b ?_ ?_ ?_ ?_ ?_ ?_ ?_ ?_
    · exact hb0
    · exact hb1
    · exact hb2
    · exact hb3
    · exact hb4
    · exact hb5
    · exact hb6
    · clear hb1 hb2 hb3 hb4 hb5 hb6
      have ar0 := rng32 vb
      simp only [Int64.lt_iff_toInt_lt, ← Int64.toInt_inj, Int32.lt_iff_toInt_lt, ← Int32.toInt_inj, (show (1 : Int32).toInt = 1 from rfl), (show (0 : Int64).toInt = 0 from rfl), and_true, true_and, and_false, false_and, or_true, true_or, or_false, false_or] at hc1 ar0 ⊢ <;> omega
  · refine own_via (fun _ k => XS.icmpNo X.here hx rfl (hb hby at_128) rfl (flt hc1).1 k) ?_
    show own_Go p e below s _ _ _ (T.setTop (mkF m 131 #[.val (.long p0), .second, .val (.long p1), .second, .val (.long p2), .second, .val (.long p3), .second, .val (.long p4), .second, .val (.int p5), .val (.int vb), .val (.int vw), .val (.int va), .val (.int vr), .val (.int vx), .val (.int vy), .val (.ref b), .unset, .unset, .unset, .unset, .unset, .unset, .unset, .unset] []))
    refine own_via (fun _ k => XS.aload X.here hx rfl (hb hby at_131) rfl rfl k) ?_
    show own_Go p e below s _ _ _ (T.setTop (mkF m 133 #[.val (.long p0), .second, .val (.long p1), .second, .val (.long p2), .second, .val (.long p3), .second, .val (.long p4), .second, .val (.int p5), .val (.int vb), .val (.int vw), .val (.int va), .val (.int vr), .val (.int vx), .val (.int vy), .val (.ref b), .unset, .unset, .unset, .unset, .unset, .unset, .unset, .unset] [(.ref b)]))
    obtain ⟨cq2, kq2, q2a, q2b, q2c⟩ := isOf hZ eT OB_b.1
    obtain ⟨_, _, ⟨T2, L2, k2, n2⟩, -, X2, ⟨Lc2, hQ2, l2, y2, z2⟩, st2⟩ := X.virtualBack hx (y := (⟨"com/example/mailbox/mailbox/server/RequestDeadline", "begun", "()V"⟩ : MethodName)) (z := (⟨"com/example/mailbox/mailbox/server/RequestDeadline", "begun", "()V"⟩ : MethodName)) hown (mvT hZ (hw _ (List.mem_of_getElem? (i := 11) rfl))) (mvT hZ (hw _ (List.mem_of_getElem? (i := 12) rfl))) (notFace_of_selects (args := #[]) (mvT hZ (hw _ (List.mem_of_getElem? (i := 14) rfl)))) (mvT hZ (hw _ (List.mem_of_getElem? (i := 14) rfl))) (mvT hZ (hw _ (List.mem_of_getElem? (i := 13) rfl))) (by decide) (backOf (W := 0) (rm3_0 l Z a0 hw [] b p0 (0 : Int64) (0 : Int32) (0 : Int64) (0 : Int64) aa ar (0 : Int64) w0 w1 w2 h n0 Z0 K0 OL OB_b g_b) hZ (hw _ (List.mem_of_getElem? (i := 15) rfl)) (hw _ (List.mem_of_getElem? (i := 2) rfl)) (by decide) (by decide)) q2a q2c (g := (mkF m 133 #[.val (.long p0), .second, .val (.long p1), .second, .val (.long p2), .second, .val (.long p3), .second, .val (.long p4), .second, .val (.int p5), .val (.int vb), .val (.int vw), .val (.int va), .val (.int vr), .val (.int vx), .val (.int vy), .val (.ref b), .unset, .unset, .unset, .unset, .unset, .unset, .unset, .unset] [(.ref b)])) rfl (by rw [hml]; rfl) (Steps.refl _) (argsL := []) (rest := []) (lenOf pd3 rfl) rfl (by show 2 * 0 + _ ≤ _; exact Nat.le_of_eq rfl) (hb hby at_133) (fun _ _ => ⟨rfl, eT, (by decide : 0 + 1 + 0 ≤ _), (by decide : 0 + 8 + 0 ≤ _)⟩)
    dsimp only [Pt.U, Pt.locs, Pt.cells, Pt.slots] at X2 l2 y2 z2 st2 hQ2
    subst l2 y2 z2
    obtain ⟨NQ2, OLq2, Zq2, hO2⟩ := hQ2
    obtain ⟨rfl, OBq2_b⟩ := hO2
    have OL := OLq2
    have Z0 := Zq2
    have OB_b := OBq2_b
    refine own_tr st2 ?_
    show own_Go p e below s _ _ _ (T2.setTop (mkF m 136 #[.val (.long p0), .second, .val (.long p1), .second, .val (.long p2), .second, .val (.long p3), .second, .val (.long p4), .second, .val (.int p5), .val (.int vb), .val (.int vw), .val (.int va), .val (.int vr), .val (.int vx), .val (.int vy), .val (.ref b), .unset, .unset, .unset, .unset, .unset, .unset, .unset, .unset] []))
    refine pt136 l Z a0 hw p0 p1 p2 p3 p4 p5 w0 w1 w2 n0 K0 Bd hml hZ T2 T2.heap _ X2 rfl (Fr.app N NQ2) Z0 OL (vb) (vw) (va) (vr) (vx) (vy) (b) (((0 : Int64) + (1 : Int64))) (aa) (ar) OB_b g_b ?_ ?_ ?_ ?_ ?_ ?_ ?_ ?_
    · exact hb0
    · exact hb1
    · exact hb2
    · exact hb3
    · exact hb4
    · exact hb5
    · exact hb6
    · clear hb1 hb2 hb3 hb4 hb5 hb6
      have ar0 := rng32 vb
      have ar1 := c_ladd (0 : Int64) (1 : Int64)
      have ar2 := rng64 ((0 : Int64) + (1 : Int64))
      simp only [Int64.lt_iff_toInt_lt, ← Int64.toInt_inj, Int32.lt_iff_toInt_lt, ← Int32.toInt_inj, (show (1 : Int32).toInt = 1 from rfl), (show (0 : Int64).toInt = 0 from rfl), (show (1 : Int64).toInt = 1 from rfl), and_true, true_and, and_false, false_and, or_true, true_or, or_false, false_or] at hc1 ar0 ar1 ar2 ⊢ <;> omega
set_option maxRecDepth 65536 in
set_option maxHeartbeats 40000000 in
theorem pt104 (l : Launch) (Z : State) (a0 : Array Value) (hw : ∀ d ∈ tables_1, d.before a0 Z = true) (p0 : Int64) (p1 : Int64) (p2 : Int64) (p3 : Int64) (p4 : Int64) (p5 : Int32) (w0 : Addr) (w1 : Addr) (w2 : Addr) (n0 : Nat) (K : own_K Z Z.heap w0 w1 w2) {p : Program} {e : Env} {s : State} {m : MethodId} {below : List Frame} {meth : Method} {c : Code} {s₁ : State} {S : Spec} (Bd : BodyLoose p l x S code maxLocals ret e s m #[(.long p0), (.long p1), (.long p2), (.long p3), (.long p4), (.int p5)] below meth c s₁) (hml : c.maxLocals = 26) (hZ : Z.Warmed39 s.vm)
    (T : State) (h : Heap) (lc : List Loc) (X : Stand p l e room_1 s m #[(.long p0), (.long p1), (.long p2), (.long p3), (.long p4), (.int p5)] below meth c T lc 0 0) (eT : T.heap = h) (N : Fr n0 lc) (Z0 : n0 ≤ h.size) (OL : Old Z n0 h) (vb : Int32) (vw : Int32) (va : Int32) (vr : Int32) (vx : Int32) (vy : Int32) (hb0 : 0 ≤ vb.toInt ∧ vb.toInt ≤ 2) (hb1 : 0 ≤ vw.toInt ∧ vw.toInt ≤ vb.toInt) (hb2 : 0 ≤ va.toInt ∧ va.toInt ≤ vb.toInt) (hb3 : vr.toInt = 0 ∨ vr.toInt = 1) (hb4 : vx.toInt = 0 ∨ vx.toInt = 1) (hb5 : vy.toInt = 0 ∨ vy.toInt = 1) :
    own_Go p e below s (Q0 n0) 16 128 (T.setTop (mkF m 104 #[.val (.long p0), .second, .val (.long p1), .second, .val (.long p2), .second, .val (.long p3), .second, .val (.long p4), .second, .val (.int p5), .val (.int vb), .val (.int vw), .val (.int va), .val (.int vr), .val (.int vx), .val (.int vy), .unset, .unset, .unset, .unset, .unset, .unset, .unset, .unset, .unset] [])) := by
  have hx := Bd.exec
  have hby := Bd.bytes
  have hown : s.vm.findClass "com/example/mailbox/mailbox/server/RequestDeadlineRemainingPinLaw" = some m.cls := findClass_of_methodNamed Bd.named
  have hlk := Bd.notSynchronized
  have K0 := K
  obtain ⟨S_w0, S_w1, S_w2, S_TIMEOUT_NANOS, E_w0, E_w1, E_w2⟩ := K
  show own_Go p e below s _ _ _ (T.setTop (mkF m 104 #[.val (.long p0), .second, .val (.long p1), .second, .val (.long p2), .second, .val (.long p3), .second, .val (.long p4), .second, .val (.int p5), .val (.int vb), .val (.int vw), .val (.int va), .val (.int vr), .val (.int vx), .val (.int vy), .unset, .unset, .unset, .unset, .unset, .unset, .unset, .unset, .unset] []))
  obtain ⟨T1, h1, X1, e1, E1, A1, D1, -, st1⟩ := newO X hx hZ hown (hw _ (List.mem_of_getElem? (i := 0) rfl)) (hw _ (List.mem_of_getElem? (i := 1) rfl)) (hw _ (List.mem_of_getElem? (i := 2) rfl)) eT (g := (mkF m 104 #[.val (.long p0), .second, .val (.long p1), .second, .val (.long p2), .second, .val (.long p3), .second, .val (.long p4), .second, .val (.int p5), .val (.int vb), .val (.int vw), .val (.int va), .val (.int vr), .val (.int vx), .val (.int vy), .unset, .unset, .unset, .unset, .unset, .unset, .unset, .unset, .unset] [])) rfl (hb hby at_104) (by decide) (by decide)
  obtain ⟨b1, g1⟩ : ∃ z, z = h.size := ⟨_, rfl⟩
  rw [← g1] at A1 D1 st1
  have OB_b1 : own_Obj0 Z h1 b1 (0 : Int64) (0 : Int64) (0 : Int32) (0 : Int64) (0 : Int64) (0 : Int64) (0 : Int32) (0 : Int64) := ⟨A1, D1 (Or.inl (hw _ (List.mem_of_getElem? (i := 10) rfl))) (ty := .long) (by decide), D1 (Or.inl (hw _ (List.mem_of_getElem? (i := 17) rfl))) (ty := .long) (by decide), D1 (Or.inl (hw _ (List.mem_of_getElem? (i := 24) rfl))) (ty := .boolean) (by decide), D1 (Or.inl (hw _ (List.mem_of_getElem? (i := 26) rfl))) (ty := .long) (by decide), D1 (Or.inl (hw _ (List.mem_of_getElem? (i := 28) rfl))) (ty := .long) (by decide), D1 (Or.inl (hw _ (List.mem_of_getElem? (i := 32) rfl))) (ty := .long) (by decide), D1 (Or.inl (hw _ (List.mem_of_getElem? (i := 47) rfl))) (ty := .boolean) (by decide), D1 (Or.inl (hw _ (List.mem_of_getElem? (i := 54) rfl))) (ty := .long) (by decide)⟩
  have g_b1 : n0 ≤ b1 := Nat.le_trans Z0 (Nat.le_of_eq g1.symm)
  have Z0 := Nat.le_trans Z0 E1.1
  have OL := OL.ext E1
  refine own_via st1 ?_
  show own_Go p e below s _ _ _ (T1.setTop (mkF m 107 #[.val (.long p0), .second, .val (.long p1), .second, .val (.long p2), .second, .val (.long p3), .second, .val (.long p4), .second, .val (.int p5), .val (.int vb), .val (.int vw), .val (.int va), .val (.int vr), .val (.int vx), .val (.int vy), .unset, .unset, .unset, .unset, .unset, .unset, .unset, .unset, .unset] [(.ref b1)]))
  refine own_via (fun _ k => XS.dup X1.here hx rfl (hb hby at_107) rfl rfl k) ?_
  show own_Go p e below s _ _ _ (T1.setTop (mkF m 108 #[.val (.long p0), .second, .val (.long p1), .second, .val (.long p2), .second, .val (.long p3), .second, .val (.long p4), .second, .val (.int p5), .val (.int vb), .val (.int vw), .val (.int va), .val (.int vr), .val (.int vx), .val (.int vy), .unset, .unset, .unset, .unset, .unset, .unset, .unset, .unset, .unset] [(.ref b1), (.ref b1)]))
  refine own_via (fun _ k => XS.lloadN X1.here hx rfl (hb hby at_108) rfl k) ?_
  show own_Go p e below s _ _ _ (T1.setTop (mkF m 109 #[.val (.long p0), .second, .val (.long p1), .second, .val (.long p2), .second, .val (.long p3), .second, .val (.long p4), .second, .val (.int p5), .val (.int vb), .val (.int vw), .val (.int va), .val (.int vr), .val (.int vx), .val (.int vy), .unset, .unset, .unset, .unset, .unset, .unset, .unset, .unset, .unset] [(.long p0), (.ref b1), (.ref b1)]))
  obtain ⟨_, _, ⟨T2, L2, k2, n2⟩, -, X2, ⟨Lc2, hQ2, l2, y2, z2⟩, st2⟩ := X1.specialBack hx (y := (⟨"com/example/mailbox/mailbox/server/RequestDeadline", "<init>", "(J)V"⟩ : MethodName)) rfl hown (mvT hZ (hw _ (List.mem_of_getElem? (i := 3) rfl))) (mvT hZ (hw _ (List.mem_of_getElem? (i := 4) rfl))) (mvT hZ (hw _ (List.mem_of_getElem? (i := 5) rfl))) (by decide) (backOf (W := 1) (rm1_0 l Z a0 hw [] b1 (0 : Int64) (0 : Int64) (0 : Int32) (0 : Int64) (0 : Int64) (0 : Int64) (0 : Int32) (0 : Int64) p0 w0 w1 w2 h1 n0 Z0 K0 OL OB_b1 g_b1) hZ (hw _ (List.mem_of_getElem? (i := 5) rfl)) (hw _ (List.mem_of_getElem? (i := 2) rfl)) (by decide) (by decide)) (g := (mkF m 109 #[.val (.long p0), .second, .val (.long p1), .second, .val (.long p2), .second, .val (.long p3), .second, .val (.long p4), .second, .val (.int p5), .val (.int vb), .val (.int vw), .val (.int va), .val (.int vr), .val (.int vx), .val (.int vy), .unset, .unset, .unset, .unset, .unset, .unset, .unset, .unset, .unset] [(.long p0), (.ref b1), (.ref b1)])) rfl (by rw [hml]; rfl) (Steps.refl _) (a := b1) (argsL := [(.long p0)]) (rest := [(.ref b1)]) (lenOf pd2 rfl) rfl (by show 2 * 0 + _ ≤ _; exact Nat.le_of_eq rfl) (hb hby at_109) (fun _ _ => ⟨rfl, e1, (by decide : 0 + 1 + 0 ≤ _), (by decide : 0 + 8 + 0 ≤ _)⟩)
  dsimp only [Pt.U, Pt.locs, Pt.cells, Pt.slots] at X2 l2 y2 z2 st2 hQ2
  subst l2 y2 z2
  obtain ⟨NQ2, OLq2, Zq2, hO2⟩ := hQ2
  obtain ⟨rfl, OBq2_b1⟩ := hO2
  have OL := OLq2
  have Z0 := Zq2
  have OB_b1 := OBq2_b1
  refine own_tr st2 ?_
  show own_Go p e below s _ _ _ (T2.setTop (mkF m 112 #[.val (.long p0), .second, .val (.long p1), .second, .val (.long p2), .second, .val (.long p3), .second, .val (.long p4), .second, .val (.int p5), .val (.int vb), .val (.int vw), .val (.int va), .val (.int vr), .val (.int vx), .val (.int vy), .unset, .unset, .unset, .unset, .unset, .unset, .unset, .unset, .unset] [(.ref b1)]))
  refine own_via (fun _ k => XS.astore X2.here hx rfl (hb hby at_112) rfl rfl (l' := #[.val (.long p0), .second, .val (.long p1), .second, .val (.long p2), .second, .val (.long p3), .second, .val (.long p4), .second, .val (.int p5), .val (.int vb), .val (.int vw), .val (.int va), .val (.int vr), .val (.int vx), .val (.int vy), .val (.ref b1), .unset, .unset, .unset, .unset, .unset, .unset, .unset, .unset]) rfl k) ?_
  show own_Go p e below s _ _ _ (T2.setTop (mkF m 114 #[.val (.long p0), .second, .val (.long p1), .second, .val (.long p2), .second, .val (.long p3), .second, .val (.long p4), .second, .val (.int p5), .val (.int vb), .val (.int vw), .val (.int va), .val (.int vr), .val (.int vx), .val (.int vy), .val (.ref b1), .unset, .unset, .unset, .unset, .unset, .unset, .unset, .unset] []))
  refine own_via (fun _ k => XS.iload X2.here hx rfl (hb hby at_114) rfl k) ?_
  show own_Go p e below s _ _ _ (T2.setTop (mkF m 116 #[.val (.long p0), .second, .val (.long p1), .second, .val (.long p2), .second, .val (.long p3), .second, .val (.long p4), .second, .val (.int p5), .val (.int vb), .val (.int vw), .val (.int va), .val (.int vr), .val (.int vx), .val (.int vy), .val (.ref b1), .unset, .unset, .unset, .unset, .unset, .unset, .unset, .unset] [(.int vr)]))
  by_cases hc3 : vr = (0 : Int32)
  · refine own_via (fun _ k => XS.ifYes X2.here hx rfl (pc0 := 116) (pc' := 125) rfl (hb hby at_116) rfl ((if0 _ _).trans (teq hc3).1) (by decide) (by decide) k) ?_
    show own_Go p e below s _ _ _ (T2.setTop (mkF m 125 #[.val (.long p0), .second, .val (.long p1), .second, .val (.long p2), .second, .val (.long p3), .second, .val (.long p4), .second, .val (.int p5), .val (.int vb), .val (.int vw), .val (.int va), .val (.int vr), .val (.int vx), .val (.int vy), .val (.ref b1), .unset, .unset, .unset, .unset, .unset, .unset, .unset, .unset] []))
    refine pt125 l Z a0 hw p0 p1 p2 p3 p4 p5 w0 w1 w2 n0 K0 Bd hml hZ T2 T2.heap _ X2 rfl (Fr.app N NQ2) Z0 OL (vb) (vw) (va) (vr) (vx) (vy) (b1) ((0 : Int64)) ((0 : Int32)) OB_b1 g_b1 ?_ ?_ ?_ ?_ ?_ ?_ ?_
    · exact hb0
    · exact hb1
    · exact hb2
    · exact hb3
    · exact hb4
    · exact hb5
    · clear hb0 hb1 hb2 hb4 hb5
      have ar0 := rng32 vr
      simp only [Int64.lt_iff_toInt_lt, ← Int64.toInt_inj, Int32.lt_iff_toInt_lt, ← Int32.toInt_inj, (show (0 : Int32).toInt = 0 from rfl), (show (0 : Int64).toInt = 0 from rfl), and_true, true_and, and_false, false_and, or_true, true_or, or_false, false_or] at hc3 ar0 ⊢ <;> omega
  · refine own_via (fun _ k => XS.ifNo X2.here hx rfl (hb hby at_116) rfl ((if0 _ _).trans (feq hc3).1) k) ?_
    show own_Go p e below s _ _ _ (T2.setTop (mkF m 119 #[.val (.long p0), .second, .val (.long p1), .second, .val (.long p2), .second, .val (.long p3), .second, .val (.long p4), .second, .val (.int p5), .val (.int vb), .val (.int vw), .val (.int va), .val (.int vr), .val (.int vx), .val (.int vy), .val (.ref b1), .unset, .unset, .unset, .unset, .unset, .unset, .unset, .unset] []))
    refine own_via (fun _ k => XS.aload X2.here hx rfl (hb hby at_119) rfl rfl k) ?_
    show own_Go p e below s _ _ _ (T2.setTop (mkF m 121 #[.val (.long p0), .second, .val (.long p1), .second, .val (.long p2), .second, .val (.long p3), .second, .val (.long p4), .second, .val (.int p5), .val (.int vb), .val (.int vw), .val (.int va), .val (.int vr), .val (.int vx), .val (.int vy), .val (.ref b1), .unset, .unset, .unset, .unset, .unset, .unset, .unset, .unset] [(.ref b1)]))
    refine own_via (fun _ k => XS.lloadN X2.here hx rfl (hb hby at_121) rfl k) ?_
    show own_Go p e below s _ _ _ (T2.setTop (mkF m 122 #[.val (.long p0), .second, .val (.long p1), .second, .val (.long p2), .second, .val (.long p3), .second, .val (.long p4), .second, .val (.int p5), .val (.int vb), .val (.int vw), .val (.int va), .val (.int vr), .val (.int vx), .val (.int vy), .val (.ref b1), .unset, .unset, .unset, .unset, .unset, .unset, .unset, .unset] [(.long p1), (.ref b1)]))
    obtain ⟨cq4, kq4, q4a, q4b, q4c⟩ := isOf hZ rfl OB_b1.1
    obtain ⟨_, _, ⟨T4, L4, k4, n4⟩, -, X4, ⟨Lc4, hQ4, l4, y4, z4⟩, st4⟩ := X2.virtualBack hx (y := (⟨"com/example/mailbox/mailbox/server/RequestDeadline", "arrived", "(J)V"⟩ : MethodName)) (z := (⟨"com/example/mailbox/mailbox/server/RequestDeadline", "arrived", "(J)V"⟩ : MethodName)) hown (mvT hZ (hw _ (List.mem_of_getElem? (i := 41) rfl))) (mvT hZ (hw _ (List.mem_of_getElem? (i := 42) rfl))) (notFace_of_selects (args := #[]) (mvT hZ (hw _ (List.mem_of_getElem? (i := 44) rfl)))) (mvT hZ (hw _ (List.mem_of_getElem? (i := 44) rfl))) (mvT hZ (hw _ (List.mem_of_getElem? (i := 43) rfl))) (by decide) (backOf (W := 0) (rm6_0 l Z a0 hw [] b1 p0 (0 : Int64) (0 : Int32) (0 : Int64) (0 : Int64) (0 : Int64) (0 : Int32) (0 : Int64) p1 w0 w1 w2 T2.heap n0 Z0 K0 OL OB_b1 g_b1) hZ (hw _ (List.mem_of_getElem? (i := 45) rfl)) (hw _ (List.mem_of_getElem? (i := 2) rfl)) (by decide) (by decide)) q4a q4c (g := (mkF m 122 #[.val (.long p0), .second, .val (.long p1), .second, .val (.long p2), .second, .val (.long p3), .second, .val (.long p4), .second, .val (.int p5), .val (.int vb), .val (.int vw), .val (.int va), .val (.int vr), .val (.int vx), .val (.int vy), .val (.ref b1), .unset, .unset, .unset, .unset, .unset, .unset, .unset, .unset] [(.long p1), (.ref b1)])) rfl (by rw [hml]; rfl) (Steps.refl _) (argsL := [(.long p1)]) (rest := []) (lenOf pd2 rfl) rfl (by show 2 * 0 + _ ≤ _; exact Nat.le_of_eq rfl) (hb hby at_122) (fun _ _ => ⟨rfl, rfl, (by decide : 0 + 1 + 0 ≤ _), (by decide : 0 + 8 + 0 ≤ _)⟩)
    dsimp only [Pt.U, Pt.locs, Pt.cells, Pt.slots] at X4 l4 y4 z4 st4 hQ4
    subst l4 y4 z4
    obtain ⟨NQ4, OLq4, Zq4, hO4⟩ := hQ4
    obtain ⟨rfl, OBq4_b1⟩ := hO4
    have OL := OLq4
    have Z0 := Zq4
    have OB_b1 := OBq4_b1
    refine own_tr st4 ?_
    show own_Go p e below s _ _ _ (T4.setTop (mkF m 125 #[.val (.long p0), .second, .val (.long p1), .second, .val (.long p2), .second, .val (.long p3), .second, .val (.long p4), .second, .val (.int p5), .val (.int vb), .val (.int vw), .val (.int va), .val (.int vr), .val (.int vx), .val (.int vy), .val (.ref b1), .unset, .unset, .unset, .unset, .unset, .unset, .unset, .unset] []))
    refine pt125 l Z a0 hw p0 p1 p2 p3 p4 p5 w0 w1 w2 n0 K0 Bd hml hZ T4 T4.heap _ X4 rfl (Fr.app (Fr.app N NQ2) NQ4) Z0 OL (vb) (vw) (va) (vr) (vx) (vy) (b1) (p1) ((1 : Int32)) OB_b1 g_b1 ?_ ?_ ?_ ?_ ?_ ?_ ?_
    · exact hb0
    · exact hb1
    · exact hb2
    · exact hb3
    · exact hb4
    · exact hb5
    · clear hb0 hb1 hb2 hb4 hb5
      have ar0 := rng32 vr
      have ar1 := rng64 p1
      simp only [Int64.lt_iff_toInt_lt, ← Int64.toInt_inj, Int32.lt_iff_toInt_lt, ← Int32.toInt_inj, (show (0 : Int32).toInt = 0 from rfl), and_true, true_and, and_false, false_and, or_true, true_or, or_false, false_or] at hc3 ar0 ar1 ⊢ <;> omega
set_option maxRecDepth 65536 in
set_option maxHeartbeats 40000000 in
theorem pt87 (l : Launch) (Z : State) (a0 : Array Value) (hw : ∀ d ∈ tables_1, d.before a0 Z = true) (p0 : Int64) (p1 : Int64) (p2 : Int64) (p3 : Int64) (p4 : Int64) (p5 : Int32) (w0 : Addr) (w1 : Addr) (w2 : Addr) (n0 : Nat) (K : own_K Z Z.heap w0 w1 w2) {p : Program} {e : Env} {s : State} {m : MethodId} {below : List Frame} {meth : Method} {c : Code} {s₁ : State} {S : Spec} (Bd : BodyLoose p l x S code maxLocals ret e s m #[(.long p0), (.long p1), (.long p2), (.long p3), (.long p4), (.int p5)] below meth c s₁) (hml : c.maxLocals = 26) (hZ : Z.Warmed39 s.vm)
    (T : State) (h : Heap) (lc : List Loc) (X : Stand p l e room_1 s m #[(.long p0), (.long p1), (.long p2), (.long p3), (.long p4), (.int p5)] below meth c T lc 0 0) (eT : T.heap = h) (N : Fr n0 lc) (Z0 : n0 ≤ h.size) (OL : Old Z n0 h) (vb : Int32) (vw : Int32) (va : Int32) (vr : Int32) (vx : Int32) (hb0 : 0 ≤ vb.toInt ∧ vb.toInt ≤ 2) (hb1 : 0 ≤ vw.toInt ∧ vw.toInt ≤ vb.toInt) (hb2 : 0 ≤ va.toInt ∧ va.toInt ≤ vb.toInt) (hb3 : vr.toInt = 0 ∨ vr.toInt = 1) (hb4 : vx.toInt = 0 ∨ vx.toInt = 1) :
    own_Go p e below s (Q0 n0) 16 128 (T.setTop (mkF m 87 #[.val (.long p0), .second, .val (.long p1), .second, .val (.long p2), .second, .val (.long p3), .second, .val (.long p4), .second, .val (.int p5), .val (.int vb), .val (.int vw), .val (.int va), .val (.int vr), .val (.int vx), .unset, .unset, .unset, .unset, .unset, .unset, .unset, .unset, .unset, .unset] [])) := by
  have hx := Bd.exec
  have hby := Bd.bytes
  have hown : s.vm.findClass "com/example/mailbox/mailbox/server/RequestDeadlineRemainingPinLaw" = some m.cls := findClass_of_methodNamed Bd.named
  have hlk := Bd.notSynchronized
  have K0 := K
  obtain ⟨S_w0, S_w1, S_w2, S_TIMEOUT_NANOS, E_w0, E_w1, E_w2⟩ := K
  show own_Go p e below s _ _ _ (T.setTop (mkF m 87 #[.val (.long p0), .second, .val (.long p1), .second, .val (.long p2), .second, .val (.long p3), .second, .val (.long p4), .second, .val (.int p5), .val (.int vb), .val (.int vw), .val (.int va), .val (.int vr), .val (.int vx), .unset, .unset, .unset, .unset, .unset, .unset, .unset, .unset, .unset, .unset] []))
  refine own_via (fun _ k => XS.iload X.here hx rfl (hb hby at_87) rfl k) ?_
  show own_Go p e below s _ _ _ (T.setTop (mkF m 89 #[.val (.long p0), .second, .val (.long p1), .second, .val (.long p2), .second, .val (.long p3), .second, .val (.long p4), .second, .val (.int p5), .val (.int vb), .val (.int vw), .val (.int va), .val (.int vr), .val (.int vx), .unset, .unset, .unset, .unset, .unset, .unset, .unset, .unset, .unset, .unset] [(.int p5)]))
  refine own_via (fun _ k => XS.bipush X.here hx rfl (hb hby at_89) k) ?_
  show own_Go p e below s _ _ _ (T.setTop (mkF m 91 #[.val (.long p0), .second, .val (.long p1), .second, .val (.long p2), .second, .val (.long p3), .second, .val (.long p4), .second, .val (.int p5), .val (.int vb), .val (.int vw), .val (.int va), .val (.int vr), .val (.int vx), .unset, .unset, .unset, .unset, .unset, .unset, .unset, .unset, .unset, .unset] [(.int (8 : Int32)), (.int p5)]))
  refine own_via (fun _ k => XS.iushr X.here hx rfl (hb hby at_91) rfl k) ?_
  show own_Go p e below s _ _ _ (T.setTop (mkF m 92 #[.val (.long p0), .second, .val (.long p1), .second, .val (.long p2), .second, .val (.long p3), .second, .val (.long p4), .second, .val (.int p5), .val (.int vb), .val (.int vw), .val (.int va), .val (.int vr), .val (.int vx), .unset, .unset, .unset, .unset, .unset, .unset, .unset, .unset, .unset, .unset] [(.int ((p5.toUInt32 >>> ((8 : Int32) &&& 31).toUInt32).toInt32))]))
  refine own_via (fun _ k => XS.iconst X.here hx rfl (hb hby at_92) k) ?_
  show own_Go p e below s _ _ _ (T.setTop (mkF m 93 #[.val (.long p0), .second, .val (.long p1), .second, .val (.long p2), .second, .val (.long p3), .second, .val (.long p4), .second, .val (.int p5), .val (.int vb), .val (.int vw), .val (.int va), .val (.int vr), .val (.int vx), .unset, .unset, .unset, .unset, .unset, .unset, .unset, .unset, .unset, .unset] [(.int (1 : Int32)), (.int ((p5.toUInt32 >>> ((8 : Int32) &&& 31).toUInt32).toInt32))]))
  refine own_via (fun _ k => XS.iand X.here hx rfl (hb hby at_93) rfl k) ?_
  show own_Go p e below s _ _ _ (T.setTop (mkF m 94 #[.val (.long p0), .second, .val (.long p1), .second, .val (.long p2), .second, .val (.long p3), .second, .val (.long p4), .second, .val (.int p5), .val (.int vb), .val (.int vw), .val (.int va), .val (.int vr), .val (.int vx), .unset, .unset, .unset, .unset, .unset, .unset, .unset, .unset, .unset, .unset] [(.int (((p5.toUInt32 >>> ((8 : Int32) &&& 31).toUInt32).toInt32) &&& (1 : Int32)))]))
  by_cases hc1 : (((p5.toUInt32 >>> ((8 : Int32) &&& 31).toUInt32).toInt32) &&& (1 : Int32)) = (0 : Int32)
  · refine own_via (fun _ k => XS.ifYes X.here hx rfl (pc0 := 94) (pc' := 101) rfl (hb hby at_94) rfl ((if0 _ _).trans (teq hc1).1) (by decide) (by decide) k) ?_
    show own_Go p e below s _ _ _ (T.setTop (mkF m 101 #[.val (.long p0), .second, .val (.long p1), .second, .val (.long p2), .second, .val (.long p3), .second, .val (.long p4), .second, .val (.int p5), .val (.int vb), .val (.int vw), .val (.int va), .val (.int vr), .val (.int vx), .unset, .unset, .unset, .unset, .unset, .unset, .unset, .unset, .unset, .unset] []))
    refine own_via (fun _ k => XS.iconst X.here hx rfl (hb hby at_101) k) ?_
    show own_Go p e below s _ _ _ (T.setTop (mkF m 102 #[.val (.long p0), .second, .val (.long p1), .second, .val (.long p2), .second, .val (.long p3), .second, .val (.long p4), .second, .val (.int p5), .val (.int vb), .val (.int vw), .val (.int va), .val (.int vr), .val (.int vx), .unset, .unset, .unset, .unset, .unset, .unset, .unset, .unset, .unset, .unset] [(.int (0 : Int32))]))
    refine own_via (fun _ k => XS.istore X.here hx rfl (hb hby at_102) rfl (l' := #[.val (.long p0), .second, .val (.long p1), .second, .val (.long p2), .second, .val (.long p3), .second, .val (.long p4), .second, .val (.int p5), .val (.int vb), .val (.int vw), .val (.int va), .val (.int vr), .val (.int vx), .val (.int (0 : Int32)), .unset, .unset, .unset, .unset, .unset, .unset, .unset, .unset, .unset]) rfl k) ?_
    show own_Go p e below s _ _ _ (T.setTop (mkF m 104 #[.val (.long p0), .second, .val (.long p1), .second, .val (.long p2), .second, .val (.long p3), .second, .val (.long p4), .second, .val (.int p5), .val (.int vb), .val (.int vw), .val (.int va), .val (.int vr), .val (.int vx), .val (.int (0 : Int32)), .unset, .unset, .unset, .unset, .unset, .unset, .unset, .unset, .unset] []))
    refine pt104 l Z a0 hw p0 p1 p2 p3 p4 p5 w0 w1 w2 n0 K0 Bd hml hZ T h _ X eT N Z0 OL (vb) (vw) (va) (vr) (vx) ((0 : Int32)) ?_ ?_ ?_ ?_ ?_ ?_
    · exact hb0
    · exact hb1
    · exact hb2
    · exact hb3
    · exact hb4
    · clear hb0 hb1 hb2 hb3 hb4
      have ar0 := rng32 p5
      have ar1 := rng32 ((p5.toUInt32 >>> ((8 : Int32) &&& 31).toUInt32).toInt32)
      have ar2 := c_mask ((p5.toUInt32 >>> ((8 : Int32) &&& 31).toUInt32).toInt32) (1 : Int32) 1 (by decide) (by decide)
      have ar3 := rng32 (((p5.toUInt32 >>> ((8 : Int32) &&& 31).toUInt32).toInt32) &&& (1 : Int32))
      simp only [Int64.lt_iff_toInt_lt, ← Int64.toInt_inj, Int32.lt_iff_toInt_lt, ← Int32.toInt_inj, (show (0 : Int32).toInt = 0 from rfl), (show (1 : Int32).toInt = 1 from rfl), (show (8 : Int32).toInt = 8 from rfl), and_true, true_and, and_false, false_and, or_true, true_or, or_false, false_or] at hc1 ar0 ar1 ar2 ar3 ⊢ <;> omega
  · refine own_via (fun _ k => XS.ifNo X.here hx rfl (hb hby at_94) rfl ((if0 _ _).trans (feq hc1).1) k) ?_
    show own_Go p e below s _ _ _ (T.setTop (mkF m 97 #[.val (.long p0), .second, .val (.long p1), .second, .val (.long p2), .second, .val (.long p3), .second, .val (.long p4), .second, .val (.int p5), .val (.int vb), .val (.int vw), .val (.int va), .val (.int vr), .val (.int vx), .unset, .unset, .unset, .unset, .unset, .unset, .unset, .unset, .unset, .unset] []))
    refine own_via (fun _ k => XS.iconst X.here hx rfl (hb hby at_97) k) ?_
    show own_Go p e below s _ _ _ (T.setTop (mkF m 98 #[.val (.long p0), .second, .val (.long p1), .second, .val (.long p2), .second, .val (.long p3), .second, .val (.long p4), .second, .val (.int p5), .val (.int vb), .val (.int vw), .val (.int va), .val (.int vr), .val (.int vx), .unset, .unset, .unset, .unset, .unset, .unset, .unset, .unset, .unset, .unset] [(.int (1 : Int32))]))
    refine own_via (fun _ k => XS.goto X.here hx rfl (pc0 := 98) (pc' := 102) rfl (hb hby at_98) (by decide) (by decide) k) ?_
    show own_Go p e below s _ _ _ (T.setTop (mkF m 102 #[.val (.long p0), .second, .val (.long p1), .second, .val (.long p2), .second, .val (.long p3), .second, .val (.long p4), .second, .val (.int p5), .val (.int vb), .val (.int vw), .val (.int va), .val (.int vr), .val (.int vx), .unset, .unset, .unset, .unset, .unset, .unset, .unset, .unset, .unset, .unset] [(.int (1 : Int32))]))
    refine own_via (fun _ k => XS.istore X.here hx rfl (hb hby at_102) rfl (l' := #[.val (.long p0), .second, .val (.long p1), .second, .val (.long p2), .second, .val (.long p3), .second, .val (.long p4), .second, .val (.int p5), .val (.int vb), .val (.int vw), .val (.int va), .val (.int vr), .val (.int vx), .val (.int (1 : Int32)), .unset, .unset, .unset, .unset, .unset, .unset, .unset, .unset, .unset]) rfl k) ?_
    show own_Go p e below s _ _ _ (T.setTop (mkF m 104 #[.val (.long p0), .second, .val (.long p1), .second, .val (.long p2), .second, .val (.long p3), .second, .val (.long p4), .second, .val (.int p5), .val (.int vb), .val (.int vw), .val (.int va), .val (.int vr), .val (.int vx), .val (.int (1 : Int32)), .unset, .unset, .unset, .unset, .unset, .unset, .unset, .unset, .unset] []))
    refine pt104 l Z a0 hw p0 p1 p2 p3 p4 p5 w0 w1 w2 n0 K0 Bd hml hZ T h _ X eT N Z0 OL (vb) (vw) (va) (vr) (vx) ((1 : Int32)) ?_ ?_ ?_ ?_ ?_ ?_
    · exact hb0
    · exact hb1
    · exact hb2
    · exact hb3
    · exact hb4
    · clear hb0 hb1 hb2 hb3 hb4
      have ar0 := rng32 p5
      have ar1 := rng32 ((p5.toUInt32 >>> ((8 : Int32) &&& 31).toUInt32).toInt32)
      have ar2 := c_mask ((p5.toUInt32 >>> ((8 : Int32) &&& 31).toUInt32).toInt32) (1 : Int32) 1 (by decide) (by decide)
      have ar3 := rng32 (((p5.toUInt32 >>> ((8 : Int32) &&& 31).toUInt32).toInt32) &&& (1 : Int32))
      simp only [Int64.lt_iff_toInt_lt, ← Int64.toInt_inj, Int32.lt_iff_toInt_lt, ← Int32.toInt_inj, (show (0 : Int32).toInt = 0 from rfl), (show (1 : Int32).toInt = 1 from rfl), (show (8 : Int32).toInt = 8 from rfl), and_true, true_and, and_false, false_and, or_true, true_or, or_false, false_or] at hc1 ar0 ar1 ar2 ar3 ⊢ <;> omega
set_option maxRecDepth 65536 in
set_option maxHeartbeats 40000000 in
theorem pt70 (l : Launch) (Z : State) (a0 : Array Value) (hw : ∀ d ∈ tables_1, d.before a0 Z = true) (p0 : Int64) (p1 : Int64) (p2 : Int64) (p3 : Int64) (p4 : Int64) (p5 : Int32) (w0 : Addr) (w1 : Addr) (w2 : Addr) (n0 : Nat) (K : own_K Z Z.heap w0 w1 w2) {p : Program} {e : Env} {s : State} {m : MethodId} {below : List Frame} {meth : Method} {c : Code} {s₁ : State} {S : Spec} (Bd : BodyLoose p l x S code maxLocals ret e s m #[(.long p0), (.long p1), (.long p2), (.long p3), (.long p4), (.int p5)] below meth c s₁) (hml : c.maxLocals = 26) (hZ : Z.Warmed39 s.vm)
    (T : State) (h : Heap) (lc : List Loc) (X : Stand p l e room_1 s m #[(.long p0), (.long p1), (.long p2), (.long p3), (.long p4), (.int p5)] below meth c T lc 0 0) (eT : T.heap = h) (N : Fr n0 lc) (Z0 : n0 ≤ h.size) (OL : Old Z n0 h) (vb : Int32) (vw : Int32) (va : Int32) (vr : Int32) (hb0 : 0 ≤ vb.toInt ∧ vb.toInt ≤ 2) (hb1 : 0 ≤ vw.toInt ∧ vw.toInt ≤ vb.toInt) (hb2 : 0 ≤ va.toInt ∧ va.toInt ≤ vb.toInt) (hb3 : vr.toInt = 0 ∨ vr.toInt = 1) :
    own_Go p e below s (Q0 n0) 16 128 (T.setTop (mkF m 70 #[.val (.long p0), .second, .val (.long p1), .second, .val (.long p2), .second, .val (.long p3), .second, .val (.long p4), .second, .val (.int p5), .val (.int vb), .val (.int vw), .val (.int va), .val (.int vr), .unset, .unset, .unset, .unset, .unset, .unset, .unset, .unset, .unset, .unset, .unset] [])) := by
  have hx := Bd.exec
  have hby := Bd.bytes
  have hown : s.vm.findClass "com/example/mailbox/mailbox/server/RequestDeadlineRemainingPinLaw" = some m.cls := findClass_of_methodNamed Bd.named
  have hlk := Bd.notSynchronized
  have K0 := K
  obtain ⟨S_w0, S_w1, S_w2, S_TIMEOUT_NANOS, E_w0, E_w1, E_w2⟩ := K
  show own_Go p e below s _ _ _ (T.setTop (mkF m 70 #[.val (.long p0), .second, .val (.long p1), .second, .val (.long p2), .second, .val (.long p3), .second, .val (.long p4), .second, .val (.int p5), .val (.int vb), .val (.int vw), .val (.int va), .val (.int vr), .unset, .unset, .unset, .unset, .unset, .unset, .unset, .unset, .unset, .unset, .unset] []))
  refine own_via (fun _ k => XS.iload X.here hx rfl (hb hby at_70) rfl k) ?_
  show own_Go p e below s _ _ _ (T.setTop (mkF m 72 #[.val (.long p0), .second, .val (.long p1), .second, .val (.long p2), .second, .val (.long p3), .second, .val (.long p4), .second, .val (.int p5), .val (.int vb), .val (.int vw), .val (.int va), .val (.int vr), .unset, .unset, .unset, .unset, .unset, .unset, .unset, .unset, .unset, .unset, .unset] [(.int p5)]))
  refine own_via (fun _ k => XS.bipush X.here hx rfl (hb hby at_72) k) ?_
  show own_Go p e below s _ _ _ (T.setTop (mkF m 74 #[.val (.long p0), .second, .val (.long p1), .second, .val (.long p2), .second, .val (.long p3), .second, .val (.long p4), .second, .val (.int p5), .val (.int vb), .val (.int vw), .val (.int va), .val (.int vr), .unset, .unset, .unset, .unset, .unset, .unset, .unset, .unset, .unset, .unset, .unset] [(.int (7 : Int32)), (.int p5)]))
  refine own_via (fun _ k => XS.iushr X.here hx rfl (hb hby at_74) rfl k) ?_
  show own_Go p e below s _ _ _ (T.setTop (mkF m 75 #[.val (.long p0), .second, .val (.long p1), .second, .val (.long p2), .second, .val (.long p3), .second, .val (.long p4), .second, .val (.int p5), .val (.int vb), .val (.int vw), .val (.int va), .val (.int vr), .unset, .unset, .unset, .unset, .unset, .unset, .unset, .unset, .unset, .unset, .unset] [(.int ((p5.toUInt32 >>> ((7 : Int32) &&& 31).toUInt32).toInt32))]))
  refine own_via (fun _ k => XS.iconst X.here hx rfl (hb hby at_75) k) ?_
  show own_Go p e below s _ _ _ (T.setTop (mkF m 76 #[.val (.long p0), .second, .val (.long p1), .second, .val (.long p2), .second, .val (.long p3), .second, .val (.long p4), .second, .val (.int p5), .val (.int vb), .val (.int vw), .val (.int va), .val (.int vr), .unset, .unset, .unset, .unset, .unset, .unset, .unset, .unset, .unset, .unset, .unset] [(.int (1 : Int32)), (.int ((p5.toUInt32 >>> ((7 : Int32) &&& 31).toUInt32).toInt32))]))
  refine own_via (fun _ k => XS.iand X.here hx rfl (hb hby at_76) rfl k) ?_
  show own_Go p e below s _ _ _ (T.setTop (mkF m 77 #[.val (.long p0), .second, .val (.long p1), .second, .val (.long p2), .second, .val (.long p3), .second, .val (.long p4), .second, .val (.int p5), .val (.int vb), .val (.int vw), .val (.int va), .val (.int vr), .unset, .unset, .unset, .unset, .unset, .unset, .unset, .unset, .unset, .unset, .unset] [(.int (((p5.toUInt32 >>> ((7 : Int32) &&& 31).toUInt32).toInt32) &&& (1 : Int32)))]))
  by_cases hc1 : (((p5.toUInt32 >>> ((7 : Int32) &&& 31).toUInt32).toInt32) &&& (1 : Int32)) = (0 : Int32)
  · refine own_via (fun _ k => XS.ifYes X.here hx rfl (pc0 := 77) (pc' := 84) rfl (hb hby at_77) rfl ((if0 _ _).trans (teq hc1).1) (by decide) (by decide) k) ?_
    show own_Go p e below s _ _ _ (T.setTop (mkF m 84 #[.val (.long p0), .second, .val (.long p1), .second, .val (.long p2), .second, .val (.long p3), .second, .val (.long p4), .second, .val (.int p5), .val (.int vb), .val (.int vw), .val (.int va), .val (.int vr), .unset, .unset, .unset, .unset, .unset, .unset, .unset, .unset, .unset, .unset, .unset] []))
    refine own_via (fun _ k => XS.iconst X.here hx rfl (hb hby at_84) k) ?_
    show own_Go p e below s _ _ _ (T.setTop (mkF m 85 #[.val (.long p0), .second, .val (.long p1), .second, .val (.long p2), .second, .val (.long p3), .second, .val (.long p4), .second, .val (.int p5), .val (.int vb), .val (.int vw), .val (.int va), .val (.int vr), .unset, .unset, .unset, .unset, .unset, .unset, .unset, .unset, .unset, .unset, .unset] [(.int (0 : Int32))]))
    refine own_via (fun _ k => XS.istore X.here hx rfl (hb hby at_85) rfl (l' := #[.val (.long p0), .second, .val (.long p1), .second, .val (.long p2), .second, .val (.long p3), .second, .val (.long p4), .second, .val (.int p5), .val (.int vb), .val (.int vw), .val (.int va), .val (.int vr), .val (.int (0 : Int32)), .unset, .unset, .unset, .unset, .unset, .unset, .unset, .unset, .unset, .unset]) rfl k) ?_
    show own_Go p e below s _ _ _ (T.setTop (mkF m 87 #[.val (.long p0), .second, .val (.long p1), .second, .val (.long p2), .second, .val (.long p3), .second, .val (.long p4), .second, .val (.int p5), .val (.int vb), .val (.int vw), .val (.int va), .val (.int vr), .val (.int (0 : Int32)), .unset, .unset, .unset, .unset, .unset, .unset, .unset, .unset, .unset, .unset] []))
    refine pt87 l Z a0 hw p0 p1 p2 p3 p4 p5 w0 w1 w2 n0 K0 Bd hml hZ T h _ X eT N Z0 OL (vb) (vw) (va) (vr) ((0 : Int32)) ?_ ?_ ?_ ?_ ?_
    · exact hb0
    · exact hb1
    · exact hb2
    · exact hb3
    · clear hb0 hb1 hb2 hb3
      have ar0 := rng32 p5
      have ar1 := rng32 ((p5.toUInt32 >>> ((7 : Int32) &&& 31).toUInt32).toInt32)
      have ar2 := c_mask ((p5.toUInt32 >>> ((7 : Int32) &&& 31).toUInt32).toInt32) (1 : Int32) 1 (by decide) (by decide)
      have ar3 := rng32 (((p5.toUInt32 >>> ((7 : Int32) &&& 31).toUInt32).toInt32) &&& (1 : Int32))
      simp only [Int64.lt_iff_toInt_lt, ← Int64.toInt_inj, Int32.lt_iff_toInt_lt, ← Int32.toInt_inj, (show (0 : Int32).toInt = 0 from rfl), (show (1 : Int32).toInt = 1 from rfl), (show (7 : Int32).toInt = 7 from rfl), and_true, true_and, and_false, false_and, or_true, true_or, or_false, false_or] at hc1 ar0 ar1 ar2 ar3 ⊢ <;> omega
  · refine own_via (fun _ k => XS.ifNo X.here hx rfl (hb hby at_77) rfl ((if0 _ _).trans (feq hc1).1) k) ?_
    show own_Go p e below s _ _ _ (T.setTop (mkF m 80 #[.val (.long p0), .second, .val (.long p1), .second, .val (.long p2), .second, .val (.long p3), .second, .val (.long p4), .second, .val (.int p5), .val (.int vb), .val (.int vw), .val (.int va), .val (.int vr), .unset, .unset, .unset, .unset, .unset, .unset, .unset, .unset, .unset, .unset, .unset] []))
    refine own_via (fun _ k => XS.iconst X.here hx rfl (hb hby at_80) k) ?_
    show own_Go p e below s _ _ _ (T.setTop (mkF m 81 #[.val (.long p0), .second, .val (.long p1), .second, .val (.long p2), .second, .val (.long p3), .second, .val (.long p4), .second, .val (.int p5), .val (.int vb), .val (.int vw), .val (.int va), .val (.int vr), .unset, .unset, .unset, .unset, .unset, .unset, .unset, .unset, .unset, .unset, .unset] [(.int (1 : Int32))]))
    refine own_via (fun _ k => XS.goto X.here hx rfl (pc0 := 81) (pc' := 85) rfl (hb hby at_81) (by decide) (by decide) k) ?_
    show own_Go p e below s _ _ _ (T.setTop (mkF m 85 #[.val (.long p0), .second, .val (.long p1), .second, .val (.long p2), .second, .val (.long p3), .second, .val (.long p4), .second, .val (.int p5), .val (.int vb), .val (.int vw), .val (.int va), .val (.int vr), .unset, .unset, .unset, .unset, .unset, .unset, .unset, .unset, .unset, .unset, .unset] [(.int (1 : Int32))]))
    refine own_via (fun _ k => XS.istore X.here hx rfl (hb hby at_85) rfl (l' := #[.val (.long p0), .second, .val (.long p1), .second, .val (.long p2), .second, .val (.long p3), .second, .val (.long p4), .second, .val (.int p5), .val (.int vb), .val (.int vw), .val (.int va), .val (.int vr), .val (.int (1 : Int32)), .unset, .unset, .unset, .unset, .unset, .unset, .unset, .unset, .unset, .unset]) rfl k) ?_
    show own_Go p e below s _ _ _ (T.setTop (mkF m 87 #[.val (.long p0), .second, .val (.long p1), .second, .val (.long p2), .second, .val (.long p3), .second, .val (.long p4), .second, .val (.int p5), .val (.int vb), .val (.int vw), .val (.int va), .val (.int vr), .val (.int (1 : Int32)), .unset, .unset, .unset, .unset, .unset, .unset, .unset, .unset, .unset, .unset] []))
    refine pt87 l Z a0 hw p0 p1 p2 p3 p4 p5 w0 w1 w2 n0 K0 Bd hml hZ T h _ X eT N Z0 OL (vb) (vw) (va) (vr) ((1 : Int32)) ?_ ?_ ?_ ?_ ?_
    · exact hb0
    · exact hb1
    · exact hb2
    · exact hb3
    · clear hb0 hb1 hb2 hb3
      have ar0 := rng32 p5
      have ar1 := rng32 ((p5.toUInt32 >>> ((7 : Int32) &&& 31).toUInt32).toInt32)
      have ar2 := c_mask ((p5.toUInt32 >>> ((7 : Int32) &&& 31).toUInt32).toInt32) (1 : Int32) 1 (by decide) (by decide)
      have ar3 := rng32 (((p5.toUInt32 >>> ((7 : Int32) &&& 31).toUInt32).toInt32) &&& (1 : Int32))
      simp only [Int64.lt_iff_toInt_lt, ← Int64.toInt_inj, Int32.lt_iff_toInt_lt, ← Int32.toInt_inj, (show (0 : Int32).toInt = 0 from rfl), (show (1 : Int32).toInt = 1 from rfl), (show (7 : Int32).toInt = 7 from rfl), and_true, true_and, and_false, false_and, or_true, true_or, or_false, false_or] at hc1 ar0 ar1 ar2 ar3 ⊢ <;> omega
set_option maxRecDepth 65536 in
set_option maxHeartbeats 40000000 in
theorem pt53 (l : Launch) (Z : State) (a0 : Array Value) (hw : ∀ d ∈ tables_1, d.before a0 Z = true) (p0 : Int64) (p1 : Int64) (p2 : Int64) (p3 : Int64) (p4 : Int64) (p5 : Int32) (w0 : Addr) (w1 : Addr) (w2 : Addr) (n0 : Nat) (K : own_K Z Z.heap w0 w1 w2) {p : Program} {e : Env} {s : State} {m : MethodId} {below : List Frame} {meth : Method} {c : Code} {s₁ : State} {S : Spec} (Bd : BodyLoose p l x S code maxLocals ret e s m #[(.long p0), (.long p1), (.long p2), (.long p3), (.long p4), (.int p5)] below meth c s₁) (hml : c.maxLocals = 26) (hZ : Z.Warmed39 s.vm)
    (T : State) (h : Heap) (lc : List Loc) (X : Stand p l e room_1 s m #[(.long p0), (.long p1), (.long p2), (.long p3), (.long p4), (.int p5)] below meth c T lc 0 0) (eT : T.heap = h) (N : Fr n0 lc) (Z0 : n0 ≤ h.size) (OL : Old Z n0 h) (vb : Int32) (vw : Int32) (va : Int32) (hb0 : 0 ≤ vb.toInt ∧ vb.toInt ≤ 2) (hb1 : 0 ≤ vw.toInt ∧ vw.toInt ≤ vb.toInt) (hb2 : 0 ≤ va.toInt ∧ va.toInt ≤ vb.toInt) :
    own_Go p e below s (Q0 n0) 16 128 (T.setTop (mkF m 53 #[.val (.long p0), .second, .val (.long p1), .second, .val (.long p2), .second, .val (.long p3), .second, .val (.long p4), .second, .val (.int p5), .val (.int vb), .val (.int vw), .val (.int va), .unset, .unset, .unset, .unset, .unset, .unset, .unset, .unset, .unset, .unset, .unset, .unset] [])) := by
  have hx := Bd.exec
  have hby := Bd.bytes
  have hown : s.vm.findClass "com/example/mailbox/mailbox/server/RequestDeadlineRemainingPinLaw" = some m.cls := findClass_of_methodNamed Bd.named
  have hlk := Bd.notSynchronized
  have K0 := K
  obtain ⟨S_w0, S_w1, S_w2, S_TIMEOUT_NANOS, E_w0, E_w1, E_w2⟩ := K
  show own_Go p e below s _ _ _ (T.setTop (mkF m 53 #[.val (.long p0), .second, .val (.long p1), .second, .val (.long p2), .second, .val (.long p3), .second, .val (.long p4), .second, .val (.int p5), .val (.int vb), .val (.int vw), .val (.int va), .unset, .unset, .unset, .unset, .unset, .unset, .unset, .unset, .unset, .unset, .unset, .unset] []))
  refine own_via (fun _ k => XS.iload X.here hx rfl (hb hby at_53) rfl k) ?_
  show own_Go p e below s _ _ _ (T.setTop (mkF m 55 #[.val (.long p0), .second, .val (.long p1), .second, .val (.long p2), .second, .val (.long p3), .second, .val (.long p4), .second, .val (.int p5), .val (.int vb), .val (.int vw), .val (.int va), .unset, .unset, .unset, .unset, .unset, .unset, .unset, .unset, .unset, .unset, .unset, .unset] [(.int p5)]))
  refine own_via (fun _ k => XS.bipush X.here hx rfl (hb hby at_55) k) ?_
  show own_Go p e below s _ _ _ (T.setTop (mkF m 57 #[.val (.long p0), .second, .val (.long p1), .second, .val (.long p2), .second, .val (.long p3), .second, .val (.long p4), .second, .val (.int p5), .val (.int vb), .val (.int vw), .val (.int va), .unset, .unset, .unset, .unset, .unset, .unset, .unset, .unset, .unset, .unset, .unset, .unset] [(.int (6 : Int32)), (.int p5)]))
  refine own_via (fun _ k => XS.iushr X.here hx rfl (hb hby at_57) rfl k) ?_
  show own_Go p e below s _ _ _ (T.setTop (mkF m 58 #[.val (.long p0), .second, .val (.long p1), .second, .val (.long p2), .second, .val (.long p3), .second, .val (.long p4), .second, .val (.int p5), .val (.int vb), .val (.int vw), .val (.int va), .unset, .unset, .unset, .unset, .unset, .unset, .unset, .unset, .unset, .unset, .unset, .unset] [(.int ((p5.toUInt32 >>> ((6 : Int32) &&& 31).toUInt32).toInt32))]))
  refine own_via (fun _ k => XS.iconst X.here hx rfl (hb hby at_58) k) ?_
  show own_Go p e below s _ _ _ (T.setTop (mkF m 59 #[.val (.long p0), .second, .val (.long p1), .second, .val (.long p2), .second, .val (.long p3), .second, .val (.long p4), .second, .val (.int p5), .val (.int vb), .val (.int vw), .val (.int va), .unset, .unset, .unset, .unset, .unset, .unset, .unset, .unset, .unset, .unset, .unset, .unset] [(.int (1 : Int32)), (.int ((p5.toUInt32 >>> ((6 : Int32) &&& 31).toUInt32).toInt32))]))
  refine own_via (fun _ k => XS.iand X.here hx rfl (hb hby at_59) rfl k) ?_
  show own_Go p e below s _ _ _ (T.setTop (mkF m 60 #[.val (.long p0), .second, .val (.long p1), .second, .val (.long p2), .second, .val (.long p3), .second, .val (.long p4), .second, .val (.int p5), .val (.int vb), .val (.int vw), .val (.int va), .unset, .unset, .unset, .unset, .unset, .unset, .unset, .unset, .unset, .unset, .unset, .unset] [(.int (((p5.toUInt32 >>> ((6 : Int32) &&& 31).toUInt32).toInt32) &&& (1 : Int32)))]))
  by_cases hc1 : (((p5.toUInt32 >>> ((6 : Int32) &&& 31).toUInt32).toInt32) &&& (1 : Int32)) = (0 : Int32)
  · refine own_via (fun _ k => XS.ifYes X.here hx rfl (pc0 := 60) (pc' := 67) rfl (hb hby at_60) rfl ((if0 _ _).trans (teq hc1).1) (by decide) (by decide) k) ?_
    show own_Go p e below s _ _ _ (T.setTop (mkF m 67 #[.val (.long p0), .second, .val (.long p1), .second, .val (.long p2), .second, .val (.long p3), .second, .val (.long p4), .second, .val (.int p5), .val (.int vb), .val (.int vw), .val (.int va), .unset, .unset, .unset, .unset, .unset, .unset, .unset, .unset, .unset, .unset, .unset, .unset] []))
    refine own_via (fun _ k => XS.iconst X.here hx rfl (hb hby at_67) k) ?_
    show own_Go p e below s _ _ _ (T.setTop (mkF m 68 #[.val (.long p0), .second, .val (.long p1), .second, .val (.long p2), .second, .val (.long p3), .second, .val (.long p4), .second, .val (.int p5), .val (.int vb), .val (.int vw), .val (.int va), .unset, .unset, .unset, .unset, .unset, .unset, .unset, .unset, .unset, .unset, .unset, .unset] [(.int (0 : Int32))]))
    refine own_via (fun _ k => XS.istore X.here hx rfl (hb hby at_68) rfl (l' := #[.val (.long p0), .second, .val (.long p1), .second, .val (.long p2), .second, .val (.long p3), .second, .val (.long p4), .second, .val (.int p5), .val (.int vb), .val (.int vw), .val (.int va), .val (.int (0 : Int32)), .unset, .unset, .unset, .unset, .unset, .unset, .unset, .unset, .unset, .unset, .unset]) rfl k) ?_
    show own_Go p e below s _ _ _ (T.setTop (mkF m 70 #[.val (.long p0), .second, .val (.long p1), .second, .val (.long p2), .second, .val (.long p3), .second, .val (.long p4), .second, .val (.int p5), .val (.int vb), .val (.int vw), .val (.int va), .val (.int (0 : Int32)), .unset, .unset, .unset, .unset, .unset, .unset, .unset, .unset, .unset, .unset, .unset] []))
    refine pt70 l Z a0 hw p0 p1 p2 p3 p4 p5 w0 w1 w2 n0 K0 Bd hml hZ T h _ X eT N Z0 OL (vb) (vw) (va) ((0 : Int32)) ?_ ?_ ?_ ?_
    · exact hb0
    · exact hb1
    · exact hb2
    · clear hb0 hb1 hb2
      have ar0 := rng32 p5
      have ar1 := rng32 ((p5.toUInt32 >>> ((6 : Int32) &&& 31).toUInt32).toInt32)
      have ar2 := c_mask ((p5.toUInt32 >>> ((6 : Int32) &&& 31).toUInt32).toInt32) (1 : Int32) 1 (by decide) (by decide)
      have ar3 := rng32 (((p5.toUInt32 >>> ((6 : Int32) &&& 31).toUInt32).toInt32) &&& (1 : Int32))
      simp only [Int64.lt_iff_toInt_lt, ← Int64.toInt_inj, Int32.lt_iff_toInt_lt, ← Int32.toInt_inj, (show (0 : Int32).toInt = 0 from rfl), (show (1 : Int32).toInt = 1 from rfl), (show (6 : Int32).toInt = 6 from rfl), and_true, true_and, and_false, false_and, or_true, true_or, or_false, false_or] at hc1 ar0 ar1 ar2 ar3 ⊢ <;> omega
  · refine own_via (fun _ k => XS.ifNo X.here hx rfl (hb hby at_60) rfl ((if0 _ _).trans (feq hc1).1) k) ?_
    show own_Go p e below s _ _ _ (T.setTop (mkF m 63 #[.val (.long p0), .second, .val (.long p1), .second, .val (.long p2), .second, .val (.long p3), .second, .val (.long p4), .second, .val (.int p5), .val (.int vb), .val (.int vw), .val (.int va), .unset, .unset, .unset, .unset, .unset, .unset, .unset, .unset, .unset, .unset, .unset, .unset] []))
    refine own_via (fun _ k => XS.iconst X.here hx rfl (hb hby at_63) k) ?_
    show own_Go p e below s _ _ _ (T.setTop (mkF m 64 #[.val (.long p0), .second, .val (.long p1), .second, .val (.long p2), .second, .val (.long p3), .second, .val (.long p4), .second, .val (.int p5), .val (.int vb), .val (.int vw), .val (.int va), .unset, .unset, .unset, .unset, .unset, .unset, .unset, .unset, .unset, .unset, .unset, .unset] [(.int (1 : Int32))]))
    refine own_via (fun _ k => XS.goto X.here hx rfl (pc0 := 64) (pc' := 68) rfl (hb hby at_64) (by decide) (by decide) k) ?_
    show own_Go p e below s _ _ _ (T.setTop (mkF m 68 #[.val (.long p0), .second, .val (.long p1), .second, .val (.long p2), .second, .val (.long p3), .second, .val (.long p4), .second, .val (.int p5), .val (.int vb), .val (.int vw), .val (.int va), .unset, .unset, .unset, .unset, .unset, .unset, .unset, .unset, .unset, .unset, .unset, .unset] [(.int (1 : Int32))]))
    refine own_via (fun _ k => XS.istore X.here hx rfl (hb hby at_68) rfl (l' := #[.val (.long p0), .second, .val (.long p1), .second, .val (.long p2), .second, .val (.long p3), .second, .val (.long p4), .second, .val (.int p5), .val (.int vb), .val (.int vw), .val (.int va), .val (.int (1 : Int32)), .unset, .unset, .unset, .unset, .unset, .unset, .unset, .unset, .unset, .unset, .unset]) rfl k) ?_
    show own_Go p e below s _ _ _ (T.setTop (mkF m 70 #[.val (.long p0), .second, .val (.long p1), .second, .val (.long p2), .second, .val (.long p3), .second, .val (.long p4), .second, .val (.int p5), .val (.int vb), .val (.int vw), .val (.int va), .val (.int (1 : Int32)), .unset, .unset, .unset, .unset, .unset, .unset, .unset, .unset, .unset, .unset, .unset] []))
    refine pt70 l Z a0 hw p0 p1 p2 p3 p4 p5 w0 w1 w2 n0 K0 Bd hml hZ T h _ X eT N Z0 OL (vb) (vw) (va) ((1 : Int32)) ?_ ?_ ?_ ?_
    · exact hb0
    · exact hb1
    · exact hb2
    · clear hb0 hb1 hb2
      have ar0 := rng32 p5
      have ar1 := rng32 ((p5.toUInt32 >>> ((6 : Int32) &&& 31).toUInt32).toInt32)
      have ar2 := c_mask ((p5.toUInt32 >>> ((6 : Int32) &&& 31).toUInt32).toInt32) (1 : Int32) 1 (by decide) (by decide)
      have ar3 := rng32 (((p5.toUInt32 >>> ((6 : Int32) &&& 31).toUInt32).toInt32) &&& (1 : Int32))
      simp only [Int64.lt_iff_toInt_lt, ← Int64.toInt_inj, Int32.lt_iff_toInt_lt, ← Int32.toInt_inj, (show (0 : Int32).toInt = 0 from rfl), (show (1 : Int32).toInt = 1 from rfl), (show (6 : Int32).toInt = 6 from rfl), and_true, true_and, and_false, false_and, or_true, true_or, or_false, false_or] at hc1 ar0 ar1 ar2 ar3 ⊢ <;> omega
set_option maxRecDepth 65536 in
set_option maxHeartbeats 40000000 in
theorem pt34 (l : Launch) (Z : State) (a0 : Array Value) (hw : ∀ d ∈ tables_1, d.before a0 Z = true) (p0 : Int64) (p1 : Int64) (p2 : Int64) (p3 : Int64) (p4 : Int64) (p5 : Int32) (w0 : Addr) (w1 : Addr) (w2 : Addr) (n0 : Nat) (K : own_K Z Z.heap w0 w1 w2) {p : Program} {e : Env} {s : State} {m : MethodId} {below : List Frame} {meth : Method} {c : Code} {s₁ : State} {S : Spec} (Bd : BodyLoose p l x S code maxLocals ret e s m #[(.long p0), (.long p1), (.long p2), (.long p3), (.long p4), (.int p5)] below meth c s₁) (hml : c.maxLocals = 26) (hZ : Z.Warmed39 s.vm)
    (T : State) (h : Heap) (lc : List Loc) (X : Stand p l e room_1 s m #[(.long p0), (.long p1), (.long p2), (.long p3), (.long p4), (.int p5)] below meth c T lc 0 0) (eT : T.heap = h) (N : Fr n0 lc) (Z0 : n0 ≤ h.size) (OL : Old Z n0 h) (vb : Int32) (vw : Int32) (hb0 : 0 ≤ vb.toInt ∧ vb.toInt ≤ 2) (hb1 : 0 ≤ vw.toInt ∧ vw.toInt ≤ vb.toInt) :
    own_Go p e below s (Q0 n0) 16 128 (T.setTop (mkF m 34 #[.val (.long p0), .second, .val (.long p1), .second, .val (.long p2), .second, .val (.long p3), .second, .val (.long p4), .second, .val (.int p5), .val (.int vb), .val (.int vw), .unset, .unset, .unset, .unset, .unset, .unset, .unset, .unset, .unset, .unset, .unset, .unset, .unset] [])) := by
  have hx := Bd.exec
  have hby := Bd.bytes
  have hown : s.vm.findClass "com/example/mailbox/mailbox/server/RequestDeadlineRemainingPinLaw" = some m.cls := findClass_of_methodNamed Bd.named
  have hlk := Bd.notSynchronized
  have K0 := K
  obtain ⟨S_w0, S_w1, S_w2, S_TIMEOUT_NANOS, E_w0, E_w1, E_w2⟩ := K
  show own_Go p e below s _ _ _ (T.setTop (mkF m 34 #[.val (.long p0), .second, .val (.long p1), .second, .val (.long p2), .second, .val (.long p3), .second, .val (.long p4), .second, .val (.int p5), .val (.int vb), .val (.int vw), .unset, .unset, .unset, .unset, .unset, .unset, .unset, .unset, .unset, .unset, .unset, .unset, .unset] []))
  refine own_via (fun _ k => XS.iload X.here hx rfl (hb hby at_34) rfl k) ?_
  show own_Go p e below s _ _ _ (T.setTop (mkF m 36 #[.val (.long p0), .second, .val (.long p1), .second, .val (.long p2), .second, .val (.long p3), .second, .val (.long p4), .second, .val (.int p5), .val (.int vb), .val (.int vw), .unset, .unset, .unset, .unset, .unset, .unset, .unset, .unset, .unset, .unset, .unset, .unset, .unset] [(.int p5)]))
  refine own_via (fun _ k => XS.iconst X.here hx rfl (hb hby at_36) k) ?_
  show own_Go p e below s _ _ _ (T.setTop (mkF m 37 #[.val (.long p0), .second, .val (.long p1), .second, .val (.long p2), .second, .val (.long p3), .second, .val (.long p4), .second, .val (.int p5), .val (.int vb), .val (.int vw), .unset, .unset, .unset, .unset, .unset, .unset, .unset, .unset, .unset, .unset, .unset, .unset, .unset] [(.int (4 : Int32)), (.int p5)]))
  refine own_via (fun _ k => XS.iushr X.here hx rfl (hb hby at_37) rfl k) ?_
  show own_Go p e below s _ _ _ (T.setTop (mkF m 38 #[.val (.long p0), .second, .val (.long p1), .second, .val (.long p2), .second, .val (.long p3), .second, .val (.long p4), .second, .val (.int p5), .val (.int vb), .val (.int vw), .unset, .unset, .unset, .unset, .unset, .unset, .unset, .unset, .unset, .unset, .unset, .unset, .unset] [(.int ((p5.toUInt32 >>> ((4 : Int32) &&& 31).toUInt32).toInt32))]))
  refine own_via (fun _ k => XS.iconst X.here hx rfl (hb hby at_38) k) ?_
  show own_Go p e below s _ _ _ (T.setTop (mkF m 39 #[.val (.long p0), .second, .val (.long p1), .second, .val (.long p2), .second, .val (.long p3), .second, .val (.long p4), .second, .val (.int p5), .val (.int vb), .val (.int vw), .unset, .unset, .unset, .unset, .unset, .unset, .unset, .unset, .unset, .unset, .unset, .unset, .unset] [(.int (3 : Int32)), (.int ((p5.toUInt32 >>> ((4 : Int32) &&& 31).toUInt32).toInt32))]))
  refine own_via (fun _ k => XS.iand X.here hx rfl (hb hby at_39) rfl k) ?_
  show own_Go p e below s _ _ _ (T.setTop (mkF m 40 #[.val (.long p0), .second, .val (.long p1), .second, .val (.long p2), .second, .val (.long p3), .second, .val (.long p4), .second, .val (.int p5), .val (.int vb), .val (.int vw), .unset, .unset, .unset, .unset, .unset, .unset, .unset, .unset, .unset, .unset, .unset, .unset, .unset] [(.int (((p5.toUInt32 >>> ((4 : Int32) &&& 31).toUInt32).toInt32) &&& (3 : Int32)))]))
  refine own_via (fun _ k => XS.istore X.here hx rfl (hb hby at_40) rfl (l' := #[.val (.long p0), .second, .val (.long p1), .second, .val (.long p2), .second, .val (.long p3), .second, .val (.long p4), .second, .val (.int p5), .val (.int vb), .val (.int vw), .val (.int (((p5.toUInt32 >>> ((4 : Int32) &&& 31).toUInt32).toInt32) &&& (3 : Int32))), .unset, .unset, .unset, .unset, .unset, .unset, .unset, .unset, .unset, .unset, .unset, .unset]) rfl k) ?_
  show own_Go p e below s _ _ _ (T.setTop (mkF m 42 #[.val (.long p0), .second, .val (.long p1), .second, .val (.long p2), .second, .val (.long p3), .second, .val (.long p4), .second, .val (.int p5), .val (.int vb), .val (.int vw), .val (.int (((p5.toUInt32 >>> ((4 : Int32) &&& 31).toUInt32).toInt32) &&& (3 : Int32))), .unset, .unset, .unset, .unset, .unset, .unset, .unset, .unset, .unset, .unset, .unset, .unset] []))
  refine own_via (fun _ k => XS.iload X.here hx rfl (hb hby at_42) rfl k) ?_
  show own_Go p e below s _ _ _ (T.setTop (mkF m 44 #[.val (.long p0), .second, .val (.long p1), .second, .val (.long p2), .second, .val (.long p3), .second, .val (.long p4), .second, .val (.int p5), .val (.int vb), .val (.int vw), .val (.int (((p5.toUInt32 >>> ((4 : Int32) &&& 31).toUInt32).toInt32) &&& (3 : Int32))), .unset, .unset, .unset, .unset, .unset, .unset, .unset, .unset, .unset, .unset, .unset, .unset] [(.int (((p5.toUInt32 >>> ((4 : Int32) &&& 31).toUInt32).toInt32) &&& (3 : Int32)))]))
  refine own_via (fun _ k => XS.iload X.here hx rfl (hb hby at_44) rfl k) ?_
  show own_Go p e below s _ _ _ (T.setTop (mkF m 46 #[.val (.long p0), .second, .val (.long p1), .second, .val (.long p2), .second, .val (.long p3), .second, .val (.long p4), .second, .val (.int p5), .val (.int vb), .val (.int vw), .val (.int (((p5.toUInt32 >>> ((4 : Int32) &&& 31).toUInt32).toInt32) &&& (3 : Int32))), .unset, .unset, .unset, .unset, .unset, .unset, .unset, .unset, .unset, .unset, .unset, .unset] [(.int vb), (.int (((p5.toUInt32 >>> ((4 : Int32) &&& 31).toUInt32).toInt32) &&& (3 : Int32)))]))
  by_cases hc1 : vb < (((p5.toUInt32 >>> ((4 : Int32) &&& 31).toUInt32).toInt32) &&& (3 : Int32))
  · refine own_via (fun _ k => XS.icmpNo X.here hx rfl (hb hby at_46) rfl (tlt hc1).2.2.2 k) ?_
    show own_Go p e below s _ _ _ (T.setTop (mkF m 49 #[.val (.long p0), .second, .val (.long p1), .second, .val (.long p2), .second, .val (.long p3), .second, .val (.long p4), .second, .val (.int p5), .val (.int vb), .val (.int vw), .val (.int (((p5.toUInt32 >>> ((4 : Int32) &&& 31).toUInt32).toInt32) &&& (3 : Int32))), .unset, .unset, .unset, .unset, .unset, .unset, .unset, .unset, .unset, .unset, .unset, .unset] []))
    refine own_via (fun _ k => XS.iload X.here hx rfl (hb hby at_49) rfl k) ?_
    show own_Go p e below s _ _ _ (T.setTop (mkF m 51 #[.val (.long p0), .second, .val (.long p1), .second, .val (.long p2), .second, .val (.long p3), .second, .val (.long p4), .second, .val (.int p5), .val (.int vb), .val (.int vw), .val (.int (((p5.toUInt32 >>> ((4 : Int32) &&& 31).toUInt32).toInt32) &&& (3 : Int32))), .unset, .unset, .unset, .unset, .unset, .unset, .unset, .unset, .unset, .unset, .unset, .unset] [(.int vb)]))
    refine own_via (fun _ k => XS.istore X.here hx rfl (hb hby at_51) rfl (l' := #[.val (.long p0), .second, .val (.long p1), .second, .val (.long p2), .second, .val (.long p3), .second, .val (.long p4), .second, .val (.int p5), .val (.int vb), .val (.int vw), .val (.int vb), .unset, .unset, .unset, .unset, .unset, .unset, .unset, .unset, .unset, .unset, .unset, .unset]) rfl k) ?_
    show own_Go p e below s _ _ _ (T.setTop (mkF m 53 #[.val (.long p0), .second, .val (.long p1), .second, .val (.long p2), .second, .val (.long p3), .second, .val (.long p4), .second, .val (.int p5), .val (.int vb), .val (.int vw), .val (.int vb), .unset, .unset, .unset, .unset, .unset, .unset, .unset, .unset, .unset, .unset, .unset, .unset] []))
    refine pt53 l Z a0 hw p0 p1 p2 p3 p4 p5 w0 w1 w2 n0 K0 Bd hml hZ T h _ X eT N Z0 OL (vb) (vw) (vb) ?_ ?_ ?_
    · exact hb0
    · exact hb1
    · clear hb1
      have ar0 := rng32 vb
      have ar1 := rng32 p5
      have ar2 := rng32 ((p5.toUInt32 >>> ((4 : Int32) &&& 31).toUInt32).toInt32)
      have ar3 := c_mask ((p5.toUInt32 >>> ((4 : Int32) &&& 31).toUInt32).toInt32) (3 : Int32) 2 (by decide) (by decide)
      have ar4 := rng32 (((p5.toUInt32 >>> ((4 : Int32) &&& 31).toUInt32).toInt32) &&& (3 : Int32))
      simp only [Int64.lt_iff_toInt_lt, ← Int64.toInt_inj, Int32.lt_iff_toInt_lt, ← Int32.toInt_inj, (show (3 : Int32).toInt = 3 from rfl), (show (4 : Int32).toInt = 4 from rfl), and_true, true_and, and_false, false_and, or_true, true_or, or_false, false_or] at hc1 ar0 ar1 ar2 ar3 ar4 ⊢ <;> omega
  · refine own_via (fun _ k => XS.icmpYes X.here hx rfl (pc0 := 46) (pc' := 53) rfl (hb hby at_46) rfl (flt hc1).2.2.2 (by decide) (by decide) k) ?_
    show own_Go p e below s _ _ _ (T.setTop (mkF m 53 #[.val (.long p0), .second, .val (.long p1), .second, .val (.long p2), .second, .val (.long p3), .second, .val (.long p4), .second, .val (.int p5), .val (.int vb), .val (.int vw), .val (.int (((p5.toUInt32 >>> ((4 : Int32) &&& 31).toUInt32).toInt32) &&& (3 : Int32))), .unset, .unset, .unset, .unset, .unset, .unset, .unset, .unset, .unset, .unset, .unset, .unset] []))
    refine pt53 l Z a0 hw p0 p1 p2 p3 p4 p5 w0 w1 w2 n0 K0 Bd hml hZ T h _ X eT N Z0 OL (vb) (vw) ((((p5.toUInt32 >>> ((4 : Int32) &&& 31).toUInt32).toInt32) &&& (3 : Int32))) ?_ ?_ ?_
    · exact hb0
    · exact hb1
    · clear hb1
      have ar0 := rng32 vb
      have ar1 := rng32 p5
      have ar2 := rng32 ((p5.toUInt32 >>> ((4 : Int32) &&& 31).toUInt32).toInt32)
      have ar3 := c_mask ((p5.toUInt32 >>> ((4 : Int32) &&& 31).toUInt32).toInt32) (3 : Int32) 2 (by decide) (by decide)
      have ar4 := rng32 (((p5.toUInt32 >>> ((4 : Int32) &&& 31).toUInt32).toInt32) &&& (3 : Int32))
      simp only [Int64.lt_iff_toInt_lt, ← Int64.toInt_inj, Int32.lt_iff_toInt_lt, ← Int32.toInt_inj, (show (3 : Int32).toInt = 3 from rfl), (show (4 : Int32).toInt = 4 from rfl), and_true, true_and, and_false, false_and, or_true, true_or, or_false, false_or] at hc1 ar0 ar1 ar2 ar3 ar4 ⊢ <;> omega
set_option maxRecDepth 65536 in
set_option maxHeartbeats 40000000 in
theorem pt15 (l : Launch) (Z : State) (a0 : Array Value) (hw : ∀ d ∈ tables_1, d.before a0 Z = true) (p0 : Int64) (p1 : Int64) (p2 : Int64) (p3 : Int64) (p4 : Int64) (p5 : Int32) (w0 : Addr) (w1 : Addr) (w2 : Addr) (n0 : Nat) (K : own_K Z Z.heap w0 w1 w2) {p : Program} {e : Env} {s : State} {m : MethodId} {below : List Frame} {meth : Method} {c : Code} {s₁ : State} {S : Spec} (Bd : BodyLoose p l x S code maxLocals ret e s m #[(.long p0), (.long p1), (.long p2), (.long p3), (.long p4), (.int p5)] below meth c s₁) (hml : c.maxLocals = 26) (hZ : Z.Warmed39 s.vm)
    (T : State) (h : Heap) (lc : List Loc) (X : Stand p l e room_1 s m #[(.long p0), (.long p1), (.long p2), (.long p3), (.long p4), (.int p5)] below meth c T lc 0 0) (eT : T.heap = h) (N : Fr n0 lc) (Z0 : n0 ≤ h.size) (OL : Old Z n0 h) (vb : Int32) (hb0 : 0 ≤ vb.toInt ∧ vb.toInt ≤ 2) :
    own_Go p e below s (Q0 n0) 16 128 (T.setTop (mkF m 15 #[.val (.long p0), .second, .val (.long p1), .second, .val (.long p2), .second, .val (.long p3), .second, .val (.long p4), .second, .val (.int p5), .val (.int vb), .unset, .unset, .unset, .unset, .unset, .unset, .unset, .unset, .unset, .unset, .unset, .unset, .unset, .unset] [])) := by
  have hx := Bd.exec
  have hby := Bd.bytes
  have hown : s.vm.findClass "com/example/mailbox/mailbox/server/RequestDeadlineRemainingPinLaw" = some m.cls := findClass_of_methodNamed Bd.named
  have hlk := Bd.notSynchronized
  have K0 := K
  obtain ⟨S_w0, S_w1, S_w2, S_TIMEOUT_NANOS, E_w0, E_w1, E_w2⟩ := K
  show own_Go p e below s _ _ _ (T.setTop (mkF m 15 #[.val (.long p0), .second, .val (.long p1), .second, .val (.long p2), .second, .val (.long p3), .second, .val (.long p4), .second, .val (.int p5), .val (.int vb), .unset, .unset, .unset, .unset, .unset, .unset, .unset, .unset, .unset, .unset, .unset, .unset, .unset, .unset] []))
  refine own_via (fun _ k => XS.iload X.here hx rfl (hb hby at_15) rfl k) ?_
  show own_Go p e below s _ _ _ (T.setTop (mkF m 17 #[.val (.long p0), .second, .val (.long p1), .second, .val (.long p2), .second, .val (.long p3), .second, .val (.long p4), .second, .val (.int p5), .val (.int vb), .unset, .unset, .unset, .unset, .unset, .unset, .unset, .unset, .unset, .unset, .unset, .unset, .unset, .unset] [(.int p5)]))
  refine own_via (fun _ k => XS.iconst X.here hx rfl (hb hby at_17) k) ?_
  show own_Go p e below s _ _ _ (T.setTop (mkF m 18 #[.val (.long p0), .second, .val (.long p1), .second, .val (.long p2), .second, .val (.long p3), .second, .val (.long p4), .second, .val (.int p5), .val (.int vb), .unset, .unset, .unset, .unset, .unset, .unset, .unset, .unset, .unset, .unset, .unset, .unset, .unset, .unset] [(.int (2 : Int32)), (.int p5)]))
  refine own_via (fun _ k => XS.iushr X.here hx rfl (hb hby at_18) rfl k) ?_
  show own_Go p e below s _ _ _ (T.setTop (mkF m 19 #[.val (.long p0), .second, .val (.long p1), .second, .val (.long p2), .second, .val (.long p3), .second, .val (.long p4), .second, .val (.int p5), .val (.int vb), .unset, .unset, .unset, .unset, .unset, .unset, .unset, .unset, .unset, .unset, .unset, .unset, .unset, .unset] [(.int ((p5.toUInt32 >>> ((2 : Int32) &&& 31).toUInt32).toInt32))]))
  refine own_via (fun _ k => XS.iconst X.here hx rfl (hb hby at_19) k) ?_
  show own_Go p e below s _ _ _ (T.setTop (mkF m 20 #[.val (.long p0), .second, .val (.long p1), .second, .val (.long p2), .second, .val (.long p3), .second, .val (.long p4), .second, .val (.int p5), .val (.int vb), .unset, .unset, .unset, .unset, .unset, .unset, .unset, .unset, .unset, .unset, .unset, .unset, .unset, .unset] [(.int (3 : Int32)), (.int ((p5.toUInt32 >>> ((2 : Int32) &&& 31).toUInt32).toInt32))]))
  refine own_via (fun _ k => XS.iand X.here hx rfl (hb hby at_20) rfl k) ?_
  show own_Go p e below s _ _ _ (T.setTop (mkF m 21 #[.val (.long p0), .second, .val (.long p1), .second, .val (.long p2), .second, .val (.long p3), .second, .val (.long p4), .second, .val (.int p5), .val (.int vb), .unset, .unset, .unset, .unset, .unset, .unset, .unset, .unset, .unset, .unset, .unset, .unset, .unset, .unset] [(.int (((p5.toUInt32 >>> ((2 : Int32) &&& 31).toUInt32).toInt32) &&& (3 : Int32)))]))
  refine own_via (fun _ k => XS.istore X.here hx rfl (hb hby at_21) rfl (l' := #[.val (.long p0), .second, .val (.long p1), .second, .val (.long p2), .second, .val (.long p3), .second, .val (.long p4), .second, .val (.int p5), .val (.int vb), .val (.int (((p5.toUInt32 >>> ((2 : Int32) &&& 31).toUInt32).toInt32) &&& (3 : Int32))), .unset, .unset, .unset, .unset, .unset, .unset, .unset, .unset, .unset, .unset, .unset, .unset, .unset]) rfl k) ?_
  show own_Go p e below s _ _ _ (T.setTop (mkF m 23 #[.val (.long p0), .second, .val (.long p1), .second, .val (.long p2), .second, .val (.long p3), .second, .val (.long p4), .second, .val (.int p5), .val (.int vb), .val (.int (((p5.toUInt32 >>> ((2 : Int32) &&& 31).toUInt32).toInt32) &&& (3 : Int32))), .unset, .unset, .unset, .unset, .unset, .unset, .unset, .unset, .unset, .unset, .unset, .unset, .unset] []))
  refine own_via (fun _ k => XS.iload X.here hx rfl (hb hby at_23) rfl k) ?_
  show own_Go p e below s _ _ _ (T.setTop (mkF m 25 #[.val (.long p0), .second, .val (.long p1), .second, .val (.long p2), .second, .val (.long p3), .second, .val (.long p4), .second, .val (.int p5), .val (.int vb), .val (.int (((p5.toUInt32 >>> ((2 : Int32) &&& 31).toUInt32).toInt32) &&& (3 : Int32))), .unset, .unset, .unset, .unset, .unset, .unset, .unset, .unset, .unset, .unset, .unset, .unset, .unset] [(.int (((p5.toUInt32 >>> ((2 : Int32) &&& 31).toUInt32).toInt32) &&& (3 : Int32)))]))
  refine own_via (fun _ k => XS.iload X.here hx rfl (hb hby at_25) rfl k) ?_
  show own_Go p e below s _ _ _ (T.setTop (mkF m 27 #[.val (.long p0), .second, .val (.long p1), .second, .val (.long p2), .second, .val (.long p3), .second, .val (.long p4), .second, .val (.int p5), .val (.int vb), .val (.int (((p5.toUInt32 >>> ((2 : Int32) &&& 31).toUInt32).toInt32) &&& (3 : Int32))), .unset, .unset, .unset, .unset, .unset, .unset, .unset, .unset, .unset, .unset, .unset, .unset, .unset] [(.int vb), (.int (((p5.toUInt32 >>> ((2 : Int32) &&& 31).toUInt32).toInt32) &&& (3 : Int32)))]))
  by_cases hc1 : vb < (((p5.toUInt32 >>> ((2 : Int32) &&& 31).toUInt32).toInt32) &&& (3 : Int32))
  · refine own_via (fun _ k => XS.icmpNo X.here hx rfl (hb hby at_27) rfl (tlt hc1).2.2.2 k) ?_
    show own_Go p e below s _ _ _ (T.setTop (mkF m 30 #[.val (.long p0), .second, .val (.long p1), .second, .val (.long p2), .second, .val (.long p3), .second, .val (.long p4), .second, .val (.int p5), .val (.int vb), .val (.int (((p5.toUInt32 >>> ((2 : Int32) &&& 31).toUInt32).toInt32) &&& (3 : Int32))), .unset, .unset, .unset, .unset, .unset, .unset, .unset, .unset, .unset, .unset, .unset, .unset, .unset] []))
    refine own_via (fun _ k => XS.iload X.here hx rfl (hb hby at_30) rfl k) ?_
    show own_Go p e below s _ _ _ (T.setTop (mkF m 32 #[.val (.long p0), .second, .val (.long p1), .second, .val (.long p2), .second, .val (.long p3), .second, .val (.long p4), .second, .val (.int p5), .val (.int vb), .val (.int (((p5.toUInt32 >>> ((2 : Int32) &&& 31).toUInt32).toInt32) &&& (3 : Int32))), .unset, .unset, .unset, .unset, .unset, .unset, .unset, .unset, .unset, .unset, .unset, .unset, .unset] [(.int vb)]))
    refine own_via (fun _ k => XS.istore X.here hx rfl (hb hby at_32) rfl (l' := #[.val (.long p0), .second, .val (.long p1), .second, .val (.long p2), .second, .val (.long p3), .second, .val (.long p4), .second, .val (.int p5), .val (.int vb), .val (.int vb), .unset, .unset, .unset, .unset, .unset, .unset, .unset, .unset, .unset, .unset, .unset, .unset, .unset]) rfl k) ?_
    show own_Go p e below s _ _ _ (T.setTop (mkF m 34 #[.val (.long p0), .second, .val (.long p1), .second, .val (.long p2), .second, .val (.long p3), .second, .val (.long p4), .second, .val (.int p5), .val (.int vb), .val (.int vb), .unset, .unset, .unset, .unset, .unset, .unset, .unset, .unset, .unset, .unset, .unset, .unset, .unset] []))
    refine pt34 l Z a0 hw p0 p1 p2 p3 p4 p5 w0 w1 w2 n0 K0 Bd hml hZ T h _ X eT N Z0 OL (vb) (vb) ?_ ?_
    · exact hb0
    · have ar0 := rng32 vb
      have ar1 := rng32 p5
      have ar2 := rng32 ((p5.toUInt32 >>> ((2 : Int32) &&& 31).toUInt32).toInt32)
      have ar3 := c_mask ((p5.toUInt32 >>> ((2 : Int32) &&& 31).toUInt32).toInt32) (3 : Int32) 2 (by decide) (by decide)
      have ar4 := rng32 (((p5.toUInt32 >>> ((2 : Int32) &&& 31).toUInt32).toInt32) &&& (3 : Int32))
      simp only [Int64.lt_iff_toInt_lt, ← Int64.toInt_inj, Int32.lt_iff_toInt_lt, ← Int32.toInt_inj, (show (2 : Int32).toInt = 2 from rfl), (show (3 : Int32).toInt = 3 from rfl), and_true, true_and, and_false, false_and, or_true, true_or, or_false, false_or] at hc1 ar0 ar1 ar2 ar3 ar4 ⊢ <;> omega
  · refine own_via (fun _ k => XS.icmpYes X.here hx rfl (pc0 := 27) (pc' := 34) rfl (hb hby at_27) rfl (flt hc1).2.2.2 (by decide) (by decide) k) ?_
    show own_Go p e below s _ _ _ (T.setTop (mkF m 34 #[.val (.long p0), .second, .val (.long p1), .second, .val (.long p2), .second, .val (.long p3), .second, .val (.long p4), .second, .val (.int p5), .val (.int vb), .val (.int (((p5.toUInt32 >>> ((2 : Int32) &&& 31).toUInt32).toInt32) &&& (3 : Int32))), .unset, .unset, .unset, .unset, .unset, .unset, .unset, .unset, .unset, .unset, .unset, .unset, .unset] []))
    refine pt34 l Z a0 hw p0 p1 p2 p3 p4 p5 w0 w1 w2 n0 K0 Bd hml hZ T h _ X eT N Z0 OL (vb) ((((p5.toUInt32 >>> ((2 : Int32) &&& 31).toUInt32).toInt32) &&& (3 : Int32))) ?_ ?_
    · exact hb0
    · have ar0 := rng32 vb
      have ar1 := rng32 p5
      have ar2 := rng32 ((p5.toUInt32 >>> ((2 : Int32) &&& 31).toUInt32).toInt32)
      have ar3 := c_mask ((p5.toUInt32 >>> ((2 : Int32) &&& 31).toUInt32).toInt32) (3 : Int32) 2 (by decide) (by decide)
      have ar4 := rng32 (((p5.toUInt32 >>> ((2 : Int32) &&& 31).toUInt32).toInt32) &&& (3 : Int32))
      simp only [Int64.lt_iff_toInt_lt, ← Int64.toInt_inj, Int32.lt_iff_toInt_lt, ← Int32.toInt_inj, (show (2 : Int32).toInt = 2 from rfl), (show (3 : Int32).toInt = 3 from rfl), and_true, true_and, and_false, false_and, or_true, true_or, or_false, false_or] at hc1 ar0 ar1 ar2 ar3 ar4 ⊢ <;> omega
set_option maxRecDepth 65536 in
set_option maxHeartbeats 40000000 in
theorem rm0 (l : Launch) (Z : State) (a0 : Array Value) (hw : ∀ d ∈ tables_1, d.before a0 Z = true) (ws : List Jvm.Cond) (p0 : Int64) (p1 : Int64) (p2 : Int64) (p3 : Int64) (p4 : Int64) (p5 : Int32) (w0 : Addr) (w1 : Addr) (w2 : Addr) (h0 : Heap) (n0 : Nat) (Z0 : n0 ≤ h0.size) (K : own_K Z Z.heap w0 w1 w2) (OL : Old Z n0 h0) :
    MetFree l x (head1 (Jvm.Cond.code x code maxLocals ret :: ws) room_1) (fun a U => a = #[(.long p0), (.long p1), (.long p2), (.long p3), (.long p4), (.int p5)] ∧ Z.Warmed39 U.vm ∧ U.heap = h0) (fun _ _ _ _ _ => True) (fun _ U o U' => ∃ v L, o = .returned v ∧ Q0 n0 v U'.heap L ∧ FrameEnd U o U' L 16 128) := by
  refine MetFree.of_bodySF (plainFor_of_name pn1) hisR ?_
  intro p e s m args below meth c s₁ Bd hml0 hP hK
  obtain ⟨rfl, hZ, hh⟩ := hP
  have hx := Bd.exec
  have hby := Bd.bytes
  have hml : c.maxLocals = 26 := hml0
  have hown : s.vm.findClass "com/example/mailbox/mailbox/server/RequestDeadlineRemainingPinLaw" = some m.cls := findClass_of_methodNamed Bd.named
  have hnm := (name_of_methodNamed Bd.named Bd.method).1
  have hlk := Bd.notSynchronized
  have X0 : Stand p l e room_1 s m #[(.long p0), (.long p1), (.long p2), (.long p3), (.long p4), (.int p5)] below meth c s₁ [] 0 0 := Stand.of_body Bd
  have e0 : s₁.heap = h0 := by rw [← hh, Bd.state]; rfl
  have K0 := K
  obtain ⟨S_w0, S_w1, S_w2, S_TIMEOUT_NANOS, E_w0, E_w1, E_w2⟩ := K
  show own_Go p e below s (Q0 n0) 16 128 (s₁.setTop (entryFrame m #[(.long p0), (.long p1), (.long p2), (.long p3), (.long p4), (.int p5)] maxLocals))
  rw [show entryFrame m #[(.long p0), (.long p1), (.long p2), (.long p3), (.long p4), (.int p5)] maxLocals = mkF m 0 #[.val (.long p0), .second, .val (.long p1), .second, .val (.long p2), .second, .val (.long p3), .second, .val (.long p4), .second, .val (.int p5), .unset, .unset, .unset, .unset, .unset, .unset, .unset, .unset, .unset, .unset, .unset, .unset, .unset, .unset, .unset] [] from by first | (simp [entryFrame, mkF, argsToLocals, Value.category, maxLocals]; done) | rfl]
  show own_Go p e below s _ _ _ (s₁.setTop (mkF m 0 #[.val (.long p0), .second, .val (.long p1), .second, .val (.long p2), .second, .val (.long p3), .second, .val (.long p4), .second, .val (.int p5), .unset, .unset, .unset, .unset, .unset, .unset, .unset, .unset, .unset, .unset, .unset, .unset, .unset, .unset, .unset] []))
  refine own_via (fun _ k => XS.iload X0.here hx rfl (hb hby at_0) rfl k) ?_
  show own_Go p e below s _ _ _ (s₁.setTop (mkF m 2 #[.val (.long p0), .second, .val (.long p1), .second, .val (.long p2), .second, .val (.long p3), .second, .val (.long p4), .second, .val (.int p5), .unset, .unset, .unset, .unset, .unset, .unset, .unset, .unset, .unset, .unset, .unset, .unset, .unset, .unset, .unset] [(.int p5)]))
  refine own_via (fun _ k => XS.iconst X0.here hx rfl (hb hby at_2) k) ?_
  show own_Go p e below s _ _ _ (s₁.setTop (mkF m 3 #[.val (.long p0), .second, .val (.long p1), .second, .val (.long p2), .second, .val (.long p3), .second, .val (.long p4), .second, .val (.int p5), .unset, .unset, .unset, .unset, .unset, .unset, .unset, .unset, .unset, .unset, .unset, .unset, .unset, .unset, .unset] [(.int (3 : Int32)), (.int p5)]))
  refine own_via (fun _ k => XS.iand X0.here hx rfl (hb hby at_3) rfl k) ?_
  show own_Go p e below s _ _ _ (s₁.setTop (mkF m 4 #[.val (.long p0), .second, .val (.long p1), .second, .val (.long p2), .second, .val (.long p3), .second, .val (.long p4), .second, .val (.int p5), .unset, .unset, .unset, .unset, .unset, .unset, .unset, .unset, .unset, .unset, .unset, .unset, .unset, .unset, .unset] [(.int (p5 &&& (3 : Int32)))]))
  refine own_via (fun _ k => XS.istore X0.here hx rfl (hb hby at_4) rfl (l' := #[.val (.long p0), .second, .val (.long p1), .second, .val (.long p2), .second, .val (.long p3), .second, .val (.long p4), .second, .val (.int p5), .val (.int (p5 &&& (3 : Int32))), .unset, .unset, .unset, .unset, .unset, .unset, .unset, .unset, .unset, .unset, .unset, .unset, .unset, .unset]) rfl k) ?_
  show own_Go p e below s _ _ _ (s₁.setTop (mkF m 6 #[.val (.long p0), .second, .val (.long p1), .second, .val (.long p2), .second, .val (.long p3), .second, .val (.long p4), .second, .val (.int p5), .val (.int (p5 &&& (3 : Int32))), .unset, .unset, .unset, .unset, .unset, .unset, .unset, .unset, .unset, .unset, .unset, .unset, .unset, .unset] []))
  refine own_via (fun _ k => XS.iload X0.here hx rfl (hb hby at_6) rfl k) ?_
  show own_Go p e below s _ _ _ (s₁.setTop (mkF m 8 #[.val (.long p0), .second, .val (.long p1), .second, .val (.long p2), .second, .val (.long p3), .second, .val (.long p4), .second, .val (.int p5), .val (.int (p5 &&& (3 : Int32))), .unset, .unset, .unset, .unset, .unset, .unset, .unset, .unset, .unset, .unset, .unset, .unset, .unset, .unset] [(.int (p5 &&& (3 : Int32)))]))
  refine own_via (fun _ k => XS.iconst X0.here hx rfl (hb hby at_8) k) ?_
  show own_Go p e below s _ _ _ (s₁.setTop (mkF m 9 #[.val (.long p0), .second, .val (.long p1), .second, .val (.long p2), .second, .val (.long p3), .second, .val (.long p4), .second, .val (.int p5), .val (.int (p5 &&& (3 : Int32))), .unset, .unset, .unset, .unset, .unset, .unset, .unset, .unset, .unset, .unset, .unset, .unset, .unset, .unset] [(.int (3 : Int32)), (.int (p5 &&& (3 : Int32)))]))
  by_cases hc1 : (p5 &&& (3 : Int32)) = (3 : Int32)
  · refine own_via (fun _ k => XS.icmpNo X0.here hx rfl (hb hby at_9) rfl (teq hc1).2 k) ?_
    show own_Go p e below s _ _ _ (s₁.setTop (mkF m 12 #[.val (.long p0), .second, .val (.long p1), .second, .val (.long p2), .second, .val (.long p3), .second, .val (.long p4), .second, .val (.int p5), .val (.int (p5 &&& (3 : Int32))), .unset, .unset, .unset, .unset, .unset, .unset, .unset, .unset, .unset, .unset, .unset, .unset, .unset, .unset] []))
    refine own_via (fun _ k => XS.iconst X0.here hx rfl (hb hby at_12) k) ?_
    show own_Go p e below s _ _ _ (s₁.setTop (mkF m 13 #[.val (.long p0), .second, .val (.long p1), .second, .val (.long p2), .second, .val (.long p3), .second, .val (.long p4), .second, .val (.int p5), .val (.int (p5 &&& (3 : Int32))), .unset, .unset, .unset, .unset, .unset, .unset, .unset, .unset, .unset, .unset, .unset, .unset, .unset, .unset] [(.int (2 : Int32))]))
    refine own_via (fun _ k => XS.istore X0.here hx rfl (hb hby at_13) rfl (l' := #[.val (.long p0), .second, .val (.long p1), .second, .val (.long p2), .second, .val (.long p3), .second, .val (.long p4), .second, .val (.int p5), .val (.int (2 : Int32)), .unset, .unset, .unset, .unset, .unset, .unset, .unset, .unset, .unset, .unset, .unset, .unset, .unset, .unset]) rfl k) ?_
    show own_Go p e below s _ _ _ (s₁.setTop (mkF m 15 #[.val (.long p0), .second, .val (.long p1), .second, .val (.long p2), .second, .val (.long p3), .second, .val (.long p4), .second, .val (.int p5), .val (.int (2 : Int32)), .unset, .unset, .unset, .unset, .unset, .unset, .unset, .unset, .unset, .unset, .unset, .unset, .unset, .unset] []))
    refine pt15 l Z a0 hw p0 p1 p2 p3 p4 p5 w0 w1 w2 n0 K0 Bd hml hZ s₁ h0 _ X0 e0 (Fr.nil n0) Z0 OL ((2 : Int32)) ?_
    · have ar0 := rng32 p5
      have ar1 := c_mask p5 (3 : Int32) 2 (by decide) (by decide)
      have ar2 := rng32 (p5 &&& (3 : Int32))
      simp only [Int64.lt_iff_toInt_lt, ← Int64.toInt_inj, Int32.lt_iff_toInt_lt, ← Int32.toInt_inj, (show (2 : Int32).toInt = 2 from rfl), (show (3 : Int32).toInt = 3 from rfl), and_true, true_and, and_false, false_and, or_true, true_or, or_false, false_or] at hc1 ar0 ar1 ar2 ⊢ <;> omega
  · refine own_via (fun _ k => XS.icmpYes X0.here hx rfl (pc0 := 9) (pc' := 15) rfl (hb hby at_9) rfl (feq hc1).2 (by decide) (by decide) k) ?_
    show own_Go p e below s _ _ _ (s₁.setTop (mkF m 15 #[.val (.long p0), .second, .val (.long p1), .second, .val (.long p2), .second, .val (.long p3), .second, .val (.long p4), .second, .val (.int p5), .val (.int (p5 &&& (3 : Int32))), .unset, .unset, .unset, .unset, .unset, .unset, .unset, .unset, .unset, .unset, .unset, .unset, .unset, .unset] []))
    refine pt15 l Z a0 hw p0 p1 p2 p3 p4 p5 w0 w1 w2 n0 K0 Bd hml hZ s₁ h0 _ X0 e0 (Fr.nil n0) Z0 OL ((p5 &&& (3 : Int32))) ?_
    · have ar0 := rng32 p5
      have ar1 := c_mask p5 (3 : Int32) 2 (by decide) (by decide)
      have ar2 := rng32 (p5 &&& (3 : Int32))
      simp only [Int64.lt_iff_toInt_lt, ← Int64.toInt_inj, Int32.lt_iff_toInt_lt, ← Int32.toInt_inj, (show (3 : Int32).toInt = 3 from rfl), and_true, true_and, and_false, false_and, or_true, true_or, or_false, false_or] at hc1 ar0 ar1 ar2 ⊢ <;> omega
set_option maxRecDepth 65536 in
set_option maxHeartbeats 40000000 in
theorem comes_1 {Post : Tables → Env → Array Value → State → Outcome → State → Prop} (hpost : ∀ tb e args s v u, (limb_1_1.after args s (.returned v) u = true ∧ limb_1_2.after args s (.returned v) u = true ∧ True) → FrameEnd s (.returned v) u (Jvm.fieldLocs frame_1_writes args s ++ Jvm.arrayLocs frame_1_arrays args s ++ Jvm.staticLocs frame_1_statics s) 16 128 → Post tb e args s (.returned v) u) :
    ArmFor flags0 classFile x code maxLocals ret World_1 tables_1 room_1 Calls_1 rest_1 Pre_1 Post := by
  intro l hfl _ _ p e ha hc hk s m args below hf hA hF happ hP
  obtain ⟨hcalls, hrest, hpre⟩ := hP
  obtain ⟨-, -, -, hnamed, -, -, -, hat⟩ := (Spec.applies_iff hf).mp happ
  obtain ⟨hg, hn⟩ := and_e (Cond.before_iff.mp (show (Jvm.Cond.and given_1 narrow_1).before args s = true from hpre))
  obtain ⟨g0, hg0⟩ := and_e hg
  obtain ⟨g1, hg1⟩ := and_e hg0
  obtain ⟨g2, hg2⟩ := and_e hg1
  obtain ⟨g3, hg3⟩ := and_e hg2
  obtain ⟨g4, hg4⟩ := and_e hg3
  obtain ⟨g5, hg5⟩ := and_e hg4
  obtain ⟨u0, u1, u2, u3, u4, u5, rfl⟩ : ∃ u0 u1 u2 u3 u4 u5 : Value, args = #[u0, u1, u2, u3, u4, u5] := by
    have hs : args.size = 6 := by simpa [Cond.value, given_1] using g0
    obtain ⟨L⟩ := args
    match L, hs with
    | [u0, u1, u2, u3, u4, u5], _ => exact ⟨u0, u1, u2, u3, u4, u5, rfl⟩
  have hw := fun d (hd : d ∈ tables_1) => atoms_spec (ws := Jvm.Cond.code x code maxLocals ret :: tables_1) hat d (List.mem_cons_of_mem _ hd)
  obtain ⟨i0, ei0⟩ := isL_v g1
  obtain rfl : u0 = (.long i0) := Option.some.inj ei0
  obtain ⟨i1, ei1⟩ := isL_v g2
  obtain rfl : u1 = (.long i1) := Option.some.inj ei1
  obtain ⟨i2, ei2⟩ := isL_v g3
  obtain rfl : u2 = (.long i2) := Option.some.inj ei2
  obtain ⟨i3, ei3⟩ := isL_v g4
  obtain rfl : u3 = (.long i3) := Option.some.inj ei3
  obtain ⟨i4, ei4⟩ := isL_v g5
  obtain rfl : u4 = (.long i4) := Option.some.inj ei4
  obtain ⟨i5, ei5⟩ := is_v hg5
  obtain rfl : u5 = (.int i5) := Option.some.inj ei5
  obtain ⟨t0, hn0⟩ := and_e hn
  obtain ⟨t1, hn1⟩ := and_e hn0
  obtain ⟨t2, hn2⟩ := and_e hn1
  obtain ⟨w0, v_w0⟩ := exa_v t1
  have E_w0 := Exa.start v_w0 t1
  have S_w0 := Sta.start v_w0 (Or.inr ⟨(hw _ (List.mem_of_getElem? (i := 56) rfl)), (hw _ (List.mem_of_getElem? (i := 57) rfl))⟩)
  obtain ⟨w1, v_w1⟩ := exa_v t2
  have E_w1 := Exa.start v_w1 t2
  have S_w1 := Sta.start v_w1 (Or.inr ⟨(hw _ (List.mem_of_getElem? (i := 56) rfl)), (hw _ (List.mem_of_getElem? (i := 64) rfl))⟩)
  obtain ⟨w2, v_w2⟩ := exa_v hn2
  have E_w2 := Exa.start v_w2 hn2
  have S_w2 := Sta.start v_w2 (Or.inr ⟨(hw _ (List.mem_of_getElem? (i := 56) rfl)), (hw _ (List.mem_of_getElem? (i := 66) rfl))⟩)
  have v_TIMEOUT_NANOS := own_eqvL t0
  have S_TIMEOUT_NANOS := Sta.start v_TIMEOUT_NANOS (Or.inr ⟨(hw _ (List.mem_of_getElem? (i := 2) rfl)), (hw _ (List.mem_of_getElem? (i := 30) rfl))⟩)
  obtain ⟨n, o, h1, h2, h3, _, L, rfl, ⟨rfl, N⟩, hq⟩ := rm0 l s _ hw tables_1 i0 i1 i2 i3 i4 i5 w0 w1 w2 s.heap s.heap.size (Nat.le_refl _) ⟨S_w0, S_w1, S_w2, S_TIMEOUT_NANOS, E_w0, E_w1, E_w2⟩ (Old.start s) p e ha hc hk s m _ below hf ((Spec.applies_iff_loose hf).mp happ).1 ⟨rfl, State.Warmed39.refl s, rfl⟩ trivial
  refine ⟨n, _, h1, h2, h3, hpost _ _ _ _ _ _ ⟨Cond.after_iff.mpr rfl, Cond.after_iff.mpr (eq_i res_at (Term.int_eval (1)) rfl), trivial⟩ ⟨hq.1, hq.2.1, (hq.2.2.sift fun y hy => Or.inr (N y hy)).mono (by decide) (by decide)⟩⟩
theorem main_1_1 : Claimed_1_1 := comes_1 fun _ _ _ _ _ _ h hF => ⟨h.1, hF⟩
theorem main_1_2 : Claimed_1_2 := comes_1 fun _ _ _ _ _ _ h hF => ⟨h.2.1, hF⟩
end Jvm.Pilot.@@N@@
namespace Jvm.Pilot.@@N@@
open Jvm Jvm.ClassFile Sem Op Lib Jvm.Free Jvm.Stand Jvm.Pilot.@@N@@.Jvm.D
/-! MADE BY PROGRAM (witnessworld.py) out of the Statement's table words and the real class files: 13 classes; the members and pool entries that the words name. The judged class is class 1, her method 1. -/
namespace start1
open Jvm.ClassFile
def u (s : String) : CpInfo := .utf8 (stringToUtf16 s)
/-- a pool by its gaps: so many unusable entries, then the entry; so many at the end -/
def gap : Nat → List CpInfo → List CpInfo
  | 0, r => r
  | n + 1, r => .unusable :: gap n r
def poolList (es : List (Nat × CpInfo)) (last : Nat) : List CpInfo := es.foldr (fun e r => gap e.1 (e.2 :: r)) (gap last [])
def pool (es : List (Nat × CpInfo)) (last : Nat) : Array CpInfo := ⟨poolList es last⟩
def fileOf (pool : Array CpInfo) (this : Nat) (attrs : Array Attribute := #[]) (ms : Array MethodInfo := #[]) (fl : Nat := 33) (sup : Nat := 0) (ifs : Array Nat := #[]) (fds : Array FieldInfo := #[]) : ClassFile where
  minorVersion := 0
  majorVersion := 65
  constantPool := pool
  accessFlags := fl
  thisClass := this
  superClass := sup
  interfaces := ifs
  fields := fds
  methods := ms
  attributes := attrs
def plain (name : String) (sup : Option ClassId) : Class where
  name := name
  kind := .ordinary
  loader := none
  accessFlags := 33
  super := sup
  interfaces := #[]
  cf := none
  fields := #[]
  methods := #[]
  instanceTypes := #[]
  staticTypes := #[]
  resolved := #[]
  callSites := []
  init := .initialized
  statics := none
  mirror := none

def pool0 : Array CpInfo := pool [(5, u "<init>"), (0, u "()V"), (1, .class_ 10), (1, u "java/lang/Object")] 113

def k0c0 : Code := { maxStack := 0, maxLocals := 1, code := object_method_1_code, exceptionTable := #[], attributes := #[] }
def k0m0 : Method := { name := "<init>", desc := "()V", sig := { parameters := [], returnType := none }, accessFlags := 1, code := some k0c0 }
/-- java/lang/Object -/
def k0 : Class := { plain "java/lang/Object" none with
  accessFlags := 33
  interfaces := #[]
  cf := some (fileOf pool0 8 #[] #[{ accessFlags := 1, nameIndex := 5, descriptorIndex := 6, attributes := #[] }] 33 0 #[] #[])
  fields := #[]
  methods := #[k0m0]
  instanceTypes := #[]
  staticTypes := #[]
  resolved := Array.replicate 124 none
  statics := none }

def pool1 : Array CpInfo := pool [(2, .class_ 4), (1, u "java/lang/Object"), (0, u "<init>"), (0, u "()V"), (0, .class_ 8), (0, u "com/example/mailbox/mailbox/server/RequestDeadline"), (0, .methodref 7 10), (0, .nameAndType 5 11), (0, u "(J)V"), (0, .methodref 7 13), (0, .nameAndType 14 11), (0, u "arrived"), (0, .methodref 7 16), (0, .nameAndType 17 6), (0, u "begun"), (0, .methodref 7 19), (0, .nameAndType 20 6), (0, u "whole"), (0, .methodref 7 22), (0, .nameAndType 23 11), (0, u "answered"), (0, .methodref 7 25), (0, .nameAndType 26 27), (0, u "expire"), (0, u "(J)Lcom/example/mailbox/mailbox/server/RequestDeadline$Expiry;"), (0, .methodref 7 29), (0, .nameAndType 30 31), (0, u "remaining"), (0, u "(J)J"), (0, .long 10000000000), (3, .long 9223372036854775807), (1, .class_ 39), (0, u "com/example/mailbox/mailbox/server/RequestDeadlineRemainingPinLaw"), (2, u "law"), (0, u "(JJJJJI)Z")] 7

def k1m0 : Method := { name := "<init>", desc := "()V", sig := { parameters := [], returnType := none }, accessFlags := 1, code := none }
def k1c1 : Code := { maxStack := 6, maxLocals := 26, code := code, exceptionTable := #[], attributes := #[] }
def k1m1 : Method := { name := "law", desc := "(JJJJJI)Z", sig := { parameters := [.long, .long, .long, .long, .long, .int], returnType := some .boolean }, accessFlags := 9, code := some k1c1 }
/-- com/example/mailbox/mailbox/server/RequestDeadlineRemainingPinLaw -/
def k1 : Class := { plain "com/example/mailbox/mailbox/server/RequestDeadlineRemainingPinLaw" (some 0) with
  accessFlags := 49
  interfaces := #[]
  cf := some (fileOf pool1 38 #[] #[{ accessFlags := 1, nameIndex := 5, descriptorIndex := 6, attributes := #[] }, { accessFlags := 9, nameIndex := 42, descriptorIndex := 43, attributes := #[] }] 49 2 #[] #[])
  fields := #[]
  methods := #[k1m0, k1m1]
  instanceTypes := #[]
  staticTypes := #[]
  resolved := Array.replicate 51 none
  statics := none }

def pool2 : Array CpInfo := pool [(3, .methodref 4 5), (0, .class_ 6), (0, .nameAndType 7 8), (0, u "java/lang/Object"), (0, u "<init>"), (0, u "()V"), (0, .fieldref 10 11), (0, .class_ 12), (0, .nameAndType 13 14), (0, u "com/example/mailbox/mailbox/server/RequestDeadline"), (0, u "answeredAt"), (0, u "J"), (0, .fieldref 10 16), (0, .nameAndType 17 14), (0, u "arrivedAt"), (0, .fieldref 10 19), (0, .nameAndType 20 21), (0, u "arrivedSinceAnswer"), (0, u "Z"), (0, .fieldref 10 23), (0, .nameAndType 24 14), (0, u "begun"), (0, .fieldref 10 26), (0, .nameAndType 27 14), (0, u "whole"), (0, .fieldref 10 29), (0, .nameAndType 30 14), (0, u "answered"), (0, .fieldref 10 32), (0, .nameAndType 33 21), (0, u "expired"), (0, .fieldref 10 35), (0, .nameAndType 36 14), (0, u "TIMEOUT_NANOS"), (0, .fieldref 10 38), (0, .nameAndType 39 14), (0, u "expiredAt"), (0, .long 9223372036854775807), (1, .fieldref 43 44), (0, .class_ 45), (0, .nameAndType 46 47), (0, u "com/example/mailbox/mailbox/server/RequestDeadline$Expiry"), (0, u "CLOSE"), (0, u "Lcom/example/mailbox/mailbox/server/RequestDeadline$Expiry;"), (0, .fieldref 43 49), (0, .nameAndType 50 47), (0, u "BODY_STOPPED"), (0, .fieldref 43 52), (0, .nameAndType 53 47), (0, u "HEAD_NOT_WHOLE"), (11, u "(J)J"), (0, u "TIMEOUT_SECONDS"), (1, u "NO_DEADLINE"), (0, u "(J)V"), (2, u "arrived"), (0, u "remaining"), (1, u "expire"), (0, u "(J)Lcom/example/mailbox/mailbox/server/RequestDeadline$Expiry;")] 6

def k2c0 : Code := { maxStack := 3, maxLocals := 3, code := prog_124_method_1_code, exceptionTable := #[], attributes := #[] }
def k2m0 : Method := { name := "<init>", desc := "(J)V", sig := { parameters := [.long], returnType := none }, accessFlags := 0, code := some k2c0 }
def k2c1 : Code := { maxStack := 3, maxLocals := 3, code := prog_124_method_2_code, exceptionTable := #[], attributes := #[] }
def k2m1 : Method := { name := "arrived", desc := "(J)V", sig := { parameters := [.long], returnType := none }, accessFlags := 0, code := some k2c1 }
def k2c2 : Code := { maxStack := 5, maxLocals := 1, code := prog_124_method_3_code, exceptionTable := #[], attributes := #[] }
def k2m2 : Method := { name := "begun", desc := "()V", sig := { parameters := [], returnType := none }, accessFlags := 0, code := some k2c2 }
def k2c3 : Code := { maxStack := 5, maxLocals := 1, code := prog_124_method_4_code, exceptionTable := #[], attributes := #[] }
def k2m3 : Method := { name := "whole", desc := "()V", sig := { parameters := [], returnType := none }, accessFlags := 0, code := some k2c3 }
def k2c4 : Code := { maxStack := 5, maxLocals := 3, code := prog_124_method_5_code, exceptionTable := #[], attributes := #[] }
def k2m4 : Method := { name := "answered", desc := "(J)V", sig := { parameters := [.long], returnType := none }, accessFlags := 0, code := some k2c4 }
def k2c5 : Code := { maxStack := 6, maxLocals := 3, code := prog_124_method_6_code, exceptionTable := #[], attributes := #[] }
def k2m5 : Method := { name := "remaining", desc := "(J)J", sig := { parameters := [.long], returnType := some .long }, accessFlags := 0, code := some k2c5 }
def k2c6 : Code := { maxStack := 4, maxLocals := 4, code := prog_124_method_7_code, exceptionTable := #[], attributes := #[] }
def k2m6 : Method := { name := "expire", desc := "(J)Lcom/example/mailbox/mailbox/server/RequestDeadline$Expiry;", sig := { parameters := [.long], returnType := some (.object "com/example/mailbox/mailbox/server/RequestDeadline$Expiry") }, accessFlags := 0, code := some k2c6 }
/-- com/example/mailbox/mailbox/server/RequestDeadline -/
def k2 : Class := { plain "com/example/mailbox/mailbox/server/RequestDeadline" (some 0) with
  accessFlags := 32
  interfaces := #[]
  cf := some (fileOf pool2 10 #[.nestMembers #[43]] #[{ accessFlags := 0, nameIndex := 7, descriptorIndex := 69, attributes := #[] }, { accessFlags := 0, nameIndex := 72, descriptorIndex := 69, attributes := #[] }, { accessFlags := 0, nameIndex := 24, descriptorIndex := 8, attributes := #[] }, { accessFlags := 0, nameIndex := 27, descriptorIndex := 8, attributes := #[] }, { accessFlags := 0, nameIndex := 30, descriptorIndex := 69, attributes := #[] }, { accessFlags := 0, nameIndex := 73, descriptorIndex := 65, attributes := #[] }, { accessFlags := 0, nameIndex := 75, descriptorIndex := 76, attributes := #[] }] 32 4 #[] #[{ accessFlags := 24, nameIndex := 66, descriptorIndex := 14, attributes := #[] }, { accessFlags := 24, nameIndex := 68, descriptorIndex := 14, attributes := #[] }, { accessFlags := 26, nameIndex := 36, descriptorIndex := 14, attributes := #[] }, { accessFlags := 2, nameIndex := 24, descriptorIndex := 14, attributes := #[] }, { accessFlags := 2, nameIndex := 27, descriptorIndex := 14, attributes := #[] }, { accessFlags := 2, nameIndex := 30, descriptorIndex := 14, attributes := #[] }, { accessFlags := 2, nameIndex := 13, descriptorIndex := 14, attributes := #[] }, { accessFlags := 2, nameIndex := 17, descriptorIndex := 14, attributes := #[] }, { accessFlags := 2, nameIndex := 20, descriptorIndex := 21, attributes := #[] }, { accessFlags := 2, nameIndex := 33, descriptorIndex := 21, attributes := #[] }, { accessFlags := 2, nameIndex := 39, descriptorIndex := 14, attributes := #[] }])
  fields := #[{ name := "TIMEOUT_SECONDS", type := .long, accessFlags := 24, slot := 0, constantValue := 0 }, { name := "NO_DEADLINE", type := .long, accessFlags := 24, slot := 1, constantValue := 0 }, { name := "TIMEOUT_NANOS", type := .long, accessFlags := 26, slot := 2, constantValue := 0 }, { name := "begun", type := .long, accessFlags := 2, slot := 0, constantValue := 0 }, { name := "whole", type := .long, accessFlags := 2, slot := 1, constantValue := 0 }, { name := "answered", type := .long, accessFlags := 2, slot := 2, constantValue := 0 }, { name := "answeredAt", type := .long, accessFlags := 2, slot := 3, constantValue := 0 }, { name := "arrivedAt", type := .long, accessFlags := 2, slot := 4, constantValue := 0 }, { name := "arrivedSinceAnswer", type := .boolean, accessFlags := 2, slot := 5, constantValue := 0 }, { name := "expired", type := .boolean, accessFlags := 2, slot := 6, constantValue := 0 }, { name := "expiredAt", type := .long, accessFlags := 2, slot := 7, constantValue := 0 }]
  methods := #[k2m0, k2m1, k2m2, k2m3, k2m4, k2m5, k2m6]
  instanceTypes := #[.long, .long, .long, .long, .long, .boolean, .boolean, .long]
  staticTypes := #[.long, .long, .long]
  resolved := Array.replicate 83 none
  statics := some 0 }

def pool3 : Array CpInfo := pool [(1, .class_ 2), (0, u "java/lang/constant/Constable"), (0, .class_ 4), (0, u "java/lang/Object")] 6

/-- java/lang/constant/Constable -/
def k3 : Class := { plain "java/lang/constant/Constable" (some 0) with
  accessFlags := 1537
  interfaces := #[]
  cf := some (fileOf pool3 1 #[] #[] 1537 3 #[] #[])
  fields := #[]
  methods := #[]
  instanceTypes := #[]
  staticTypes := #[]
  resolved := Array.replicate 11 none
  statics := none }

def pool4 : Array CpInfo := pool [(1, .class_ 2), (0, u "java/lang/Comparable"), (0, .class_ 4), (0, u "java/lang/Object")] 7

/-- java/lang/Comparable -/
def k4 : Class := { plain "java/lang/Comparable" (some 0) with
  accessFlags := 1537
  interfaces := #[]
  cf := some (fileOf pool4 1 #[] #[] 1537 3 #[] #[])
  fields := #[]
  methods := #[]
  instanceTypes := #[]
  staticTypes := #[]
  resolved := Array.replicate 12 none
  statics := none }

def pool5 : Array CpInfo := pool [(1, .class_ 2), (0, u "java/io/Serializable"), (0, .class_ 4), (0, u "java/lang/Object")] 2

/-- java/io/Serializable -/
def k5 : Class := { plain "java/io/Serializable" (some 0) with
  accessFlags := 1537
  interfaces := #[]
  cf := some (fileOf pool5 1 #[] #[] 1537 3 #[] #[])
  fields := #[]
  methods := #[]
  instanceTypes := #[]
  staticTypes := #[]
  resolved := Array.replicate 7 none
  statics := none }

def pool6 : Array CpInfo := pool [(2, .class_ 4), (1, u "java/lang/Enum"), (0, u "name"), (0, u "Ljava/lang/String;"), (2, u "ordinal"), (0, u "I"), (1, .class_ 14), (1, u "java/lang/Object"), (4, u "hash"), (86, .class_ 108), (1, u "java/lang/Enum$EnumDesc"), (2, .class_ 112), (0, u "java/lang/constant/Constable"), (0, .class_ 114), (0, u "java/lang/Comparable"), (0, .class_ 116), (0, u "java/io/Serializable")] 87

/-- java/lang/Enum -/
def k6 : Class := { plain "java/lang/Enum" (some 0) with
  accessFlags := 1057
  interfaces := #[3, 4, 5]
  cf := some (fileOf pool6 2 #[.nestMembers #[106]] #[] 1057 12 #[111, 113, 115] #[{ accessFlags := 18, nameIndex := 5, descriptorIndex := 6, attributes := #[] }, { accessFlags := 18, nameIndex := 9, descriptorIndex := 10, attributes := #[] }, { accessFlags := 2, nameIndex := 19, descriptorIndex := 10, attributes := #[] }])
  fields := #[{ name := "name", type := (.object "java/lang/String"), accessFlags := 18, slot := 0, constantValue := 0 }, { name := "ordinal", type := .int, accessFlags := 18, slot := 1, constantValue := 0 }, { name := "hash", type := .int, accessFlags := 2, slot := 2, constantValue := 0 }]
  methods := #[]
  instanceTypes := #[(.object "java/lang/String"), .int, .int]
  staticTypes := #[]
  resolved := Array.replicate 204 none
  statics := none }

def pool7 : Array CpInfo := pool [(1, .class_ 2), (0, u "com/example/mailbox/mailbox/server/RequestDeadline$Expiry"), (2, u "CLOSE"), (0, u "Lcom/example/mailbox/mailbox/server/RequestDeadline$Expiry;"), (2, u "HEAD_NOT_WHOLE"), (2, u "BODY_STOPPED"), (2, u "$VALUES"), (0, u "[Lcom/example/mailbox/mailbox/server/RequestDeadline$Expiry;"), (6, .class_ 25), (1, u "java/lang/Enum"), (26, .class_ 53), (0, u "com/example/mailbox/mailbox/server/RequestDeadline")] 2

/-- com/example/mailbox/mailbox/server/RequestDeadline$Expiry -/
def k7 : Class := { plain "com/example/mailbox/mailbox/server/RequestDeadline$Expiry" (some 6) with
  accessFlags := 16432
  interfaces := #[]
  cf := some (fileOf pool7 1 #[.nestHost 52] #[] 16432 23 #[] #[{ accessFlags := 16409, nameIndex := 5, descriptorIndex := 6, attributes := #[] }, { accessFlags := 16409, nameIndex := 9, descriptorIndex := 6, attributes := #[] }, { accessFlags := 16409, nameIndex := 12, descriptorIndex := 6, attributes := #[] }, { accessFlags := 4122, nameIndex := 15, descriptorIndex := 16, attributes := #[] }])
  fields := #[{ name := "CLOSE", type := (.object "com/example/mailbox/mailbox/server/RequestDeadline$Expiry"), accessFlags := 16409, slot := 0, constantValue := 0 }, { name := "HEAD_NOT_WHOLE", type := (.object "com/example/mailbox/mailbox/server/RequestDeadline$Expiry"), accessFlags := 16409, slot := 1, constantValue := 0 }, { name := "BODY_STOPPED", type := (.object "com/example/mailbox/mailbox/server/RequestDeadline$Expiry"), accessFlags := 16409, slot := 2, constantValue := 0 }, { name := "$VALUES", type := (.array (.object "com/example/mailbox/mailbox/server/RequestDeadline$Expiry")), accessFlags := 4122, slot := 3, constantValue := 0 }]
  methods := #[]
  instanceTypes := #[(.object "java/lang/String"), .int, .int]
  staticTypes := #[(.object "com/example/mailbox/mailbox/server/RequestDeadline$Expiry"), (.object "com/example/mailbox/mailbox/server/RequestDeadline$Expiry"), (.object "com/example/mailbox/mailbox/server/RequestDeadline$Expiry"), (.array (.object "com/example/mailbox/mailbox/server/RequestDeadline$Expiry"))]
  resolved := Array.replicate 56 none
  statics := some 1 }

def pool8 : Array CpInfo := pool [(1, u "java/lang/Cloneable"), (0, .class_ 1), (0, u "java/lang/Object"), (0, .class_ 3)] 3

/-- java/lang/Cloneable -/
def k8 : Class := { plain "java/lang/Cloneable" (some 0) with
  accessFlags := 1537
  interfaces := #[]
  cf := some (fileOf pool8 2 #[] #[] 1537 4 #[] #[])
  fields := #[]
  methods := #[]
  instanceTypes := #[]
  staticTypes := #[]
  resolved := Array.replicate 8 none
  statics := none }

/-- the primitive byte -/
def k9 : Class := { plain "byte" none with kind := .primitive 'B', accessFlags := 0x411 }
/-- [B -/
def k10 : Class := { plain "[B" (some 0) with kind := .array 9 .byte, interfaces := #[8, 5], accessFlags := 1041 }

/-- the primitive int -/
def k11 : Class := { plain "int" none with kind := .primitive 'I', accessFlags := 0x411 }
/-- [I -/
def k12 : Class := { plain "[I" (some 0) with kind := .array 11 .int, interfaces := #[8, 5], accessFlags := 1041 }

def heap : Heap := #[{ cls := 2, slots := #[.long 0, .long 0, .long 10000000000], vm := .statics 2 },
  { cls := 7, slots := #[.ref 3, .ref 2, .ref 4, .null], vm := .statics 7 },
  { cls := 7, slots := #[.null, .int 0, .int 0], vm := .none },
  { cls := 7, slots := #[.null, .int 0, .int 0], vm := .none },
  { cls := 7, slots := #[.null, .int 0, .int 0], vm := .none }]
def classes : Array Class := #[k0, k1, k2, k3, k4, k5, k6, k7, k8, k9, k10, k11, k12]
def interned : List (Array UInt16 × Addr) := []
def slotsUsed : Nat := 16
def theMethod : MethodId := ⟨1, 1⟩
def args0 : Array Value := #[.long 5, .long 5, .long 5, .long 5, .long 5, .int 5]
def aboutOver (below : List Frame) : State where
  vm := { classes := classes, interned := interned.toArray }
  heap := heap
  slotsUsed := slotsUsed
  threads := #[{ frames := .invoking theMethod args0 :: below }]
def below0 : List Frame := [.native { method := ⟨0, 0⟩, args := #[] }]
def about1 : State := aboutOver below0
def p0 : Program := .bare "" "" ""
def e0 : Env := launch0.env 0 0 0
theorem w_frames : about1.frames = Frame.invoking theMethod args0 :: below0 := rfl
set_option maxRecDepth 65536 in
theorem w_args : argsFit about1.vm theMethod args0 = true := by decide +kernel
set_option maxRecDepth 65536 in
theorem w_heap : heapFits about1 = true := by decide +kernel
set_option maxRecDepth 65536 in
theorem w_runnable : about1.curStatus? = some .runnable := by decide +kernel
set_option maxRecDepth 65536 in
theorem w_alone : about1.alone = true := by decide +kernel
set_option maxRecDepth 65536 in
theorem w_named : about1.methodNamed? x = some theMethod := by decide +kernel
set_option maxRecDepth 65536 in
theorem w_hears : about1.hears theMethod below0 = true := by decide +kernel
set_option maxRecDepth 65536 in
theorem w_ripe : about1.ripe theMethod args0 below0 = true := by decide +kernel
theorem w_running : about1.status = .running := rfl
set_option maxRecDepth 65536 in
theorem w_room : about1.hasRoom e0.platform room_1 = true :=
  launch0.hasRoom_least _ room_1 (by decide +kernel) (by decide +kernel) (by decide +kernel) (by decide +kernel) (by decide +kernel) (by decide +kernel)
theorem allAtoms_all (ts : List Jvm.Cond) (a : Array Jvm.Value) (st : Jvm.State) : (allAtoms ts).before a st = ts.all (fun c => c.before a st) := by
  induction ts with
  | nil => rfl
  | cons c t ih =>
    show (Jvm.Cond.and c (allAtoms t)).before a st = _
    rw [Jvm.Cond.before_and, ih, List.all_cons]
def words1 : List Jvm.Cond := Jvm.Cond.code x code maxLocals ret :: tables_1
/-- a 'code' word, met by the world's own term for the bytes: nothing is compared byte by byte -/
theorem code_word {y : MethodName} {bytes : ByteArray} {mx : Nat} {rt : Option FieldType} {a : Array Value} {s : State} {m : MethodId} {meth : Method} {c : Code} (h1 : s.methodNamed? y = some m) (h2 : s.vm.method? m = some meth) (h3 : meth.code = some c) (h4 : c.code = bytes)
    (h5 : (c.maxLocals == mx && c.exceptionTable.isEmpty && decide (c.maxStack ≤ mostOperands) && decide (meth.sig.returnType = rt) && !meth.locks && decide (parseMethodDescriptor y.desc = some meth.sig)) = true) : (Jvm.Cond.code y bytes mx rt).before a s = true := by
  simp only [Bool.and_eq_true, beq_iff_eq, Bool.not_eq_true', decide_eq_true_eq] at h5
  obtain ⟨⟨⟨⟨⟨g1, g2⟩, g3⟩, g4⟩, g5⟩, g6⟩ := h5
  simp [Cond.before, Cond.holds, Cond.value, h1, h2, h3, h4, g1, g2, g3, g4, g5, g6]
def isCode : Jvm.Cond → Bool
  | .code _ _ _ _ => true
  | _ => false
theorem all_split {L : List Jvm.Cond} {P : Jvm.Cond → Bool} (h1 : L.all (fun c => isCode c || P c) = true) (h2 : ∀ c ∈ L.filter isCode, P c = true) : L.all P = true := by
  refine List.all_eq_true.mpr fun c hc => ?_
  have h := List.all_eq_true.mp h1 c hc
  rcases Bool.eq_false_or_eq_true (isCode c) with hi | hi
  · exact h2 c (List.mem_filter.mpr ⟨hc, hi⟩)
  · simpa [hi] using h
set_option maxRecDepth 65536 in
theorem w_c0 : (Jvm.Cond.code x code maxLocals ret).before args0 about1 = true := code_word (m := ⟨1, 1⟩) (meth := k1m1) (c := k1c1) (by decide +kernel) rfl rfl rfl (by decide +kernel)
set_option maxRecDepth 65536 in
theorem w_c1 : (Jvm.Cond.code ({ cls := "com/example/mailbox/mailbox/server/RequestDeadline", name := "<init>", desc := "(J)V" } : Jvm.MethodName) prog_124_method_1_code (3 : Nat) (Option.none : Option Jvm.ClassFile.FieldType)).before args0 about1 = true := code_word (m := ⟨2, 0⟩) (meth := k2m0) (c := k2c0) (by decide +kernel) rfl rfl rfl (by decide +kernel)
set_option maxRecDepth 65536 in
theorem w_c2 : (Jvm.Cond.code ({ cls := "java/lang/Object", name := "<init>", desc := "()V" } : Jvm.MethodName) object_method_1_code (1 : Nat) (Option.none : Option Jvm.ClassFile.FieldType)).before args0 about1 = true := code_word (m := ⟨0, 0⟩) (meth := k0m0) (c := k0c0) (by decide +kernel) rfl rfl rfl (by decide +kernel)
set_option maxRecDepth 65536 in
theorem w_c3 : (Jvm.Cond.code ({ cls := "com/example/mailbox/mailbox/server/RequestDeadline", name := "begun", desc := "()V" } : Jvm.MethodName) prog_124_method_3_code (1 : Nat) (Option.none : Option Jvm.ClassFile.FieldType)).before args0 about1 = true := code_word (m := ⟨2, 2⟩) (meth := k2m2) (c := k2c2) (by decide +kernel) rfl rfl rfl (by decide +kernel)
set_option maxRecDepth 65536 in
theorem w_c4 : (Jvm.Cond.code ({ cls := "com/example/mailbox/mailbox/server/RequestDeadline", name := "remaining", desc := "(J)J" } : Jvm.MethodName) prog_124_method_6_code (3 : Nat) (Option.some Jvm.ClassFile.FieldType.long)).before args0 about1 = true := code_word (m := ⟨2, 5⟩) (meth := k2m5) (c := k2c5) (by decide +kernel) rfl rfl rfl (by decide +kernel)
set_option maxRecDepth 65536 in
theorem w_c5 : (Jvm.Cond.code ({ cls := "com/example/mailbox/mailbox/server/RequestDeadline", name := "whole", desc := "()V" } : Jvm.MethodName) prog_124_method_4_code (1 : Nat) (Option.none : Option Jvm.ClassFile.FieldType)).before args0 about1 = true := code_word (m := ⟨2, 3⟩) (meth := k2m3) (c := k2c3) (by decide +kernel) rfl rfl rfl (by decide +kernel)
set_option maxRecDepth 65536 in
theorem w_c6 : (Jvm.Cond.code ({ cls := "com/example/mailbox/mailbox/server/RequestDeadline", name := "arrived", desc := "(J)V" } : Jvm.MethodName) prog_124_method_2_code (3 : Nat) (Option.none : Option Jvm.ClassFile.FieldType)).before args0 about1 = true := code_word (m := ⟨2, 1⟩) (meth := k2m1) (c := k2c1) (by decide +kernel) rfl rfl rfl (by decide +kernel)
set_option maxRecDepth 65536 in
theorem w_c7 : (Jvm.Cond.code ({ cls := "com/example/mailbox/mailbox/server/RequestDeadline", name := "expire", desc := "(J)Lcom/example/mailbox/mailbox/server/RequestDeadline$Expiry;" } : Jvm.MethodName) prog_124_method_7_code (4 : Nat) (Option.some (Jvm.ClassFile.FieldType.object "com/example/mailbox/mailbox/server/RequestDeadline$Expiry"))).before args0 about1 = true := code_word (m := ⟨2, 6⟩) (meth := k2m6) (c := k2c6) (by decide +kernel) rfl rfl rfl (by decide +kernel)
set_option maxRecDepth 65536 in
theorem w_c8 : (Jvm.Cond.code ({ cls := "com/example/mailbox/mailbox/server/RequestDeadline", name := "answered", desc := "(J)V" } : Jvm.MethodName) prog_124_method_5_code (3 : Nat) (Option.none : Option Jvm.ClassFile.FieldType)).before args0 about1 = true := code_word (m := ⟨2, 4⟩) (meth := k2m4) (c := k2c4) (by decide +kernel) rfl rfl rfl (by decide +kernel)
def codes1 : List Jvm.Cond := [Jvm.Cond.code x code maxLocals ret, Jvm.Cond.code ({ cls := "com/example/mailbox/mailbox/server/RequestDeadline", name := "<init>", desc := "(J)V" } : Jvm.MethodName) prog_124_method_1_code (3 : Nat) (Option.none : Option Jvm.ClassFile.FieldType), Jvm.Cond.code ({ cls := "java/lang/Object", name := "<init>", desc := "()V" } : Jvm.MethodName) object_method_1_code (1 : Nat) (Option.none : Option Jvm.ClassFile.FieldType), Jvm.Cond.code ({ cls := "com/example/mailbox/mailbox/server/RequestDeadline", name := "begun", desc := "()V" } : Jvm.MethodName) prog_124_method_3_code (1 : Nat) (Option.none : Option Jvm.ClassFile.FieldType), Jvm.Cond.code ({ cls := "com/example/mailbox/mailbox/server/RequestDeadline", name := "remaining", desc := "(J)J" } : Jvm.MethodName) prog_124_method_6_code (3 : Nat) (Option.some Jvm.ClassFile.FieldType.long), Jvm.Cond.code ({ cls := "com/example/mailbox/mailbox/server/RequestDeadline", name := "whole", desc := "()V" } : Jvm.MethodName) prog_124_method_4_code (1 : Nat) (Option.none : Option Jvm.ClassFile.FieldType), Jvm.Cond.code ({ cls := "com/example/mailbox/mailbox/server/RequestDeadline", name := "arrived", desc := "(J)V" } : Jvm.MethodName) prog_124_method_2_code (3 : Nat) (Option.none : Option Jvm.ClassFile.FieldType), Jvm.Cond.code ({ cls := "com/example/mailbox/mailbox/server/RequestDeadline", name := "expire", desc := "(J)Lcom/example/mailbox/mailbox/server/RequestDeadline$Expiry;" } : Jvm.MethodName) prog_124_method_7_code (4 : Nat) (Option.some (Jvm.ClassFile.FieldType.object "com/example/mailbox/mailbox/server/RequestDeadline$Expiry")), Jvm.Cond.code ({ cls := "com/example/mailbox/mailbox/server/RequestDeadline", name := "answered", desc := "(J)V" } : Jvm.MethodName) prog_124_method_5_code (3 : Nat) (Option.none : Option Jvm.ClassFile.FieldType)]
set_option maxRecDepth 65536 in
theorem codes_eq : words1.filter isCode = codes1 := rfl
theorem w_codes : ∀ c ∈ words1.filter isCode, c.before args0 about1 = true := by
  rw [codes_eq]
  intro c hc
  simp only [codes1, List.mem_cons, List.not_mem_nil, or_false] at hc
  rcases hc with rfl | rfl | rfl | rfl | rfl | rfl | rfl | rfl | rfl
  · exact w_c0
  · exact w_c1
  · exact w_c2
  · exact w_c3
  · exact w_c4
  · exact w_c5
  · exact w_c6
  · exact w_c7
  · exact w_c8
set_option maxRecDepth 65536 in
theorem w_t1 : (words1.take 24).all (fun c => isCode c || c.before args0 about1) = true := by decide +kernel
set_option maxRecDepth 65536 in
theorem w_t2 : ((words1.drop 24).take 24).all (fun c => isCode c || c.before args0 about1) = true := by decide +kernel
set_option maxRecDepth 65536 in
theorem w_t3 : ((words1.drop 24).drop 24).all (fun c => isCode c || c.before args0 about1) = true := by decide +kernel
theorem w_tables : (allAtoms (Jvm.Cond.code x code maxLocals ret :: tables_1)).before args0 about1 = true := by
  rw [allAtoms_all]
  show words1.all (fun c => c.before args0 about1) = true
  refine all_split ?_ w_codes
  rw [← List.take_append_drop 24 words1, List.all_append, w_t1, ← List.take_append_drop 24 (words1.drop 24), List.all_append, w_t2, w_t3]
  rfl
set_option maxRecDepth 65536 in
theorem w_case : (Jvm.Cond.and given_1 narrow_1).before args0 about1 = true := by decide +kernel
theorem w_applies : (headSpec (Jvm.Cond.code x code maxLocals ret :: tables_1) room_1).applies x e0.platform about1 = true :=
  (Spec.applies_iff w_frames).mpr ⟨w_running, w_runnable, w_alone, w_named, w_hears, w_ripe, w_room, w_tables⟩
theorem atStart : AtStart classFile x code maxLocals ret World_1 tables_1 room_1 Calls_1 rest_1 Pre_1 launch0 p0 e0 about1 theMethod args0 below0 :=
  ⟨lists_1, trivial, launch0.admits_env _ _ _, launch0.least_env, fairChoices_fair.cas, fairChoices_fair.clock, w_frames, w_args, w_heap, w_applies, trivial, trivial, w_case⟩
end start1
theorem witness_1 : WitnessClaimed_1 := ⟨start1.p0, start1.e0, start1.about1, start1.theMethod, start1.args0, start1.below0, start1.atStart⟩
end Jvm.Pilot.@@N@@
