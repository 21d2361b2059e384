import JvmDerived
import JvmDerived.Pilot.@@N@@Statement
import JvmDerived.Pilot.@@N@@Code
set_option linter.unusedVariables false
set_option linter.unusedSimpArgs false
namespace Jvm.Pilot.@@N@@
open Jvm Jvm.ClassFile Sem Op Lib Jvm.Free Jvm.Stand Jvm.LawKit Jvm.RoadKit Bundle Jvm.Pilot.@@N@@.Jvm.D
def own_Go (p : Program) (e : Env) (below : List Frame) (s : State) (Q : Option Value → Heap → List Loc → Prop) (kc ks : Nat) (A : State) : Prop :=
  ∃ s₂ o, Steps p.tables e below A s₂ ∧ s₂.status = .running ∧ Ended s₂ below o ∧ ∃ v L, o = .returned v ∧ Q v s₂.heap L ∧ FrameEnd s o s₂ L kc ks
section OwnLayer
variable {p : Program} {l : Launch} {e : Env} {R : Room} {s : State} {m : MethodId} {args : Array Value} {below : List Frame} {meth : Method} {c : Code} {T : State} {locs : List Loc} {cells slots : Nat}
variable {Q : Option Value → Heap → List Loc → Prop} {kc ks : Nat} {A B : State}
theorem own_via (h : ∀ t, Steps p.tables e below B t → Steps p.tables e below A t) (g : own_Go p e below s Q kc ks B) : own_Go p e below s Q kc ks A := by
  obtain ⟨t, o, h1, r⟩ := g
  exact ⟨t, o, h _ h1, r⟩
theorem own_tr (h : Steps p.tables e below A B) (g : own_Go p e below s Q kc ks B) : own_Go p e below s Q kc ks A := by
  obtain ⟨t, o, h1, r⟩ := g
  exact ⟨t, o, h.trans h1, r⟩
theorem own_end (X : Stand p l e R s m args below meth c T locs cells slots) (hlk : meth.locks = false) {v : Option Value} (hv : meth.sig.returnType = none → v = none) {A : State}
    (hstep : ∀ fs, (∀ (f : JFrame) (acts : List Action), f.method = m → f.locked = none → f.entered = [] → (doReturn e (T.setTop f) acts v).1 = T.setFrames fs) → Steps p.tables e below A (T.setFrames fs))
    (hQ : Q v T.heap locs) (hc : cells ≤ kc) (hs : slots ≤ ks) : own_Go p e below s Q kc ks A := by
  obtain ⟨fs, hr, hrun, hended, hW, hsame⟩ := X.leave (v := v) hv hlk
  exact ⟨_, _, hstep fs hr, hrun, hended, _, _, rfl, hQ, ⟨_, rfl⟩, hW, hsame.mono hc hs⟩
theorem own_retZ (X : Stand p l e R s m args below meth c T locs cells slots) (hx : p.tables.exec = Jvm.exec) (hlk : meth.locks = false) {pc : Nat} {Ls : Array Slot} {z z' : Int32} {t : FieldType} {rest : List Value} (hret : meth.sig.returnType = some t) (ht : t = .boolean ∨ t = .byte ∨ t = .char ∨ t = .short)
    (hd : decode c.code pc = .ok (.ireturn, 1)) (hz : nar t z = z') (hQ : Q (some (.int z')) T.heap locs) (hc : cells ≤ kc) (hs : slots ≤ ks) : own_Go p e below s Q kc ks (T.setTop (mkF m pc Ls (.int z :: rest))) := by
  subst hz
  exact own_end X hlk (fun h => by rw [hret] at h; cases h) (fun fs hr => retN X hx hret ht hd hr) hQ hc hs
theorem own_retO (X : Stand p l e R s m args below meth c T locs cells slots) (hx : p.tables.exec = Jvm.exec) (hlk : meth.locks = false) {pc : Nat} {Ls : Array Slot} {w : Value} {t : FieldType} {i : Instr} {rest : List Value} (hret : meth.sig.returnType = some t) (hn : narrow t w = w)
    (hi : (i = .ireturn ∧ (t = .int ∨ t = .boolean ∨ t = .byte ∨ t = .char ∨ t = .short) ∧ ∃ z, w = .int z) ∨ (i = .lreturn ∧ t = .long ∧ ∃ z, w = .long z) ∨ (i = .dreturn ∧ t = .double ∧ ∃ z, w = .double z) ∨ (i = .freturn ∧ t = .float ∧ ∃ z, w = .float z) ∨ (i = .areturn ∧ t.isReference = true ∧ w.isRef = true))
    (hd : decode c.code pc = .ok (i, 1)) (hQ : Q (some w) T.heap locs) (hc : cells ≤ kc) (hs : slots ≤ ks) : own_Go p e below s Q kc ks (T.setTop (mkF m pc Ls (w :: rest))) :=
  own_end X hlk (fun h => by rw [hret] at h; cases h) (fun fs hr => retOut X hx hret hn hi hd hr) hQ hc hs
theorem own_retI (X : Stand p l e R s m args below meth c T locs cells slots) (hx : p.tables.exec = Jvm.exec) (hlk : meth.locks = false) {pc : Nat} {Ls : Array Slot} {z : Int32} {rest : List Value} (hret : meth.sig.returnType = some .int)
    (hd : decode c.code pc = .ok (.ireturn, 1)) (hQ : Q (some (.int z)) T.heap locs) (hc : cells ≤ kc) (hs : slots ≤ ks) : own_Go p e below s Q kc ks (T.setTop (mkF m pc Ls (.int z :: rest))) :=
  own_retO X hx hlk hret rfl (Or.inl ⟨rfl, Or.inl rfl, _, rfl⟩) hd hQ hc hs
theorem own_retJ (X : Stand p l e R s m args below meth c T locs cells slots) (hx : p.tables.exec = Jvm.exec) (hlk : meth.locks = false) {pc : Nat} {Ls : Array Slot} {z : Int64} {rest : List Value} (hret : meth.sig.returnType = some .long)
    (hd : decode c.code pc = .ok (.lreturn, 1)) (hQ : Q (some (.long z)) T.heap locs) (hc : cells ≤ kc) (hs : slots ≤ ks) : own_Go p e below s Q kc ks (T.setTop (mkF m pc Ls (.long z :: rest))) :=
  own_retO X hx hlk hret rfl (Or.inr (Or.inl ⟨rfl, rfl, _, rfl⟩)) hd hQ hc hs
theorem own_retR (X : Stand p l e R s m args below meth c T locs cells slots) (hx : p.tables.exec = Jvm.exec) (hlk : meth.locks = false) {pc : Nat} {Ls : Array Slot} {w : Value} {t : FieldType} {rest : List Value} (hret : meth.sig.returnType = some t) (ht : t.isReference = true) (hw : w.isRef = true)
    (hd : decode c.code pc = .ok (.areturn, 1)) (hQ : Q (some w) T.heap locs) (hc : cells ≤ kc) (hs : slots ≤ ks) : own_Go p e below s Q kc ks (T.setTop (mkF m pc Ls (w :: rest))) :=
  own_retO X hx hlk hret (by cases t <;> first | (cases ht; done) | rfl) (Or.inr (Or.inr (Or.inr (Or.inr ⟨rfl, ht, hw⟩)))) hd hQ hc hs
theorem own_retV (X : Stand p l e R s m args below meth c T locs cells slots) (hx : p.tables.exec = Jvm.exec) (hlk : meth.locks = false) {pc : Nat} {Ls : Array Slot} (hret : meth.sig.returnType = none)
    (hd : decode c.code pc = .ok (.return_, 1)) (hQ : Q none T.heap locs) (hc : cells ≤ kc) (hs : slots ≤ ks) : own_Go p e below s Q kc ks (T.setTop (mkF m pc Ls [])) :=
  own_end X hlk (fun _ => rfl) (fun fs hr => X.returnOut hx hret hd hr) hQ hc hs
end OwnLayer
theorem own_eqv {args : Array Value} {Z : State} {t : Term} {k : Int32} (h : (Jvm.Cond.eq t (Term.int k)).value args Z none Z [] = some true) : t.eval args Z none [] Z = some (.int k) := by
  simp only [Jvm.Cond.value, Term.eval] at h
  cases ht : t.eval args Z none [] Z with
  | none => simp [ht] at h
  | some x => cases x <;> simp [ht] at h ⊢; exact h
theorem own_eqvL {args : Array Value} {Z : State} {t : Term} {k : Int64} (h : (Jvm.Cond.eq t (Term.long k)).value args Z none Z [] = some true) : t.eval args Z none [] Z = some (.long k) := by
  simp only [Jvm.Cond.value, Term.eval] at h
  cases ht : t.eval args Z none [] Z with
  | none => simp [ht] at h
  | some x => cases x <;> simp [ht] at h ⊢; exact h
theorem own_fld {args : Array Value} {Z : State} {t : Term} {C n d : String} {a : Addr} {k : Int32} (ev : t.eval args Z none [] Z = some (.ref a)) (h : (Jvm.Cond.eq (Term.field t C n d) (Term.int k)).value args Z none Z [] = some true) : Fld Z Z.heap a C n d (.int k) :=
  Fld.start ((fld_at ev).symm.trans (own_eqv h))
theorem own_fldL {args : Array Value} {Z : State} {t : Term} {C n d : String} {a : Addr} {k : Int64} (ev : t.eval args Z none [] Z = some (.ref a)) (h : (Jvm.Cond.eq (Term.field t C n d) (Term.long k)).value args Z none Z [] = some true) : Fld Z Z.heap a C n d (.long k) :=
  Fld.start ((fld_at ev).symm.trans (own_eqvL h))
theorem own_mod (x : Int32) (n : Int32) (k : Int) (hn : n.toInt = k) (hk : 0 < k) : 0 ≤ ((x &&& 2147483647) % n).toInt ∧ ((x &&& 2147483647) % n).toInt < k := by
  have h := (c_and x 2147483647 (by decide)).1
  rw [Int32.toInt_mod, hn, Int.tmod_eq_emod_of_nonneg h]
  exact ⟨Int.emod_nonneg _ (by omega), Int.emod_lt_of_pos _ hk⟩
theorem own_z {x y : Int32} (h : x.toInt = y.toInt) : x = y := Int32.toInt_inj.mp h
theorem own_mod3 (x : Int32) : (x &&& 2147483647) % 3 = 0 ∨ (x &&& 2147483647) % 3 = 1 ∨ (x &&& 2147483647) % 3 = 2 := by
  have h := own_mod x 3 3 rfl (by decide)
  simp only [← Int32.toInt_inj, show (0 : Int32).toInt = 0 from rfl, show (1 : Int32).toInt = 1 from rfl, show (2 : Int32).toInt = 2 from rfl]
  omega
theorem own_mod5 (x : Int32) : (x &&& 2147483647) % 5 = 0 ∨ (x &&& 2147483647) % 5 = 1 ∨ (x &&& 2147483647) % 5 = 2 ∨ (x &&& 2147483647) % 5 = 3 ∨ (x &&& 2147483647) % 5 = 4 := by
  have h := own_mod x 5 5 rfl (by decide)
  simp only [← Int32.toInt_inj, show (0 : Int32).toInt = 0 from rfl, show (1 : Int32).toInt = 1 from rfl, show (2 : Int32).toInt = 2 from rfl, show (3 : Int32).toInt = 3 from rfl, show (4 : Int32).toInt = 4 from rfl]
  omega
theorem own_mod6 (x : Int32) : (x &&& 2147483647) % 6 = 0 ∨ (x &&& 2147483647) % 6 = 1 ∨ (x &&& 2147483647) % 6 = 2 ∨ (x &&& 2147483647) % 6 = 3 ∨ (x &&& 2147483647) % 6 = 4 ∨ (x &&& 2147483647) % 6 = 5 := by
  have h := own_mod x 6 6 rfl (by decide)
  simp only [← Int32.toInt_inj, show (0 : Int32).toInt = 0 from rfl, show (1 : Int32).toInt = 1 from rfl, show (2 : Int32).toInt = 2 from rfl, show (3 : Int32).toInt = 3 from rfl, show (4 : Int32).toInt = 4 from rfl, show (5 : Int32).toInt = 5 from rfl]
  omega
theorem own_and1 (x : Int32) : x &&& 1 = 0 ∨ x &&& 1 = 1 := by
  have h := c_and x 1 (by decide)
  simp only [← Int32.toInt_inj, show (0 : Int32).toInt = 0 from rfl, show (1 : Int32).toInt = 1 from rfl] at *
  omega
theorem own_and3 (x : Int32) : x &&& 3 = 0 ∨ x &&& 3 = 1 ∨ x &&& 3 = 2 ∨ x &&& 3 = 3 := by
  have h := c_and x 3 (by decide)
  simp only [← Int32.toInt_inj, show (0 : Int32).toInt = 0 from rfl, show (1 : Int32).toInt = 1 from rfl, show (2 : Int32).toInt = 2 from rfl, show (3 : Int32).toInt = 3 from rfl] at *
  omega
theorem own_n0 {x : Int32} (h : 1 ≤ x.toInt) : ¬ (x = (0 : Int32)) := fun e => by rw [e] at h; exact absurd h (by decide)
theorem own_nneg {x : Int32} (h : 1 ≤ x.toInt) : ¬ (x < (0 : Int32)) := by
  rw [Int32.lt_iff_toInt_lt]; have : (0 : Int32).toInt = 0 := rfl
  omega
theorem own_cap {x : Int32} (h : x.toInt ≤ 32) : x.toNatClampNeg ≤ 32 := by simp only [Int32.toNatClampNeg]; omega
theorem own_m8 {x : Int32} (h1 : 0 ≤ x.toInt) (h2 : x.toInt ≤ 4) : ((8 : Int32) * x).toInt = 8 * x.toInt := by
  have h := c_imul 8 x
  have e : (8 : Int32).toInt = 8 := rfl
  rw [e] at h
  have r := rng32 ((8 : Int32) * x)
  omega
theorem own_m8a {x : Int32} (h1 : 0 ≤ x.toInt) (h2 : x.toInt ≤ 4) : 0 ≤ ((8 : Int32) * x).toInt := by rw [own_m8 h1 h2]; omega
theorem own_m8b {x : Int32} (h1 : 0 ≤ x.toInt) (h2 : x.toInt ≤ 4) : ((8 : Int32) * x).toInt ≤ 32 := by rw [own_m8 h1 h2]; omega
theorem own_m8c {x : Int32} (h1 : 1 ≤ x.toInt) (h2 : x.toInt ≤ 4) : 1 ≤ ((8 : Int32) * x).toInt := by rw [own_m8 (by omega) h2]; omega
theorem own_m8d {x : Int32} (h1 : 1 ≤ x.toInt) (h2 : x.toInt ≤ 4) : ((8 : Int32) * x).toInt ≤ 32 := by rw [own_m8 (by omega) h2]; omega
theorem own_r4 (x : Int32) : 0 ≤ (x &&& 3).toInt ∧ (x &&& 3).toInt ≤ 4 := by
  have h := c_and x 3 (by decide)
  have e : (3 : Int32).toInt = 3 := rfl
  rw [e] at h; omega
theorem own_a3 (x : Int32) : 0 ≤ (x &&& 3).toInt ∧ (x &&& 3).toInt < ((4 : Int32).toNatClampNeg : Nat) := by
  have h := c_and x 3 (by decide)
  have e : (3 : Int32).toInt = 3 := rfl
  have e2 : (4 : Int32).toNatClampNeg = 4 := rfl
  rw [e] at h; rw [e2]; omega
theorem own_inb {c : Cell} {j : Int32} {n : Nat} (S : c.slots.size = n) (h0 : 0 ≤ j.toInt) (h1 : j.toInt < n) : ¬ (j < 0 ∨ c.slots.size ≤ j.toNatClampNeg) := by
  rw [S, Int32.lt_iff_toInt_lt]; have e : (0 : Int32).toInt = 0 := rfl
  simp only [Int32.toNatClampNeg]; omega
theorem own_giv {c : Cell} {a b d e : Int32} (H : Has c [.int a, .int b, .int d, .int e] (.int 0)) (S : c.slots.size = (4 : Int32).toNatClampNeg) {j : Int32} (hj : ¬ (j < 0 ∨ c.slots.size ≤ j.toNatClampNeg))
    (ha : 1 ≤ a.toInt ∧ a.toInt ≤ 4) (hb : 1 ≤ b.toInt ∧ b.toInt ≤ 4) (hd : 1 ≤ d.toInt ∧ d.toInt ≤ 4) (he : 1 ≤ e.toInt ∧ e.toInt ≤ 4) : ∃ r : Int32, c.slots[j.toNatClampNeg]? = some (.int r) ∧ 1 ≤ r.toInt ∧ r.toInt ≤ 4 := by
  have hlt : j.toNatClampNeg < c.slots.size := Nat.lt_of_not_le fun q => hj (Or.inr q)
  have h := H _ hlt
  have h4 : j.toNatClampNeg < 4 := by rw [S] at hlt; exact hlt
  generalize j.toNatClampNeg = n at h h4 ⊢
  match n, h4 with
  | 0, _ => exact ⟨a, h, ha⟩
  | 1, _ => exact ⟨b, h, hb⟩
  | 2, _ => exact ⟨d, h, hd⟩
  | 3, _ => exact ⟨e, h, he⟩
theorem own_blk {r : Int32} (h : 1 ≤ r.toInt ∧ r.toInt ≤ 4) : ((r.toUInt32 >>> ((12 : Int32) &&& 31).toUInt32).toInt32) = (0 : Int32) := by
  have q := c_iushr r 12 12 (by decide) (by decide)
  rw [← Int32.toInt_inj, q]
  have e : (0 : Int32).toInt = 0 := rfl
  rw [e]; omega
theorem own_ixG {r f kk : Int32} {K : Int} (hK : kk.toInt = K) (h1 : 1 ≤ K) (h4 : K ≤ 4) (hr : 1 ≤ r.toInt ∧ r.toInt ≤ 4) (hf : 0 ≤ f.toInt ∧ f.toInt < K) (hm : 0 ≤ r.toInt * K ∧ r.toInt * K ≤ 16) : (((r &&& (4095 : Int32)) * kk) + f).toInt = r.toInt * K + f.toInt := by
  have a := c_mask r 4095 12 (by decide) (by decide)
  have b := c_imul (r &&& 4095) kk
  have c := c_iadd ((r &&& 4095) * kk) f
  have rb := rng32 ((r &&& 4095) * kk)
  have rc := rng32 (((r &&& 4095) * kk) + f)
  have a' : (r &&& 4095).toInt = r.toInt := by rw [a]; omega
  rw [a', hK] at b
  omega
theorem own_ix1 {r f : Int32} (hr : 1 ≤ r.toInt ∧ r.toInt ≤ 4) (hf : 0 ≤ f.toInt ∧ f.toInt < 1) : (((r &&& (4095 : Int32)) * ((1 : Int32) + (0 : Int32))) + f).toInt = r.toInt * 1 + f.toInt := own_ixG rfl (by decide) (by decide) hr hf (by omega)
theorem own_ix2 {r f : Int32} (hr : 1 ≤ r.toInt ∧ r.toInt ≤ 4) (hf : 0 ≤ f.toInt ∧ f.toInt < 2) : (((r &&& (4095 : Int32)) * ((1 : Int32) + (1 : Int32))) + f).toInt = r.toInt * 2 + f.toInt := own_ixG rfl (by decide) (by decide) hr hf (by omega)
theorem own_ix3 {r f : Int32} (hr : 1 ≤ r.toInt ∧ r.toInt ≤ 4) (hf : 0 ≤ f.toInt ∧ f.toInt < 3) : (((r &&& (4095 : Int32)) * ((1 : Int32) + (2 : Int32))) + f).toInt = r.toInt * 3 + f.toInt := own_ixG rfl (by decide) (by decide) hr hf (by omega)
theorem own_ix4 {r f : Int32} (hr : 1 ≤ r.toInt ∧ r.toInt ≤ 4) (hf : 0 ≤ f.toInt ∧ f.toInt < 4) : (((r &&& (4095 : Int32)) * ((1 : Int32) + (3 : Int32))) + f).toInt = r.toInt * 4 + f.toInt := own_ixG rfl (by decide) (by decide) hr hf (by omega)
theorem own_inx {c : Cell} {j r f : Int32} {K : Int} {n : Nat} (S : c.slots.size = n) (ix : j.toInt = r.toInt * K + f.toInt) (hr : 1 ≤ r.toInt ∧ r.toInt ≤ 4) (hf : 0 ≤ f.toInt ∧ f.toInt < K) (hn : (n : Int) = 8 * K := by rfl) : ¬ (j < 0 ∨ c.slots.size ≤ j.toNatClampNeg) := by
  have h1 : r.toInt * K ≤ 4 * K := Int.mul_le_mul_of_nonneg_right hr.2 (by omega)
  have h2 : 0 ≤ r.toInt * K := Int.mul_nonneg (by omega) (by omega)
  refine own_inb S (by omega) (by omega)
theorem own_neG {i j r f r' f' : Int32} {K : Int} (h1 : i.toInt = r.toInt * K + f.toInt) (h2 : j.toInt = r'.toInt * K + f'.toInt) (hf : 0 ≤ f.toInt ∧ f.toInt < K) (hf' : 0 ≤ f'.toInt ∧ f'.toInt < K) (ne : ¬ (r = r') ∨ ¬ (f = f')) : ¬ (i = j) := fun e => by
  subst e
  have q : (r.toInt - r'.toInt) * K = f'.toInt - f.toInt := by rw [Int.sub_mul]; omega
  have rr : r.toInt = r'.toInt := by
    rcases Int.lt_trichotomy (r.toInt) (r'.toInt) with h | h | h
    · have : (r.toInt - r'.toInt) * K ≤ (-1) * K := Int.mul_le_mul_of_nonneg_right (by omega) (by omega)
      omega
    · exact h
    · have : 1 * K ≤ (r.toInt - r'.toInt) * K := Int.mul_le_mul_of_nonneg_right (by omega) (by omega)
      omega
  rcases ne with h | h
  · exact h (Int32.toInt_inj.mp rr)
  · refine h (Int32.toInt_inj.mp ?_)
    rw [rr, Int.sub_self, Int.zero_mul] at q; omega
theorem own_ne1 {i j r f r' f' : Int32} (h1 : i.toInt = r.toInt * 1 + f.toInt) (h2 : j.toInt = r'.toInt * 1 + f'.toInt) (hf : 0 ≤ f.toInt ∧ f.toInt < 1) (hf' : 0 ≤ f'.toInt ∧ f'.toInt < 1) (ne : ¬ (r = r') ∨ ¬ (f = f')) : ¬ (i = j) := own_neG h1 h2 hf hf' ne
theorem own_ne2 {i j r f r' f' : Int32} (h1 : i.toInt = r.toInt * 2 + f.toInt) (h2 : j.toInt = r'.toInt * 2 + f'.toInt) (hf : 0 ≤ f.toInt ∧ f.toInt < 2) (hf' : 0 ≤ f'.toInt ∧ f'.toInt < 2) (ne : ¬ (r = r') ∨ ¬ (f = f')) : ¬ (i = j) := own_neG h1 h2 hf hf' ne
theorem own_ne3 {i j r f r' f' : Int32} (h1 : i.toInt = r.toInt * 3 + f.toInt) (h2 : j.toInt = r'.toInt * 3 + f'.toInt) (hf : 0 ≤ f.toInt ∧ f.toInt < 3) (hf' : 0 ≤ f'.toInt ∧ f'.toInt < 3) (ne : ¬ (r = r') ∨ ¬ (f = f')) : ¬ (i = j) := own_neG h1 h2 hf hf' ne
theorem own_ne4 {i j r f r' f' : Int32} (h1 : i.toInt = r.toInt * 4 + f.toInt) (h2 : j.toInt = r'.toInt * 4 + f'.toInt) (hf : 0 ≤ f.toInt ∧ f.toInt < 4) (hf' : 0 ≤ f'.toInt ∧ f'.toInt < 4) (ne : ¬ (r = r') ∨ ¬ (f = f')) : ¬ (i = j) := own_neG h1 h2 hf hf' ne
theorem own_fb {x kk : Int32} {K : Int} (hK : kk.toInt = K) (h1 : 0 < K) (hx : 0 ≤ x.toInt) : 0 ≤ (x % kk).toInt ∧ (x % kk).toInt < K := by
  have q := (c_irem x kk K hK).1 hx
  rw [q]; exact ⟨Int.emod_nonneg _ (by omega), Int.emod_lt_of_pos _ h1⟩
theorem own_empty {Z : State} {args : Array Value} {t : Term} {a : Addr} {cl : Cell} {ty : FieldType} {dv : Value} (hf : Fit Z) (A : Arr Z Z.heap a cl ty) (ev : t.eval args Z none [] Z = some (.ref a)) (h : (Jvm.Cond.eq (Term.length t) (Term.int 0)).value args Z none Z [] = some true) : Arv Z Z.heap a cl.cls ty 0 [] dv := by
  have e := own_eqv h
  have ha : Z.arrayAt? a = some cl := A.fin (Vm.Alike.refl _)
  simp [Term.eval, ev, ha] at e
  exact Arv.start hf A (by simpa using e.1) e.2 (by decide) rfl trivial
theorem own_r1 (x : Int32) : 0 ≤ (x &&& 1).toInt ∧ (x &&& 1).toInt ≤ 4 := by
  have h := c_and x 1 (by decide)
  have e : (1 : Int32).toInt = 1 := rfl
  rw [e] at h; omega
theorem own_p31 (x : Int32) : 0 ≤ (x &&& 2147483647).toInt := (c_and x 2147483647 (by decide)).1
theorem own_f1 {f : Int32} {K : Int} (hK : K ≤ 4) (h : 0 ≤ f.toInt ∧ f.toInt < K) : 0 ≤ (f + (1 : Int32)).toInt := by
  have q := c_iadd f 1
  have e : (1 : Int32).toInt = 1 := rfl
  have r := rng32 (f + 1)
  rw [e] at q; omega
def own_K (Z : State) (h0 : Heap) (w0 w1 mr : Addr) (kw0 kw1 : ClassId) : Prop :=
  Sta Z h0 "com/example/whenever/whenever/internal/engine/Rows" "NO_INTS" "[I" (.ref w0) ∧
  Sta Z h0 "com/example/whenever/whenever/internal/engine/Rows" "NO_REFS" "[Ljava/lang/Object;" (.ref w1) ∧
  Exa Z h0 w0 "[I" ∧
  Exa Z h0 w1 "[Ljava/lang/Object;" ∧
  Arv Z h0 w0 kw0 .int 0 [] (.int 0) ∧
  Arv Z h0 w1 kw1 (.object "java/lang/Object") 0 [] .null ∧
  Mir Z "[Ljava/lang/Object;" mr
def own_Obj0 (Z : State) (h : Heap) (a : Addr) (v0 : Value) (v1 : Value) (v2 : Int32) (v3 : Value) (v4 : Int32) (v5 : Int32) (v6 : Int32) (v7 : Value) (v8 : Int32) : Prop :=
  Exa Z h a "com/example/whenever/whenever/internal/engine/Rows" ∧
  Fld Z h a "com/example/whenever/whenever/internal/engine/Rows" "ints" "[[I" v0 ∧
  Fld Z h a "com/example/whenever/whenever/internal/engine/Rows" "refs" "[[Ljava/lang/Object;" v1 ∧
  Fld Z h a "com/example/whenever/whenever/internal/engine/Rows" "end" "I" (.int v2) ∧
  Fld Z h a "com/example/whenever/whenever/internal/engine/Rows" "removed" "[I" v3 ∧
  Fld Z h a "com/example/whenever/whenever/internal/engine/Rows" "intFields" "I" (.int v4) ∧
  Fld Z h a "com/example/whenever/whenever/internal/engine/Rows" "refFields" "I" (.int v5) ∧
  Fld Z h a "com/example/whenever/whenever/internal/engine/Rows" "firstFreeOfFirst" "I" (.int v6) ∧
  Fld Z h a "com/example/whenever/whenever/internal/engine/Rows" "later" "Lcom/example/whenever/whenever/internal/engine/Rows$LaterBlocks;" v7 ∧
  Fld Z h a "com/example/whenever/whenever/internal/engine/Rows" "capacity" "I" (.int v8)
theorem own_put0_0 {Z : State} {a0 : Array Value} (hw : ∀ d ∈ tables_1, d.before a0 Z = true) {h h' : Heap} {a : Addr} {v0 : Value} {v1 : Value} {v2 : Int32} {v3 : Value} {v4 : Int32} {v5 : Int32} {v6 : Int32} {v7 : Value} {v8 : Int32} {v : Value} (q : own_Obj0 Z h a v0 v1 v2 v3 v4 v5 v6 v7 v8) (W : Wr h h' a (Jvm.RoadKit.slotOf Z "com/example/whenever/whenever/internal/engine/Rows" "ints" "[[I") v) : own_Obj0 Z h' a v v1 v2 v3 v4 v5 v6 v7 v8 :=
  ⟨q.1.wr W,
   (q.2.1).same W,
   (q.2.2.1).other W (Or.inr (slot_ne (C := "com/example/whenever/whenever/internal/engine/Rows") (t := (.array (.array (.object "java/lang/Object")))) (t' := (.array (.array .int))) (Or.inl (hw _ (List.mem_of_getElem? (i := 22) rfl))) (Or.inl (hw _ (List.mem_of_getElem? (i := 15) rfl))) (by decide) (by decide) (by decide))),
   (q.2.2.2.1).other W (Or.inr (slot_ne (C := "com/example/whenever/whenever/internal/engine/Rows") (t := .int) (t' := (.array (.array .int))) (Or.inl (hw _ (List.mem_of_getElem? (i := 24) rfl))) (Or.inl (hw _ (List.mem_of_getElem? (i := 15) rfl))) (by decide) (by decide) (by decide))),
   (q.2.2.2.2.1).other W (Or.inr (slot_ne (C := "com/example/whenever/whenever/internal/engine/Rows") (t := (.array .int)) (t' := (.array (.array .int))) (Or.inl (hw _ (List.mem_of_getElem? (i := 26) rfl))) (Or.inl (hw _ (List.mem_of_getElem? (i := 15) rfl))) (by decide) (by decide) (by decide))),
   (q.2.2.2.2.2.1).other W (Or.inr (slot_ne (C := "com/example/whenever/whenever/internal/engine/Rows") (t := .int) (t' := (.array (.array .int))) (Or.inr (hw _ (List.mem_of_getElem? (i := 28) rfl))) (Or.inl (hw _ (List.mem_of_getElem? (i := 15) rfl))) (by decide) (by decide) (by decide))),
   (q.2.2.2.2.2.2.1).other W (Or.inr (slot_ne (C := "com/example/whenever/whenever/internal/engine/Rows") (t := .int) (t' := (.array (.array .int))) (Or.inr (hw _ (List.mem_of_getElem? (i := 30) rfl))) (Or.inl (hw _ (List.mem_of_getElem? (i := 15) rfl))) (by decide) (by decide) (by decide))),
   (q.2.2.2.2.2.2.2.1).other W (Or.inr (slot_ne (C := "com/example/whenever/whenever/internal/engine/Rows") (t := .int) (t' := (.array (.array .int))) (Or.inl (hw _ (List.mem_of_getElem? (i := 38) rfl))) (Or.inl (hw _ (List.mem_of_getElem? (i := 15) rfl))) (by decide) (by decide) (by decide))),
   (q.2.2.2.2.2.2.2.2.1).other W (Or.inr (slot_ne (C := "com/example/whenever/whenever/internal/engine/Rows") (t := (.object "com/example/whenever/whenever/internal/engine/Rows$LaterBlocks")) (t' := (.array (.array .int))) (Or.inl (hw _ (List.mem_of_getElem? (i := 40) rfl))) (Or.inl (hw _ (List.mem_of_getElem? (i := 15) rfl))) (by decide) (by decide) (by decide))),
   (q.2.2.2.2.2.2.2.2.2).other W (Or.inr (slot_ne (C := "com/example/whenever/whenever/internal/engine/Rows") (t := .int) (t' := (.array (.array .int))) (Or.inl (hw _ (List.mem_of_getElem? (i := 42) rfl))) (Or.inl (hw _ (List.mem_of_getElem? (i := 15) rfl))) (by decide) (by decide) (by decide)))⟩
theorem own_put0_1 {Z : State} {a0 : Array Value} (hw : ∀ d ∈ tables_1, d.before a0 Z = true) {h h' : Heap} {a : Addr} {v0 : Value} {v1 : Value} {v2 : Int32} {v3 : Value} {v4 : Int32} {v5 : Int32} {v6 : Int32} {v7 : Value} {v8 : Int32} {v : Value} (q : own_Obj0 Z h a v0 v1 v2 v3 v4 v5 v6 v7 v8) (W : Wr h h' a (Jvm.RoadKit.slotOf Z "com/example/whenever/whenever/internal/engine/Rows" "refs" "[[Ljava/lang/Object;") v) : own_Obj0 Z h' a v0 v v2 v3 v4 v5 v6 v7 v8 :=
  ⟨q.1.wr W,
   (q.2.1).other W (Or.inr (slot_ne (C := "com/example/whenever/whenever/internal/engine/Rows") (t := (.array (.array .int))) (t' := (.array (.array (.object "java/lang/Object")))) (Or.inl (hw _ (List.mem_of_getElem? (i := 15) rfl))) (Or.inl (hw _ (List.mem_of_getElem? (i := 22) rfl))) (by decide) (by decide) (by decide))),
   (q.2.2.1).same W,
   (q.2.2.2.1).other W (Or.inr (slot_ne (C := "com/example/whenever/whenever/internal/engine/Rows") (t := .int) (t' := (.array (.array (.object "java/lang/Object")))) (Or.inl (hw _ (List.mem_of_getElem? (i := 24) rfl))) (Or.inl (hw _ (List.mem_of_getElem? (i := 22) rfl))) (by decide) (by decide) (by decide))),
   (q.2.2.2.2.1).other W (Or.inr (slot_ne (C := "com/example/whenever/whenever/internal/engine/Rows") (t := (.array .int)) (t' := (.array (.array (.object "java/lang/Object")))) (Or.inl (hw _ (List.mem_of_getElem? (i := 26) rfl))) (Or.inl (hw _ (List.mem_of_getElem? (i := 22) rfl))) (by decide) (by decide) (by decide))),
   (q.2.2.2.2.2.1).other W (Or.inr (slot_ne (C := "com/example/whenever/whenever/internal/engine/Rows") (t := .int) (t' := (.array (.array (.object "java/lang/Object")))) (Or.inr (hw _ (List.mem_of_getElem? (i := 28) rfl))) (Or.inl (hw _ (List.mem_of_getElem? (i := 22) rfl))) (by decide) (by decide) (by decide))),
   (q.2.2.2.2.2.2.1).other W (Or.inr (slot_ne (C := "com/example/whenever/whenever/internal/engine/Rows") (t := .int) (t' := (.array (.array (.object "java/lang/Object")))) (Or.inr (hw _ (List.mem_of_getElem? (i := 30) rfl))) (Or.inl (hw _ (List.mem_of_getElem? (i := 22) rfl))) (by decide) (by decide) (by decide))),
   (q.2.2.2.2.2.2.2.1).other W (Or.inr (slot_ne (C := "com/example/whenever/whenever/internal/engine/Rows") (t := .int) (t' := (.array (.array (.object "java/lang/Object")))) (Or.inl (hw _ (List.mem_of_getElem? (i := 38) rfl))) (Or.inl (hw _ (List.mem_of_getElem? (i := 22) rfl))) (by decide) (by decide) (by decide))),
   (q.2.2.2.2.2.2.2.2.1).other W (Or.inr (slot_ne (C := "com/example/whenever/whenever/internal/engine/Rows") (t := (.object "com/example/whenever/whenever/internal/engine/Rows$LaterBlocks")) (t' := (.array (.array (.object "java/lang/Object")))) (Or.inl (hw _ (List.mem_of_getElem? (i := 40) rfl))) (Or.inl (hw _ (List.mem_of_getElem? (i := 22) rfl))) (by decide) (by decide) (by decide))),
   (q.2.2.2.2.2.2.2.2.2).other W (Or.inr (slot_ne (C := "com/example/whenever/whenever/internal/engine/Rows") (t := .int) (t' := (.array (.array (.object "java/lang/Object")))) (Or.inl (hw _ (List.mem_of_getElem? (i := 42) rfl))) (Or.inl (hw _ (List.mem_of_getElem? (i := 22) rfl))) (by decide) (by decide) (by decide)))⟩
theorem own_put0_2 {Z : State} {a0 : Array Value} (hw : ∀ d ∈ tables_1, d.before a0 Z = true) {h h' : Heap} {a : Addr} {v0 : Value} {v1 : Value} {v2 : Int32} {v3 : Value} {v4 : Int32} {v5 : Int32} {v6 : Int32} {v7 : Value} {v8 : Int32} {v : Int32} (q : own_Obj0 Z h a v0 v1 v2 v3 v4 v5 v6 v7 v8) (W : Wr h h' a (Jvm.RoadKit.slotOf Z "com/example/whenever/whenever/internal/engine/Rows" "end" "I") (.int v)) : own_Obj0 Z h' a v0 v1 v v3 v4 v5 v6 v7 v8 :=
  ⟨q.1.wr W,
   (q.2.1).other W (Or.inr (slot_ne (C := "com/example/whenever/whenever/internal/engine/Rows") (t := (.array (.array .int))) (t' := .int) (Or.inl (hw _ (List.mem_of_getElem? (i := 15) rfl))) (Or.inl (hw _ (List.mem_of_getElem? (i := 24) rfl))) (by decide) (by decide) (by decide))),
   (q.2.2.1).other W (Or.inr (slot_ne (C := "com/example/whenever/whenever/internal/engine/Rows") (t := (.array (.array (.object "java/lang/Object")))) (t' := .int) (Or.inl (hw _ (List.mem_of_getElem? (i := 22) rfl))) (Or.inl (hw _ (List.mem_of_getElem? (i := 24) rfl))) (by decide) (by decide) (by decide))),
   (q.2.2.2.1).same W,
   (q.2.2.2.2.1).other W (Or.inr (slot_ne (C := "com/example/whenever/whenever/internal/engine/Rows") (t := (.array .int)) (t' := .int) (Or.inl (hw _ (List.mem_of_getElem? (i := 26) rfl))) (Or.inl (hw _ (List.mem_of_getElem? (i := 24) rfl))) (by decide) (by decide) (by decide))),
   (q.2.2.2.2.2.1).other W (Or.inr (slot_ne (C := "com/example/whenever/whenever/internal/engine/Rows") (t := .int) (t' := .int) (Or.inr (hw _ (List.mem_of_getElem? (i := 28) rfl))) (Or.inl (hw _ (List.mem_of_getElem? (i := 24) rfl))) (by decide) (by decide) (by decide))),
   (q.2.2.2.2.2.2.1).other W (Or.inr (slot_ne (C := "com/example/whenever/whenever/internal/engine/Rows") (t := .int) (t' := .int) (Or.inr (hw _ (List.mem_of_getElem? (i := 30) rfl))) (Or.inl (hw _ (List.mem_of_getElem? (i := 24) rfl))) (by decide) (by decide) (by decide))),
   (q.2.2.2.2.2.2.2.1).other W (Or.inr (slot_ne (C := "com/example/whenever/whenever/internal/engine/Rows") (t := .int) (t' := .int) (Or.inl (hw _ (List.mem_of_getElem? (i := 38) rfl))) (Or.inl (hw _ (List.mem_of_getElem? (i := 24) rfl))) (by decide) (by decide) (by decide))),
   (q.2.2.2.2.2.2.2.2.1).other W (Or.inr (slot_ne (C := "com/example/whenever/whenever/internal/engine/Rows") (t := (.object "com/example/whenever/whenever/internal/engine/Rows$LaterBlocks")) (t' := .int) (Or.inl (hw _ (List.mem_of_getElem? (i := 40) rfl))) (Or.inl (hw _ (List.mem_of_getElem? (i := 24) rfl))) (by decide) (by decide) (by decide))),
   (q.2.2.2.2.2.2.2.2.2).other W (Or.inr (slot_ne (C := "com/example/whenever/whenever/internal/engine/Rows") (t := .int) (t' := .int) (Or.inl (hw _ (List.mem_of_getElem? (i := 42) rfl))) (Or.inl (hw _ (List.mem_of_getElem? (i := 24) rfl))) (by decide) (by decide) (by decide)))⟩
theorem own_put0_3 {Z : State} {a0 : Array Value} (hw : ∀ d ∈ tables_1, d.before a0 Z = true) {h h' : Heap} {a : Addr} {v0 : Value} {v1 : Value} {v2 : Int32} {v3 : Value} {v4 : Int32} {v5 : Int32} {v6 : Int32} {v7 : Value} {v8 : Int32} {v : Value} (q : own_Obj0 Z h a v0 v1 v2 v3 v4 v5 v6 v7 v8) (W : Wr h h' a (Jvm.RoadKit.slotOf Z "com/example/whenever/whenever/internal/engine/Rows" "removed" "[I") v) : own_Obj0 Z h' a v0 v1 v2 v v4 v5 v6 v7 v8 :=
  ⟨q.1.wr W,
   (q.2.1).other W (Or.inr (slot_ne (C := "com/example/whenever/whenever/internal/engine/Rows") (t := (.array (.array .int))) (t' := (.array .int)) (Or.inl (hw _ (List.mem_of_getElem? (i := 15) rfl))) (Or.inl (hw _ (List.mem_of_getElem? (i := 26) rfl))) (by decide) (by decide) (by decide))),
   (q.2.2.1).other W (Or.inr (slot_ne (C := "com/example/whenever/whenever/internal/engine/Rows") (t := (.array (.array (.object "java/lang/Object")))) (t' := (.array .int)) (Or.inl (hw _ (List.mem_of_getElem? (i := 22) rfl))) (Or.inl (hw _ (List.mem_of_getElem? (i := 26) rfl))) (by decide) (by decide) (by decide))),
   (q.2.2.2.1).other W (Or.inr (slot_ne (C := "com/example/whenever/whenever/internal/engine/Rows") (t := .int) (t' := (.array .int)) (Or.inl (hw _ (List.mem_of_getElem? (i := 24) rfl))) (Or.inl (hw _ (List.mem_of_getElem? (i := 26) rfl))) (by decide) (by decide) (by decide))),
   (q.2.2.2.2.1).same W,
   (q.2.2.2.2.2.1).other W (Or.inr (slot_ne (C := "com/example/whenever/whenever/internal/engine/Rows") (t := .int) (t' := (.array .int)) (Or.inr (hw _ (List.mem_of_getElem? (i := 28) rfl))) (Or.inl (hw _ (List.mem_of_getElem? (i := 26) rfl))) (by decide) (by decide) (by decide))),
   (q.2.2.2.2.2.2.1).other W (Or.inr (slot_ne (C := "com/example/whenever/whenever/internal/engine/Rows") (t := .int) (t' := (.array .int)) (Or.inr (hw _ (List.mem_of_getElem? (i := 30) rfl))) (Or.inl (hw _ (List.mem_of_getElem? (i := 26) rfl))) (by decide) (by decide) (by decide))),
   (q.2.2.2.2.2.2.2.1).other W (Or.inr (slot_ne (C := "com/example/whenever/whenever/internal/engine/Rows") (t := .int) (t' := (.array .int)) (Or.inl (hw _ (List.mem_of_getElem? (i := 38) rfl))) (Or.inl (hw _ (List.mem_of_getElem? (i := 26) rfl))) (by decide) (by decide) (by decide))),
   (q.2.2.2.2.2.2.2.2.1).other W (Or.inr (slot_ne (C := "com/example/whenever/whenever/internal/engine/Rows") (t := (.object "com/example/whenever/whenever/internal/engine/Rows$LaterBlocks")) (t' := (.array .int)) (Or.inl (hw _ (List.mem_of_getElem? (i := 40) rfl))) (Or.inl (hw _ (List.mem_of_getElem? (i := 26) rfl))) (by decide) (by decide) (by decide))),
   (q.2.2.2.2.2.2.2.2.2).other W (Or.inr (slot_ne (C := "com/example/whenever/whenever/internal/engine/Rows") (t := .int) (t' := (.array .int)) (Or.inl (hw _ (List.mem_of_getElem? (i := 42) rfl))) (Or.inl (hw _ (List.mem_of_getElem? (i := 26) rfl))) (by decide) (by decide) (by decide)))⟩
theorem own_put0_4 {Z : State} {a0 : Array Value} (hw : ∀ d ∈ tables_1, d.before a0 Z = true) {h h' : Heap} {a : Addr} {v0 : Value} {v1 : Value} {v2 : Int32} {v3 : Value} {v4 : Int32} {v5 : Int32} {v6 : Int32} {v7 : Value} {v8 : Int32} {v : Int32} (q : own_Obj0 Z h a v0 v1 v2 v3 v4 v5 v6 v7 v8) (W : Wr h h' a (Jvm.RoadKit.slotOf Z "com/example/whenever/whenever/internal/engine/Rows" "intFields" "I") (.int v)) : own_Obj0 Z h' a v0 v1 v2 v3 v v5 v6 v7 v8 :=
  ⟨q.1.wr W,
   (q.2.1).other W (Or.inr (slot_ne (C := "com/example/whenever/whenever/internal/engine/Rows") (t := (.array (.array .int))) (t' := .int) (Or.inl (hw _ (List.mem_of_getElem? (i := 15) rfl))) (Or.inr (hw _ (List.mem_of_getElem? (i := 28) rfl))) (by decide) (by decide) (by decide))),
   (q.2.2.1).other W (Or.inr (slot_ne (C := "com/example/whenever/whenever/internal/engine/Rows") (t := (.array (.array (.object "java/lang/Object")))) (t' := .int) (Or.inl (hw _ (List.mem_of_getElem? (i := 22) rfl))) (Or.inr (hw _ (List.mem_of_getElem? (i := 28) rfl))) (by decide) (by decide) (by decide))),
   (q.2.2.2.1).other W (Or.inr (slot_ne (C := "com/example/whenever/whenever/internal/engine/Rows") (t := .int) (t' := .int) (Or.inl (hw _ (List.mem_of_getElem? (i := 24) rfl))) (Or.inr (hw _ (List.mem_of_getElem? (i := 28) rfl))) (by decide) (by decide) (by decide))),
   (q.2.2.2.2.1).other W (Or.inr (slot_ne (C := "com/example/whenever/whenever/internal/engine/Rows") (t := (.array .int)) (t' := .int) (Or.inl (hw _ (List.mem_of_getElem? (i := 26) rfl))) (Or.inr (hw _ (List.mem_of_getElem? (i := 28) rfl))) (by decide) (by decide) (by decide))),
   (q.2.2.2.2.2.1).same W,
   (q.2.2.2.2.2.2.1).other W (Or.inr (slot_ne (C := "com/example/whenever/whenever/internal/engine/Rows") (t := .int) (t' := .int) (Or.inr (hw _ (List.mem_of_getElem? (i := 30) rfl))) (Or.inr (hw _ (List.mem_of_getElem? (i := 28) rfl))) (by decide) (by decide) (by decide))),
   (q.2.2.2.2.2.2.2.1).other W (Or.inr (slot_ne (C := "com/example/whenever/whenever/internal/engine/Rows") (t := .int) (t' := .int) (Or.inl (hw _ (List.mem_of_getElem? (i := 38) rfl))) (Or.inr (hw _ (List.mem_of_getElem? (i := 28) rfl))) (by decide) (by decide) (by decide))),
   (q.2.2.2.2.2.2.2.2.1).other W (Or.inr (slot_ne (C := "com/example/whenever/whenever/internal/engine/Rows") (t := (.object "com/example/whenever/whenever/internal/engine/Rows$LaterBlocks")) (t' := .int) (Or.inl (hw _ (List.mem_of_getElem? (i := 40) rfl))) (Or.inr (hw _ (List.mem_of_getElem? (i := 28) rfl))) (by decide) (by decide) (by decide))),
   (q.2.2.2.2.2.2.2.2.2).other W (Or.inr (slot_ne (C := "com/example/whenever/whenever/internal/engine/Rows") (t := .int) (t' := .int) (Or.inl (hw _ (List.mem_of_getElem? (i := 42) rfl))) (Or.inr (hw _ (List.mem_of_getElem? (i := 28) rfl))) (by decide) (by decide) (by decide)))⟩
theorem own_put0_5 {Z : State} {a0 : Array Value} (hw : ∀ d ∈ tables_1, d.before a0 Z = true) {h h' : Heap} {a : Addr} {v0 : Value} {v1 : Value} {v2 : Int32} {v3 : Value} {v4 : Int32} {v5 : Int32} {v6 : Int32} {v7 : Value} {v8 : Int32} {v : Int32} (q : own_Obj0 Z h a v0 v1 v2 v3 v4 v5 v6 v7 v8) (W : Wr h h' a (Jvm.RoadKit.slotOf Z "com/example/whenever/whenever/internal/engine/Rows" "refFields" "I") (.int v)) : own_Obj0 Z h' a v0 v1 v2 v3 v4 v v6 v7 v8 :=
  ⟨q.1.wr W,
   (q.2.1).other W (Or.inr (slot_ne (C := "com/example/whenever/whenever/internal/engine/Rows") (t := (.array (.array .int))) (t' := .int) (Or.inl (hw _ (List.mem_of_getElem? (i := 15) rfl))) (Or.inr (hw _ (List.mem_of_getElem? (i := 30) rfl))) (by decide) (by decide) (by decide))),
   (q.2.2.1).other W (Or.inr (slot_ne (C := "com/example/whenever/whenever/internal/engine/Rows") (t := (.array (.array (.object "java/lang/Object")))) (t' := .int) (Or.inl (hw _ (List.mem_of_getElem? (i := 22) rfl))) (Or.inr (hw _ (List.mem_of_getElem? (i := 30) rfl))) (by decide) (by decide) (by decide))),
   (q.2.2.2.1).other W (Or.inr (slot_ne (C := "com/example/whenever/whenever/internal/engine/Rows") (t := .int) (t' := .int) (Or.inl (hw _ (List.mem_of_getElem? (i := 24) rfl))) (Or.inr (hw _ (List.mem_of_getElem? (i := 30) rfl))) (by decide) (by decide) (by decide))),
   (q.2.2.2.2.1).other W (Or.inr (slot_ne (C := "com/example/whenever/whenever/internal/engine/Rows") (t := (.array .int)) (t' := .int) (Or.inl (hw _ (List.mem_of_getElem? (i := 26) rfl))) (Or.inr (hw _ (List.mem_of_getElem? (i := 30) rfl))) (by decide) (by decide) (by decide))),
   (q.2.2.2.2.2.1).other W (Or.inr (slot_ne (C := "com/example/whenever/whenever/internal/engine/Rows") (t := .int) (t' := .int) (Or.inr (hw _ (List.mem_of_getElem? (i := 28) rfl))) (Or.inr (hw _ (List.mem_of_getElem? (i := 30) rfl))) (by decide) (by decide) (by decide))),
   (q.2.2.2.2.2.2.1).same W,
   (q.2.2.2.2.2.2.2.1).other W (Or.inr (slot_ne (C := "com/example/whenever/whenever/internal/engine/Rows") (t := .int) (t' := .int) (Or.inl (hw _ (List.mem_of_getElem? (i := 38) rfl))) (Or.inr (hw _ (List.mem_of_getElem? (i := 30) rfl))) (by decide) (by decide) (by decide))),
   (q.2.2.2.2.2.2.2.2.1).other W (Or.inr (slot_ne (C := "com/example/whenever/whenever/internal/engine/Rows") (t := (.object "com/example/whenever/whenever/internal/engine/Rows$LaterBlocks")) (t' := .int) (Or.inl (hw _ (List.mem_of_getElem? (i := 40) rfl))) (Or.inr (hw _ (List.mem_of_getElem? (i := 30) rfl))) (by decide) (by decide) (by decide))),
   (q.2.2.2.2.2.2.2.2.2).other W (Or.inr (slot_ne (C := "com/example/whenever/whenever/internal/engine/Rows") (t := .int) (t' := .int) (Or.inl (hw _ (List.mem_of_getElem? (i := 42) rfl))) (Or.inr (hw _ (List.mem_of_getElem? (i := 30) rfl))) (by decide) (by decide) (by decide)))⟩
theorem own_put0_6 {Z : State} {a0 : Array Value} (hw : ∀ d ∈ tables_1, d.before a0 Z = true) {h h' : Heap} {a : Addr} {v0 : Value} {v1 : Value} {v2 : Int32} {v3 : Value} {v4 : Int32} {v5 : Int32} {v6 : Int32} {v7 : Value} {v8 : Int32} {v : Int32} (q : own_Obj0 Z h a v0 v1 v2 v3 v4 v5 v6 v7 v8) (W : Wr h h' a (Jvm.RoadKit.slotOf Z "com/example/whenever/whenever/internal/engine/Rows" "firstFreeOfFirst" "I") (.int v)) : own_Obj0 Z h' a v0 v1 v2 v3 v4 v5 v v7 v8 :=
  ⟨q.1.wr W,
   (q.2.1).other W (Or.inr (slot_ne (C := "com/example/whenever/whenever/internal/engine/Rows") (t := (.array (.array .int))) (t' := .int) (Or.inl (hw _ (List.mem_of_getElem? (i := 15) rfl))) (Or.inl (hw _ (List.mem_of_getElem? (i := 38) rfl))) (by decide) (by decide) (by decide))),
   (q.2.2.1).other W (Or.inr (slot_ne (C := "com/example/whenever/whenever/internal/engine/Rows") (t := (.array (.array (.object "java/lang/Object")))) (t' := .int) (Or.inl (hw _ (List.mem_of_getElem? (i := 22) rfl))) (Or.inl (hw _ (List.mem_of_getElem? (i := 38) rfl))) (by decide) (by decide) (by decide))),
   (q.2.2.2.1).other W (Or.inr (slot_ne (C := "com/example/whenever/whenever/internal/engine/Rows") (t := .int) (t' := .int) (Or.inl (hw _ (List.mem_of_getElem? (i := 24) rfl))) (Or.inl (hw _ (List.mem_of_getElem? (i := 38) rfl))) (by decide) (by decide) (by decide))),
   (q.2.2.2.2.1).other W (Or.inr (slot_ne (C := "com/example/whenever/whenever/internal/engine/Rows") (t := (.array .int)) (t' := .int) (Or.inl (hw _ (List.mem_of_getElem? (i := 26) rfl))) (Or.inl (hw _ (List.mem_of_getElem? (i := 38) rfl))) (by decide) (by decide) (by decide))),
   (q.2.2.2.2.2.1).other W (Or.inr (slot_ne (C := "com/example/whenever/whenever/internal/engine/Rows") (t := .int) (t' := .int) (Or.inr (hw _ (List.mem_of_getElem? (i := 28) rfl))) (Or.inl (hw _ (List.mem_of_getElem? (i := 38) rfl))) (by decide) (by decide) (by decide))),
   (q.2.2.2.2.2.2.1).other W (Or.inr (slot_ne (C := "com/example/whenever/whenever/internal/engine/Rows") (t := .int) (t' := .int) (Or.inr (hw _ (List.mem_of_getElem? (i := 30) rfl))) (Or.inl (hw _ (List.mem_of_getElem? (i := 38) rfl))) (by decide) (by decide) (by decide))),
   (q.2.2.2.2.2.2.2.1).same W,
   (q.2.2.2.2.2.2.2.2.1).other W (Or.inr (slot_ne (C := "com/example/whenever/whenever/internal/engine/Rows") (t := (.object "com/example/whenever/whenever/internal/engine/Rows$LaterBlocks")) (t' := .int) (Or.inl (hw _ (List.mem_of_getElem? (i := 40) rfl))) (Or.inl (hw _ (List.mem_of_getElem? (i := 38) rfl))) (by decide) (by decide) (by decide))),
   (q.2.2.2.2.2.2.2.2.2).other W (Or.inr (slot_ne (C := "com/example/whenever/whenever/internal/engine/Rows") (t := .int) (t' := .int) (Or.inl (hw _ (List.mem_of_getElem? (i := 42) rfl))) (Or.inl (hw _ (List.mem_of_getElem? (i := 38) rfl))) (by decide) (by decide) (by decide)))⟩
theorem own_put0_7 {Z : State} {a0 : Array Value} (hw : ∀ d ∈ tables_1, d.before a0 Z = true) {h h' : Heap} {a : Addr} {v0 : Value} {v1 : Value} {v2 : Int32} {v3 : Value} {v4 : Int32} {v5 : Int32} {v6 : Int32} {v7 : Value} {v8 : Int32} {v : Value} (q : own_Obj0 Z h a v0 v1 v2 v3 v4 v5 v6 v7 v8) (W : Wr h h' a (Jvm.RoadKit.slotOf Z "com/example/whenever/whenever/internal/engine/Rows" "later" "Lcom/example/whenever/whenever/internal/engine/Rows$LaterBlocks;") v) : own_Obj0 Z h' a v0 v1 v2 v3 v4 v5 v6 v v8 :=
  ⟨q.1.wr W,
   (q.2.1).other W (Or.inr (slot_ne (C := "com/example/whenever/whenever/internal/engine/Rows") (t := (.array (.array .int))) (t' := (.object "com/example/whenever/whenever/internal/engine/Rows$LaterBlocks")) (Or.inl (hw _ (List.mem_of_getElem? (i := 15) rfl))) (Or.inl (hw _ (List.mem_of_getElem? (i := 40) rfl))) (by decide) (by decide) (by decide))),
   (q.2.2.1).other W (Or.inr (slot_ne (C := "com/example/whenever/whenever/internal/engine/Rows") (t := (.array (.array (.object "java/lang/Object")))) (t' := (.object "com/example/whenever/whenever/internal/engine/Rows$LaterBlocks")) (Or.inl (hw _ (List.mem_of_getElem? (i := 22) rfl))) (Or.inl (hw _ (List.mem_of_getElem? (i := 40) rfl))) (by decide) (by decide) (by decide))),
   (q.2.2.2.1).other W (Or.inr (slot_ne (C := "com/example/whenever/whenever/internal/engine/Rows") (t := .int) (t' := (.object "com/example/whenever/whenever/internal/engine/Rows$LaterBlocks")) (Or.inl (hw _ (List.mem_of_getElem? (i := 24) rfl))) (Or.inl (hw _ (List.mem_of_getElem? (i := 40) rfl))) (by decide) (by decide) (by decide))),
   (q.2.2.2.2.1).other W (Or.inr (slot_ne (C := "com/example/whenever/whenever/internal/engine/Rows") (t := (.array .int)) (t' := (.object "com/example/whenever/whenever/internal/engine/Rows$LaterBlocks")) (Or.inl (hw _ (List.mem_of_getElem? (i := 26) rfl))) (Or.inl (hw _ (List.mem_of_getElem? (i := 40) rfl))) (by decide) (by decide) (by decide))),
   (q.2.2.2.2.2.1).other W (Or.inr (slot_ne (C := "com/example/whenever/whenever/internal/engine/Rows") (t := .int) (t' := (.object "com/example/whenever/whenever/internal/engine/Rows$LaterBlocks")) (Or.inr (hw _ (List.mem_of_getElem? (i := 28) rfl))) (Or.inl (hw _ (List.mem_of_getElem? (i := 40) rfl))) (by decide) (by decide) (by decide))),
   (q.2.2.2.2.2.2.1).other W (Or.inr (slot_ne (C := "com/example/whenever/whenever/internal/engine/Rows") (t := .int) (t' := (.object "com/example/whenever/whenever/internal/engine/Rows$LaterBlocks")) (Or.inr (hw _ (List.mem_of_getElem? (i := 30) rfl))) (Or.inl (hw _ (List.mem_of_getElem? (i := 40) rfl))) (by decide) (by decide) (by decide))),
   (q.2.2.2.2.2.2.2.1).other W (Or.inr (slot_ne (C := "com/example/whenever/whenever/internal/engine/Rows") (t := .int) (t' := (.object "com/example/whenever/whenever/internal/engine/Rows$LaterBlocks")) (Or.inl (hw _ (List.mem_of_getElem? (i := 38) rfl))) (Or.inl (hw _ (List.mem_of_getElem? (i := 40) rfl))) (by decide) (by decide) (by decide))),
   (q.2.2.2.2.2.2.2.2.1).same W,
   (q.2.2.2.2.2.2.2.2.2).other W (Or.inr (slot_ne (C := "com/example/whenever/whenever/internal/engine/Rows") (t := .int) (t' := (.object "com/example/whenever/whenever/internal/engine/Rows$LaterBlocks")) (Or.inl (hw _ (List.mem_of_getElem? (i := 42) rfl))) (Or.inl (hw _ (List.mem_of_getElem? (i := 40) rfl))) (by decide) (by decide) (by decide)))⟩
theorem own_put0_8 {Z : State} {a0 : Array Value} (hw : ∀ d ∈ tables_1, d.before a0 Z = true) {h h' : Heap} {a : Addr} {v0 : Value} {v1 : Value} {v2 : Int32} {v3 : Value} {v4 : Int32} {v5 : Int32} {v6 : Int32} {v7 : Value} {v8 : Int32} {v : Int32} (q : own_Obj0 Z h a v0 v1 v2 v3 v4 v5 v6 v7 v8) (W : Wr h h' a (Jvm.RoadKit.slotOf Z "com/example/whenever/whenever/internal/engine/Rows" "capacity" "I") (.int v)) : own_Obj0 Z h' a v0 v1 v2 v3 v4 v5 v6 v7 v :=
  ⟨q.1.wr W,
   (q.2.1).other W (Or.inr (slot_ne (C := "com/example/whenever/whenever/internal/engine/Rows") (t := (.array (.array .int))) (t' := .int) (Or.inl (hw _ (List.mem_of_getElem? (i := 15) rfl))) (Or.inl (hw _ (List.mem_of_getElem? (i := 42) rfl))) (by decide) (by decide) (by decide))),
   (q.2.2.1).other W (Or.inr (slot_ne (C := "com/example/whenever/whenever/internal/engine/Rows") (t := (.array (.array (.object "java/lang/Object")))) (t' := .int) (Or.inl (hw _ (List.mem_of_getElem? (i := 22) rfl))) (Or.inl (hw _ (List.mem_of_getElem? (i := 42) rfl))) (by decide) (by decide) (by decide))),
   (q.2.2.2.1).other W (Or.inr (slot_ne (C := "com/example/whenever/whenever/internal/engine/Rows") (t := .int) (t' := .int) (Or.inl (hw _ (List.mem_of_getElem? (i := 24) rfl))) (Or.inl (hw _ (List.mem_of_getElem? (i := 42) rfl))) (by decide) (by decide) (by decide))),
   (q.2.2.2.2.1).other W (Or.inr (slot_ne (C := "com/example/whenever/whenever/internal/engine/Rows") (t := (.array .int)) (t' := .int) (Or.inl (hw _ (List.mem_of_getElem? (i := 26) rfl))) (Or.inl (hw _ (List.mem_of_getElem? (i := 42) rfl))) (by decide) (by decide) (by decide))),
   (q.2.2.2.2.2.1).other W (Or.inr (slot_ne (C := "com/example/whenever/whenever/internal/engine/Rows") (t := .int) (t' := .int) (Or.inr (hw _ (List.mem_of_getElem? (i := 28) rfl))) (Or.inl (hw _ (List.mem_of_getElem? (i := 42) rfl))) (by decide) (by decide) (by decide))),
   (q.2.2.2.2.2.2.1).other W (Or.inr (slot_ne (C := "com/example/whenever/whenever/internal/engine/Rows") (t := .int) (t' := .int) (Or.inr (hw _ (List.mem_of_getElem? (i := 30) rfl))) (Or.inl (hw _ (List.mem_of_getElem? (i := 42) rfl))) (by decide) (by decide) (by decide))),
   (q.2.2.2.2.2.2.2.1).other W (Or.inr (slot_ne (C := "com/example/whenever/whenever/internal/engine/Rows") (t := .int) (t' := .int) (Or.inl (hw _ (List.mem_of_getElem? (i := 38) rfl))) (Or.inl (hw _ (List.mem_of_getElem? (i := 42) rfl))) (by decide) (by decide) (by decide))),
   (q.2.2.2.2.2.2.2.2.1).other W (Or.inr (slot_ne (C := "com/example/whenever/whenever/internal/engine/Rows") (t := (.object "com/example/whenever/whenever/internal/engine/Rows$LaterBlocks")) (t' := .int) (Or.inl (hw _ (List.mem_of_getElem? (i := 40) rfl))) (Or.inl (hw _ (List.mem_of_getElem? (i := 42) rfl))) (by decide) (by decide) (by decide))),
   (q.2.2.2.2.2.2.2.2.2).same W⟩
theorem own_Obj0.ext {Z : State} {h h' : Heap} {a : Addr} {v0 : Value} {v1 : Value} {v2 : Int32} {v3 : Value} {v4 : Int32} {v5 : Int32} {v6 : Int32} {v7 : Value} {v8 : Int32} (q : own_Obj0 Z h a v0 v1 v2 v3 v4 v5 v6 v7 v8) (E : Ext h h') : own_Obj0 Z h' a v0 v1 v2 v3 v4 v5 v6 v7 v8 :=
  ⟨q.1.ext E, (q.2.1).ext E, (q.2.2.1).ext E, (q.2.2.2.1).ext E, (q.2.2.2.2.1).ext E, (q.2.2.2.2.2.1).ext E, (q.2.2.2.2.2.2.1).ext E, (q.2.2.2.2.2.2.2.1).ext E, (q.2.2.2.2.2.2.2.2.1).ext E, (q.2.2.2.2.2.2.2.2.2).ext E⟩
theorem own_Obj0.other {Z : State} {h h' : Heap} {a b : Addr} {sl : Nat} {w : Value} {v0 : Value} {v1 : Value} {v2 : Int32} {v3 : Value} {v4 : Int32} {v5 : Int32} {v6 : Int32} {v7 : Value} {v8 : Int32} (q : own_Obj0 Z h a v0 v1 v2 v3 v4 v5 v6 v7 v8) (W : Wr h h' b sl w) (ne : a ≠ b) : own_Obj0 Z h' a v0 v1 v2 v3 v4 v5 v6 v7 v8 :=
  ⟨q.1.wr W, (q.2.1).other W (Or.inl ne), (q.2.2.1).other W (Or.inl ne), (q.2.2.2.1).other W (Or.inl ne), (q.2.2.2.2.1).other W (Or.inl ne), (q.2.2.2.2.2.1).other W (Or.inl ne), (q.2.2.2.2.2.2.1).other W (Or.inl ne), (q.2.2.2.2.2.2.2.1).other W (Or.inl ne), (q.2.2.2.2.2.2.2.2.1).other W (Or.inl ne), (q.2.2.2.2.2.2.2.2.2).other W (Or.inl ne)⟩
theorem own_Obj0.keep {Z : State} {h h' : Heap} {a : Addr} {xs : List Addr} {v0 : Value} {v1 : Value} {v2 : Int32} {v3 : Value} {v4 : Int32} {v5 : Int32} {v6 : Int32} {v7 : Value} {v8 : Int32} (q : own_Obj0 Z h a v0 v1 v2 v3 v4 v5 v6 v7 v8) (K : Keep h h' xs) (ne : a ∉ xs) : own_Obj0 Z h' a v0 v1 v2 v3 v4 v5 v6 v7 v8 :=
  ⟨q.1.keep K, (q.2.1).keep K ne, (q.2.2.1).keep K ne, (q.2.2.2.1).keep K ne, (q.2.2.2.2.1).keep K ne, (q.2.2.2.2.2.1).keep K ne, (q.2.2.2.2.2.2.1).keep K ne, (q.2.2.2.2.2.2.2.1).keep K ne, (q.2.2.2.2.2.2.2.2.1).keep K ne, (q.2.2.2.2.2.2.2.2.2).keep K ne⟩
theorem own_arrKeep {Z : State} {h h' : Heap} {a : Addr} {xs : List Addr} {cl : Cell} {ty : FieldType} (q : Arr Z h a cl ty) (K : Keep h h' xs) (ne : a ∉ xs) : Arr Z h' a cl ty := ⟨K.2.1 a cl q.1 ne, q.2⟩
def own_Rows (Z : State) (h : Heap) (n0 : Nat) (w0 b A1 A2 x1 x2 : Addr) (k1 k2 : ClassId) (en kk rf cap : Int32) : Prop :=
  own_Obj0 Z h b (.ref A1) (.ref A2) en (.ref w0) kk rf (0 : Int32) .null cap ∧ Arv Z h A1 k1 (.array .int) 1 [.ref x1] .null ∧ Arv Z h A2 k2 (.array (.object "java/lang/Object")) 1 [.ref x2] .null ∧ OvrA Z k1 .int "[I" ∧ OvrA Z k2 (.object "java/lang/Object") "[Ljava/lang/Object;" ∧ b ≠ A1 ∧ b ≠ A2 ∧ A1 ≠ A2 ∧ n0 ≤ b ∧ n0 ≤ A1 ∧ n0 ≤ A2
theorem own_tab3 {Z s : State} {a0 a1 : Array Value} (hw : ∀ d ∈ tables_1, d.before a0 Z = true) (hZ : Z.Warmed39 s.vm) : Jvm.Free.CopyOfC.Copy3.tab.before a1 s = true := by
  unfold Jvm.Free.CopyOfC.Copy3.tab
  refine (conj_holds (args := a1) (first := s) (o := none) (s := s) (idx := []) _ _).mpr ⟨mvT hZ (hw _ (List.mem_of_getElem? (i := 72) rfl)), fun d hd => ?_⟩
  simp only [List.mem_cons, List.not_mem_nil, or_false] at hd
  rcases hd with rfl | rfl | rfl | rfl | rfl | rfl | rfl | rfl | rfl | rfl | rfl
  · exact mvT hZ (hw _ (List.mem_of_getElem? (i := 74) rfl))
  · exact Cond.arrayOver_alike hZ.alike (hw _ (List.mem_of_getElem? (i := 75) rfl))
  · exact mvT hZ (hw _ (List.mem_of_getElem? (i := 55) rfl))
  · exact mvT hZ (hw _ (List.mem_of_getElem? (i := 56) rfl))
  · exact mvT hZ (hw _ (List.mem_of_getElem? (i := 49) rfl))
  · exact mvT hZ (hw _ (List.mem_of_getElem? (i := 57) rfl))
  · exact mvT hZ (hw _ (List.mem_of_getElem? (i := 58) rfl))
  · exact mvT hZ (hw _ (List.mem_of_getElem? (i := 61) rfl))
  · exact mvT hZ (hw _ (List.mem_of_getElem? (i := 59) rfl))
  · exact mvT hZ (hw _ (List.mem_of_getElem? (i := 60) rfl))
  · exact mvT hZ (hw _ (List.mem_of_getElem? (i := 73) rfl))
theorem own_tab2 {Z s : State} {a0 a1 : Array Value} (hw : ∀ d ∈ tables_1, d.before a0 Z = true) (hZ : Z.Warmed39 s.vm) : Jvm.Free.CopyOfC.Copy2.tab.before a1 s = true := by
  unfold Jvm.Free.CopyOfC.Copy2.tab
  refine (conj_holds (args := a1) (first := s) (o := none) (s := s) (idx := []) _ _).mpr ⟨mvT hZ (hw _ (List.mem_of_getElem? (i := 64) rfl)), fun d hd => ?_⟩
  simp only [Jvm.Free.CopyOfC.Copy2.siteAtoms, List.mem_append, List.mem_cons, List.not_mem_nil, or_false] at hd
  rcases hd with (rfl | rfl | rfl | rfl | rfl | rfl | rfl | rfl) | rfl
  · exact mvT hZ (hw _ (List.mem_of_getElem? (i := 65) rfl))
  · exact mvT hZ (hw _ (List.mem_of_getElem? (i := 66) rfl))
  · exact mvT hZ (hw _ (List.mem_of_getElem? (i := 68) rfl))
  · exact mvT hZ (hw _ (List.mem_of_getElem? (i := 67) rfl))
  · exact mvT hZ (hw _ (List.mem_of_getElem? (i := 69) rfl))
  · exact mvT hZ (hw _ (List.mem_of_getElem? (i := 70) rfl))
  · exact mvT hZ (hw _ (List.mem_of_getElem? (i := 71) rfl))
  · exact mvT hZ (hw _ (List.mem_of_getElem? (i := 53) rfl))
  · exact own_tab3 hw hZ
theorem own_pdC2 : parseMethodDescriptor "([Ljava/lang/Object;I)[Ljava/lang/Object;" = some ⟨[.array (.object "java/lang/Object"), .int], some (.array (.object "java/lang/Object"))⟩ := by decide +kernel
section OwnCp
variable {p : Program} {l : Launch} {e : Env} {R : Room} {s : State} {m : MethodId} {args : Array Value} {below : List Frame} {meth : Method} {c : Code} {T : State} {locs : List Loc} {cells slots : Nat} {Z : State} {a0 : Array Value} {h : Heap}
/-- Arrays.copyOf(Object[], int) of an empty Object[]: a new Object[n] -/
theorem own_cpR (X : Stand p l e R s m args below meth c T locs cells slots) (hx : p.tables.exec = Jvm.exec) (hZ : Z.Warmed39 s.vm) (hw : ∀ d ∈ tables_1, d.before a0 Z = true) (hown : s.vm.findClass "com/example/whenever/whenever/internal/engine/Rows" = some m.cls) (eT : T.heap = h) {w mr : Addr} {kw : ClassId} {n : Int32}
    (Ew : Exa Z h w "[Ljava/lang/Object;") (Vw : Arv Z h w kw (.object "java/lang/Object") 0 [] .null) (M : Mir Z "[Ljava/lang/Object;" mr) (hn : 0 ≤ n.toInt) (hn2 : n.toInt ≤ 32) {g : JFrame} (hg : g.method = m) (hsize : g.locals.size = c.maxLocals) {rest : List Value} (hs : g.stack = .int n :: .ref w :: rest) (hd : decode c.code g.pc = .ok (.invokestatic 84, 3))
    (hf : 4 ≤ R.frames) {W : Nat} (hW : 2 * g.monitorRoom + (rest.map fun v => v.category).sum ≤ W) (hlo : W + 77 ≤ R.locals) (hc : cells + 1 ≤ R.cells) (hl : slots + 32 ≤ R.slots) :
    ∃ T' h' cA, Stand p l e R s m args below meth c T' locs (cells + 1) (slots + 32) ∧ T'.heap = h' ∧ Ext h h' ∧ Arr Z h' h.size (newA cA (.object "java/lang/Object") n) (.object "java/lang/Object") ∧ Exa Z h' h.size "[Ljava/lang/Object;" ∧ Ovr Z cA "java/lang/Object" ∧
      ∀ target, Steps p.tables e below (T'.setTop { g with pc := g.pc + 3, stack := .ref h.size :: rest }) target → Steps p.tables e below (T.setTop g) target := by
  obtain ⟨cs, As, -, Ss, -, -, -⟩ := Vw
  obtain ⟨c1, k1, i1, i2, i3, i4, -⟩ := Ew
  cases i1.symm.trans As.1
  have size0 : cs.slots.size = 0 := by rw [Ss]; rfl
  obtain ⟨cObj, oa, kk, o1, -, j2, o3, j1⟩ := Cond.arrayOver_spec (hw _ (List.mem_of_getElem? (i := 75) rfl))
  have j1' : Z.vm.findClass "[Ljava/lang/Object;" = some oa := j1
  cases i2.symm.trans j1'
  obtain ⟨mc, mk, m1, m2, m3, -⟩ := M
  cases i2.symm.trans m1
  cases j2.symm.trans m2
  obtain ⟨kObj, o2, -⟩ := Vm.findClass_spec o1
  have n31 : n.toNatClampNeg ≤ 32 := by simp only [Int32.toNatClampNeg]; omega
  have vmn : ∀ q, cs.vm ≠ .statics q := fun q hq => by rw [hq] at i4; cases i4
  obtain ⟨mAR, nAR⟩ := Cond.code_named (mvT (args := #[]) hZ (hw _ (List.mem_of_getElem? (i := 64) rfl)))
  have fAR : s.vm.findClass "java/util/Arrays" = some mAR.cls := findClass_of_methodNamed nAR
  let G : Jvm.Free.CopyOfC.Copy3.G := { orig := w, cs := cs, n := n, mir := mr, cOA := cs.cls, cObj := cObj, cAR := mAR.cls }
  obtain ⟨v, vm₁, ⟨T', L', k', n'⟩, hW1, X', ⟨hv', hcell, hl', hk', hn', keep⟩, st⟩ := Jvm.LawKit.callS X hx (y := (⟨"java/util/Arrays", "copyOf", "([Ljava/lang/Object;I)[Ljava/lang/Object;"⟩ : MethodName)) hown (mvT hZ (hw _ (List.mem_of_getElem? (i := 62) rfl))) (mvT hZ (hw _ (List.mem_of_getElem? (i := 63) rfl))) (mvT hZ (hw _ (List.mem_of_getElem? (i := 53) rfl))) (mvT hZ (hw _ (List.mem_of_getElem? (i := 64) rfl))) (by decide)
    (Jvm.Free.CopyOfC.Copy2.pays (K := 32) G (own_tab2 hw hZ) hf hlo) (g := g) hg hsize (argsL := [.ref w, .int n]) (rest := rest) (lenOf own_pdC2 rfl) hs hW hd (fun vm₁ hwm => by
      have al := hwm.alike
      have fc : ∀ {C : String} {cc : ClassId}, Z.vm.findClass C = some cc → vm₁.findClass C = some cc := fun {C cc} q => by rw [al.findClass, hZ.alike.findClass]; exact q
      obtain ⟨kA, a1, a2⟩ := (hZ.alike.trans al).2.2 _ _ j2
      obtain ⟨kO, b1, b2⟩ := (hZ.alike.trans al).2.2 _ _ o2
      refine ⟨hc, hl, rfl, ⟨rfl, by show T.heap[w]? = _; rw [eT]; exact i1, As.2.2, vmn, ⟨kA, cObj, .object "java/lang/Object", a1, by rw [a2]; exact o3, rfl⟩, fc i2, ⟨kA, a1, by rw [a2]; exact o3, by rw [a2]; exact m3⟩, fc o1, ⟨kO, b1⟩, by show vm₁.findClass _ = _; rw [al.findClass]; exact fAR, hn, n31, ?_, ?_, ?_⟩, ?_, rfl⟩
      · show n.toNatClampNeg * 4 ≤ 536870912; omega
      · show cs.slots.size < 2 ^ 31; rw [size0]; decide
      · intro i hi; exact absurd hi (by show ¬ i < cs.slots.size; rw [size0]; exact Nat.not_lt_zero _)
      · exact notFace_of_selects (args := #[]) (mvT (s := T.setVm vm₁) (wtrans hZ hwm) (hw _ (List.mem_of_getElem? (i := 68) rfl))))
  dsimp only [Pt.U, Pt.locs, Pt.cells, Pt.slots] at X' hv' hcell hl' hk' hn' keep st
  subst hv' hl' hk' hn'
  have hsz : (T.setVm vm₁).heap.size = h.size := by show T.heap.size = _; rw [eT]
  rw [hsz] at hcell st
  have mn0 : Jvm.Free.CopyOfC.Copy3.mn G = 0 := by
    show (if n < cs.slots.size.toInt32 then n else cs.slots.size.toInt32) = 0
    rw [size0]
    have e0 : (0 : Nat).toInt32 = 0 := rfl
    rw [e0, if_neg]
    rw [Int32.lt_iff_toInt_lt]; have : (0 : Int32).toInt = 0 := rfl
    omega
  rw [mn0] at hcell
  have hcell' : T'.heap[h.size]? = some (newA cs.cls (.object "java/lang/Object") n) := hcell
  refine ⟨T', T'.heap, cs.cls, X'.mono (Nat.le_refl _) (Nat.add_le_add_left n31 _), rfl, ⟨Nat.le_of_lt (Array.getElem?_eq_some_iff.mp hcell').1, fun a c q => keep a c (by show T.heap[a]? = _; rw [eT]; exact q)⟩, ⟨hcell', ⟨by simp [newA], kk, j2, cObj, o3⟩, by simp [newA]⟩, ⟨_, kk, hcell', i2, j2, rfl, fun q => by rw [o3] at q; cases q⟩, ⟨kk, cObj, j2, o3, o1⟩, st⟩
end OwnCp
theorem own_selG {Z s : State} {a0 a1 : Array Value} (hw : ∀ d ∈ tables_1, d.before a0 Z = true) (hZ : Z.Warmed39 s.vm) : (Jvm.Cond.selects "com/example/whenever/whenever/internal/engine/Rows" (⟨"com/example/whenever/whenever/internal/engine/Rows", "grow", "()V"⟩ : MethodName) (⟨"com/example/whenever/whenever/internal/engine/Rows", "grow", "()V"⟩ : MethodName)).before a1 s = true := by
  have w := mvT (args := a1) hZ (hw _ (List.mem_of_getElem? (i := 35) rfl))
  obtain ⟨cc, r, mm, f1, -, f3, -, mk, f5, f6⟩ := Cond.selects_spec w
  have e : mm.cls = cc := Option.some.inj ((findClass_of_methodNamed f3).symm.trans f1)
  subst e
  exact Jvm.Stand.selects_self_of_private (y := (⟨"com/example/whenever/whenever/internal/engine/Rows", "grow", "()V"⟩ : MethodName)) f1 f5 f6 (Cond.privateMethod_at (mvP hZ (hw _ (List.mem_of_getElem? (i := 45) rfl)) (args := #[]))) (mvT hZ (hw _ (List.mem_of_getElem? (i := 44) rfl))) (by decide)
theorem pn0 : plainName "com/example/whenever/whenever/internal/engine/Rows" = true := by first | (simp [plainName, overriddenIn]; done) | decide +kernel
theorem pn1 : plainFor (⟨"java/lang/Math", "max", "(II)I"⟩ : MethodName) = true := by decide +kernel
theorem pn2 : plainFor (⟨"java/lang/Math", "min", "(II)I"⟩ : MethodName) = true := by decide +kernel
theorem pn3 : plainName "java/util/Arrays" = true := by first | (simp [plainName, overriddenIn]; done) | decide +kernel
theorem pn4 : plainName "com/example/whenever/whenever/internal/engine/RowsSetIntPinLaw" = true := by first | (simp [plainName, overriddenIn]; done) | decide +kernel
theorem pd0 : parseMethodDescriptor "(II)V" = some ⟨[.int, .int], none⟩ := by decide +kernel
theorem pd1 : parseMethodDescriptor "(II)I" = some ⟨[.int, .int], some .int⟩ := by decide +kernel
theorem pd2 : parseMethodDescriptor "([II)[I" = some ⟨[(.array .int), .int], some (.array .int)⟩ := by decide +kernel
theorem pd3 : parseMethodDescriptor "()V" = some ⟨[], none⟩ := by decide +kernel
theorem pd4 : parseMethodDescriptor "()I" = some ⟨[], some .int⟩ := by decide +kernel
theorem pd5 : parseMethodDescriptor "(III)V" = some ⟨[.int, .int, .int], none⟩ := by decide +kernel
theorem d1_0 : decode prog_105_method_1_code 0 = .ok (.aload_n 0, 1) := by decide +kernel
theorem d1_1 : decode prog_105_method_1_code 1 = .ok (.invokespecial 3, 3) := by decide +kernel
theorem d1_4 : decode prog_105_method_1_code 4 = .ok (.aload_n 0, 1) := by decide +kernel
theorem d1_5 : decode prog_105_method_1_code 5 = .ok (.iconst 1, 1) := by decide +kernel
theorem d1_6 : decode prog_105_method_1_code 6 = .ok (.anewarray 9, 3) := by decide +kernel
theorem d1_9 : decode prog_105_method_1_code 9 = .ok (.dup, 1) := by decide +kernel
theorem d1_10 : decode prog_105_method_1_code 10 = .ok (.iconst 0, 1) := by decide +kernel
theorem d1_11 : decode prog_105_method_1_code 11 = .ok (.getstatic 11, 3) := by decide +kernel
theorem d1_14 : decode prog_105_method_1_code 14 = .ok (.aastore, 1) := by decide +kernel
theorem d1_15 : decode prog_105_method_1_code 15 = .ok (.putfield 14, 3) := by decide +kernel
theorem d1_18 : decode prog_105_method_1_code 18 = .ok (.aload_n 0, 1) := by decide +kernel
theorem d1_19 : decode prog_105_method_1_code 19 = .ok (.iconst 1, 1) := by decide +kernel
theorem d1_20 : decode prog_105_method_1_code 20 = .ok (.anewarray 18, 3) := by decide +kernel
theorem d1_23 : decode prog_105_method_1_code 23 = .ok (.dup, 1) := by decide +kernel
theorem d1_24 : decode prog_105_method_1_code 24 = .ok (.iconst 0, 1) := by decide +kernel
theorem d1_25 : decode prog_105_method_1_code 25 = .ok (.getstatic 20, 3) := by decide +kernel
theorem d1_28 : decode prog_105_method_1_code 28 = .ok (.aastore, 1) := by decide +kernel
theorem d1_29 : decode prog_105_method_1_code 29 = .ok (.putfield 23, 3) := by decide +kernel
theorem d1_32 : decode prog_105_method_1_code 32 = .ok (.aload_n 0, 1) := by decide +kernel
theorem d1_33 : decode prog_105_method_1_code 33 = .ok (.iconst 1, 1) := by decide +kernel
theorem d1_34 : decode prog_105_method_1_code 34 = .ok (.putfield 27, 3) := by decide +kernel
theorem d1_37 : decode prog_105_method_1_code 37 = .ok (.aload_n 0, 1) := by decide +kernel
theorem d1_38 : decode prog_105_method_1_code 38 = .ok (.getstatic 11, 3) := by decide +kernel
theorem d1_41 : decode prog_105_method_1_code 41 = .ok (.putfield 31, 3) := by decide +kernel
theorem d1_44 : decode prog_105_method_1_code 44 = .ok (.iload_n 1, 1) := by decide +kernel
theorem d1_45 : decode prog_105_method_1_code 45 = .ok (.iconst 1, 1) := by decide +kernel
theorem d1_46 : decode prog_105_method_1_code 46 = .ok (.if_icmp .ge 13, 3) := by decide +kernel
theorem d1_59 : decode prog_105_method_1_code 59 = .ok (.aload_n 0, 1) := by decide +kernel
theorem d1_60 : decode prog_105_method_1_code 60 = .ok (.iload_n 1, 1) := by decide +kernel
theorem d1_61 : decode prog_105_method_1_code 61 = .ok (.putfield 41, 3) := by decide +kernel
theorem d1_64 : decode prog_105_method_1_code 64 = .ok (.aload_n 0, 1) := by decide +kernel
theorem d1_65 : decode prog_105_method_1_code 65 = .ok (.iload_n 2, 1) := by decide +kernel
theorem d1_66 : decode prog_105_method_1_code 66 = .ok (.putfield 44, 3) := by decide +kernel
theorem d1_69 : decode prog_105_method_1_code 69 = .ok (.return_, 1) := by decide +kernel
theorem d3_0 : decode prog_105_method_2_code 0 = .ok (.aload_n 0, 1) := by decide +kernel
theorem d3_1 : decode prog_105_method_2_code 1 = .ok (.getfield 47, 3) := by decide +kernel
theorem d3_4 : decode prog_105_method_2_code 4 = .ok (.ifCond .eq 20, 3) := by decide +kernel
theorem d3_24 : decode prog_105_method_2_code 24 = .ok (.aload_n 0, 1) := by decide +kernel
theorem d3_25 : decode prog_105_method_2_code 25 = .ok (.getfield 54, 3) := by decide +kernel
theorem d3_28 : decode prog_105_method_2_code 28 = .ok (.ifnull 17, 3) := by decide +kernel
theorem d3_45 : decode prog_105_method_2_code 45 = .ok (.aload_n 0, 1) := by decide +kernel
theorem d3_46 : decode prog_105_method_2_code 46 = .ok (.getfield 27, 3) := by decide +kernel
theorem d3_49 : decode prog_105_method_2_code 49 = .ok (.aload_n 0, 1) := by decide +kernel
theorem d3_50 : decode prog_105_method_2_code 50 = .ok (.getfield 64, 3) := by decide +kernel
theorem d3_53 : decode prog_105_method_2_code 53 = .ok (.if_icmp .lt 7, 3) := by decide +kernel
theorem d3_56 : decode prog_105_method_2_code 56 = .ok (.aload_n 0, 1) := by decide +kernel
theorem d3_57 : decode prog_105_method_2_code 57 = .ok (.invokevirtual 67, 3) := by decide +kernel
theorem d3_60 : decode prog_105_method_2_code 60 = .ok (.aload_n 0, 1) := by decide +kernel
theorem d3_61 : decode prog_105_method_2_code 61 = .ok (.getfield 27, 3) := by decide +kernel
theorem d3_64 : decode prog_105_method_2_code 64 = .ok (.istore_n 1, 1) := by decide +kernel
theorem d3_65 : decode prog_105_method_2_code 65 = .ok (.aload_n 0, 1) := by decide +kernel
theorem d3_66 : decode prog_105_method_2_code 66 = .ok (.dup, 1) := by decide +kernel
theorem d3_67 : decode prog_105_method_2_code 67 = .ok (.getfield 27, 3) := by decide +kernel
theorem d3_70 : decode prog_105_method_2_code 70 = .ok (.iconst 1, 1) := by decide +kernel
theorem d3_71 : decode prog_105_method_2_code 71 = .ok (.iadd, 1) := by decide +kernel
theorem d3_72 : decode prog_105_method_2_code 72 = .ok (.putfield 27, 3) := by decide +kernel
theorem d3_75 : decode prog_105_method_2_code 75 = .ok (.aload_n 0, 1) := by decide +kernel
theorem d3_76 : decode prog_105_method_2_code 76 = .ok (.getfield 54, 3) := by decide +kernel
theorem d3_79 : decode prog_105_method_2_code 79 = .ok (.ifnull 19, 3) := by decide +kernel
theorem d3_98 : decode prog_105_method_2_code 98 = .ok (.iload_n 1, 1) := by decide +kernel
theorem d3_99 : decode prog_105_method_2_code 99 = .ok (.ireturn, 1) := by decide +kernel
theorem d4_0 : decode prog_105_method_3_code 0 = .ok (.aload_n 0, 1) := by decide +kernel
theorem d4_1 : decode prog_105_method_3_code 1 = .ok (.getfield 64, 3) := by decide +kernel
theorem d4_4 : decode prog_105_method_3_code 4 = .ok (.sipush 4096, 3) := by decide +kernel
theorem d4_7 : decode prog_105_method_3_code 7 = .ok (.if_icmp .ge 67, 3) := by decide +kernel
theorem d4_10 : decode prog_105_method_3_code 10 = .ok (.aload_n 0, 1) := by decide +kernel
theorem d4_11 : decode prog_105_method_3_code 11 = .ok (.bipush 8, 2) := by decide +kernel
theorem d4_13 : decode prog_105_method_3_code 13 = .ok (.iconst 2, 1) := by decide +kernel
theorem d4_14 : decode prog_105_method_3_code 14 = .ok (.aload_n 0, 1) := by decide +kernel
theorem d4_15 : decode prog_105_method_3_code 15 = .ok (.getfield 64, 3) := by decide +kernel
theorem d4_18 : decode prog_105_method_3_code 18 = .ok (.imul, 1) := by decide +kernel
theorem d4_19 : decode prog_105_method_3_code 19 = .ok (.invokestatic 73, 3) := by decide +kernel
theorem d4_22 : decode prog_105_method_3_code 22 = .ok (.putfield 64, 3) := by decide +kernel
theorem d4_25 : decode prog_105_method_3_code 25 = .ok (.aload_n 0, 1) := by decide +kernel
theorem d4_26 : decode prog_105_method_3_code 26 = .ok (.getfield 14, 3) := by decide +kernel
theorem d4_29 : decode prog_105_method_3_code 29 = .ok (.iconst 0, 1) := by decide +kernel
theorem d4_30 : decode prog_105_method_3_code 30 = .ok (.aload_n 0, 1) := by decide +kernel
theorem d4_31 : decode prog_105_method_3_code 31 = .ok (.getfield 14, 3) := by decide +kernel
theorem d4_34 : decode prog_105_method_3_code 34 = .ok (.iconst 0, 1) := by decide +kernel
theorem d4_35 : decode prog_105_method_3_code 35 = .ok (.aaload, 1) := by decide +kernel
theorem d4_36 : decode prog_105_method_3_code 36 = .ok (.aload_n 0, 1) := by decide +kernel
theorem d4_37 : decode prog_105_method_3_code 37 = .ok (.getfield 64, 3) := by decide +kernel
theorem d4_40 : decode prog_105_method_3_code 40 = .ok (.aload_n 0, 1) := by decide +kernel
theorem d4_41 : decode prog_105_method_3_code 41 = .ok (.getfield 41, 3) := by decide +kernel
theorem d4_44 : decode prog_105_method_3_code 44 = .ok (.imul, 1) := by decide +kernel
theorem d4_45 : decode prog_105_method_3_code 45 = .ok (.invokestatic 78, 3) := by decide +kernel
theorem d4_48 : decode prog_105_method_3_code 48 = .ok (.aastore, 1) := by decide +kernel
theorem d4_49 : decode prog_105_method_3_code 49 = .ok (.aload_n 0, 1) := by decide +kernel
theorem d4_50 : decode prog_105_method_3_code 50 = .ok (.getfield 23, 3) := by decide +kernel
theorem d4_53 : decode prog_105_method_3_code 53 = .ok (.iconst 0, 1) := by decide +kernel
theorem d4_54 : decode prog_105_method_3_code 54 = .ok (.aload_n 0, 1) := by decide +kernel
theorem d4_55 : decode prog_105_method_3_code 55 = .ok (.getfield 23, 3) := by decide +kernel
theorem d4_58 : decode prog_105_method_3_code 58 = .ok (.iconst 0, 1) := by decide +kernel
theorem d4_59 : decode prog_105_method_3_code 59 = .ok (.aaload, 1) := by decide +kernel
theorem d4_60 : decode prog_105_method_3_code 60 = .ok (.aload_n 0, 1) := by decide +kernel
theorem d4_61 : decode prog_105_method_3_code 61 = .ok (.getfield 64, 3) := by decide +kernel
theorem d4_64 : decode prog_105_method_3_code 64 = .ok (.aload_n 0, 1) := by decide +kernel
theorem d4_65 : decode prog_105_method_3_code 65 = .ok (.getfield 44, 3) := by decide +kernel
theorem d4_68 : decode prog_105_method_3_code 68 = .ok (.imul, 1) := by decide +kernel
theorem d4_69 : decode prog_105_method_3_code 69 = .ok (.invokestatic 84, 3) := by decide +kernel
theorem d4_72 : decode prog_105_method_3_code 72 = .ok (.aastore, 1) := by decide +kernel
theorem d4_73 : decode prog_105_method_3_code 73 = .ok (.return_, 1) := by decide +kernel
theorem d5_0 : decode jdk_29_method_65_code 0 = .ok (.iload_n 0, 1) := by decide +kernel
theorem d5_1 : decode jdk_29_method_65_code 1 = .ok (.iload_n 1, 1) := by decide +kernel
theorem d5_2 : decode jdk_29_method_65_code 2 = .ok (.if_icmp .lt 7, 3) := by decide +kernel
theorem d5_5 : decode jdk_29_method_65_code 5 = .ok (.iload_n 0, 1) := by decide +kernel
theorem d5_6 : decode jdk_29_method_65_code 6 = .ok (.goto 4, 3) := by decide +kernel
theorem d5_10 : decode jdk_29_method_65_code 10 = .ok (.ireturn, 1) := by decide +kernel
theorem d6_0 : decode jdk_65_method_123_code 0 = .ok (.iload_n 1, 1) := by decide +kernel
theorem d6_1 : decode jdk_65_method_123_code 1 = .ok (.aload_n 0, 1) := by decide +kernel
theorem d6_2 : decode jdk_65_method_123_code 2 = .ok (.arraylength, 1) := by decide +kernel
theorem d6_3 : decode jdk_65_method_123_code 3 = .ok (.if_icmp .ne 11, 3) := by decide +kernel
theorem d6_14 : decode jdk_65_method_123_code 14 = .ok (.iload_n 1, 1) := by decide +kernel
theorem d6_15 : decode jdk_65_method_123_code 15 = .ok (.newarray .int, 2) := by decide +kernel
theorem d6_17 : decode jdk_65_method_123_code 17 = .ok (.astore_n 2, 1) := by decide +kernel
theorem d6_18 : decode jdk_65_method_123_code 18 = .ok (.aload_n 0, 1) := by decide +kernel
theorem d6_19 : decode jdk_65_method_123_code 19 = .ok (.iconst 0, 1) := by decide +kernel
theorem d6_20 : decode jdk_65_method_123_code 20 = .ok (.aload_n 2, 1) := by decide +kernel
theorem d6_21 : decode jdk_65_method_123_code 21 = .ok (.iconst 0, 1) := by decide +kernel
theorem d6_22 : decode jdk_65_method_123_code 22 = .ok (.aload_n 0, 1) := by decide +kernel
theorem d6_23 : decode jdk_65_method_123_code 23 = .ok (.arraylength, 1) := by decide +kernel
theorem d6_24 : decode jdk_65_method_123_code 24 = .ok (.iload_n 1, 1) := by decide +kernel
theorem d6_25 : decode jdk_65_method_123_code 25 = .ok (.invokestatic 304, 3) := by decide +kernel
theorem d6_28 : decode jdk_65_method_123_code 28 = .ok (.invokestatic 150, 3) := by decide +kernel
theorem d6_31 : decode jdk_65_method_123_code 31 = .ok (.aload_n 2, 1) := by decide +kernel
theorem d6_32 : decode jdk_65_method_123_code 32 = .ok (.areturn, 1) := by decide +kernel
theorem d7_0 : decode jdk_29_method_69_code 0 = .ok (.iload_n 0, 1) := by decide +kernel
theorem d7_1 : decode jdk_29_method_69_code 1 = .ok (.iload_n 1, 1) := by decide +kernel
theorem d7_2 : decode jdk_29_method_69_code 2 = .ok (.if_icmp .gt 7, 3) := by decide +kernel
theorem d7_5 : decode jdk_29_method_69_code 5 = .ok (.iload_n 0, 1) := by decide +kernel
theorem d7_6 : decode jdk_29_method_69_code 6 = .ok (.goto 4, 3) := by decide +kernel
theorem d7_9 : decode jdk_29_method_69_code 9 = .ok (.iload_n 1, 1) := by decide +kernel
theorem d7_10 : decode jdk_29_method_69_code 10 = .ok (.ireturn, 1) := by decide +kernel
theorem d10_0 : decode prog_105_method_8_code 0 = .ok (.aload_n 0, 1) := by decide +kernel
theorem d10_1 : decode prog_105_method_8_code 1 = .ok (.getfield 14, 3) := by decide +kernel
theorem d10_4 : decode prog_105_method_8_code 4 = .ok (.iload_n 1, 1) := by decide +kernel
theorem d10_5 : decode prog_105_method_8_code 5 = .ok (.bipush 12, 2) := by decide +kernel
theorem d10_7 : decode prog_105_method_8_code 7 = .ok (.iushr, 1) := by decide +kernel
theorem d10_8 : decode prog_105_method_8_code 8 = .ok (.aaload, 1) := by decide +kernel
theorem d10_9 : decode prog_105_method_8_code 9 = .ok (.iload_n 1, 1) := by decide +kernel
theorem d10_10 : decode prog_105_method_8_code 10 = .ok (.sipush 4095, 3) := by decide +kernel
theorem d10_13 : decode prog_105_method_8_code 13 = .ok (.iand, 1) := by decide +kernel
theorem d10_14 : decode prog_105_method_8_code 14 = .ok (.aload_n 0, 1) := by decide +kernel
theorem d10_15 : decode prog_105_method_8_code 15 = .ok (.getfield 41, 3) := by decide +kernel
theorem d10_18 : decode prog_105_method_8_code 18 = .ok (.imul, 1) := by decide +kernel
theorem d10_19 : decode prog_105_method_8_code 19 = .ok (.iload_n 2, 1) := by decide +kernel
theorem d10_20 : decode prog_105_method_8_code 20 = .ok (.iadd, 1) := by decide +kernel
theorem d10_21 : decode prog_105_method_8_code 21 = .ok (.iload_n 3, 1) := by decide +kernel
theorem d10_22 : decode prog_105_method_8_code 22 = .ok (.iastore, 1) := by decide +kernel
theorem d10_23 : decode prog_105_method_8_code 23 = .ok (.return_, 1) := by decide +kernel
theorem d11_0 : decode prog_105_method_7_code 0 = .ok (.aload_n 0, 1) := by decide +kernel
theorem d11_1 : decode prog_105_method_7_code 1 = .ok (.getfield 14, 3) := by decide +kernel
theorem d11_4 : decode prog_105_method_7_code 4 = .ok (.iload_n 1, 1) := by decide +kernel
theorem d11_5 : decode prog_105_method_7_code 5 = .ok (.bipush 12, 2) := by decide +kernel
theorem d11_7 : decode prog_105_method_7_code 7 = .ok (.iushr, 1) := by decide +kernel
theorem d11_8 : decode prog_105_method_7_code 8 = .ok (.aaload, 1) := by decide +kernel
theorem d11_9 : decode prog_105_method_7_code 9 = .ok (.iload_n 1, 1) := by decide +kernel
theorem d11_10 : decode prog_105_method_7_code 10 = .ok (.sipush 4095, 3) := by decide +kernel
theorem d11_13 : decode prog_105_method_7_code 13 = .ok (.iand, 1) := by decide +kernel
theorem d11_14 : decode prog_105_method_7_code 14 = .ok (.aload_n 0, 1) := by decide +kernel
theorem d11_15 : decode prog_105_method_7_code 15 = .ok (.getfield 41, 3) := by decide +kernel
theorem d11_18 : decode prog_105_method_7_code 18 = .ok (.imul, 1) := by decide +kernel
theorem d11_19 : decode prog_105_method_7_code 19 = .ok (.iload_n 2, 1) := by decide +kernel
theorem d11_20 : decode prog_105_method_7_code 20 = .ok (.iadd, 1) := by decide +kernel
theorem d11_21 : decode prog_105_method_7_code 21 = .ok (.iaload, 1) := by decide +kernel
theorem d11_22 : decode prog_105_method_7_code 22 = .ok (.ireturn, 1) := by decide +kernel
def Q1_1 (Z : State) (b : Addr) (kk rf : Int32) (w0 w1 mr : Addr) (kw0 kw1 : ClassId) (h0 : Heap) (n0 : Nat) (v : Option Value) (h : Heap) (L : List Loc) : Prop := Fr n0 L ∧ Old Z n0 h ∧ n0 ≤ h.size ∧ Keep h0 h [b] ∧ v = none ∧ ∃ (A1 A2 : Addr) (k1 k2 : ClassId), own_Rows Z h n0 w0 b A1 A2 w0 w1 k1 k2 (1 : Int32) kk rf (0 : Int32)
set_option maxRecDepth 65536 in
set_option maxHeartbeats 40000000 in
theorem rm1_1 (l : Launch) (Z : State) (a0 : Array Value) (hw : ∀ d ∈ tables_1, d.before a0 Z = true) (ws : List Jvm.Cond) (b : Addr) (kk rf : Int32) (w0 w1 mr : Addr) (kw0 kw1 : ClassId) (h0 : Heap) (n0 : Nat) (Z0 : n0 ≤ h0.size) (K : own_K Z Z.heap w0 w1 mr kw0 kw1) (OL : Old Z n0 h0) (hk1 : ¬ (kk < (1 : Int32))) (OB_b : own_Obj0 Z h0 b .null .null (0 : Int32) .null (0 : Int32) (0 : Int32) (0 : Int32) .null (0 : Int32)) (g_b : n0 ≤ b) :
    MetFree l (⟨"com/example/whenever/whenever/internal/engine/Rows", "<init>", "(II)V"⟩ : MethodName) (head1 (Jvm.Cond.code (⟨"com/example/whenever/whenever/internal/engine/Rows", "<init>", "(II)V"⟩ : MethodName) prog_105_method_1_code 3 none :: ws) ({ frames := 1, cells := 2, slots := 2, locals := 12 } : Room)) (fun a U => a = #[(.ref b), (.int kk), (.int rf)] ∧ Z.Warmed39 U.vm ∧ U.heap = h0) (fun _ _ _ _ _ => True) (fun _ U o U' => ∃ v L, o = .returned v ∧ Q1_1 Z b kk rf w0 w1 mr kw0 kw1 h0 n0 v U'.heap L ∧ FrameEnd U o U' L ({ frames := 1, cells := 2, slots := 2, locals := 12 } : Room).cells ({ frames := 1, cells := 2, slots := 2, locals := 12 } : Room).slots) := by
  refine MetFree.of_bodySF (plainFor_of_name pn0) hisR ?_
  intro p e s m args below meth c s₁ Bd hml0 hP hK
  obtain ⟨rfl, hZ, hh⟩ := hP
  have hx := Bd.exec
  have hby := Bd.bytes
  have hml : c.maxLocals = 3 := hml0
  have hown : s.vm.findClass "com/example/whenever/whenever/internal/engine/Rows" = some m.cls := findClass_of_methodNamed Bd.named
  have hnm := (name_of_methodNamed Bd.named Bd.method).1
  have hlk := Bd.notSynchronized
  have X0 : Stand p l e ({ frames := 1, cells := 2, slots := 2, locals := 12 } : Room) s m #[(.ref b), (.int kk), (.int rf)] below meth c s₁ [] 0 0 := Stand.of_body Bd
  have e0 : s₁.heap = h0 := by rw [← hh, Bd.state]; rfl
  have K0 := K
  obtain ⟨S_w0, S_w1, E_w0, E_w1, V_w0, V_w1, MR⟩ := K
  show own_Go p e below s (Q1_1 Z b kk rf w0 w1 mr kw0 kw1 h0 n0) 2 2 (s₁.setTop (entryFrame m #[(.ref b), (.int kk), (.int rf)] 3))
  rw [show entryFrame m #[(.ref b), (.int kk), (.int rf)] 3 = mkF m 0 #[.val (.ref b), .val (.int kk), .val (.int rf)] [] from by first | (simp [entryFrame, mkF, argsToLocals, Value.category]; done) | rfl]
  have KP := Keep.refl h0 [b]
  show own_Go p e below s _ _ _ (s₁.setTop (mkF m 0 #[.val (.ref b), .val (.int kk), .val (.int rf)] []))
  refine own_via (fun _ k => XS.aloadN X0.here hx rfl (hb hby d1_0) rfl rfl k) ?_
  show own_Go p e below s _ _ _ (s₁.setTop (mkF m 1 #[.val (.ref b), .val (.int kk), .val (.int rf)] [(.ref b)]))
  obtain ⟨T1, X1, e1, st1⟩ := initO X0 hx hZ hown (hw _ (List.mem_of_getElem? (i := 6) rfl)) (hw _ (List.mem_of_getElem? (i := 7) rfl)) (hw _ (List.mem_of_getElem? (i := 8) rfl)) e0 (g := (mkF m 1 #[.val (.ref b), .val (.int kk), .val (.int rf)] [(.ref b)])) rfl (by rw [hml]; rfl) rfl (hb hby d1_1) (by decide) (W := 0) (by show 2 * 0 + _ ≤ _; exact Nat.le_of_eq rfl) (by decide)
  refine own_via st1 ?_
  show own_Go p e below s _ _ _ (T1.setTop (mkF m 4 #[.val (.ref b), .val (.int kk), .val (.int rf)] []))
  refine own_via (fun _ k => XS.aloadN X1.here hx rfl (hb hby d1_4) rfl rfl k) ?_
  show own_Go p e below s _ _ _ (T1.setTop (mkF m 5 #[.val (.ref b), .val (.int kk), .val (.int rf)] [(.ref b)]))
  refine own_via (fun _ k => XS.iconst X1.here hx rfl (hb hby d1_5) k) ?_
  show own_Go p e below s _ _ _ (T1.setTop (mkF m 6 #[.val (.ref b), .val (.int kk), .val (.int rf)] [(.int (1 : Int32)), (.ref b)]))
  obtain ⟨T2, h2, k2, X2, e2, E2, A2, -, OV_b2, st2⟩ := newRA X1 hx hZ hown (ty := .int) (C := "[I") (by decide) (hw _ (List.mem_of_getElem? (i := 9) rfl)) (hw _ (List.mem_of_getElem? (i := 10) rfl)) e1 (g := (mkF m 6 #[.val (.ref b), .val (.int kk), .val (.int rf)] [(.int (1 : Int32)), (.ref b)])) rfl (hb hby d1_6) rfl (by decide) (cap := 1) (by decide) (by decide) (by decide) (by decide) (ad := "[[I") (by decide)
  obtain ⟨b2, g2⟩ : ∃ z, z = h0.size := ⟨_, rfl⟩
  rw [← g2] at A2 st2
  have ne_b_b2 : b ≠ b2 := Nat.ne_of_lt (Nat.lt_of_lt_of_le OB_b.1.lt (Nat.le_of_eq g2.symm))
  have sz_b2 : h0.size ≤ b2 := Nat.le_trans KP.1 (Nat.le_of_eq g2.symm)
  have g_b2 : n0 ≤ b2 := Nat.le_trans Z0 (Nat.le_of_eq g2.symm)
  have Z0 := Nat.le_trans Z0 E2.1
  have OL := OL.ext E2
  have KP := KP.ext E2
  have OB_b := OB_b.ext E2
  have V_b2 : Arv Z h2 b2 k2 (.array .int) (1 : Int32) [.null] .null := (Arv.new A2 (by decide)).pad (pad_rep [] .null 1)
  refine own_via st2 ?_
  show own_Go p e below s _ _ _ (T2.setTop (mkF m 9 #[.val (.ref b), .val (.int kk), .val (.int rf)] [(.ref b2), (.ref b)]))
  refine own_via (fun _ k => XS.dup X2.here hx rfl (hb hby d1_9) rfl rfl k) ?_
  show own_Go p e below s _ _ _ (T2.setTop (mkF m 10 #[.val (.ref b), .val (.int kk), .val (.int rf)] [(.ref b2), (.ref b2), (.ref b)]))
  refine own_via (fun _ k => XS.iconst X2.here hx rfl (hb hby d1_10) k) ?_
  show own_Go p e below s _ _ _ (T2.setTop (mkF m 11 #[.val (.ref b), .val (.int kk), .val (.int rf)] [(.int (0 : Int32)), (.ref b2), (.ref b2), (.ref b)]))
  obtain ⟨T3, X3, e3, st3⟩ := getS2 X2 hx hZ hown (host := "") (Or.inl (hw _ (List.mem_of_getElem? (i := 11) rfl))) Via.refl e2 (S_w0.ext OL.2) (g := (mkF m 11 #[.val (.ref b), .val (.int kk), .val (.int rf)] [(.int (0 : Int32)), (.ref b2), (.ref b2), (.ref b)])) rfl (hb hby d1_11)
  refine own_via st3 ?_
  show own_Go p e below s _ _ _ (T3.setTop (mkF m 14 #[.val (.ref b), .val (.int kk), .val (.int rf)] [(.ref w0), (.int (0 : Int32)), (.ref b2), (.ref b2), (.ref b)]))
  have Vx4 := V_b2
  obtain ⟨cl4, Ar4, q4, S4, N4, H4, G4⟩ := Vx4
  have hin4 : ¬ ((0 : Int32) < 0 ∨ cl4.slots.size ≤ ((0 : Int32)).toNatClampNeg) := inb_of S4 ⟨by decide, by decide⟩
  have Sto4 : Sto Z h2 b2 (.ref w0) := Sto.ofVA Ar4 q4 OV_b2 (Ins.self (E_w0.ext OL.2))
  obtain ⟨T4, h4, X4, e4, W4, st4⟩ := stR X3 hx hZ e3 Ar4 (j := (0 : Int32)) hin4 rfl Sto4 (g := (mkF m 14 #[.val (.ref b), .val (.int kk), .val (.int rf)] [(.ref w0), (.int (0 : Int32)), (.ref b2), (.ref b2), (.ref b)])) rfl rfl (hb hby d1_14)
  have V_b2 : Arv Z h4 b2 k2 (.array .int) (1 : Int32) [(.ref w0)] .null := Arv.set Ar4 q4 S4 N4 H4 G4 rfl W4 0 rfl (Nat.le_of_ble_eq_true rfl)
  have N4 := Fr.snoc X4 (Fr.nil n0) g_b2
  have Z0 := Nat.le_trans Z0 (Keep.of_wr W4).1
  have OL := OL.wr W4 g_b2
  have KP := KP.wr W4 (Or.inr sz_b2)
  have OB_b := OB_b.other W4 ne_b_b2
  refine own_via st4 ?_
  show own_Go p e below s _ _ _ (T4.setTop (mkF m 15 #[.val (.ref b), .val (.int kk), .val (.int rf)] [(.ref b2), (.ref b)]))
  obtain ⟨T5, h5, X5, e5, W5, st5⟩ := putF X4 hx hZ hown (host := "") (Or.inl (hw _ (List.mem_of_getElem? (i := 14) rfl))) Via.refl e4 (OB_b.2.1) OB_b.1 (Or.inl (hw _ (List.mem_of_getElem? (i := 15) rfl))) (hw _ (List.mem_of_getElem? (i := 1) rfl)) (ty := (.array (.array .int))) (by decide) rfl rfl (g := (mkF m 15 #[.val (.ref b), .val (.int kk), .val (.int rf)] [(.ref b2), (.ref b)])) rfl rfl (hb hby d1_15)
  have OB_b := own_put0_0 hw OB_b W5
  have N5 := Fr.snoc X5 N4 g_b
  have Z0 := Nat.le_trans Z0 (Keep.of_wr W5).1
  have OL := OL.wr W5 g_b
  have KP := KP.wr W5 (Or.inl (List.mem_of_getElem? (i := 0) rfl))
  have V_b2 := V_b2.other W5 (Ne.symm ne_b_b2)
  refine own_via st5 ?_
  show own_Go p e below s _ _ _ (T5.setTop (mkF m 18 #[.val (.ref b), .val (.int kk), .val (.int rf)] []))
  refine own_via (fun _ k => XS.aloadN X5.here hx rfl (hb hby d1_18) rfl rfl k) ?_
  show own_Go p e below s _ _ _ (T5.setTop (mkF m 19 #[.val (.ref b), .val (.int kk), .val (.int rf)] [(.ref b)]))
  refine own_via (fun _ k => XS.iconst X5.here hx rfl (hb hby d1_19) k) ?_
  show own_Go p e below s _ _ _ (T5.setTop (mkF m 20 #[.val (.ref b), .val (.int kk), .val (.int rf)] [(.int (1 : Int32)), (.ref b)]))
  obtain ⟨T6, h6, k6, X6, e6, E6, A6, -, OV_b6, st6⟩ := newRA X5 hx hZ hown (ty := (.object "java/lang/Object")) (C := "[Ljava/lang/Object;") (by decide) (hw _ (List.mem_of_getElem? (i := 16) rfl)) (hw _ (List.mem_of_getElem? (i := 17) rfl)) e5 (g := (mkF m 20 #[.val (.ref b), .val (.int kk), .val (.int rf)] [(.int (1 : Int32)), (.ref b)])) rfl (hb hby d1_20) rfl (by decide) (cap := 1) (by decide) (by decide) (by decide) (by decide) (ad := "[[Ljava/lang/Object;") (by decide)
  obtain ⟨b6, g6⟩ : ∃ z, z = h5.size := ⟨_, rfl⟩
  rw [← g6] at A6 st6
  have ne_b_b6 : b ≠ b6 := Nat.ne_of_lt (Nat.lt_of_lt_of_le OB_b.1.lt (Nat.le_of_eq g6.symm))
  have ne_b2_b6 : b2 ≠ b6 := Nat.ne_of_lt (Nat.lt_of_lt_of_le V_b2.lt (Nat.le_of_eq g6.symm))
  have sz_b6 : h0.size ≤ b6 := Nat.le_trans KP.1 (Nat.le_of_eq g6.symm)
  have g_b6 : n0 ≤ b6 := Nat.le_trans Z0 (Nat.le_of_eq g6.symm)
  have Z0 := Nat.le_trans Z0 E6.1
  have OL := OL.ext E6
  have KP := KP.ext E6
  have OB_b := OB_b.ext E6
  have V_b2 := V_b2.ext E6
  have V_b6 : Arv Z h6 b6 k6 (.array (.object "java/lang/Object")) (1 : Int32) [.null] .null := (Arv.new A6 (by decide)).pad (pad_rep [] .null 1)
  refine own_via st6 ?_
  show own_Go p e below s _ _ _ (T6.setTop (mkF m 23 #[.val (.ref b), .val (.int kk), .val (.int rf)] [(.ref b6), (.ref b)]))
  refine own_via (fun _ k => XS.dup X6.here hx rfl (hb hby d1_23) rfl rfl k) ?_
  show own_Go p e below s _ _ _ (T6.setTop (mkF m 24 #[.val (.ref b), .val (.int kk), .val (.int rf)] [(.ref b6), (.ref b6), (.ref b)]))
  refine own_via (fun _ k => XS.iconst X6.here hx rfl (hb hby d1_24) k) ?_
  show own_Go p e below s _ _ _ (T6.setTop (mkF m 25 #[.val (.ref b), .val (.int kk), .val (.int rf)] [(.int (0 : Int32)), (.ref b6), (.ref b6), (.ref b)]))
  obtain ⟨T7, X7, e7, st7⟩ := getS2 X6 hx hZ hown (host := "") (Or.inl (hw _ (List.mem_of_getElem? (i := 18) rfl))) Via.refl e6 (S_w1.ext OL.2) (g := (mkF m 25 #[.val (.ref b), .val (.int kk), .val (.int rf)] [(.int (0 : Int32)), (.ref b6), (.ref b6), (.ref b)])) rfl (hb hby d1_25)
  refine own_via st7 ?_
  show own_Go p e below s _ _ _ (T7.setTop (mkF m 28 #[.val (.ref b), .val (.int kk), .val (.int rf)] [(.ref w1), (.int (0 : Int32)), (.ref b6), (.ref b6), (.ref b)]))
  have Vx8 := V_b6
  obtain ⟨cl8, Ar8, q8, S8, N8, H8, G8⟩ := Vx8
  have hin8 : ¬ ((0 : Int32) < 0 ∨ cl8.slots.size ≤ ((0 : Int32)).toNatClampNeg) := inb_of S8 ⟨by decide, by decide⟩
  have Sto8 : Sto Z h6 b6 (.ref w1) := Sto.ofVA Ar8 q8 OV_b6 (Ins.self (E_w1.ext OL.2))
  obtain ⟨T8, h8, X8, e8, W8, st8⟩ := stR X7 hx hZ e7 Ar8 (j := (0 : Int32)) hin8 rfl Sto8 (g := (mkF m 28 #[.val (.ref b), .val (.int kk), .val (.int rf)] [(.ref w1), (.int (0 : Int32)), (.ref b6), (.ref b6), (.ref b)])) rfl rfl (hb hby d1_28)
  have V_b6 : Arv Z h8 b6 k6 (.array (.object "java/lang/Object")) (1 : Int32) [(.ref w1)] .null := Arv.set Ar8 q8 S8 N8 H8 G8 rfl W8 0 rfl (Nat.le_of_ble_eq_true rfl)
  have N8 := Fr.snoc X8 N5 g_b6
  have Z0 := Nat.le_trans Z0 (Keep.of_wr W8).1
  have OL := OL.wr W8 g_b6
  have KP := KP.wr W8 (Or.inr sz_b6)
  have OB_b := OB_b.other W8 ne_b_b6
  have V_b2 := V_b2.other W8 ne_b2_b6
  refine own_via st8 ?_
  show own_Go p e below s _ _ _ (T8.setTop (mkF m 29 #[.val (.ref b), .val (.int kk), .val (.int rf)] [(.ref b6), (.ref b)]))
  obtain ⟨T9, h9, X9, e9, W9, st9⟩ := putF X8 hx hZ hown (host := "") (Or.inl (hw _ (List.mem_of_getElem? (i := 21) rfl))) Via.refl e8 (OB_b.2.2.1) OB_b.1 (Or.inl (hw _ (List.mem_of_getElem? (i := 22) rfl))) (hw _ (List.mem_of_getElem? (i := 1) rfl)) (ty := (.array (.array (.object "java/lang/Object")))) (by decide) rfl rfl (g := (mkF m 29 #[.val (.ref b), .val (.int kk), .val (.int rf)] [(.ref b6), (.ref b)])) rfl rfl (hb hby d1_29)
  have OB_b := own_put0_1 hw OB_b W9
  have N9 := Fr.snoc X9 N8 g_b
  have Z0 := Nat.le_trans Z0 (Keep.of_wr W9).1
  have OL := OL.wr W9 g_b
  have KP := KP.wr W9 (Or.inl (List.mem_of_getElem? (i := 0) rfl))
  have V_b2 := V_b2.other W9 (Ne.symm ne_b_b2)
  have V_b6 := V_b6.other W9 (Ne.symm ne_b_b6)
  refine own_via st9 ?_
  show own_Go p e below s _ _ _ (T9.setTop (mkF m 32 #[.val (.ref b), .val (.int kk), .val (.int rf)] []))
  refine own_via (fun _ k => XS.aloadN X9.here hx rfl (hb hby d1_32) rfl rfl k) ?_
  show own_Go p e below s _ _ _ (T9.setTop (mkF m 33 #[.val (.ref b), .val (.int kk), .val (.int rf)] [(.ref b)]))
  refine own_via (fun _ k => XS.iconst X9.here hx rfl (hb hby d1_33) k) ?_
  show own_Go p e below s _ _ _ (T9.setTop (mkF m 34 #[.val (.ref b), .val (.int kk), .val (.int rf)] [(.int (1 : Int32)), (.ref b)]))
  obtain ⟨T10, h10, X10, e10, W10, st10⟩ := putF X9 hx hZ hown (host := "") (Or.inl (hw _ (List.mem_of_getElem? (i := 23) rfl))) Via.refl e9 (OB_b.2.2.2.1) OB_b.1 (Or.inl (hw _ (List.mem_of_getElem? (i := 24) rfl))) (hw _ (List.mem_of_getElem? (i := 1) rfl)) (ty := .int) (by decide) rfl rfl (g := (mkF m 34 #[.val (.ref b), .val (.int kk), .val (.int rf)] [(.int (1 : Int32)), (.ref b)])) rfl rfl (hb hby d1_34)
  have OB_b := own_put0_2 hw OB_b W10
  have N10 := Fr.snoc X10 N9 g_b
  have Z0 := Nat.le_trans Z0 (Keep.of_wr W10).1
  have OL := OL.wr W10 g_b
  have KP := KP.wr W10 (Or.inl (List.mem_of_getElem? (i := 0) rfl))
  have V_b2 := V_b2.other W10 (Ne.symm ne_b_b2)
  have V_b6 := V_b6.other W10 (Ne.symm ne_b_b6)
  refine own_via st10 ?_
  show own_Go p e below s _ _ _ (T10.setTop (mkF m 37 #[.val (.ref b), .val (.int kk), .val (.int rf)] []))
  refine own_via (fun _ k => XS.aloadN X10.here hx rfl (hb hby d1_37) rfl rfl k) ?_
  show own_Go p e below s _ _ _ (T10.setTop (mkF m 38 #[.val (.ref b), .val (.int kk), .val (.int rf)] [(.ref b)]))
  obtain ⟨T11, X11, e11, st11⟩ := getS2 X10 hx hZ hown (host := "") (Or.inl (hw _ (List.mem_of_getElem? (i := 11) rfl))) Via.refl e10 (S_w0.ext OL.2) (g := (mkF m 38 #[.val (.ref b), .val (.int kk), .val (.int rf)] [(.ref b)])) rfl (hb hby d1_38)
  refine own_via st11 ?_
  show own_Go p e below s _ _ _ (T11.setTop (mkF m 41 #[.val (.ref b), .val (.int kk), .val (.int rf)] [(.ref w0), (.ref b)]))
  obtain ⟨T12, h12, X12, e12, W12, st12⟩ := putF X11 hx hZ hown (host := "") (Or.inl (hw _ (List.mem_of_getElem? (i := 25) rfl))) Via.refl e11 (OB_b.2.2.2.2.1) OB_b.1 (Or.inl (hw _ (List.mem_of_getElem? (i := 26) rfl))) (hw _ (List.mem_of_getElem? (i := 1) rfl)) (ty := (.array .int)) (by decide) rfl rfl (g := (mkF m 41 #[.val (.ref b), .val (.int kk), .val (.int rf)] [(.ref w0), (.ref b)])) rfl rfl (hb hby d1_41)
  have OB_b := own_put0_3 hw OB_b W12
  have N12 := Fr.snoc X12 N10 g_b
  have Z0 := Nat.le_trans Z0 (Keep.of_wr W12).1
  have OL := OL.wr W12 g_b
  have KP := KP.wr W12 (Or.inl (List.mem_of_getElem? (i := 0) rfl))
  have V_b2 := V_b2.other W12 (Ne.symm ne_b_b2)
  have V_b6 := V_b6.other W12 (Ne.symm ne_b_b6)
  refine own_via st12 ?_
  show own_Go p e below s _ _ _ (T12.setTop (mkF m 44 #[.val (.ref b), .val (.int kk), .val (.int rf)] []))
  refine own_via (fun _ k => XS.iloadN X12.here hx rfl (hb hby d1_44) rfl k) ?_
  show own_Go p e below s _ _ _ (T12.setTop (mkF m 45 #[.val (.ref b), .val (.int kk), .val (.int rf)] [(.int kk)]))
  refine own_via (fun _ k => XS.iconst X12.here hx rfl (hb hby d1_45) k) ?_
  show own_Go p e below s _ _ _ (T12.setTop (mkF m 46 #[.val (.ref b), .val (.int kk), .val (.int rf)] [(.int (1 : Int32)), (.int kk)]))
  refine own_via (fun _ k => XS.icmpYes X12.here hx rfl (pc0 := 46) (pc' := 59) rfl (hb hby d1_46) rfl (flt hk1).2.1 (by decide) (by decide) k) ?_
  show own_Go p e below s _ _ _ (T12.setTop (mkF m 59 #[.val (.ref b), .val (.int kk), .val (.int rf)] []))
  refine own_via (fun _ k => XS.aloadN X12.here hx rfl (hb hby d1_59) rfl rfl k) ?_
  show own_Go p e below s _ _ _ (T12.setTop (mkF m 60 #[.val (.ref b), .val (.int kk), .val (.int rf)] [(.ref b)]))
  refine own_via (fun _ k => XS.iloadN X12.here hx rfl (hb hby d1_60) rfl k) ?_
  show own_Go p e below s _ _ _ (T12.setTop (mkF m 61 #[.val (.ref b), .val (.int kk), .val (.int rf)] [(.int kk), (.ref b)]))
  obtain ⟨T13, h13, X13, e13, W13, st13⟩ := putF X12 hx hZ hown (host := "") (Or.inl (hw _ (List.mem_of_getElem? (i := 27) rfl))) Via.refl e12 (OB_b.2.2.2.2.2.1) OB_b.1 (Or.inr ⟨(hw _ (List.mem_of_getElem? (i := 28) rfl)), rfl, hnm⟩) (hw _ (List.mem_of_getElem? (i := 1) rfl)) (ty := .int) (by decide) rfl rfl (g := (mkF m 61 #[.val (.ref b), .val (.int kk), .val (.int rf)] [(.int kk), (.ref b)])) rfl rfl (hb hby d1_61)
  have OB_b := own_put0_4 hw OB_b W13
  have N13 := Fr.snoc X13 N12 g_b
  have Z0 := Nat.le_trans Z0 (Keep.of_wr W13).1
  have OL := OL.wr W13 g_b
  have KP := KP.wr W13 (Or.inl (List.mem_of_getElem? (i := 0) rfl))
  have V_b2 := V_b2.other W13 (Ne.symm ne_b_b2)
  have V_b6 := V_b6.other W13 (Ne.symm ne_b_b6)
  refine own_via st13 ?_
  show own_Go p e below s _ _ _ (T13.setTop (mkF m 64 #[.val (.ref b), .val (.int kk), .val (.int rf)] []))
  refine own_via (fun _ k => XS.aloadN X13.here hx rfl (hb hby d1_64) rfl rfl k) ?_
  show own_Go p e below s _ _ _ (T13.setTop (mkF m 65 #[.val (.ref b), .val (.int kk), .val (.int rf)] [(.ref b)]))
  refine own_via (fun _ k => XS.iloadN X13.here hx rfl (hb hby d1_65) rfl k) ?_
  show own_Go p e below s _ _ _ (T13.setTop (mkF m 66 #[.val (.ref b), .val (.int kk), .val (.int rf)] [(.int rf), (.ref b)]))
  obtain ⟨T14, h14, X14, e14, W14, st14⟩ := putF X13 hx hZ hown (host := "") (Or.inl (hw _ (List.mem_of_getElem? (i := 29) rfl))) Via.refl e13 (OB_b.2.2.2.2.2.2.1) OB_b.1 (Or.inr ⟨(hw _ (List.mem_of_getElem? (i := 30) rfl)), rfl, hnm⟩) (hw _ (List.mem_of_getElem? (i := 1) rfl)) (ty := .int) (by decide) rfl rfl (g := (mkF m 66 #[.val (.ref b), .val (.int kk), .val (.int rf)] [(.int rf), (.ref b)])) rfl rfl (hb hby d1_66)
  have OB_b := own_put0_5 hw OB_b W14
  have N14 := Fr.snoc X14 N13 g_b
  have Z0 := Nat.le_trans Z0 (Keep.of_wr W14).1
  have OL := OL.wr W14 g_b
  have KP := KP.wr W14 (Or.inl (List.mem_of_getElem? (i := 0) rfl))
  have V_b2 := V_b2.other W14 (Ne.symm ne_b_b2)
  have V_b6 := V_b6.other W14 (Ne.symm ne_b_b6)
  refine own_via st14 ?_
  show own_Go p e below s _ _ _ (T14.setTop (mkF m 69 #[.val (.ref b), .val (.int kk), .val (.int rf)] []))
  exact own_retV X14 hx hlk Bd.returns (hb hby d1_69) (by rw [e14]; exact ⟨N14, OL, Z0, KP, rfl, b2, b6, k2, k6, OB_b, V_b2, V_b6, OV_b2, OV_b6, ne_b_b2, ne_b_b6, ne_b2_b6, g_b, g_b2, g_b6⟩) (by decide) (by decide)
def Q5_0 (w0 w1 mr : Addr) (kw0 kw1 : ClassId) (h0 : Heap) (v : Option Value) (h : Heap) (L : List Loc) : Prop := L = [] ∧ h = h0 ∧ ((v = some (.int (8 : Int32))))
set_option maxRecDepth 65536 in
set_option maxHeartbeats 40000000 in
theorem rm5_0 (l : Launch) (Z : State) (a0 : Array Value) (hw : ∀ d ∈ tables_1, d.before a0 Z = true) (ws : List Jvm.Cond) (w0 w1 mr : Addr) (kw0 kw1 : ClassId) (h0 : Heap) (n0 : Nat) (Z0 : n0 ≤ h0.size) (K : own_K Z Z.heap w0 w1 mr kw0 kw1) (OL : Old Z n0 h0) :
    MetFree l (⟨"java/lang/Math", "max", "(II)I"⟩ : MethodName) (head1 (Jvm.Cond.code (⟨"java/lang/Math", "max", "(II)I"⟩ : MethodName) jdk_29_method_65_code 2 (some .int) :: ws) ({ frames := 0, cells := 0, slots := 0, locals := 0 } : Room)) (fun a U => a = #[(.int (8 : Int32)), (.int ((2 : Int32) * (0 : Int32)))] ∧ Z.Warmed39 U.vm ∧ U.heap = h0) (fun _ _ _ _ _ => True) (fun _ U o U' => ∃ v L, o = .returned v ∧ Q5_0 w0 w1 mr kw0 kw1 h0 v U'.heap L ∧ FrameEnd U o U' L ({ frames := 0, cells := 0, slots := 0, locals := 0 } : Room).cells ({ frames := 0, cells := 0, slots := 0, locals := 0 } : Room).slots) := by
  refine MetFree.of_bodySF pn1 hisR ?_
  intro p e s m args below meth c s₁ Bd hml0 hP hK
  obtain ⟨rfl, hZ, hh⟩ := hP
  have hx := Bd.exec
  have hby := Bd.bytes
  have hml : c.maxLocals = 2 := hml0
  have hown : s.vm.findClass "java/lang/Math" = some m.cls := findClass_of_methodNamed Bd.named
  have hnm := (name_of_methodNamed Bd.named Bd.method).1
  have hlk := Bd.notSynchronized
  have X0 : Stand p l e ({ frames := 0, cells := 0, slots := 0, locals := 0 } : Room) s m #[(.int (8 : Int32)), (.int ((2 : Int32) * (0 : Int32)))] below meth c s₁ [] 0 0 := Stand.of_body Bd
  have e0 : s₁.heap = h0 := by rw [← hh, Bd.state]; rfl
  have K0 := K
  obtain ⟨S_w0, S_w1, E_w0, E_w1, V_w0, V_w1, MR⟩ := K
  show own_Go p e below s (Q5_0 w0 w1 mr kw0 kw1 h0) 0 0 (s₁.setTop (entryFrame m #[(.int (8 : Int32)), (.int ((2 : Int32) * (0 : Int32)))] 2))
  rw [show entryFrame m #[(.int (8 : Int32)), (.int ((2 : Int32) * (0 : Int32)))] 2 = mkF m 0 #[.val (.int (8 : Int32)), .val (.int ((2 : Int32) * (0 : Int32)))] [] from by first | (simp [entryFrame, mkF, argsToLocals, Value.category]; done) | rfl]
  show own_Go p e below s _ _ _ (s₁.setTop (mkF m 0 #[.val (.int (8 : Int32)), .val (.int ((2 : Int32) * (0 : Int32)))] []))
  refine own_via (fun _ k => XS.iloadN X0.here hx rfl (hb hby d5_0) rfl k) ?_
  show own_Go p e below s _ _ _ (s₁.setTop (mkF m 1 #[.val (.int (8 : Int32)), .val (.int ((2 : Int32) * (0 : Int32)))] [(.int (8 : Int32))]))
  refine own_via (fun _ k => XS.iloadN X0.here hx rfl (hb hby d5_1) rfl k) ?_
  show own_Go p e below s _ _ _ (s₁.setTop (mkF m 2 #[.val (.int (8 : Int32)), .val (.int ((2 : Int32) * (0 : Int32)))] [(.int ((2 : Int32) * (0 : Int32))), (.int (8 : Int32))]))
  refine own_via (fun _ k => XS.icmpNo X0.here hx rfl (hb hby d5_2) rfl (flt (by decide : ¬ ((8 : Int32) < ((2 : Int32) * (0 : Int32))))).1 k) ?_
  show own_Go p e below s _ _ _ (s₁.setTop (mkF m 5 #[.val (.int (8 : Int32)), .val (.int ((2 : Int32) * (0 : Int32)))] []))
  refine own_via (fun _ k => XS.iloadN X0.here hx rfl (hb hby d5_5) rfl k) ?_
  show own_Go p e below s _ _ _ (s₁.setTop (mkF m 6 #[.val (.int (8 : Int32)), .val (.int ((2 : Int32) * (0 : Int32)))] [(.int (8 : Int32))]))
  refine own_via (fun _ k => XS.goto X0.here hx rfl (pc0 := 6) (pc' := 10) rfl (hb hby d5_6) (by decide) (by decide) k) ?_
  show own_Go p e below s _ _ _ (s₁.setTop (mkF m 10 #[.val (.int (8 : Int32)), .val (.int ((2 : Int32) * (0 : Int32)))] [(.int (8 : Int32))]))
  exact own_retI X0 hx hlk Bd.returns (hb hby d5_10) ⟨rfl, e0, rfl⟩ (by decide) (by decide)
def Q7_0 (x1 : Int32) (w0 w1 mr : Addr) (kw0 kw1 : ClassId) (h0 : Heap) (v : Option Value) (h : Heap) (L : List Loc) : Prop := L = [] ∧ h = h0 ∧ ((x1 < (0 : Int32) ∧ v = some (.int x1)) ∨ (¬ (x1 < (0 : Int32)) ∧ v = some (.int (0 : Int32))))
set_option maxRecDepth 65536 in
set_option maxHeartbeats 40000000 in
theorem rm7_0 (l : Launch) (Z : State) (a0 : Array Value) (hw : ∀ d ∈ tables_1, d.before a0 Z = true) (ws : List Jvm.Cond) (x1 : Int32) (w0 w1 mr : Addr) (kw0 kw1 : ClassId) (h0 : Heap) (n0 : Nat) (Z0 : n0 ≤ h0.size) (K : own_K Z Z.heap w0 w1 mr kw0 kw1) (OL : Old Z n0 h0) :
    MetFree l (⟨"java/lang/Math", "min", "(II)I"⟩ : MethodName) (head1 (Jvm.Cond.code (⟨"java/lang/Math", "min", "(II)I"⟩ : MethodName) jdk_29_method_69_code 2 (some .int) :: ws) ({ frames := 0, cells := 0, slots := 0, locals := 0 } : Room)) (fun a U => a = #[(.int (0 : Int32)), (.int x1)] ∧ Z.Warmed39 U.vm ∧ U.heap = h0) (fun _ _ _ _ _ => True) (fun _ U o U' => ∃ v L, o = .returned v ∧ Q7_0 x1 w0 w1 mr kw0 kw1 h0 v U'.heap L ∧ FrameEnd U o U' L ({ frames := 0, cells := 0, slots := 0, locals := 0 } : Room).cells ({ frames := 0, cells := 0, slots := 0, locals := 0 } : Room).slots) := by
  refine MetFree.of_bodySF pn2 hisR ?_
  intro p e s m args below meth c s₁ Bd hml0 hP hK
  obtain ⟨rfl, hZ, hh⟩ := hP
  have hx := Bd.exec
  have hby := Bd.bytes
  have hml : c.maxLocals = 2 := hml0
  have hown : s.vm.findClass "java/lang/Math" = some m.cls := findClass_of_methodNamed Bd.named
  have hnm := (name_of_methodNamed Bd.named Bd.method).1
  have hlk := Bd.notSynchronized
  have X0 : Stand p l e ({ frames := 0, cells := 0, slots := 0, locals := 0 } : Room) s m #[(.int (0 : Int32)), (.int x1)] below meth c s₁ [] 0 0 := Stand.of_body Bd
  have e0 : s₁.heap = h0 := by rw [← hh, Bd.state]; rfl
  have K0 := K
  obtain ⟨S_w0, S_w1, E_w0, E_w1, V_w0, V_w1, MR⟩ := K
  show own_Go p e below s (Q7_0 x1 w0 w1 mr kw0 kw1 h0) 0 0 (s₁.setTop (entryFrame m #[(.int (0 : Int32)), (.int x1)] 2))
  rw [show entryFrame m #[(.int (0 : Int32)), (.int x1)] 2 = mkF m 0 #[.val (.int (0 : Int32)), .val (.int x1)] [] from by first | (simp [entryFrame, mkF, argsToLocals, Value.category]; done) | rfl]
  show own_Go p e below s _ _ _ (s₁.setTop (mkF m 0 #[.val (.int (0 : Int32)), .val (.int x1)] []))
  refine own_via (fun _ k => XS.iloadN X0.here hx rfl (hb hby d7_0) rfl k) ?_
  show own_Go p e below s _ _ _ (s₁.setTop (mkF m 1 #[.val (.int (0 : Int32)), .val (.int x1)] [(.int (0 : Int32))]))
  refine own_via (fun _ k => XS.iloadN X0.here hx rfl (hb hby d7_1) rfl k) ?_
  show own_Go p e below s _ _ _ (s₁.setTop (mkF m 2 #[.val (.int (0 : Int32)), .val (.int x1)] [(.int x1), (.int (0 : Int32))]))
  by_cases hc1 : x1 < (0 : Int32)
  · refine own_via (fun _ k => XS.icmpYes X0.here hx rfl (pc0 := 2) (pc' := 9) rfl (hb hby d7_2) rfl (tlt hc1).2.2.1 (by decide) (by decide) k) ?_
    show own_Go p e below s _ _ _ (s₁.setTop (mkF m 9 #[.val (.int (0 : Int32)), .val (.int x1)] []))
    refine own_via (fun _ k => XS.iloadN X0.here hx rfl (hb hby d7_9) rfl k) ?_
    show own_Go p e below s _ _ _ (s₁.setTop (mkF m 10 #[.val (.int (0 : Int32)), .val (.int x1)] [(.int x1)]))
    exact own_retI X0 hx hlk Bd.returns (hb hby d7_10) ⟨rfl, e0, Or.inl ⟨hc1, rfl⟩⟩ (by decide) (by decide)
  · refine own_via (fun _ k => XS.icmpNo X0.here hx rfl (hb hby d7_2) rfl (flt hc1).2.2.1 k) ?_
    show own_Go p e below s _ _ _ (s₁.setTop (mkF m 5 #[.val (.int (0 : Int32)), .val (.int x1)] []))
    refine own_via (fun _ k => XS.iloadN X0.here hx rfl (hb hby d7_5) rfl k) ?_
    show own_Go p e below s _ _ _ (s₁.setTop (mkF m 6 #[.val (.int (0 : Int32)), .val (.int x1)] [(.int (0 : Int32))]))
    refine own_via (fun _ k => XS.goto X0.here hx rfl (pc0 := 6) (pc' := 10) rfl (hb hby d7_6) (by decide) (by decide) k) ?_
    show own_Go p e below s _ _ _ (s₁.setTop (mkF m 10 #[.val (.int (0 : Int32)), .val (.int x1)] [(.int (0 : Int32))]))
    exact own_retI X0 hx hlk Bd.returns (hb hby d7_10) ⟨rfl, e0, Or.inr (⟨hc1, rfl⟩)⟩ (by decide) (by decide)
def Q6_1 (Z : State) (x1 : Int32) (w0 w1 mr : Addr) (kw0 kw1 : ClassId) (h0 : Heap) (n0 : Nat) (v : Option Value) (h : Heap) (L : List Loc) : Prop := Fr n0 L ∧ Old Z n0 h ∧ n0 ≤ h.size ∧ Keep h0 h [] ∧ ∃ (I : Addr) (kI : ClassId), v = some (.ref I) ∧ Arv Z h I kI .int x1 [] (.int 0) ∧ Exa Z h I "[I" ∧ h0.size ≤ I
set_option maxRecDepth 65536 in
set_option maxHeartbeats 40000000 in
theorem rm6_1 (l : Launch) (Z : State) (a0 : Array Value) (hw : ∀ d ∈ tables_1, d.before a0 Z = true) (ws : List Jvm.Cond) (x1 : Int32) (w0 w1 mr : Addr) (kw0 kw1 : ClassId) (h0 : Heap) (n0 : Nat) (Z0 : n0 ≤ h0.size) (K : own_K Z Z.heap w0 w1 mr kw0 kw1) (OL : Old Z n0 h0) (hb1 : 1 ≤ x1.toInt) (hb2 : x1.toInt ≤ 32) :
    MetFree l (⟨"java/util/Arrays", "copyOf", "([II)[I"⟩ : MethodName) (head1 (Jvm.Cond.code (⟨"java/util/Arrays", "copyOf", "([II)[I"⟩ : MethodName) jdk_65_method_123_code 3 (some (.array .int)) :: ws) ({ frames := 1, cells := 1, slots := 32, locals := 60 } : Room)) (fun a U => a = #[(.ref w0), (.int x1)] ∧ Z.Warmed39 U.vm ∧ U.heap = h0) (fun _ _ _ _ _ => True) (fun _ U o U' => ∃ v L, o = .returned v ∧ Q6_1 Z x1 w0 w1 mr kw0 kw1 h0 n0 v U'.heap L ∧ FrameEnd U o U' L ({ frames := 1, cells := 1, slots := 32, locals := 60 } : Room).cells ({ frames := 1, cells := 1, slots := 32, locals := 60 } : Room).slots) := by
  refine MetFree.of_bodySF (plainFor_of_name pn3) hisR ?_
  intro p e s m args below meth c s₁ Bd hml0 hP hK
  obtain ⟨rfl, hZ, hh⟩ := hP
  have hx := Bd.exec
  have hby := Bd.bytes
  have hml : c.maxLocals = 3 := hml0
  have hown : s.vm.findClass "java/util/Arrays" = some m.cls := findClass_of_methodNamed Bd.named
  have hnm := (name_of_methodNamed Bd.named Bd.method).1
  have hlk := Bd.notSynchronized
  have X0 : Stand p l e ({ frames := 1, cells := 1, slots := 32, locals := 60 } : Room) s m #[(.ref w0), (.int x1)] below meth c s₁ [] 0 0 := Stand.of_body Bd
  have e0 : s₁.heap = h0 := by rw [← hh, Bd.state]; rfl
  have K0 := K
  obtain ⟨S_w0, S_w1, E_w0, E_w1, V_w0, V_w1, MR⟩ := K
  show own_Go p e below s (Q6_1 Z x1 w0 w1 mr kw0 kw1 h0 n0) 1 32 (s₁.setTop (entryFrame m #[(.ref w0), (.int x1)] 3))
  rw [show entryFrame m #[(.ref w0), (.int x1)] 3 = mkF m 0 #[.val (.ref w0), .val (.int x1), .unset] [] from by first | (simp [entryFrame, mkF, argsToLocals, Value.category]; done) | rfl]
  have KP := Keep.refl h0 []
  have hne : ¬ (x1 = (0 : Int32)) := own_n0 hb1
  have hnn : ¬ (x1 < (0 : Int32)) := own_nneg hb1
  have hcap : x1.toNatClampNeg ≤ 32 := own_cap hb2
  show own_Go p e below s _ _ _ (s₁.setTop (mkF m 0 #[.val (.ref w0), .val (.int x1), .unset] []))
  refine own_via (fun _ k => XS.iloadN X0.here hx rfl (hb hby d6_0) rfl k) ?_
  show own_Go p e below s _ _ _ (s₁.setTop (mkF m 1 #[.val (.ref w0), .val (.int x1), .unset] [(.int x1)]))
  refine own_via (fun _ k => XS.aloadN X0.here hx rfl (hb hby d6_1) rfl rfl k) ?_
  show own_Go p e below s _ _ _ (s₁.setTop (mkF m 2 #[.val (.ref w0), .val (.int x1), .unset] [(.ref w0), (.int x1)]))
  have Vx1 := V_w0.ext OL.2
  obtain ⟨cl1, Ar1, q1, S1, N1, H1, G1⟩ := Vx1
  refine own_via (fun _ k => X0.arraylength hx (by rw [e0]; exact Ar1.1) (State.isArrayOf_alike hZ.alike Ar1.2.1) (g := (mkF m 2 #[.val (.ref w0), .val (.int x1), .unset] [(.ref w0), (.int x1)])) rfl rfl (hb hby d6_2) _ k) ?_
  rw [len_of S1 N1]
  show own_Go p e below s _ _ _ (s₁.setTop (mkF m 3 #[.val (.ref w0), .val (.int x1), .unset] [(.int (0 : Int32)), (.int x1)]))
  refine own_via (fun _ k => XS.icmpYes X0.here hx rfl (pc0 := 3) (pc' := 14) rfl (hb hby d6_3) rfl (feq hne).2 (by decide) (by decide) k) ?_
  show own_Go p e below s _ _ _ (s₁.setTop (mkF m 14 #[.val (.ref w0), .val (.int x1), .unset] []))
  refine own_via (fun _ k => XS.iloadN X0.here hx rfl (hb hby d6_14) rfl k) ?_
  show own_Go p e below s _ _ _ (s₁.setTop (mkF m 15 #[.val (.ref w0), .val (.int x1), .unset] [(.int x1)]))
  obtain ⟨T2, h2, k2, X2, e2, E2, A2, EX_b2, st2⟩ := newPE X0 hx hZ (hw _ (List.mem_of_getElem? (i := 31) rfl)) e0 (g := (mkF m 15 #[.val (.ref w0), .val (.int x1), .unset] [(.int x1)])) rfl (hb hby d6_15) rfl hnn (cap := 32) hcap (by decide) (by decide) (by decide) (ad := "[I") (by decide)
  obtain ⟨b2, g2⟩ : ∃ z, z = h0.size := ⟨_, rfl⟩
  rw [← g2] at A2 EX_b2 st2
  have sz_b2 : h0.size ≤ b2 := Nat.le_trans KP.1 (Nat.le_of_eq g2.symm)
  have g_b2 : n0 ≤ b2 := Nat.le_trans Z0 (Nat.le_of_eq g2.symm)
  have Z0 := Nat.le_trans Z0 E2.1
  have OL := OL.ext E2
  have KP := KP.ext E2
  have V_b2 : Arv Z h2 b2 k2 .int x1 [] (.int 0) := Arv.new A2 hnn
  refine own_via st2 ?_
  show own_Go p e below s _ _ _ (T2.setTop (mkF m 17 #[.val (.ref w0), .val (.int x1), .unset] [(.ref b2)]))
  refine own_via (fun _ k => XS.astoreN X2.here hx rfl (hb hby d6_17) rfl rfl (l' := #[.val (.ref w0), .val (.int x1), .val (.ref b2)]) rfl k) ?_
  show own_Go p e below s _ _ _ (T2.setTop (mkF m 18 #[.val (.ref w0), .val (.int x1), .val (.ref b2)] []))
  refine own_via (fun _ k => XS.aloadN X2.here hx rfl (hb hby d6_18) rfl rfl k) ?_
  show own_Go p e below s _ _ _ (T2.setTop (mkF m 19 #[.val (.ref w0), .val (.int x1), .val (.ref b2)] [(.ref w0)]))
  refine own_via (fun _ k => XS.iconst X2.here hx rfl (hb hby d6_19) k) ?_
  show own_Go p e below s _ _ _ (T2.setTop (mkF m 20 #[.val (.ref w0), .val (.int x1), .val (.ref b2)] [(.int (0 : Int32)), (.ref w0)]))
  refine own_via (fun _ k => XS.aloadN X2.here hx rfl (hb hby d6_20) rfl rfl k) ?_
  show own_Go p e below s _ _ _ (T2.setTop (mkF m 21 #[.val (.ref w0), .val (.int x1), .val (.ref b2)] [(.ref b2), (.int (0 : Int32)), (.ref w0)]))
  refine own_via (fun _ k => XS.iconst X2.here hx rfl (hb hby d6_21) k) ?_
  show own_Go p e below s _ _ _ (T2.setTop (mkF m 22 #[.val (.ref w0), .val (.int x1), .val (.ref b2)] [(.int (0 : Int32)), (.ref b2), (.int (0 : Int32)), (.ref w0)]))
  refine own_via (fun _ k => XS.aloadN X2.here hx rfl (hb hby d6_22) rfl rfl k) ?_
  show own_Go p e below s _ _ _ (T2.setTop (mkF m 23 #[.val (.ref w0), .val (.int x1), .val (.ref b2)] [(.ref w0), (.int (0 : Int32)), (.ref b2), (.int (0 : Int32)), (.ref w0)]))
  have Vx3 := V_w0.ext OL.2
  obtain ⟨cl3, Ar3, q3, S3, N3, H3, G3⟩ := Vx3
  refine own_via (fun _ k => X2.arraylength hx (by rw [e2]; exact Ar3.1) (State.isArrayOf_alike hZ.alike Ar3.2.1) (g := (mkF m 23 #[.val (.ref w0), .val (.int x1), .val (.ref b2)] [(.ref w0), (.int (0 : Int32)), (.ref b2), (.int (0 : Int32)), (.ref w0)])) rfl rfl (hb hby d6_23) _ k) ?_
  rw [len_of S3 N3]
  show own_Go p e below s _ _ _ (T2.setTop (mkF m 24 #[.val (.ref w0), .val (.int x1), .val (.ref b2)] [(.int (0 : Int32)), (.int (0 : Int32)), (.ref b2), (.int (0 : Int32)), (.ref w0)]))
  refine own_via (fun _ k => XS.iloadN X2.here hx rfl (hb hby d6_24) rfl k) ?_
  show own_Go p e below s _ _ _ (T2.setTop (mkF m 25 #[.val (.ref w0), .val (.int x1), .val (.ref b2)] [(.int x1), (.int (0 : Int32)), (.int (0 : Int32)), (.ref b2), (.int (0 : Int32)), (.ref w0)]))
  obtain ⟨_, _, ⟨T4, L4, k4, n4⟩, -, X4, ⟨Lc4, hQ4, l4, y4, z4⟩, st4⟩ := Jvm.LawKit.callS X2 hx (y := (⟨"java/lang/Math", "min", "(II)I"⟩ : MethodName)) hown (mvT hZ (hw _ (List.mem_of_getElem? (i := 55) rfl))) (mvT hZ (hw _ (List.mem_of_getElem? (i := 56) rfl))) (mvT hZ (hw _ (List.mem_of_getElem? (i := 49) rfl))) (mvT hZ (hw _ (List.mem_of_getElem? (i := 57) rfl))) (by decide) (backOf (W := 4) (rm7_0 l Z a0 hw [] x1 w0 w1 mr kw0 kw1 h2 n0 Z0 K0 OL) hZ (hw _ (List.mem_of_getElem? (i := 57) rfl)) (hw _ (List.mem_of_getElem? (i := 49) rfl)) (by decide) (by decide)) (g := (mkF m 25 #[.val (.ref w0), .val (.int x1), .val (.ref b2)] [(.int x1), (.int (0 : Int32)), (.int (0 : Int32)), (.ref b2), (.int (0 : Int32)), (.ref w0)])) rfl (by rw [hml]; rfl) (argsL := [(.int (0 : Int32)), (.int x1)]) (rest := [(.int (0 : Int32)), (.ref b2), (.int (0 : Int32)), (.ref w0)]) (lenOf pd1 rfl) rfl (by show 2 * 0 + _ ≤ _; exact Nat.le_of_eq rfl) (hb hby d6_25) (fun _ _ => ⟨rfl, e2, (by decide : 0 + 1 + 0 ≤ _), (by decide : 0 + 32 + 0 ≤ _)⟩)
  dsimp only [Pt.U, Pt.locs, Pt.cells, Pt.slots] at X4 l4 y4 z4 st4 hQ4
  subst l4 y4 z4
  obtain ⟨rfl, e4, hO4⟩ := hQ4
  rcases hO4 with ⟨hr4_0_0, rfl⟩ | ⟨hr4_1_0, rfl⟩
  · exact absurd hr4_0_0 hnn
  · refine own_via st4 ?_
    show own_Go p e below s _ _ _ (T4.setTop (mkF m 28 #[.val (.ref w0), .val (.int x1), .val (.ref b2)] [(.int (0 : Int32)), (.int (0 : Int32)), (.ref b2), (.int (0 : Int32)), (.ref w0)]))
    have Vx5 := V_w0.ext OL.2
    obtain ⟨T5, h5, L5, X5, e5, N5, K5, V_b2, st5⟩ := cpA X4 hx hZ hown (hw _ (List.mem_of_getElem? (i := 58) rfl)) (hw _ (List.mem_of_getElem? (i := 61) rfl)) (hw _ (List.mem_of_getElem? (i := 59) rfl)) (hw _ (List.mem_of_getElem? (i := 60) rfl)) e4 Vx5 V_b2 (us := []) (Or.inl ⟨rfl, rfl⟩) (by decide) (by decide) (by decide) (by decide) (Nat.zero_le _) rfl (by decide) (Fr.app (Fr.nil n0) (Fr.nil n0)) g_b2 (g := (mkF m 28 #[.val (.ref w0), .val (.int x1), .val (.ref b2)] [(.int (0 : Int32)), (.int (0 : Int32)), (.ref b2), (.int (0 : Int32)), (.ref w0)])) rfl (by rw [hml]; rfl) (rest := []) rfl (hb hby d6_28) (by decide) (W := 0) (by show 2 * 0 + _ ≤ _; exact Nat.le_of_eq rfl) (by decide)
    have V_b2 : Arv Z h5 b2 k2 .int x1 [] (.int 0) := V_b2
    have EX_b2 := EX_b2.keep K5
    have KP := KP.trans K5 (by intro x hx; cases List.mem_singleton.mp hx; exact Or.inr sz_b2)
    have OL := OL.keep K5 (by intro x hx; cases List.mem_singleton.mp hx; exact g_b2)
    have Z0 := Nat.le_trans Z0 K5.1
    refine own_via st5 ?_
    show own_Go p e below s _ _ _ (T5.setTop (mkF m 31 #[.val (.ref w0), .val (.int x1), .val (.ref b2)] []))
    refine own_via (fun _ k => XS.aloadN X5.here hx rfl (hb hby d6_31) rfl rfl k) ?_
    show own_Go p e below s _ _ _ (T5.setTop (mkF m 32 #[.val (.ref w0), .val (.int x1), .val (.ref b2)] [(.ref b2)]))
    exact own_retR X5 hx hlk Bd.returns rfl rfl (hb hby d6_32) (by rw [e5]; exact ⟨N5, OL, Z0, KP, b2, k2, rfl, V_b2, EX_b2, sz_b2⟩) (by decide) (by decide)
def Q4_1 (Z : State) (b A1 A2 : Addr) (k1 k2 : ClassId) (en kk rf : Int32) (w0 w1 mr : Addr) (kw0 kw1 : ClassId) (h0 : Heap) (n0 : Nat) (v : Option Value) (h : Heap) (L : List Loc) : Prop := Fr n0 L ∧ Old Z n0 h ∧ n0 ≤ h.size ∧ Keep h0 h [b, A1, A2] ∧ v = none ∧ ∃ (I R : Addr) (kI kR : ClassId), own_Rows Z h n0 w0 b A1 A2 I R k1 k2 en kk rf (8 : Int32) ∧ Arv Z h I kI .int ((8 : Int32) * kk) [] (.int 0) ∧ Arr Z h R (newA kR (.object "java/lang/Object") ((8 : Int32) * rf)) (.object "java/lang/Object") ∧ Ovr Z kR "java/lang/Object" ∧ b ≠ I ∧ A1 ≠ I ∧ A2 ≠ I ∧ b ≠ R ∧ A1 ≠ R ∧ A2 ≠ R ∧ I ≠ R ∧ h0.size ≤ I ∧ h0.size ≤ R
set_option maxRecDepth 65536 in
set_option maxHeartbeats 40000000 in
theorem rm4_1 (l : Launch) (Z : State) (a0 : Array Value) (hw : ∀ d ∈ tables_1, d.before a0 Z = true) (ws : List Jvm.Cond) (b A1 A2 : Addr) (k1 k2 : ClassId) (en kk rf : Int32) (w0 w1 mr : Addr) (kw0 kw1 : ClassId) (h0 : Heap) (n0 : Nat) (Z0 : n0 ≤ h0.size) (K : own_K Z Z.heap w0 w1 mr kw0 kw1) (OL : Old Z n0 h0) (hk1 : 1 ≤ kk.toInt) (hk2 : kk.toInt ≤ 4) (hr1 : 0 ≤ rf.toInt) (hr2 : rf.toInt ≤ 4) (RS : own_Rows Z h0 n0 w0 b A1 A2 w0 w1 k1 k2 en kk rf (0 : Int32)) :
    MetFree l (⟨"com/example/whenever/whenever/internal/engine/Rows", "grow", "()V"⟩ : MethodName) (head1 (Jvm.Cond.code (⟨"com/example/whenever/whenever/internal/engine/Rows", "grow", "()V"⟩ : MethodName) prog_105_method_3_code 2 none :: ws) ({ frames := 4, cells := 2, slots := 64, locals := 79 } : Room)) (fun a U => a = #[(.ref b)] ∧ Z.Warmed39 U.vm ∧ U.heap = h0) (fun _ _ _ _ _ => True) (fun _ U o U' => ∃ v L, o = .returned v ∧ Q4_1 Z b A1 A2 k1 k2 en kk rf w0 w1 mr kw0 kw1 h0 n0 v U'.heap L ∧ FrameEnd U o U' L ({ frames := 4, cells := 2, slots := 64, locals := 79 } : Room).cells ({ frames := 4, cells := 2, slots := 64, locals := 79 } : Room).slots) := by
  refine MetFree.of_bodySF (plainFor_of_name pn0) hisR ?_
  intro p e s m args below meth c s₁ Bd hml0 hP hK
  obtain ⟨rfl, hZ, hh⟩ := hP
  have hx := Bd.exec
  have hby := Bd.bytes
  have hml : c.maxLocals = 2 := hml0
  have hown : s.vm.findClass "com/example/whenever/whenever/internal/engine/Rows" = some m.cls := findClass_of_methodNamed Bd.named
  have hnm := (name_of_methodNamed Bd.named Bd.method).1
  have hlk := Bd.notSynchronized
  have X0 : Stand p l e ({ frames := 4, cells := 2, slots := 64, locals := 79 } : Room) s m #[(.ref b)] below meth c s₁ [] 0 0 := Stand.of_body Bd
  have e0 : s₁.heap = h0 := by rw [← hh, Bd.state]; rfl
  have K0 := K
  obtain ⟨S_w0, S_w1, E_w0, E_w1, V_w0, V_w1, MR⟩ := K
  show own_Go p e below s (Q4_1 Z b A1 A2 k1 k2 en kk rf w0 w1 mr kw0 kw1 h0 n0) 2 64 (s₁.setTop (entryFrame m #[(.ref b)] 2))
  rw [show entryFrame m #[(.ref b)] 2 = mkF m 0 #[.val (.ref b), .unset] [] from by first | (simp [entryFrame, mkF, argsToLocals, Value.category]; done) | rfl]
  have KP := Keep.refl h0 [b, A1, A2]
  obtain ⟨OB_b, V_A1, V_A2, OV_A1, OV_A2, ne_b_A1, ne_b_A2, ne_A1_A2, g_b, g_A1, g_A2⟩ := RS
  show own_Go p e below s _ _ _ (s₁.setTop (mkF m 0 #[.val (.ref b), .unset] []))
  refine own_via (fun _ k => XS.aloadN X0.here hx rfl (hb hby d4_0) rfl rfl k) ?_
  show own_Go p e below s _ _ _ (s₁.setTop (mkF m 1 #[.val (.ref b), .unset] [(.ref b)]))
  obtain ⟨T1, X1, e1, st1⟩ := getF X0 hx hZ hown (host := "") (Or.inl (hw _ (List.mem_of_getElem? (i := 41) rfl))) Via.refl e0 (OB_b.2.2.2.2.2.2.2.2.2) (g := (mkF m 1 #[.val (.ref b), .unset] [(.ref b)])) rfl rfl (hb hby d4_1)
  refine own_via st1 ?_
  show own_Go p e below s _ _ _ (T1.setTop (mkF m 4 #[.val (.ref b), .unset] [(.int (0 : Int32))]))
  refine own_via (fun _ k => XS.sipush X1.here hx rfl (hb hby d4_4) k) ?_
  show own_Go p e below s _ _ _ (T1.setTop (mkF m 7 #[.val (.ref b), .unset] [(.int (4096 : Int32)), (.int (0 : Int32))]))
  refine own_via (fun _ k => XS.icmpNo X1.here hx rfl (hb hby d4_7) rfl (tlt (by decide : (0 : Int32) < (4096 : Int32))).2.1 k) ?_
  show own_Go p e below s _ _ _ (T1.setTop (mkF m 10 #[.val (.ref b), .unset] []))
  refine own_via (fun _ k => XS.aloadN X1.here hx rfl (hb hby d4_10) rfl rfl k) ?_
  show own_Go p e below s _ _ _ (T1.setTop (mkF m 11 #[.val (.ref b), .unset] [(.ref b)]))
  refine own_via (fun _ k => XS.bipush X1.here hx rfl (hb hby d4_11) k) ?_
  show own_Go p e below s _ _ _ (T1.setTop (mkF m 13 #[.val (.ref b), .unset] [(.int (8 : Int32)), (.ref b)]))
  refine own_via (fun _ k => XS.iconst X1.here hx rfl (hb hby d4_13) k) ?_
  show own_Go p e below s _ _ _ (T1.setTop (mkF m 14 #[.val (.ref b), .unset] [(.int (2 : Int32)), (.int (8 : Int32)), (.ref b)]))
  refine own_via (fun _ k => XS.aloadN X1.here hx rfl (hb hby d4_14) rfl rfl k) ?_
  show own_Go p e below s _ _ _ (T1.setTop (mkF m 15 #[.val (.ref b), .unset] [(.ref b), (.int (2 : Int32)), (.int (8 : Int32)), (.ref b)]))
  obtain ⟨T2, X2, e2, st2⟩ := getF X1 hx hZ hown (host := "") (Or.inl (hw _ (List.mem_of_getElem? (i := 41) rfl))) Via.refl e1 (OB_b.2.2.2.2.2.2.2.2.2) (g := (mkF m 15 #[.val (.ref b), .unset] [(.ref b), (.int (2 : Int32)), (.int (8 : Int32)), (.ref b)])) rfl rfl (hb hby d4_15)
  refine own_via st2 ?_
  show own_Go p e below s _ _ _ (T2.setTop (mkF m 18 #[.val (.ref b), .unset] [(.int (0 : Int32)), (.int (2 : Int32)), (.int (8 : Int32)), (.ref b)]))
  refine own_via (fun _ k => XS.imul X2.here hx rfl (hb hby d4_18) rfl k) ?_
  show own_Go p e below s _ _ _ (T2.setTop (mkF m 19 #[.val (.ref b), .unset] [(.int ((2 : Int32) * (0 : Int32))), (.int (8 : Int32)), (.ref b)]))
  obtain ⟨_, _, ⟨T3, L3, k3, n3⟩, -, X3, ⟨Lc3, hQ3, l3, y3, z3⟩, st3⟩ := Jvm.LawKit.callS X2 hx (y := (⟨"java/lang/Math", "max", "(II)I"⟩ : MethodName)) hown (mvT hZ (hw _ (List.mem_of_getElem? (i := 47) rfl))) (mvT hZ (hw _ (List.mem_of_getElem? (i := 48) rfl))) (mvT hZ (hw _ (List.mem_of_getElem? (i := 49) rfl))) (mvT hZ (hw _ (List.mem_of_getElem? (i := 50) rfl))) (by decide) (backOf (W := 1) (rm5_0 l Z a0 hw [] w0 w1 mr kw0 kw1 h0 n0 Z0 K0 OL) hZ (hw _ (List.mem_of_getElem? (i := 50) rfl)) (hw _ (List.mem_of_getElem? (i := 49) rfl)) (by decide) (by decide)) (g := (mkF m 19 #[.val (.ref b), .unset] [(.int ((2 : Int32) * (0 : Int32))), (.int (8 : Int32)), (.ref b)])) rfl (by rw [hml]; rfl) (argsL := [(.int (8 : Int32)), (.int ((2 : Int32) * (0 : Int32)))]) (rest := [(.ref b)]) (lenOf pd1 rfl) rfl (by show 2 * 0 + _ ≤ _; exact Nat.le_of_eq rfl) (hb hby d4_19) (fun _ _ => ⟨rfl, e2, (by decide : 0 + 0 ≤ _), (by decide : 0 + 0 ≤ _)⟩)
  dsimp only [Pt.U, Pt.locs, Pt.cells, Pt.slots] at X3 l3 y3 z3 st3 hQ3
  subst l3 y3 z3
  obtain ⟨rfl, e3, hO3⟩ := hQ3
  obtain rfl := hO3
  refine own_via st3 ?_
  show own_Go p e below s _ _ _ (T3.setTop (mkF m 22 #[.val (.ref b), .unset] [(.int (8 : Int32)), (.ref b)]))
  obtain ⟨T4, h4, X4, e4, W4, st4⟩ := putF X3 hx hZ hown (host := "") (Or.inl (hw _ (List.mem_of_getElem? (i := 41) rfl))) Via.refl e3 (OB_b.2.2.2.2.2.2.2.2.2) OB_b.1 (Or.inl (hw _ (List.mem_of_getElem? (i := 42) rfl))) (hw _ (List.mem_of_getElem? (i := 1) rfl)) (ty := .int) (by decide) rfl rfl (g := (mkF m 22 #[.val (.ref b), .unset] [(.int (8 : Int32)), (.ref b)])) rfl rfl (hb hby d4_22)
  have OB_b := own_put0_8 hw OB_b W4
  have N4 := Fr.snoc X4 (Fr.app (Fr.nil n0) (Fr.nil n0)) g_b
  have Z0 := Nat.le_trans Z0 (Keep.of_wr W4).1
  have OL := OL.wr W4 g_b
  have KP := KP.wr W4 (Or.inl (List.mem_of_getElem? (i := 0) rfl))
  have V_A1 := V_A1.other W4 (Ne.symm ne_b_A1)
  have V_A2 := V_A2.other W4 (Ne.symm ne_b_A2)
  refine own_via st4 ?_
  show own_Go p e below s _ _ _ (T4.setTop (mkF m 25 #[.val (.ref b), .unset] []))
  refine own_via (fun _ k => XS.aloadN X4.here hx rfl (hb hby d4_25) rfl rfl k) ?_
  show own_Go p e below s _ _ _ (T4.setTop (mkF m 26 #[.val (.ref b), .unset] [(.ref b)]))
  obtain ⟨T5, X5, e5, st5⟩ := getF X4 hx hZ hown (host := "") (Or.inl (hw _ (List.mem_of_getElem? (i := 14) rfl))) Via.refl e4 (OB_b.2.1) (g := (mkF m 26 #[.val (.ref b), .unset] [(.ref b)])) rfl rfl (hb hby d4_26)
  refine own_via st5 ?_
  show own_Go p e below s _ _ _ (T5.setTop (mkF m 29 #[.val (.ref b), .unset] [(.ref A1)]))
  refine own_via (fun _ k => XS.iconst X5.here hx rfl (hb hby d4_29) k) ?_
  show own_Go p e below s _ _ _ (T5.setTop (mkF m 30 #[.val (.ref b), .unset] [(.int (0 : Int32)), (.ref A1)]))
  refine own_via (fun _ k => XS.aloadN X5.here hx rfl (hb hby d4_30) rfl rfl k) ?_
  show own_Go p e below s _ _ _ (T5.setTop (mkF m 31 #[.val (.ref b), .unset] [(.ref b), (.int (0 : Int32)), (.ref A1)]))
  obtain ⟨T6, X6, e6, st6⟩ := getF X5 hx hZ hown (host := "") (Or.inl (hw _ (List.mem_of_getElem? (i := 14) rfl))) Via.refl e5 (OB_b.2.1) (g := (mkF m 31 #[.val (.ref b), .unset] [(.ref b), (.int (0 : Int32)), (.ref A1)])) rfl rfl (hb hby d4_31)
  refine own_via st6 ?_
  show own_Go p e below s _ _ _ (T6.setTop (mkF m 34 #[.val (.ref b), .unset] [(.ref A1), (.int (0 : Int32)), (.ref A1)]))
  refine own_via (fun _ k => XS.iconst X6.here hx rfl (hb hby d4_34) k) ?_
  show own_Go p e below s _ _ _ (T6.setTop (mkF m 35 #[.val (.ref b), .unset] [(.int (0 : Int32)), (.ref A1), (.int (0 : Int32)), (.ref A1)]))
  have Vx7 := V_A1
  obtain ⟨cl7, Ar7, q7, S7, N7, H7, G7⟩ := Vx7
  have hin7 : ¬ ((0 : Int32) < 0 ∨ cl7.slots.size ≤ ((0 : Int32)).toNatClampNeg) := inb_of S7 ⟨by decide, by decide⟩
  have hat7 : cl7.slots[((0 : Int32)).toNatClampNeg]? = some (.ref w0) := H7.at hin7 rfl
  refine own_via (fun _ k => X6.aaload hx (j := (0 : Int32)) (v := (.ref w0)) (by rw [e6]; exact Ar7.1) (State.isArrayOf_alike hZ.alike Ar7.2.1) rfl Ar7.2.2 hin7 hat7 (g := (mkF m 35 #[.val (.ref b), .unset] [(.int (0 : Int32)), (.ref A1), (.int (0 : Int32)), (.ref A1)])) rfl rfl (hb hby d4_35) _ k) ?_
  show own_Go p e below s _ _ _ (T6.setTop (mkF m 36 #[.val (.ref b), .unset] [(.ref w0), (.int (0 : Int32)), (.ref A1)]))
  refine own_via (fun _ k => XS.aloadN X6.here hx rfl (hb hby d4_36) rfl rfl k) ?_
  show own_Go p e below s _ _ _ (T6.setTop (mkF m 37 #[.val (.ref b), .unset] [(.ref b), (.ref w0), (.int (0 : Int32)), (.ref A1)]))
  obtain ⟨T8, X8, e8, st8⟩ := getF X6 hx hZ hown (host := "") (Or.inl (hw _ (List.mem_of_getElem? (i := 41) rfl))) Via.refl e6 (OB_b.2.2.2.2.2.2.2.2.2) (g := (mkF m 37 #[.val (.ref b), .unset] [(.ref b), (.ref w0), (.int (0 : Int32)), (.ref A1)])) rfl rfl (hb hby d4_37)
  refine own_via st8 ?_
  show own_Go p e below s _ _ _ (T8.setTop (mkF m 40 #[.val (.ref b), .unset] [(.int (8 : Int32)), (.ref w0), (.int (0 : Int32)), (.ref A1)]))
  refine own_via (fun _ k => XS.aloadN X8.here hx rfl (hb hby d4_40) rfl rfl k) ?_
  show own_Go p e below s _ _ _ (T8.setTop (mkF m 41 #[.val (.ref b), .unset] [(.ref b), (.int (8 : Int32)), (.ref w0), (.int (0 : Int32)), (.ref A1)]))
  obtain ⟨T9, X9, e9, st9⟩ := getF X8 hx hZ hown (host := "") (Or.inl (hw _ (List.mem_of_getElem? (i := 27) rfl))) Via.refl e8 (OB_b.2.2.2.2.2.1) (g := (mkF m 41 #[.val (.ref b), .unset] [(.ref b), (.int (8 : Int32)), (.ref w0), (.int (0 : Int32)), (.ref A1)])) rfl rfl (hb hby d4_41)
  refine own_via st9 ?_
  show own_Go p e below s _ _ _ (T9.setTop (mkF m 44 #[.val (.ref b), .unset] [(.int kk), (.int (8 : Int32)), (.ref w0), (.int (0 : Int32)), (.ref A1)]))
  refine own_via (fun _ k => XS.imul X9.here hx rfl (hb hby d4_44) rfl k) ?_
  show own_Go p e below s _ _ _ (T9.setTop (mkF m 45 #[.val (.ref b), .unset] [(.int ((8 : Int32) * kk)), (.ref w0), (.int (0 : Int32)), (.ref A1)]))
  obtain ⟨_, _, ⟨T10, L10, k10, n10⟩, -, X10, ⟨Lc10, hQ10, l10, y10, z10⟩, st10⟩ := Jvm.LawKit.callS X9 hx (y := (⟨"java/util/Arrays", "copyOf", "([II)[I"⟩ : MethodName)) hown (mvT hZ (hw _ (List.mem_of_getElem? (i := 51) rfl))) (mvT hZ (hw _ (List.mem_of_getElem? (i := 52) rfl))) (mvT hZ (hw _ (List.mem_of_getElem? (i := 53) rfl))) (mvT hZ (hw _ (List.mem_of_getElem? (i := 54) rfl))) (by decide) (backOf (W := 2) (rm6_1 l Z a0 hw [] ((8 : Int32) * kk) w0 w1 mr kw0 kw1 h4 n0 Z0 K0 OL (own_m8c hk1 hk2) (own_m8d hk1 hk2)) hZ (hw _ (List.mem_of_getElem? (i := 54) rfl)) (hw _ (List.mem_of_getElem? (i := 53) rfl)) (by decide) (by decide)) (g := (mkF m 45 #[.val (.ref b), .unset] [(.int ((8 : Int32) * kk)), (.ref w0), (.int (0 : Int32)), (.ref A1)])) rfl (by rw [hml]; rfl) (argsL := [(.ref w0), (.int ((8 : Int32) * kk))]) (rest := [(.int (0 : Int32)), (.ref A1)]) (lenOf pd2 rfl) rfl (by show 2 * 0 + _ ≤ _; exact Nat.le_of_eq rfl) (hb hby d4_45) (fun _ _ => ⟨rfl, e9, (by decide : 0 + 1 ≤ _), (by decide : 0 + 32 ≤ _)⟩)
  dsimp only [Pt.U, Pt.locs, Pt.cells, Pt.slots] at X10 l10 y10 z10 st10 hQ10
  subst l10 y10 z10
  obtain ⟨NQ10, OLq10, Zq10, KQ10, hP10⟩ := hQ10
  obtain ⟨I, kI, rfl, V_I, EX_I, szq10⟩ := hP10
  have ne_b_I : b ≠ I := Nat.ne_of_lt (Nat.lt_of_lt_of_le OB_b.1.lt szq10)
  have ne_A1_I : A1 ≠ I := Nat.ne_of_lt (Nat.lt_of_lt_of_le V_A1.lt szq10)
  have ne_A2_I : A2 ≠ I := Nat.ne_of_lt (Nat.lt_of_lt_of_le V_A2.lt szq10)
  have sz_I : h0.size ≤ I := Nat.le_trans KP.1 szq10
  have g_I : n0 ≤ I := Nat.le_trans Z0 szq10
  have OB_b := OB_b.keep KQ10 nin0
  have V_A1 := V_A1.keep KQ10 nin0
  have V_A2 := V_A2.keep KQ10 nin0
  have KP := KP.trans KQ10 (fun x hx => nomatch hx)
  have OL := OLq10
  have Z0 := Zq10
  refine own_via st10 ?_
  show own_Go p e below s _ _ _ (T10.setTop (mkF m 48 #[.val (.ref b), .unset] [(.ref I), (.int (0 : Int32)), (.ref A1)]))
  have Vx11 := V_A1
  obtain ⟨cl11, Ar11, q11, S11, N11, H11, G11⟩ := Vx11
  have hin11 : ¬ ((0 : Int32) < 0 ∨ cl11.slots.size ≤ ((0 : Int32)).toNatClampNeg) := inb_of S11 ⟨by decide, by decide⟩
  have Sto11 : Sto Z T10.heap A1 (.ref I) := Sto.ofVA Ar11 q11 OV_A1 (Ins.self EX_I)
  obtain ⟨T11, h11, X11, e11, W11, st11⟩ := stR X10 hx hZ rfl Ar11 (j := (0 : Int32)) hin11 rfl Sto11 (g := (mkF m 48 #[.val (.ref b), .unset] [(.ref I), (.int (0 : Int32)), (.ref A1)])) rfl rfl (hb hby d4_48)
  have V_A1 : Arv Z h11 A1 k1 (.array .int) (1 : Int32) [(.ref I)] .null := Arv.set Ar11 q11 S11 N11 H11 G11 rfl W11 0 rfl (Nat.le_of_ble_eq_true rfl)
  have N11 := Fr.snoc X11 (Fr.app N4 NQ10) g_A1
  have Z0 := Nat.le_trans Z0 (Keep.of_wr W11).1
  have OL := OL.wr W11 g_A1
  have KP := KP.wr W11 (Or.inl (List.mem_of_getElem? (i := 1) rfl))
  have OB_b := OB_b.other W11 ne_b_A1
  have V_A2 := V_A2.other W11 (Ne.symm ne_A1_A2)
  have V_I := V_I.other W11 (Ne.symm ne_A1_I)
  have EX_I := EX_I.wr W11
  refine own_via st11 ?_
  show own_Go p e below s _ _ _ (T11.setTop (mkF m 49 #[.val (.ref b), .unset] []))
  refine own_via (fun _ k => XS.aloadN X11.here hx rfl (hb hby d4_49) rfl rfl k) ?_
  show own_Go p e below s _ _ _ (T11.setTop (mkF m 50 #[.val (.ref b), .unset] [(.ref b)]))
  obtain ⟨T12, X12, e12, st12⟩ := getF X11 hx hZ hown (host := "") (Or.inl (hw _ (List.mem_of_getElem? (i := 21) rfl))) Via.refl e11 (OB_b.2.2.1) (g := (mkF m 50 #[.val (.ref b), .unset] [(.ref b)])) rfl rfl (hb hby d4_50)
  refine own_via st12 ?_
  show own_Go p e below s _ _ _ (T12.setTop (mkF m 53 #[.val (.ref b), .unset] [(.ref A2)]))
  refine own_via (fun _ k => XS.iconst X12.here hx rfl (hb hby d4_53) k) ?_
  show own_Go p e below s _ _ _ (T12.setTop (mkF m 54 #[.val (.ref b), .unset] [(.int (0 : Int32)), (.ref A2)]))
  refine own_via (fun _ k => XS.aloadN X12.here hx rfl (hb hby d4_54) rfl rfl k) ?_
  show own_Go p e below s _ _ _ (T12.setTop (mkF m 55 #[.val (.ref b), .unset] [(.ref b), (.int (0 : Int32)), (.ref A2)]))
  obtain ⟨T13, X13, e13, st13⟩ := getF X12 hx hZ hown (host := "") (Or.inl (hw _ (List.mem_of_getElem? (i := 21) rfl))) Via.refl e12 (OB_b.2.2.1) (g := (mkF m 55 #[.val (.ref b), .unset] [(.ref b), (.int (0 : Int32)), (.ref A2)])) rfl rfl (hb hby d4_55)
  refine own_via st13 ?_
  show own_Go p e below s _ _ _ (T13.setTop (mkF m 58 #[.val (.ref b), .unset] [(.ref A2), (.int (0 : Int32)), (.ref A2)]))
  refine own_via (fun _ k => XS.iconst X13.here hx rfl (hb hby d4_58) k) ?_
  show own_Go p e below s _ _ _ (T13.setTop (mkF m 59 #[.val (.ref b), .unset] [(.int (0 : Int32)), (.ref A2), (.int (0 : Int32)), (.ref A2)]))
  have Vx14 := V_A2
  obtain ⟨cl14, Ar14, q14, S14, N14, H14, G14⟩ := Vx14
  have hin14 : ¬ ((0 : Int32) < 0 ∨ cl14.slots.size ≤ ((0 : Int32)).toNatClampNeg) := inb_of S14 ⟨by decide, by decide⟩
  have hat14 : cl14.slots[((0 : Int32)).toNatClampNeg]? = some (.ref w1) := H14.at hin14 rfl
  refine own_via (fun _ k => X13.aaload hx (j := (0 : Int32)) (v := (.ref w1)) (by rw [e13]; exact Ar14.1) (State.isArrayOf_alike hZ.alike Ar14.2.1) rfl Ar14.2.2 hin14 hat14 (g := (mkF m 59 #[.val (.ref b), .unset] [(.int (0 : Int32)), (.ref A2), (.int (0 : Int32)), (.ref A2)])) rfl rfl (hb hby d4_59) _ k) ?_
  show own_Go p e below s _ _ _ (T13.setTop (mkF m 60 #[.val (.ref b), .unset] [(.ref w1), (.int (0 : Int32)), (.ref A2)]))
  refine own_via (fun _ k => XS.aloadN X13.here hx rfl (hb hby d4_60) rfl rfl k) ?_
  show own_Go p e below s _ _ _ (T13.setTop (mkF m 61 #[.val (.ref b), .unset] [(.ref b), (.ref w1), (.int (0 : Int32)), (.ref A2)]))
  obtain ⟨T15, X15, e15, st15⟩ := getF X13 hx hZ hown (host := "") (Or.inl (hw _ (List.mem_of_getElem? (i := 41) rfl))) Via.refl e13 (OB_b.2.2.2.2.2.2.2.2.2) (g := (mkF m 61 #[.val (.ref b), .unset] [(.ref b), (.ref w1), (.int (0 : Int32)), (.ref A2)])) rfl rfl (hb hby d4_61)
  refine own_via st15 ?_
  show own_Go p e below s _ _ _ (T15.setTop (mkF m 64 #[.val (.ref b), .unset] [(.int (8 : Int32)), (.ref w1), (.int (0 : Int32)), (.ref A2)]))
  refine own_via (fun _ k => XS.aloadN X15.here hx rfl (hb hby d4_64) rfl rfl k) ?_
  show own_Go p e below s _ _ _ (T15.setTop (mkF m 65 #[.val (.ref b), .unset] [(.ref b), (.int (8 : Int32)), (.ref w1), (.int (0 : Int32)), (.ref A2)]))
  obtain ⟨T16, X16, e16, st16⟩ := getF X15 hx hZ hown (host := "") (Or.inl (hw _ (List.mem_of_getElem? (i := 29) rfl))) Via.refl e15 (OB_b.2.2.2.2.2.2.1) (g := (mkF m 65 #[.val (.ref b), .unset] [(.ref b), (.int (8 : Int32)), (.ref w1), (.int (0 : Int32)), (.ref A2)])) rfl rfl (hb hby d4_65)
  refine own_via st16 ?_
  show own_Go p e below s _ _ _ (T16.setTop (mkF m 68 #[.val (.ref b), .unset] [(.int rf), (.int (8 : Int32)), (.ref w1), (.int (0 : Int32)), (.ref A2)]))
  refine own_via (fun _ k => XS.imul X16.here hx rfl (hb hby d4_68) rfl k) ?_
  show own_Go p e below s _ _ _ (T16.setTop (mkF m 69 #[.val (.ref b), .unset] [(.int ((8 : Int32) * rf)), (.ref w1), (.int (0 : Int32)), (.ref A2)]))
  obtain ⟨T17, h17, kR17, X17, e17, E17, AR_b17, EX_b17, OVR_b17, st17⟩ := own_cpR X16 hx hZ hw hown e16 (E_w1.ext OL.2) (V_w1.ext OL.2) MR (n := ((8 : Int32) * rf)) (own_m8a hr1 hr2) (own_m8b hr1 hr2) (g := (mkF m 69 #[.val (.ref b), .unset] [(.int ((8 : Int32) * rf)), (.ref w1), (.int (0 : Int32)), (.ref A2)])) rfl (by rw [hml]; rfl) (rest := [(.int (0 : Int32)), (.ref A2)]) rfl (hb hby d4_69) (by decide) (W := 2) (by show 2 * 0 + _ ≤ _; exact Nat.le_of_eq rfl) (by decide) (by decide) (by decide)
  obtain ⟨b17, g17⟩ : ∃ z, z = h11.size := ⟨_, rfl⟩
  rw [← g17] at AR_b17 EX_b17 st17
  have ne_b_b17 : b ≠ b17 := Nat.ne_of_lt (Nat.lt_of_lt_of_le OB_b.1.lt (Nat.le_of_eq g17.symm))
  have ne_A1_b17 : A1 ≠ b17 := Nat.ne_of_lt (Nat.lt_of_lt_of_le V_A1.lt (Nat.le_of_eq g17.symm))
  have ne_A2_b17 : A2 ≠ b17 := Nat.ne_of_lt (Nat.lt_of_lt_of_le V_A2.lt (Nat.le_of_eq g17.symm))
  have ne_I_b17 : I ≠ b17 := Nat.ne_of_lt (Nat.lt_of_lt_of_le V_I.lt (Nat.le_of_eq g17.symm))
  have sz_b17 : h0.size ≤ b17 := Nat.le_trans KP.1 (Nat.le_of_eq g17.symm)
  have g_b17 : n0 ≤ b17 := Nat.le_trans Z0 (Nat.le_of_eq g17.symm)
  have Z0 := Nat.le_trans Z0 E17.1
  have OL := OL.ext E17
  have KP := KP.ext E17
  have OB_b := OB_b.ext E17
  have V_A1 := V_A1.ext E17
  have V_A2 := V_A2.ext E17
  have V_I := V_I.ext E17
  have EX_I := EX_I.ext E17
  refine own_via st17 ?_
  show own_Go p e below s _ _ _ (T17.setTop (mkF m 72 #[.val (.ref b), .unset] [(.ref b17), (.int (0 : Int32)), (.ref A2)]))
  have Vx18 := V_A2
  obtain ⟨cl18, Ar18, q18, S18, N18, H18, G18⟩ := Vx18
  have hin18 : ¬ ((0 : Int32) < 0 ∨ cl18.slots.size ≤ ((0 : Int32)).toNatClampNeg) := inb_of S18 ⟨by decide, by decide⟩
  have Sto18 : Sto Z h17 A2 (.ref b17) := Sto.ofVA Ar18 q18 OV_A2 (Ins.self EX_b17)
  obtain ⟨T18, h18, X18, e18, W18, st18⟩ := stR X17 hx hZ e17 Ar18 (j := (0 : Int32)) hin18 rfl Sto18 (g := (mkF m 72 #[.val (.ref b), .unset] [(.ref b17), (.int (0 : Int32)), (.ref A2)])) rfl rfl (hb hby d4_72)
  have V_A2 : Arv Z h18 A2 k2 (.array (.object "java/lang/Object")) (1 : Int32) [(.ref b17)] .null := Arv.set Ar18 q18 S18 N18 H18 G18 rfl W18 0 rfl (Nat.le_of_ble_eq_true rfl)
  have N18 := Fr.snoc X18 N11 g_A2
  have Z0 := Nat.le_trans Z0 (Keep.of_wr W18).1
  have OL := OL.wr W18 g_A2
  have KP := KP.wr W18 (Or.inl (List.mem_of_getElem? (i := 2) rfl))
  have OB_b := OB_b.other W18 ne_b_A2
  have V_A1 := V_A1.other W18 ne_A1_A2
  have V_I := V_I.other W18 (Ne.symm ne_A2_I)
  have AR_b17 := AR_b17.other W18 (Ne.symm ne_A2_b17)
  have EX_I := EX_I.wr W18
  have EX_b17 := EX_b17.wr W18
  refine own_via st18 ?_
  show own_Go p e below s _ _ _ (T18.setTop (mkF m 73 #[.val (.ref b), .unset] []))
  exact own_retV X18 hx hlk Bd.returns (hb hby d4_73) (by rw [e18]; exact ⟨N18, OL, Z0, KP, rfl, I, b17, kI, kR17, ⟨OB_b, V_A1, V_A2, OV_A1, OV_A2, ne_b_A1, ne_b_A2, ne_A1_A2, g_b, g_A1, g_A2⟩, V_I, AR_b17, OVR_b17, ne_b_I, ne_A1_I, ne_A2_I, ne_b_b17, ne_A1_b17, ne_A2_b17, ne_I_b17, sz_I, sz_b17⟩) (by decide) (by decide)
def Q3_1 (Z : State) (b A1 A2 : Addr) (k1 k2 : ClassId) (kk rf : Int32) (w0 w1 mr : Addr) (kw0 kw1 : ClassId) (h0 : Heap) (n0 : Nat) (v : Option Value) (h : Heap) (L : List Loc) : Prop := Fr n0 L ∧ Old Z n0 h ∧ n0 ≤ h.size ∧ Keep h0 h [b, A1, A2] ∧ v = some (.int (1 : Int32)) ∧ ∃ (I R : Addr) (kI kR : ClassId), own_Rows Z h n0 w0 b A1 A2 I R k1 k2 ((1 : Int32) + (1 : Int32)) kk rf (8 : Int32) ∧ Arv Z h I kI .int ((8 : Int32) * kk) [] (.int 0) ∧ Arr Z h R (newA kR (.object "java/lang/Object") ((8 : Int32) * rf)) (.object "java/lang/Object") ∧ Ovr Z kR "java/lang/Object" ∧ b ≠ I ∧ A1 ≠ I ∧ A2 ≠ I ∧ b ≠ R ∧ A1 ≠ R ∧ A2 ≠ R ∧ I ≠ R ∧ h0.size ≤ I ∧ h0.size ≤ R
set_option maxRecDepth 65536 in
set_option maxHeartbeats 40000000 in
theorem rm3_1 (l : Launch) (Z : State) (a0 : Array Value) (hw : ∀ d ∈ tables_1, d.before a0 Z = true) (ws : List Jvm.Cond) (b A1 A2 : Addr) (k1 k2 : ClassId) (kk rf : Int32) (w0 w1 mr : Addr) (kw0 kw1 : ClassId) (h0 : Heap) (n0 : Nat) (Z0 : n0 ≤ h0.size) (K : own_K Z Z.heap w0 w1 mr kw0 kw1) (OL : Old Z n0 h0) (hk1 : 1 ≤ kk.toInt) (hk2 : kk.toInt ≤ 4) (hr1 : 0 ≤ rf.toInt) (hr2 : rf.toInt ≤ 4) (RS : own_Rows Z h0 n0 w0 b A1 A2 w0 w1 k1 k2 (1 : Int32) kk rf (0 : Int32)) :
    MetFree l (⟨"com/example/whenever/whenever/internal/engine/Rows", "add", "()I"⟩ : MethodName) (head1 (Jvm.Cond.code (⟨"com/example/whenever/whenever/internal/engine/Rows", "add", "()I"⟩ : MethodName) prog_105_method_2_code 2 (some .int) :: ws) ({ frames := 5, cells := 2, slots := 64, locals := 92 } : Room)) (fun a U => a = #[(.ref b)] ∧ Z.Warmed39 U.vm ∧ U.heap = h0) (fun _ _ _ _ _ => True) (fun _ U o U' => ∃ v L, o = .returned v ∧ Q3_1 Z b A1 A2 k1 k2 kk rf w0 w1 mr kw0 kw1 h0 n0 v U'.heap L ∧ FrameEnd U o U' L ({ frames := 5, cells := 2, slots := 64, locals := 92 } : Room).cells ({ frames := 5, cells := 2, slots := 64, locals := 92 } : Room).slots) := by
  refine MetFree.of_bodySF (plainFor_of_name pn0) hisR ?_
  intro p e s m args below meth c s₁ Bd hml0 hP hK
  obtain ⟨rfl, hZ, hh⟩ := hP
  have hx := Bd.exec
  have hby := Bd.bytes
  have hml : c.maxLocals = 2 := hml0
  have hown : s.vm.findClass "com/example/whenever/whenever/internal/engine/Rows" = some m.cls := findClass_of_methodNamed Bd.named
  have hnm := (name_of_methodNamed Bd.named Bd.method).1
  have hlk := Bd.notSynchronized
  have X0 : Stand p l e ({ frames := 5, cells := 2, slots := 64, locals := 92 } : Room) s m #[(.ref b)] below meth c s₁ [] 0 0 := Stand.of_body Bd
  have e0 : s₁.heap = h0 := by rw [← hh, Bd.state]; rfl
  have K0 := K
  obtain ⟨S_w0, S_w1, E_w0, E_w1, V_w0, V_w1, MR⟩ := K
  show own_Go p e below s (Q3_1 Z b A1 A2 k1 k2 kk rf w0 w1 mr kw0 kw1 h0 n0) 2 64 (s₁.setTop (entryFrame m #[(.ref b)] 2))
  rw [show entryFrame m #[(.ref b)] 2 = mkF m 0 #[.val (.ref b), .unset] [] from by first | (simp [entryFrame, mkF, argsToLocals, Value.category]; done) | rfl]
  have KP := Keep.refl h0 [b, A1, A2]
  obtain ⟨OB_b, V_A1, V_A2, OV_A1, OV_A2, ne_b_A1, ne_b_A2, ne_A1_A2, g_b, g_A1, g_A2⟩ := RS
  show own_Go p e below s _ _ _ (s₁.setTop (mkF m 0 #[.val (.ref b), .unset] []))
  refine own_via (fun _ k => XS.aloadN X0.here hx rfl (hb hby d3_0) rfl rfl k) ?_
  show own_Go p e below s _ _ _ (s₁.setTop (mkF m 1 #[.val (.ref b), .unset] [(.ref b)]))
  obtain ⟨T1, X1, e1, st1⟩ := getF X0 hx hZ hown (host := "") (Or.inl (hw _ (List.mem_of_getElem? (i := 37) rfl))) Via.refl e0 (OB_b.2.2.2.2.2.2.2.1) (g := (mkF m 1 #[.val (.ref b), .unset] [(.ref b)])) rfl rfl (hb hby d3_1)
  refine own_via st1 ?_
  show own_Go p e below s _ _ _ (T1.setTop (mkF m 4 #[.val (.ref b), .unset] [(.int (0 : Int32))]))
  refine own_via (fun _ k => XS.ifYes X1.here hx rfl (pc0 := 4) (pc' := 24) rfl (hb hby d3_4) rfl ((if0 _ _).trans (teq (by decide : (0 : Int32) = (0 : Int32))).1) (by decide) (by decide) k) ?_
  show own_Go p e below s _ _ _ (T1.setTop (mkF m 24 #[.val (.ref b), .unset] []))
  refine own_via (fun _ k => XS.aloadN X1.here hx rfl (hb hby d3_24) rfl rfl k) ?_
  show own_Go p e below s _ _ _ (T1.setTop (mkF m 25 #[.val (.ref b), .unset] [(.ref b)]))
  obtain ⟨T2, X2, e2, st2⟩ := getF X1 hx hZ hown (host := "") (Or.inl (hw _ (List.mem_of_getElem? (i := 39) rfl))) Via.refl e1 (OB_b.2.2.2.2.2.2.2.2.1) (g := (mkF m 25 #[.val (.ref b), .unset] [(.ref b)])) rfl rfl (hb hby d3_25)
  refine own_via st2 ?_
  show own_Go p e below s _ _ _ (T2.setTop (mkF m 28 #[.val (.ref b), .unset] [.null]))
  refine own_via (fun _ k => XS.ifnullYes X2.here hx rfl (pc0 := 28) (pc' := 45) rfl (hb hby d3_28) rfl (by decide) (by decide) k) ?_
  show own_Go p e below s _ _ _ (T2.setTop (mkF m 45 #[.val (.ref b), .unset] []))
  refine own_via (fun _ k => XS.aloadN X2.here hx rfl (hb hby d3_45) rfl rfl k) ?_
  show own_Go p e below s _ _ _ (T2.setTop (mkF m 46 #[.val (.ref b), .unset] [(.ref b)]))
  obtain ⟨T3, X3, e3, st3⟩ := getF X2 hx hZ hown (host := "") (Or.inl (hw _ (List.mem_of_getElem? (i := 23) rfl))) Via.refl e2 (OB_b.2.2.2.1) (g := (mkF m 46 #[.val (.ref b), .unset] [(.ref b)])) rfl rfl (hb hby d3_46)
  refine own_via st3 ?_
  show own_Go p e below s _ _ _ (T3.setTop (mkF m 49 #[.val (.ref b), .unset] [(.int (1 : Int32))]))
  refine own_via (fun _ k => XS.aloadN X3.here hx rfl (hb hby d3_49) rfl rfl k) ?_
  show own_Go p e below s _ _ _ (T3.setTop (mkF m 50 #[.val (.ref b), .unset] [(.ref b), (.int (1 : Int32))]))
  obtain ⟨T4, X4, e4, st4⟩ := getF X3 hx hZ hown (host := "") (Or.inl (hw _ (List.mem_of_getElem? (i := 41) rfl))) Via.refl e3 (OB_b.2.2.2.2.2.2.2.2.2) (g := (mkF m 50 #[.val (.ref b), .unset] [(.ref b), (.int (1 : Int32))])) rfl rfl (hb hby d3_50)
  refine own_via st4 ?_
  show own_Go p e below s _ _ _ (T4.setTop (mkF m 53 #[.val (.ref b), .unset] [(.int (0 : Int32)), (.int (1 : Int32))]))
  refine own_via (fun _ k => XS.icmpNo X4.here hx rfl (hb hby d3_53) rfl (flt (by decide : ¬ ((1 : Int32) < (0 : Int32)))).1 k) ?_
  show own_Go p e below s _ _ _ (T4.setTop (mkF m 56 #[.val (.ref b), .unset] []))
  refine own_via (fun _ k => XS.aloadN X4.here hx rfl (hb hby d3_56) rfl rfl k) ?_
  show own_Go p e below s _ _ _ (T4.setTop (mkF m 57 #[.val (.ref b), .unset] [(.ref b)]))
  obtain ⟨cq5, q5, q5'⟩ := OB_b.1.cell
  obtain ⟨_, _, ⟨T5, L5, k5, n5⟩, -, X5, ⟨Lc5, hQ5, l5, y5, z5⟩, st5⟩ := X4.privateBack hx (y := (⟨"com/example/whenever/whenever/internal/engine/Rows", "grow", "()V"⟩ : MethodName)) hown (mvT hZ (hw _ (List.mem_of_getElem? (i := 43) rfl))) (mvT hZ (hw _ (List.mem_of_getElem? (i := 44) rfl))) (own_selG hw hZ) (Cond.privateMethod_at (mvP hZ (hw _ (List.mem_of_getElem? (i := 45) rfl)) (args := #[]))) (mvT hZ (hw _ (List.mem_of_getElem? (i := 46) rfl))) (by decide) (backOf (W := 0) (rm4_1 l Z a0 hw [] b A1 A2 k1 k2 (1 : Int32) kk rf w0 w1 mr kw0 kw1 h0 n0 Z0 K0 OL hk1 hk2 hr1 hr2 ⟨OB_b, V_A1, V_A2, OV_A1, OV_A2, ne_b_A1, ne_b_A2, ne_A1_A2, g_b, g_A1, g_A2⟩) hZ (hw _ (List.mem_of_getElem? (i := 46) rfl)) (hw _ (List.mem_of_getElem? (i := 2) rfl)) (by decide) (by decide)) (g := (mkF m 57 #[.val (.ref b), .unset] [(.ref b)])) rfl (by rw [hml]; rfl) (Steps.refl _) (a := b) (by rw [e4]; exact q5) q5' (argsL := []) (rest := []) (lenOf pd3 rfl) rfl (by show 2 * 0 + _ ≤ _; exact Nat.le_of_eq rfl) (hb hby d3_57) (fun _ _ => ⟨rfl, e4, (by decide : 0 + 2 ≤ _), (by decide : 0 + 64 ≤ _)⟩)
  dsimp only [Pt.U, Pt.locs, Pt.cells, Pt.slots] at X5 l5 y5 z5 st5 hQ5
  subst l5 y5 z5
  obtain ⟨NQ5, OLq5, Zq5, KQ5, hP5⟩ := hQ5
  obtain ⟨rfl, I, R, kI, kR, ⟨OBq5, Vq5a, Vq5b, -, -, -, -, -, -, -, -⟩, V_I, AR_R, OVR_R, ne_b_I, ne_A1_I, ne_A2_I, ne_b_R, ne_A1_R, ne_A2_R, ne_I_R, szI5, szR5⟩ := hP5
  have sz_I : h0.size ≤ I := Nat.le_trans KP.1 szI5
  have g_I : n0 ≤ I := Nat.le_trans Z0 szI5
  have sz_R : h0.size ≤ R := Nat.le_trans KP.1 szR5
  have g_R : n0 ≤ R := Nat.le_trans Z0 szR5
  have OB_b := OBq5
  have V_A1 := Vq5a
  have V_A2 := Vq5b
  have KP := KP.trans KQ5 (by intro x hx; simp only [List.mem_cons, List.not_mem_nil, or_false] at hx; rcases hx with rfl | rfl | rfl <;> first | exact Or.inl (by simp) | exact Or.inr (by assumption))
  have OL := OLq5
  have Z0 := Zq5
  refine own_tr st5 ?_
  show own_Go p e below s _ _ _ (T5.setTop (mkF m 60 #[.val (.ref b), .unset] []))
  refine own_via (fun _ k => XS.aloadN X5.here hx rfl (hb hby d3_60) rfl rfl k) ?_
  show own_Go p e below s _ _ _ (T5.setTop (mkF m 61 #[.val (.ref b), .unset] [(.ref b)]))
  obtain ⟨T6, X6, e6, st6⟩ := getF X5 hx hZ hown (host := "") (Or.inl (hw _ (List.mem_of_getElem? (i := 23) rfl))) Via.refl rfl (OB_b.2.2.2.1) (g := (mkF m 61 #[.val (.ref b), .unset] [(.ref b)])) rfl rfl (hb hby d3_61)
  refine own_via st6 ?_
  show own_Go p e below s _ _ _ (T6.setTop (mkF m 64 #[.val (.ref b), .unset] [(.int (1 : Int32))]))
  refine own_via (fun _ k => XS.istoreN X6.here hx rfl (hb hby d3_64) rfl (l' := #[.val (.ref b), .val (.int (1 : Int32))]) rfl k) ?_
  show own_Go p e below s _ _ _ (T6.setTop (mkF m 65 #[.val (.ref b), .val (.int (1 : Int32))] []))
  refine own_via (fun _ k => XS.aloadN X6.here hx rfl (hb hby d3_65) rfl rfl k) ?_
  show own_Go p e below s _ _ _ (T6.setTop (mkF m 66 #[.val (.ref b), .val (.int (1 : Int32))] [(.ref b)]))
  refine own_via (fun _ k => XS.dup X6.here hx rfl (hb hby d3_66) rfl rfl k) ?_
  show own_Go p e below s _ _ _ (T6.setTop (mkF m 67 #[.val (.ref b), .val (.int (1 : Int32))] [(.ref b), (.ref b)]))
  obtain ⟨T7, X7, e7, st7⟩ := getF X6 hx hZ hown (host := "") (Or.inl (hw _ (List.mem_of_getElem? (i := 23) rfl))) Via.refl e6 (OB_b.2.2.2.1) (g := (mkF m 67 #[.val (.ref b), .val (.int (1 : Int32))] [(.ref b), (.ref b)])) rfl rfl (hb hby d3_67)
  refine own_via st7 ?_
  show own_Go p e below s _ _ _ (T7.setTop (mkF m 70 #[.val (.ref b), .val (.int (1 : Int32))] [(.int (1 : Int32)), (.ref b)]))
  refine own_via (fun _ k => XS.iconst X7.here hx rfl (hb hby d3_70) k) ?_
  show own_Go p e below s _ _ _ (T7.setTop (mkF m 71 #[.val (.ref b), .val (.int (1 : Int32))] [(.int (1 : Int32)), (.int (1 : Int32)), (.ref b)]))
  refine own_via (fun _ k => XS.iadd X7.here hx rfl (hb hby d3_71) rfl k) ?_
  show own_Go p e below s _ _ _ (T7.setTop (mkF m 72 #[.val (.ref b), .val (.int (1 : Int32))] [(.int ((1 : Int32) + (1 : Int32))), (.ref b)]))
  obtain ⟨T8, h8, X8, e8, W8, st8⟩ := putF X7 hx hZ hown (host := "") (Or.inl (hw _ (List.mem_of_getElem? (i := 23) rfl))) Via.refl e7 (OB_b.2.2.2.1) OB_b.1 (Or.inl (hw _ (List.mem_of_getElem? (i := 24) rfl))) (hw _ (List.mem_of_getElem? (i := 1) rfl)) (ty := .int) (by decide) rfl rfl (g := (mkF m 72 #[.val (.ref b), .val (.int (1 : Int32))] [(.int ((1 : Int32) + (1 : Int32))), (.ref b)])) rfl rfl (hb hby d3_72)
  have OB_b := own_put0_2 hw OB_b W8
  have N8 := Fr.snoc X8 (Fr.app (Fr.nil n0) NQ5) g_b
  have Z0 := Nat.le_trans Z0 (Keep.of_wr W8).1
  have OL := OL.wr W8 g_b
  have KP := KP.wr W8 (Or.inl (List.mem_of_getElem? (i := 0) rfl))
  have V_A1 := V_A1.other W8 (Ne.symm ne_b_A1)
  have V_A2 := V_A2.other W8 (Ne.symm ne_b_A2)
  have V_I := V_I.other W8 (Ne.symm ne_b_I)
  have AR_R := AR_R.other W8 (Ne.symm ne_b_R)
  refine own_via st8 ?_
  show own_Go p e below s _ _ _ (T8.setTop (mkF m 75 #[.val (.ref b), .val (.int (1 : Int32))] []))
  refine own_via (fun _ k => XS.aloadN X8.here hx rfl (hb hby d3_75) rfl rfl k) ?_
  show own_Go p e below s _ _ _ (T8.setTop (mkF m 76 #[.val (.ref b), .val (.int (1 : Int32))] [(.ref b)]))
  obtain ⟨T9, X9, e9, st9⟩ := getF X8 hx hZ hown (host := "") (Or.inl (hw _ (List.mem_of_getElem? (i := 39) rfl))) Via.refl e8 (OB_b.2.2.2.2.2.2.2.2.1) (g := (mkF m 76 #[.val (.ref b), .val (.int (1 : Int32))] [(.ref b)])) rfl rfl (hb hby d3_76)
  refine own_via st9 ?_
  show own_Go p e below s _ _ _ (T9.setTop (mkF m 79 #[.val (.ref b), .val (.int (1 : Int32))] [.null]))
  refine own_via (fun _ k => XS.ifnullYes X9.here hx rfl (pc0 := 79) (pc' := 98) rfl (hb hby d3_79) rfl (by decide) (by decide) k) ?_
  show own_Go p e below s _ _ _ (T9.setTop (mkF m 98 #[.val (.ref b), .val (.int (1 : Int32))] []))
  refine own_via (fun _ k => XS.iloadN X9.here hx rfl (hb hby d3_98) rfl k) ?_
  show own_Go p e below s _ _ _ (T9.setTop (mkF m 99 #[.val (.ref b), .val (.int (1 : Int32))] [(.int (1 : Int32))]))
  exact own_retI X9 hx hlk Bd.returns (hb hby d3_99) (by rw [e9]; exact ⟨N8, OL, Z0, KP, rfl, I, R, kI, kR, ⟨OB_b, V_A1, V_A2, OV_A1, OV_A2, ne_b_A1, ne_b_A2, ne_A1_A2, g_b, g_A1, g_A2⟩, V_I, AR_R, OVR_R, ne_b_I, ne_A1_I, ne_A2_I, ne_b_R, ne_A1_R, ne_A2_R, ne_I_R, sz_I, sz_R⟩) (by decide) (by decide)
def Q3_2 (Z : State) (b A1 A2 x1 x2 : Addr) (k1 k2 : ClassId) (kk rf : Int32) (w0 w1 mr : Addr) (kw0 kw1 : ClassId) (h0 : Heap) (n0 : Nat) (v : Option Value) (h : Heap) (L : List Loc) : Prop := Fr n0 L ∧ Old Z n0 h ∧ n0 ≤ h.size ∧ Keep h0 h [b] ∧ v = some (.int ((1 : Int32) + (1 : Int32))) ∧ own_Rows Z h n0 w0 b A1 A2 x1 x2 k1 k2 (((1 : Int32) + (1 : Int32)) + (1 : Int32)) kk rf (8 : Int32)
set_option maxRecDepth 65536 in
set_option maxHeartbeats 40000000 in
theorem rm3_2 (l : Launch) (Z : State) (a0 : Array Value) (hw : ∀ d ∈ tables_1, d.before a0 Z = true) (ws : List Jvm.Cond) (b A1 A2 x1 x2 : Addr) (k1 k2 : ClassId) (kk rf : Int32) (w0 w1 mr : Addr) (kw0 kw1 : ClassId) (h0 : Heap) (n0 : Nat) (Z0 : n0 ≤ h0.size) (K : own_K Z Z.heap w0 w1 mr kw0 kw1) (OL : Old Z n0 h0) (RS : own_Rows Z h0 n0 w0 b A1 A2 x1 x2 k1 k2 ((1 : Int32) + (1 : Int32)) kk rf (8 : Int32)) :
    MetFree l (⟨"com/example/whenever/whenever/internal/engine/Rows", "add", "()I"⟩ : MethodName) (head1 (Jvm.Cond.code (⟨"com/example/whenever/whenever/internal/engine/Rows", "add", "()I"⟩ : MethodName) prog_105_method_2_code 2 (some .int) :: ws) ({ frames := 0, cells := 0, slots := 0, locals := 0 } : Room)) (fun a U => a = #[(.ref b)] ∧ Z.Warmed39 U.vm ∧ U.heap = h0) (fun _ _ _ _ _ => True) (fun _ U o U' => ∃ v L, o = .returned v ∧ Q3_2 Z b A1 A2 x1 x2 k1 k2 kk rf w0 w1 mr kw0 kw1 h0 n0 v U'.heap L ∧ FrameEnd U o U' L ({ frames := 0, cells := 0, slots := 0, locals := 0 } : Room).cells ({ frames := 0, cells := 0, slots := 0, locals := 0 } : Room).slots) := by
  refine MetFree.of_bodySF (plainFor_of_name pn0) hisR ?_
  intro p e s m args below meth c s₁ Bd hml0 hP hK
  obtain ⟨rfl, hZ, hh⟩ := hP
  have hx := Bd.exec
  have hby := Bd.bytes
  have hml : c.maxLocals = 2 := hml0
  have hown : s.vm.findClass "com/example/whenever/whenever/internal/engine/Rows" = some m.cls := findClass_of_methodNamed Bd.named
  have hnm := (name_of_methodNamed Bd.named Bd.method).1
  have hlk := Bd.notSynchronized
  have X0 : Stand p l e ({ frames := 0, cells := 0, slots := 0, locals := 0 } : Room) s m #[(.ref b)] below meth c s₁ [] 0 0 := Stand.of_body Bd
  have e0 : s₁.heap = h0 := by rw [← hh, Bd.state]; rfl
  have K0 := K
  obtain ⟨S_w0, S_w1, E_w0, E_w1, V_w0, V_w1, MR⟩ := K
  show own_Go p e below s (Q3_2 Z b A1 A2 x1 x2 k1 k2 kk rf w0 w1 mr kw0 kw1 h0 n0) 0 0 (s₁.setTop (entryFrame m #[(.ref b)] 2))
  rw [show entryFrame m #[(.ref b)] 2 = mkF m 0 #[.val (.ref b), .unset] [] from by first | (simp [entryFrame, mkF, argsToLocals, Value.category]; done) | rfl]
  have KP := Keep.refl h0 [b]
  obtain ⟨OB_b, V_A1, V_A2, OV_A1, OV_A2, ne_b_A1, ne_b_A2, ne_A1_A2, g_b, g_A1, g_A2⟩ := RS
  show own_Go p e below s _ _ _ (s₁.setTop (mkF m 0 #[.val (.ref b), .unset] []))
  refine own_via (fun _ k => XS.aloadN X0.here hx rfl (hb hby d3_0) rfl rfl k) ?_
  show own_Go p e below s _ _ _ (s₁.setTop (mkF m 1 #[.val (.ref b), .unset] [(.ref b)]))
  obtain ⟨T1, X1, e1, st1⟩ := getF X0 hx hZ hown (host := "") (Or.inl (hw _ (List.mem_of_getElem? (i := 37) rfl))) Via.refl e0 (OB_b.2.2.2.2.2.2.2.1) (g := (mkF m 1 #[.val (.ref b), .unset] [(.ref b)])) rfl rfl (hb hby d3_1)
  refine own_via st1 ?_
  show own_Go p e below s _ _ _ (T1.setTop (mkF m 4 #[.val (.ref b), .unset] [(.int (0 : Int32))]))
  refine own_via (fun _ k => XS.ifYes X1.here hx rfl (pc0 := 4) (pc' := 24) rfl (hb hby d3_4) rfl ((if0 _ _).trans (teq (by decide : (0 : Int32) = (0 : Int32))).1) (by decide) (by decide) k) ?_
  show own_Go p e below s _ _ _ (T1.setTop (mkF m 24 #[.val (.ref b), .unset] []))
  refine own_via (fun _ k => XS.aloadN X1.here hx rfl (hb hby d3_24) rfl rfl k) ?_
  show own_Go p e below s _ _ _ (T1.setTop (mkF m 25 #[.val (.ref b), .unset] [(.ref b)]))
  obtain ⟨T2, X2, e2, st2⟩ := getF X1 hx hZ hown (host := "") (Or.inl (hw _ (List.mem_of_getElem? (i := 39) rfl))) Via.refl e1 (OB_b.2.2.2.2.2.2.2.2.1) (g := (mkF m 25 #[.val (.ref b), .unset] [(.ref b)])) rfl rfl (hb hby d3_25)
  refine own_via st2 ?_
  show own_Go p e below s _ _ _ (T2.setTop (mkF m 28 #[.val (.ref b), .unset] [.null]))
  refine own_via (fun _ k => XS.ifnullYes X2.here hx rfl (pc0 := 28) (pc' := 45) rfl (hb hby d3_28) rfl (by decide) (by decide) k) ?_
  show own_Go p e below s _ _ _ (T2.setTop (mkF m 45 #[.val (.ref b), .unset] []))
  refine own_via (fun _ k => XS.aloadN X2.here hx rfl (hb hby d3_45) rfl rfl k) ?_
  show own_Go p e below s _ _ _ (T2.setTop (mkF m 46 #[.val (.ref b), .unset] [(.ref b)]))
  obtain ⟨T3, X3, e3, st3⟩ := getF X2 hx hZ hown (host := "") (Or.inl (hw _ (List.mem_of_getElem? (i := 23) rfl))) Via.refl e2 (OB_b.2.2.2.1) (g := (mkF m 46 #[.val (.ref b), .unset] [(.ref b)])) rfl rfl (hb hby d3_46)
  refine own_via st3 ?_
  show own_Go p e below s _ _ _ (T3.setTop (mkF m 49 #[.val (.ref b), .unset] [(.int ((1 : Int32) + (1 : Int32)))]))
  refine own_via (fun _ k => XS.aloadN X3.here hx rfl (hb hby d3_49) rfl rfl k) ?_
  show own_Go p e below s _ _ _ (T3.setTop (mkF m 50 #[.val (.ref b), .unset] [(.ref b), (.int ((1 : Int32) + (1 : Int32)))]))
  obtain ⟨T4, X4, e4, st4⟩ := getF X3 hx hZ hown (host := "") (Or.inl (hw _ (List.mem_of_getElem? (i := 41) rfl))) Via.refl e3 (OB_b.2.2.2.2.2.2.2.2.2) (g := (mkF m 50 #[.val (.ref b), .unset] [(.ref b), (.int ((1 : Int32) + (1 : Int32)))])) rfl rfl (hb hby d3_50)
  refine own_via st4 ?_
  show own_Go p e below s _ _ _ (T4.setTop (mkF m 53 #[.val (.ref b), .unset] [(.int (8 : Int32)), (.int ((1 : Int32) + (1 : Int32)))]))
  refine own_via (fun _ k => XS.icmpYes X4.here hx rfl (pc0 := 53) (pc' := 60) rfl (hb hby d3_53) rfl (tlt (by decide : ((1 : Int32) + (1 : Int32)) < (8 : Int32))).1 (by decide) (by decide) k) ?_
  show own_Go p e below s _ _ _ (T4.setTop (mkF m 60 #[.val (.ref b), .unset] []))
  refine own_via (fun _ k => XS.aloadN X4.here hx rfl (hb hby d3_60) rfl rfl k) ?_
  show own_Go p e below s _ _ _ (T4.setTop (mkF m 61 #[.val (.ref b), .unset] [(.ref b)]))
  obtain ⟨T5, X5, e5, st5⟩ := getF X4 hx hZ hown (host := "") (Or.inl (hw _ (List.mem_of_getElem? (i := 23) rfl))) Via.refl e4 (OB_b.2.2.2.1) (g := (mkF m 61 #[.val (.ref b), .unset] [(.ref b)])) rfl rfl (hb hby d3_61)
  refine own_via st5 ?_
  show own_Go p e below s _ _ _ (T5.setTop (mkF m 64 #[.val (.ref b), .unset] [(.int ((1 : Int32) + (1 : Int32)))]))
  refine own_via (fun _ k => XS.istoreN X5.here hx rfl (hb hby d3_64) rfl (l' := #[.val (.ref b), .val (.int ((1 : Int32) + (1 : Int32)))]) rfl k) ?_
  show own_Go p e below s _ _ _ (T5.setTop (mkF m 65 #[.val (.ref b), .val (.int ((1 : Int32) + (1 : Int32)))] []))
  refine own_via (fun _ k => XS.aloadN X5.here hx rfl (hb hby d3_65) rfl rfl k) ?_
  show own_Go p e below s _ _ _ (T5.setTop (mkF m 66 #[.val (.ref b), .val (.int ((1 : Int32) + (1 : Int32)))] [(.ref b)]))
  refine own_via (fun _ k => XS.dup X5.here hx rfl (hb hby d3_66) rfl rfl k) ?_
  show own_Go p e below s _ _ _ (T5.setTop (mkF m 67 #[.val (.ref b), .val (.int ((1 : Int32) + (1 : Int32)))] [(.ref b), (.ref b)]))
  obtain ⟨T6, X6, e6, st6⟩ := getF X5 hx hZ hown (host := "") (Or.inl (hw _ (List.mem_of_getElem? (i := 23) rfl))) Via.refl e5 (OB_b.2.2.2.1) (g := (mkF m 67 #[.val (.ref b), .val (.int ((1 : Int32) + (1 : Int32)))] [(.ref b), (.ref b)])) rfl rfl (hb hby d3_67)
  refine own_via st6 ?_
  show own_Go p e below s _ _ _ (T6.setTop (mkF m 70 #[.val (.ref b), .val (.int ((1 : Int32) + (1 : Int32)))] [(.int ((1 : Int32) + (1 : Int32))), (.ref b)]))
  refine own_via (fun _ k => XS.iconst X6.here hx rfl (hb hby d3_70) k) ?_
  show own_Go p e below s _ _ _ (T6.setTop (mkF m 71 #[.val (.ref b), .val (.int ((1 : Int32) + (1 : Int32)))] [(.int (1 : Int32)), (.int ((1 : Int32) + (1 : Int32))), (.ref b)]))
  refine own_via (fun _ k => XS.iadd X6.here hx rfl (hb hby d3_71) rfl k) ?_
  show own_Go p e below s _ _ _ (T6.setTop (mkF m 72 #[.val (.ref b), .val (.int ((1 : Int32) + (1 : Int32)))] [(.int (((1 : Int32) + (1 : Int32)) + (1 : Int32))), (.ref b)]))
  obtain ⟨T7, h7, X7, e7, W7, st7⟩ := putF X6 hx hZ hown (host := "") (Or.inl (hw _ (List.mem_of_getElem? (i := 23) rfl))) Via.refl e6 (OB_b.2.2.2.1) OB_b.1 (Or.inl (hw _ (List.mem_of_getElem? (i := 24) rfl))) (hw _ (List.mem_of_getElem? (i := 1) rfl)) (ty := .int) (by decide) rfl rfl (g := (mkF m 72 #[.val (.ref b), .val (.int ((1 : Int32) + (1 : Int32)))] [(.int (((1 : Int32) + (1 : Int32)) + (1 : Int32))), (.ref b)])) rfl rfl (hb hby d3_72)
  have OB_b := own_put0_2 hw OB_b W7
  have N7 := Fr.snoc X7 (Fr.nil n0) g_b
  have Z0 := Nat.le_trans Z0 (Keep.of_wr W7).1
  have OL := OL.wr W7 g_b
  have KP := KP.wr W7 (Or.inl (List.mem_of_getElem? (i := 0) rfl))
  have V_A1 := V_A1.other W7 (Ne.symm ne_b_A1)
  have V_A2 := V_A2.other W7 (Ne.symm ne_b_A2)
  refine own_via st7 ?_
  show own_Go p e below s _ _ _ (T7.setTop (mkF m 75 #[.val (.ref b), .val (.int ((1 : Int32) + (1 : Int32)))] []))
  refine own_via (fun _ k => XS.aloadN X7.here hx rfl (hb hby d3_75) rfl rfl k) ?_
  show own_Go p e below s _ _ _ (T7.setTop (mkF m 76 #[.val (.ref b), .val (.int ((1 : Int32) + (1 : Int32)))] [(.ref b)]))
  obtain ⟨T8, X8, e8, st8⟩ := getF X7 hx hZ hown (host := "") (Or.inl (hw _ (List.mem_of_getElem? (i := 39) rfl))) Via.refl e7 (OB_b.2.2.2.2.2.2.2.2.1) (g := (mkF m 76 #[.val (.ref b), .val (.int ((1 : Int32) + (1 : Int32)))] [(.ref b)])) rfl rfl (hb hby d3_76)
  refine own_via st8 ?_
  show own_Go p e below s _ _ _ (T8.setTop (mkF m 79 #[.val (.ref b), .val (.int ((1 : Int32) + (1 : Int32)))] [.null]))
  refine own_via (fun _ k => XS.ifnullYes X8.here hx rfl (pc0 := 79) (pc' := 98) rfl (hb hby d3_79) rfl (by decide) (by decide) k) ?_
  show own_Go p e below s _ _ _ (T8.setTop (mkF m 98 #[.val (.ref b), .val (.int ((1 : Int32) + (1 : Int32)))] []))
  refine own_via (fun _ k => XS.iloadN X8.here hx rfl (hb hby d3_98) rfl k) ?_
  show own_Go p e below s _ _ _ (T8.setTop (mkF m 99 #[.val (.ref b), .val (.int ((1 : Int32) + (1 : Int32)))] [(.int ((1 : Int32) + (1 : Int32)))]))
  exact own_retI X8 hx hlk Bd.returns (hb hby d3_99) (by rw [e8]; exact ⟨N7, OL, Z0, KP, rfl, ⟨OB_b, V_A1, V_A2, OV_A1, OV_A2, ne_b_A1, ne_b_A2, ne_A1_A2, g_b, g_A1, g_A2⟩⟩) (by decide) (by decide)
def Q3_3 (Z : State) (b A1 A2 x1 x2 : Addr) (k1 k2 : ClassId) (kk rf : Int32) (w0 w1 mr : Addr) (kw0 kw1 : ClassId) (h0 : Heap) (n0 : Nat) (v : Option Value) (h : Heap) (L : List Loc) : Prop := Fr n0 L ∧ Old Z n0 h ∧ n0 ≤ h.size ∧ Keep h0 h [b] ∧ v = some (.int (((1 : Int32) + (1 : Int32)) + (1 : Int32))) ∧ own_Rows Z h n0 w0 b A1 A2 x1 x2 k1 k2 ((((1 : Int32) + (1 : Int32)) + (1 : Int32)) + (1 : Int32)) kk rf (8 : Int32)
set_option maxRecDepth 65536 in
set_option maxHeartbeats 40000000 in
theorem rm3_3 (l : Launch) (Z : State) (a0 : Array Value) (hw : ∀ d ∈ tables_1, d.before a0 Z = true) (ws : List Jvm.Cond) (b A1 A2 x1 x2 : Addr) (k1 k2 : ClassId) (kk rf : Int32) (w0 w1 mr : Addr) (kw0 kw1 : ClassId) (h0 : Heap) (n0 : Nat) (Z0 : n0 ≤ h0.size) (K : own_K Z Z.heap w0 w1 mr kw0 kw1) (OL : Old Z n0 h0) (RS : own_Rows Z h0 n0 w0 b A1 A2 x1 x2 k1 k2 (((1 : Int32) + (1 : Int32)) + (1 : Int32)) kk rf (8 : Int32)) :
    MetFree l (⟨"com/example/whenever/whenever/internal/engine/Rows", "add", "()I"⟩ : MethodName) (head1 (Jvm.Cond.code (⟨"com/example/whenever/whenever/internal/engine/Rows", "add", "()I"⟩ : MethodName) prog_105_method_2_code 2 (some .int) :: ws) ({ frames := 0, cells := 0, slots := 0, locals := 0 } : Room)) (fun a U => a = #[(.ref b)] ∧ Z.Warmed39 U.vm ∧ U.heap = h0) (fun _ _ _ _ _ => True) (fun _ U o U' => ∃ v L, o = .returned v ∧ Q3_3 Z b A1 A2 x1 x2 k1 k2 kk rf w0 w1 mr kw0 kw1 h0 n0 v U'.heap L ∧ FrameEnd U o U' L ({ frames := 0, cells := 0, slots := 0, locals := 0 } : Room).cells ({ frames := 0, cells := 0, slots := 0, locals := 0 } : Room).slots) := by
  refine MetFree.of_bodySF (plainFor_of_name pn0) hisR ?_
  intro p e s m args below meth c s₁ Bd hml0 hP hK
  obtain ⟨rfl, hZ, hh⟩ := hP
  have hx := Bd.exec
  have hby := Bd.bytes
  have hml : c.maxLocals = 2 := hml0
  have hown : s.vm.findClass "com/example/whenever/whenever/internal/engine/Rows" = some m.cls := findClass_of_methodNamed Bd.named
  have hnm := (name_of_methodNamed Bd.named Bd.method).1
  have hlk := Bd.notSynchronized
  have X0 : Stand p l e ({ frames := 0, cells := 0, slots := 0, locals := 0 } : Room) s m #[(.ref b)] below meth c s₁ [] 0 0 := Stand.of_body Bd
  have e0 : s₁.heap = h0 := by rw [← hh, Bd.state]; rfl
  have K0 := K
  obtain ⟨S_w0, S_w1, E_w0, E_w1, V_w0, V_w1, MR⟩ := K
  show own_Go p e below s (Q3_3 Z b A1 A2 x1 x2 k1 k2 kk rf w0 w1 mr kw0 kw1 h0 n0) 0 0 (s₁.setTop (entryFrame m #[(.ref b)] 2))
  rw [show entryFrame m #[(.ref b)] 2 = mkF m 0 #[.val (.ref b), .unset] [] from by first | (simp [entryFrame, mkF, argsToLocals, Value.category]; done) | rfl]
  have KP := Keep.refl h0 [b]
  obtain ⟨OB_b, V_A1, V_A2, OV_A1, OV_A2, ne_b_A1, ne_b_A2, ne_A1_A2, g_b, g_A1, g_A2⟩ := RS
  show own_Go p e below s _ _ _ (s₁.setTop (mkF m 0 #[.val (.ref b), .unset] []))
  refine own_via (fun _ k => XS.aloadN X0.here hx rfl (hb hby d3_0) rfl rfl k) ?_
  show own_Go p e below s _ _ _ (s₁.setTop (mkF m 1 #[.val (.ref b), .unset] [(.ref b)]))
  obtain ⟨T1, X1, e1, st1⟩ := getF X0 hx hZ hown (host := "") (Or.inl (hw _ (List.mem_of_getElem? (i := 37) rfl))) Via.refl e0 (OB_b.2.2.2.2.2.2.2.1) (g := (mkF m 1 #[.val (.ref b), .unset] [(.ref b)])) rfl rfl (hb hby d3_1)
  refine own_via st1 ?_
  show own_Go p e below s _ _ _ (T1.setTop (mkF m 4 #[.val (.ref b), .unset] [(.int (0 : Int32))]))
  refine own_via (fun _ k => XS.ifYes X1.here hx rfl (pc0 := 4) (pc' := 24) rfl (hb hby d3_4) rfl ((if0 _ _).trans (teq (by decide : (0 : Int32) = (0 : Int32))).1) (by decide) (by decide) k) ?_
  show own_Go p e below s _ _ _ (T1.setTop (mkF m 24 #[.val (.ref b), .unset] []))
  refine own_via (fun _ k => XS.aloadN X1.here hx rfl (hb hby d3_24) rfl rfl k) ?_
  show own_Go p e below s _ _ _ (T1.setTop (mkF m 25 #[.val (.ref b), .unset] [(.ref b)]))
  obtain ⟨T2, X2, e2, st2⟩ := getF X1 hx hZ hown (host := "") (Or.inl (hw _ (List.mem_of_getElem? (i := 39) rfl))) Via.refl e1 (OB_b.2.2.2.2.2.2.2.2.1) (g := (mkF m 25 #[.val (.ref b), .unset] [(.ref b)])) rfl rfl (hb hby d3_25)
  refine own_via st2 ?_
  show own_Go p e below s _ _ _ (T2.setTop (mkF m 28 #[.val (.ref b), .unset] [.null]))
  refine own_via (fun _ k => XS.ifnullYes X2.here hx rfl (pc0 := 28) (pc' := 45) rfl (hb hby d3_28) rfl (by decide) (by decide) k) ?_
  show own_Go p e below s _ _ _ (T2.setTop (mkF m 45 #[.val (.ref b), .unset] []))
  refine own_via (fun _ k => XS.aloadN X2.here hx rfl (hb hby d3_45) rfl rfl k) ?_
  show own_Go p e below s _ _ _ (T2.setTop (mkF m 46 #[.val (.ref b), .unset] [(.ref b)]))
  obtain ⟨T3, X3, e3, st3⟩ := getF X2 hx hZ hown (host := "") (Or.inl (hw _ (List.mem_of_getElem? (i := 23) rfl))) Via.refl e2 (OB_b.2.2.2.1) (g := (mkF m 46 #[.val (.ref b), .unset] [(.ref b)])) rfl rfl (hb hby d3_46)
  refine own_via st3 ?_
  show own_Go p e below s _ _ _ (T3.setTop (mkF m 49 #[.val (.ref b), .unset] [(.int (((1 : Int32) + (1 : Int32)) + (1 : Int32)))]))
  refine own_via (fun _ k => XS.aloadN X3.here hx rfl (hb hby d3_49) rfl rfl k) ?_
  show own_Go p e below s _ _ _ (T3.setTop (mkF m 50 #[.val (.ref b), .unset] [(.ref b), (.int (((1 : Int32) + (1 : Int32)) + (1 : Int32)))]))
  obtain ⟨T4, X4, e4, st4⟩ := getF X3 hx hZ hown (host := "") (Or.inl (hw _ (List.mem_of_getElem? (i := 41) rfl))) Via.refl e3 (OB_b.2.2.2.2.2.2.2.2.2) (g := (mkF m 50 #[.val (.ref b), .unset] [(.ref b), (.int (((1 : Int32) + (1 : Int32)) + (1 : Int32)))])) rfl rfl (hb hby d3_50)
  refine own_via st4 ?_
  show own_Go p e below s _ _ _ (T4.setTop (mkF m 53 #[.val (.ref b), .unset] [(.int (8 : Int32)), (.int (((1 : Int32) + (1 : Int32)) + (1 : Int32)))]))
  refine own_via (fun _ k => XS.icmpYes X4.here hx rfl (pc0 := 53) (pc' := 60) rfl (hb hby d3_53) rfl (tlt (by decide : (((1 : Int32) + (1 : Int32)) + (1 : Int32)) < (8 : Int32))).1 (by decide) (by decide) k) ?_
  show own_Go p e below s _ _ _ (T4.setTop (mkF m 60 #[.val (.ref b), .unset] []))
  refine own_via (fun _ k => XS.aloadN X4.here hx rfl (hb hby d3_60) rfl rfl k) ?_
  show own_Go p e below s _ _ _ (T4.setTop (mkF m 61 #[.val (.ref b), .unset] [(.ref b)]))
  obtain ⟨T5, X5, e5, st5⟩ := getF X4 hx hZ hown (host := "") (Or.inl (hw _ (List.mem_of_getElem? (i := 23) rfl))) Via.refl e4 (OB_b.2.2.2.1) (g := (mkF m 61 #[.val (.ref b), .unset] [(.ref b)])) rfl rfl (hb hby d3_61)
  refine own_via st5 ?_
  show own_Go p e below s _ _ _ (T5.setTop (mkF m 64 #[.val (.ref b), .unset] [(.int (((1 : Int32) + (1 : Int32)) + (1 : Int32)))]))
  refine own_via (fun _ k => XS.istoreN X5.here hx rfl (hb hby d3_64) rfl (l' := #[.val (.ref b), .val (.int (((1 : Int32) + (1 : Int32)) + (1 : Int32)))]) rfl k) ?_
  show own_Go p e below s _ _ _ (T5.setTop (mkF m 65 #[.val (.ref b), .val (.int (((1 : Int32) + (1 : Int32)) + (1 : Int32)))] []))
  refine own_via (fun _ k => XS.aloadN X5.here hx rfl (hb hby d3_65) rfl rfl k) ?_
  show own_Go p e below s _ _ _ (T5.setTop (mkF m 66 #[.val (.ref b), .val (.int (((1 : Int32) + (1 : Int32)) + (1 : Int32)))] [(.ref b)]))
  refine own_via (fun _ k => XS.dup X5.here hx rfl (hb hby d3_66) rfl rfl k) ?_
  show own_Go p e below s _ _ _ (T5.setTop (mkF m 67 #[.val (.ref b), .val (.int (((1 : Int32) + (1 : Int32)) + (1 : Int32)))] [(.ref b), (.ref b)]))
  obtain ⟨T6, X6, e6, st6⟩ := getF X5 hx hZ hown (host := "") (Or.inl (hw _ (List.mem_of_getElem? (i := 23) rfl))) Via.refl e5 (OB_b.2.2.2.1) (g := (mkF m 67 #[.val (.ref b), .val (.int (((1 : Int32) + (1 : Int32)) + (1 : Int32)))] [(.ref b), (.ref b)])) rfl rfl (hb hby d3_67)
  refine own_via st6 ?_
  show own_Go p e below s _ _ _ (T6.setTop (mkF m 70 #[.val (.ref b), .val (.int (((1 : Int32) + (1 : Int32)) + (1 : Int32)))] [(.int (((1 : Int32) + (1 : Int32)) + (1 : Int32))), (.ref b)]))
  refine own_via (fun _ k => XS.iconst X6.here hx rfl (hb hby d3_70) k) ?_
  show own_Go p e below s _ _ _ (T6.setTop (mkF m 71 #[.val (.ref b), .val (.int (((1 : Int32) + (1 : Int32)) + (1 : Int32)))] [(.int (1 : Int32)), (.int (((1 : Int32) + (1 : Int32)) + (1 : Int32))), (.ref b)]))
  refine own_via (fun _ k => XS.iadd X6.here hx rfl (hb hby d3_71) rfl k) ?_
  show own_Go p e below s _ _ _ (T6.setTop (mkF m 72 #[.val (.ref b), .val (.int (((1 : Int32) + (1 : Int32)) + (1 : Int32)))] [(.int ((((1 : Int32) + (1 : Int32)) + (1 : Int32)) + (1 : Int32))), (.ref b)]))
  obtain ⟨T7, h7, X7, e7, W7, st7⟩ := putF X6 hx hZ hown (host := "") (Or.inl (hw _ (List.mem_of_getElem? (i := 23) rfl))) Via.refl e6 (OB_b.2.2.2.1) OB_b.1 (Or.inl (hw _ (List.mem_of_getElem? (i := 24) rfl))) (hw _ (List.mem_of_getElem? (i := 1) rfl)) (ty := .int) (by decide) rfl rfl (g := (mkF m 72 #[.val (.ref b), .val (.int (((1 : Int32) + (1 : Int32)) + (1 : Int32)))] [(.int ((((1 : Int32) + (1 : Int32)) + (1 : Int32)) + (1 : Int32))), (.ref b)])) rfl rfl (hb hby d3_72)
  have OB_b := own_put0_2 hw OB_b W7
  have N7 := Fr.snoc X7 (Fr.nil n0) g_b
  have Z0 := Nat.le_trans Z0 (Keep.of_wr W7).1
  have OL := OL.wr W7 g_b
  have KP := KP.wr W7 (Or.inl (List.mem_of_getElem? (i := 0) rfl))
  have V_A1 := V_A1.other W7 (Ne.symm ne_b_A1)
  have V_A2 := V_A2.other W7 (Ne.symm ne_b_A2)
  refine own_via st7 ?_
  show own_Go p e below s _ _ _ (T7.setTop (mkF m 75 #[.val (.ref b), .val (.int (((1 : Int32) + (1 : Int32)) + (1 : Int32)))] []))
  refine own_via (fun _ k => XS.aloadN X7.here hx rfl (hb hby d3_75) rfl rfl k) ?_
  show own_Go p e below s _ _ _ (T7.setTop (mkF m 76 #[.val (.ref b), .val (.int (((1 : Int32) + (1 : Int32)) + (1 : Int32)))] [(.ref b)]))
  obtain ⟨T8, X8, e8, st8⟩ := getF X7 hx hZ hown (host := "") (Or.inl (hw _ (List.mem_of_getElem? (i := 39) rfl))) Via.refl e7 (OB_b.2.2.2.2.2.2.2.2.1) (g := (mkF m 76 #[.val (.ref b), .val (.int (((1 : Int32) + (1 : Int32)) + (1 : Int32)))] [(.ref b)])) rfl rfl (hb hby d3_76)
  refine own_via st8 ?_
  show own_Go p e below s _ _ _ (T8.setTop (mkF m 79 #[.val (.ref b), .val (.int (((1 : Int32) + (1 : Int32)) + (1 : Int32)))] [.null]))
  refine own_via (fun _ k => XS.ifnullYes X8.here hx rfl (pc0 := 79) (pc' := 98) rfl (hb hby d3_79) rfl (by decide) (by decide) k) ?_
  show own_Go p e below s _ _ _ (T8.setTop (mkF m 98 #[.val (.ref b), .val (.int (((1 : Int32) + (1 : Int32)) + (1 : Int32)))] []))
  refine own_via (fun _ k => XS.iloadN X8.here hx rfl (hb hby d3_98) rfl k) ?_
  show own_Go p e below s _ _ _ (T8.setTop (mkF m 99 #[.val (.ref b), .val (.int (((1 : Int32) + (1 : Int32)) + (1 : Int32)))] [(.int (((1 : Int32) + (1 : Int32)) + (1 : Int32)))]))
  exact own_retI X8 hx hlk Bd.returns (hb hby d3_99) (by rw [e8]; exact ⟨N7, OL, Z0, KP, rfl, ⟨OB_b, V_A1, V_A2, OV_A1, OV_A2, ne_b_A1, ne_b_A2, ne_A1_A2, g_b, g_A1, g_A2⟩⟩) (by decide) (by decide)
def Q3_4 (Z : State) (b A1 A2 x1 x2 : Addr) (k1 k2 : ClassId) (kk rf : Int32) (w0 w1 mr : Addr) (kw0 kw1 : ClassId) (h0 : Heap) (n0 : Nat) (v : Option Value) (h : Heap) (L : List Loc) : Prop := Fr n0 L ∧ Old Z n0 h ∧ n0 ≤ h.size ∧ Keep h0 h [b] ∧ v = some (.int ((((1 : Int32) + (1 : Int32)) + (1 : Int32)) + (1 : Int32))) ∧ own_Rows Z h n0 w0 b A1 A2 x1 x2 k1 k2 (((((1 : Int32) + (1 : Int32)) + (1 : Int32)) + (1 : Int32)) + (1 : Int32)) kk rf (8 : Int32)
set_option maxRecDepth 65536 in
set_option maxHeartbeats 40000000 in
theorem rm3_4 (l : Launch) (Z : State) (a0 : Array Value) (hw : ∀ d ∈ tables_1, d.before a0 Z = true) (ws : List Jvm.Cond) (b A1 A2 x1 x2 : Addr) (k1 k2 : ClassId) (kk rf : Int32) (w0 w1 mr : Addr) (kw0 kw1 : ClassId) (h0 : Heap) (n0 : Nat) (Z0 : n0 ≤ h0.size) (K : own_K Z Z.heap w0 w1 mr kw0 kw1) (OL : Old Z n0 h0) (RS : own_Rows Z h0 n0 w0 b A1 A2 x1 x2 k1 k2 ((((1 : Int32) + (1 : Int32)) + (1 : Int32)) + (1 : Int32)) kk rf (8 : Int32)) :
    MetFree l (⟨"com/example/whenever/whenever/internal/engine/Rows", "add", "()I"⟩ : MethodName) (head1 (Jvm.Cond.code (⟨"com/example/whenever/whenever/internal/engine/Rows", "add", "()I"⟩ : MethodName) prog_105_method_2_code 2 (some .int) :: ws) ({ frames := 0, cells := 0, slots := 0, locals := 0 } : Room)) (fun a U => a = #[(.ref b)] ∧ Z.Warmed39 U.vm ∧ U.heap = h0) (fun _ _ _ _ _ => True) (fun _ U o U' => ∃ v L, o = .returned v ∧ Q3_4 Z b A1 A2 x1 x2 k1 k2 kk rf w0 w1 mr kw0 kw1 h0 n0 v U'.heap L ∧ FrameEnd U o U' L ({ frames := 0, cells := 0, slots := 0, locals := 0 } : Room).cells ({ frames := 0, cells := 0, slots := 0, locals := 0 } : Room).slots) := by
  refine MetFree.of_bodySF (plainFor_of_name pn0) hisR ?_
  intro p e s m args below meth c s₁ Bd hml0 hP hK
  obtain ⟨rfl, hZ, hh⟩ := hP
  have hx := Bd.exec
  have hby := Bd.bytes
  have hml : c.maxLocals = 2 := hml0
  have hown : s.vm.findClass "com/example/whenever/whenever/internal/engine/Rows" = some m.cls := findClass_of_methodNamed Bd.named
  have hnm := (name_of_methodNamed Bd.named Bd.method).1
  have hlk := Bd.notSynchronized
  have X0 : Stand p l e ({ frames := 0, cells := 0, slots := 0, locals := 0 } : Room) s m #[(.ref b)] below meth c s₁ [] 0 0 := Stand.of_body Bd
  have e0 : s₁.heap = h0 := by rw [← hh, Bd.state]; rfl
  have K0 := K
  obtain ⟨S_w0, S_w1, E_w0, E_w1, V_w0, V_w1, MR⟩ := K
  show own_Go p e below s (Q3_4 Z b A1 A2 x1 x2 k1 k2 kk rf w0 w1 mr kw0 kw1 h0 n0) 0 0 (s₁.setTop (entryFrame m #[(.ref b)] 2))
  rw [show entryFrame m #[(.ref b)] 2 = mkF m 0 #[.val (.ref b), .unset] [] from by first | (simp [entryFrame, mkF, argsToLocals, Value.category]; done) | rfl]
  have KP := Keep.refl h0 [b]
  obtain ⟨OB_b, V_A1, V_A2, OV_A1, OV_A2, ne_b_A1, ne_b_A2, ne_A1_A2, g_b, g_A1, g_A2⟩ := RS
  show own_Go p e below s _ _ _ (s₁.setTop (mkF m 0 #[.val (.ref b), .unset] []))
  refine own_via (fun _ k => XS.aloadN X0.here hx rfl (hb hby d3_0) rfl rfl k) ?_
  show own_Go p e below s _ _ _ (s₁.setTop (mkF m 1 #[.val (.ref b), .unset] [(.ref b)]))
  obtain ⟨T1, X1, e1, st1⟩ := getF X0 hx hZ hown (host := "") (Or.inl (hw _ (List.mem_of_getElem? (i := 37) rfl))) Via.refl e0 (OB_b.2.2.2.2.2.2.2.1) (g := (mkF m 1 #[.val (.ref b), .unset] [(.ref b)])) rfl rfl (hb hby d3_1)
  refine own_via st1 ?_
  show own_Go p e below s _ _ _ (T1.setTop (mkF m 4 #[.val (.ref b), .unset] [(.int (0 : Int32))]))
  refine own_via (fun _ k => XS.ifYes X1.here hx rfl (pc0 := 4) (pc' := 24) rfl (hb hby d3_4) rfl ((if0 _ _).trans (teq (by decide : (0 : Int32) = (0 : Int32))).1) (by decide) (by decide) k) ?_
  show own_Go p e below s _ _ _ (T1.setTop (mkF m 24 #[.val (.ref b), .unset] []))
  refine own_via (fun _ k => XS.aloadN X1.here hx rfl (hb hby d3_24) rfl rfl k) ?_
  show own_Go p e below s _ _ _ (T1.setTop (mkF m 25 #[.val (.ref b), .unset] [(.ref b)]))
  obtain ⟨T2, X2, e2, st2⟩ := getF X1 hx hZ hown (host := "") (Or.inl (hw _ (List.mem_of_getElem? (i := 39) rfl))) Via.refl e1 (OB_b.2.2.2.2.2.2.2.2.1) (g := (mkF m 25 #[.val (.ref b), .unset] [(.ref b)])) rfl rfl (hb hby d3_25)
  refine own_via st2 ?_
  show own_Go p e below s _ _ _ (T2.setTop (mkF m 28 #[.val (.ref b), .unset] [.null]))
  refine own_via (fun _ k => XS.ifnullYes X2.here hx rfl (pc0 := 28) (pc' := 45) rfl (hb hby d3_28) rfl (by decide) (by decide) k) ?_
  show own_Go p e below s _ _ _ (T2.setTop (mkF m 45 #[.val (.ref b), .unset] []))
  refine own_via (fun _ k => XS.aloadN X2.here hx rfl (hb hby d3_45) rfl rfl k) ?_
  show own_Go p e below s _ _ _ (T2.setTop (mkF m 46 #[.val (.ref b), .unset] [(.ref b)]))
  obtain ⟨T3, X3, e3, st3⟩ := getF X2 hx hZ hown (host := "") (Or.inl (hw _ (List.mem_of_getElem? (i := 23) rfl))) Via.refl e2 (OB_b.2.2.2.1) (g := (mkF m 46 #[.val (.ref b), .unset] [(.ref b)])) rfl rfl (hb hby d3_46)
  refine own_via st3 ?_
  show own_Go p e below s _ _ _ (T3.setTop (mkF m 49 #[.val (.ref b), .unset] [(.int ((((1 : Int32) + (1 : Int32)) + (1 : Int32)) + (1 : Int32)))]))
  refine own_via (fun _ k => XS.aloadN X3.here hx rfl (hb hby d3_49) rfl rfl k) ?_
  show own_Go p e below s _ _ _ (T3.setTop (mkF m 50 #[.val (.ref b), .unset] [(.ref b), (.int ((((1 : Int32) + (1 : Int32)) + (1 : Int32)) + (1 : Int32)))]))
  obtain ⟨T4, X4, e4, st4⟩ := getF X3 hx hZ hown (host := "") (Or.inl (hw _ (List.mem_of_getElem? (i := 41) rfl))) Via.refl e3 (OB_b.2.2.2.2.2.2.2.2.2) (g := (mkF m 50 #[.val (.ref b), .unset] [(.ref b), (.int ((((1 : Int32) + (1 : Int32)) + (1 : Int32)) + (1 : Int32)))])) rfl rfl (hb hby d3_50)
  refine own_via st4 ?_
  show own_Go p e below s _ _ _ (T4.setTop (mkF m 53 #[.val (.ref b), .unset] [(.int (8 : Int32)), (.int ((((1 : Int32) + (1 : Int32)) + (1 : Int32)) + (1 : Int32)))]))
  refine own_via (fun _ k => XS.icmpYes X4.here hx rfl (pc0 := 53) (pc' := 60) rfl (hb hby d3_53) rfl (tlt (by decide : ((((1 : Int32) + (1 : Int32)) + (1 : Int32)) + (1 : Int32)) < (8 : Int32))).1 (by decide) (by decide) k) ?_
  show own_Go p e below s _ _ _ (T4.setTop (mkF m 60 #[.val (.ref b), .unset] []))
  refine own_via (fun _ k => XS.aloadN X4.here hx rfl (hb hby d3_60) rfl rfl k) ?_
  show own_Go p e below s _ _ _ (T4.setTop (mkF m 61 #[.val (.ref b), .unset] [(.ref b)]))
  obtain ⟨T5, X5, e5, st5⟩ := getF X4 hx hZ hown (host := "") (Or.inl (hw _ (List.mem_of_getElem? (i := 23) rfl))) Via.refl e4 (OB_b.2.2.2.1) (g := (mkF m 61 #[.val (.ref b), .unset] [(.ref b)])) rfl rfl (hb hby d3_61)
  refine own_via st5 ?_
  show own_Go p e below s _ _ _ (T5.setTop (mkF m 64 #[.val (.ref b), .unset] [(.int ((((1 : Int32) + (1 : Int32)) + (1 : Int32)) + (1 : Int32)))]))
  refine own_via (fun _ k => XS.istoreN X5.here hx rfl (hb hby d3_64) rfl (l' := #[.val (.ref b), .val (.int ((((1 : Int32) + (1 : Int32)) + (1 : Int32)) + (1 : Int32)))]) rfl k) ?_
  show own_Go p e below s _ _ _ (T5.setTop (mkF m 65 #[.val (.ref b), .val (.int ((((1 : Int32) + (1 : Int32)) + (1 : Int32)) + (1 : Int32)))] []))
  refine own_via (fun _ k => XS.aloadN X5.here hx rfl (hb hby d3_65) rfl rfl k) ?_
  show own_Go p e below s _ _ _ (T5.setTop (mkF m 66 #[.val (.ref b), .val (.int ((((1 : Int32) + (1 : Int32)) + (1 : Int32)) + (1 : Int32)))] [(.ref b)]))
  refine own_via (fun _ k => XS.dup X5.here hx rfl (hb hby d3_66) rfl rfl k) ?_
  show own_Go p e below s _ _ _ (T5.setTop (mkF m 67 #[.val (.ref b), .val (.int ((((1 : Int32) + (1 : Int32)) + (1 : Int32)) + (1 : Int32)))] [(.ref b), (.ref b)]))
  obtain ⟨T6, X6, e6, st6⟩ := getF X5 hx hZ hown (host := "") (Or.inl (hw _ (List.mem_of_getElem? (i := 23) rfl))) Via.refl e5 (OB_b.2.2.2.1) (g := (mkF m 67 #[.val (.ref b), .val (.int ((((1 : Int32) + (1 : Int32)) + (1 : Int32)) + (1 : Int32)))] [(.ref b), (.ref b)])) rfl rfl (hb hby d3_67)
  refine own_via st6 ?_
  show own_Go p e below s _ _ _ (T6.setTop (mkF m 70 #[.val (.ref b), .val (.int ((((1 : Int32) + (1 : Int32)) + (1 : Int32)) + (1 : Int32)))] [(.int ((((1 : Int32) + (1 : Int32)) + (1 : Int32)) + (1 : Int32))), (.ref b)]))
  refine own_via (fun _ k => XS.iconst X6.here hx rfl (hb hby d3_70) k) ?_
  show own_Go p e below s _ _ _ (T6.setTop (mkF m 71 #[.val (.ref b), .val (.int ((((1 : Int32) + (1 : Int32)) + (1 : Int32)) + (1 : Int32)))] [(.int (1 : Int32)), (.int ((((1 : Int32) + (1 : Int32)) + (1 : Int32)) + (1 : Int32))), (.ref b)]))
  refine own_via (fun _ k => XS.iadd X6.here hx rfl (hb hby d3_71) rfl k) ?_
  show own_Go p e below s _ _ _ (T6.setTop (mkF m 72 #[.val (.ref b), .val (.int ((((1 : Int32) + (1 : Int32)) + (1 : Int32)) + (1 : Int32)))] [(.int (((((1 : Int32) + (1 : Int32)) + (1 : Int32)) + (1 : Int32)) + (1 : Int32))), (.ref b)]))
  obtain ⟨T7, h7, X7, e7, W7, st7⟩ := putF X6 hx hZ hown (host := "") (Or.inl (hw _ (List.mem_of_getElem? (i := 23) rfl))) Via.refl e6 (OB_b.2.2.2.1) OB_b.1 (Or.inl (hw _ (List.mem_of_getElem? (i := 24) rfl))) (hw _ (List.mem_of_getElem? (i := 1) rfl)) (ty := .int) (by decide) rfl rfl (g := (mkF m 72 #[.val (.ref b), .val (.int ((((1 : Int32) + (1 : Int32)) + (1 : Int32)) + (1 : Int32)))] [(.int (((((1 : Int32) + (1 : Int32)) + (1 : Int32)) + (1 : Int32)) + (1 : Int32))), (.ref b)])) rfl rfl (hb hby d3_72)
  have OB_b := own_put0_2 hw OB_b W7
  have N7 := Fr.snoc X7 (Fr.nil n0) g_b
  have Z0 := Nat.le_trans Z0 (Keep.of_wr W7).1
  have OL := OL.wr W7 g_b
  have KP := KP.wr W7 (Or.inl (List.mem_of_getElem? (i := 0) rfl))
  have V_A1 := V_A1.other W7 (Ne.symm ne_b_A1)
  have V_A2 := V_A2.other W7 (Ne.symm ne_b_A2)
  refine own_via st7 ?_
  show own_Go p e below s _ _ _ (T7.setTop (mkF m 75 #[.val (.ref b), .val (.int ((((1 : Int32) + (1 : Int32)) + (1 : Int32)) + (1 : Int32)))] []))
  refine own_via (fun _ k => XS.aloadN X7.here hx rfl (hb hby d3_75) rfl rfl k) ?_
  show own_Go p e below s _ _ _ (T7.setTop (mkF m 76 #[.val (.ref b), .val (.int ((((1 : Int32) + (1 : Int32)) + (1 : Int32)) + (1 : Int32)))] [(.ref b)]))
  obtain ⟨T8, X8, e8, st8⟩ := getF X7 hx hZ hown (host := "") (Or.inl (hw _ (List.mem_of_getElem? (i := 39) rfl))) Via.refl e7 (OB_b.2.2.2.2.2.2.2.2.1) (g := (mkF m 76 #[.val (.ref b), .val (.int ((((1 : Int32) + (1 : Int32)) + (1 : Int32)) + (1 : Int32)))] [(.ref b)])) rfl rfl (hb hby d3_76)
  refine own_via st8 ?_
  show own_Go p e below s _ _ _ (T8.setTop (mkF m 79 #[.val (.ref b), .val (.int ((((1 : Int32) + (1 : Int32)) + (1 : Int32)) + (1 : Int32)))] [.null]))
  refine own_via (fun _ k => XS.ifnullYes X8.here hx rfl (pc0 := 79) (pc' := 98) rfl (hb hby d3_79) rfl (by decide) (by decide) k) ?_
  show own_Go p e below s _ _ _ (T8.setTop (mkF m 98 #[.val (.ref b), .val (.int ((((1 : Int32) + (1 : Int32)) + (1 : Int32)) + (1 : Int32)))] []))
  refine own_via (fun _ k => XS.iloadN X8.here hx rfl (hb hby d3_98) rfl k) ?_
  show own_Go p e below s _ _ _ (T8.setTop (mkF m 99 #[.val (.ref b), .val (.int ((((1 : Int32) + (1 : Int32)) + (1 : Int32)) + (1 : Int32)))] [(.int ((((1 : Int32) + (1 : Int32)) + (1 : Int32)) + (1 : Int32)))]))
  exact own_retI X8 hx hlk Bd.returns (hb hby d3_99) (by rw [e8]; exact ⟨N7, OL, Z0, KP, rfl, ⟨OB_b, V_A1, V_A2, OV_A1, OV_A2, ne_b_A1, ne_b_A2, ne_A1_A2, g_b, g_A1, g_A2⟩⟩) (by decide) (by decide)
def Q10_1 (Z : State) (b A1 A2 x1 x2 : Addr) (k1 k2 : ClassId) (en kk rf : Int32) (cl : Cell) (r f u : Int32) (w0 w1 mr : Addr) (kw0 kw1 : ClassId) (h0 : Heap) (n0 : Nat) (v : Option Value) (h : Heap) (L : List Loc) : Prop := Fr n0 L ∧ Old Z n0 h ∧ n0 ≤ h.size ∧ Keep h0 h [x1] ∧ v = none ∧ own_Rows Z h n0 w0 b A1 A2 x1 x2 k1 k2 en kk rf (8 : Int32) ∧ Arr Z h x1 (cl.setSlot ((((r &&& (4095 : Int32)) * kk) + f)).toNatClampNeg (.int u)) .int
set_option maxRecDepth 65536 in
set_option maxHeartbeats 40000000 in
theorem rm10_1 (l : Launch) (Z : State) (a0 : Array Value) (hw : ∀ d ∈ tables_1, d.before a0 Z = true) (ws : List Jvm.Cond) (b A1 A2 x1 x2 : Addr) (k1 k2 : ClassId) (en kk rf : Int32) (cl : Cell) (r f u : Int32) (w0 w1 mr : Addr) (kw0 kw1 : ClassId) (h0 : Heap) (n0 : Nat) (Z0 : n0 ≤ h0.size) (K : own_K Z Z.heap w0 w1 mr kw0 kw1) (OL : Old Z n0 h0) (hblk : ((r.toUInt32 >>> ((12 : Int32) &&& 31).toUInt32).toInt32) = (0 : Int32)) (hidx : ¬ ((((r &&& (4095 : Int32)) * kk) + f) < 0 ∨ cl.slots.size ≤ ((((r &&& (4095 : Int32)) * kk) + f)).toNatClampNeg)) (RS : own_Rows Z h0 n0 w0 b A1 A2 x1 x2 k1 k2 en kk rf (8 : Int32)) (AR_x1 : Arr Z h0 x1 cl .int) (ne_b_x1 : b ≠ x1) (ne_A1_x1 : A1 ≠ x1) (ne_A2_x1 : A2 ≠ x1) (g_x1 : n0 ≤ x1) :
    MetFree l (⟨"com/example/whenever/whenever/internal/engine/Rows", "setInt", "(III)V"⟩ : MethodName) (head1 (Jvm.Cond.code (⟨"com/example/whenever/whenever/internal/engine/Rows", "setInt", "(III)V"⟩ : MethodName) prog_105_method_8_code 4 none :: ws) ({ frames := 0, cells := 0, slots := 0, locals := 0 } : Room)) (fun a U => a = #[(.ref b), (.int r), (.int f), (.int u)] ∧ Z.Warmed39 U.vm ∧ U.heap = h0) (fun _ _ _ _ _ => True) (fun _ U o U' => ∃ v L, o = .returned v ∧ Q10_1 Z b A1 A2 x1 x2 k1 k2 en kk rf cl r f u w0 w1 mr kw0 kw1 h0 n0 v U'.heap L ∧ FrameEnd U o U' L ({ frames := 0, cells := 0, slots := 0, locals := 0 } : Room).cells ({ frames := 0, cells := 0, slots := 0, locals := 0 } : Room).slots) := by
  refine MetFree.of_bodySF (plainFor_of_name pn0) hisR ?_
  intro p e s m args below meth c s₁ Bd hml0 hP hK
  obtain ⟨rfl, hZ, hh⟩ := hP
  have hx := Bd.exec
  have hby := Bd.bytes
  have hml : c.maxLocals = 4 := hml0
  have hown : s.vm.findClass "com/example/whenever/whenever/internal/engine/Rows" = some m.cls := findClass_of_methodNamed Bd.named
  have hnm := (name_of_methodNamed Bd.named Bd.method).1
  have hlk := Bd.notSynchronized
  have X0 : Stand p l e ({ frames := 0, cells := 0, slots := 0, locals := 0 } : Room) s m #[(.ref b), (.int r), (.int f), (.int u)] below meth c s₁ [] 0 0 := Stand.of_body Bd
  have e0 : s₁.heap = h0 := by rw [← hh, Bd.state]; rfl
  have K0 := K
  obtain ⟨S_w0, S_w1, E_w0, E_w1, V_w0, V_w1, MR⟩ := K
  show own_Go p e below s (Q10_1 Z b A1 A2 x1 x2 k1 k2 en kk rf cl r f u w0 w1 mr kw0 kw1 h0 n0) 0 0 (s₁.setTop (entryFrame m #[(.ref b), (.int r), (.int f), (.int u)] 4))
  rw [show entryFrame m #[(.ref b), (.int r), (.int f), (.int u)] 4 = mkF m 0 #[.val (.ref b), .val (.int r), .val (.int f), .val (.int u)] [] from by first | (simp [entryFrame, mkF, argsToLocals, Value.category]; done) | rfl]
  have KP := Keep.refl h0 [x1]
  obtain ⟨OB_b, V_A1, V_A2, OV_A1, OV_A2, ne_b_A1, ne_b_A2, ne_A1_A2, g_b, g_A1, g_A2⟩ := RS
  show own_Go p e below s _ _ _ (s₁.setTop (mkF m 0 #[.val (.ref b), .val (.int r), .val (.int f), .val (.int u)] []))
  refine own_via (fun _ k => XS.aloadN X0.here hx rfl (hb hby d10_0) rfl rfl k) ?_
  show own_Go p e below s _ _ _ (s₁.setTop (mkF m 1 #[.val (.ref b), .val (.int r), .val (.int f), .val (.int u)] [(.ref b)]))
  obtain ⟨T1, X1, e1, st1⟩ := getF X0 hx hZ hown (host := "") (Or.inl (hw _ (List.mem_of_getElem? (i := 14) rfl))) Via.refl e0 (OB_b.2.1) (g := (mkF m 1 #[.val (.ref b), .val (.int r), .val (.int f), .val (.int u)] [(.ref b)])) rfl rfl (hb hby d10_1)
  refine own_via st1 ?_
  show own_Go p e below s _ _ _ (T1.setTop (mkF m 4 #[.val (.ref b), .val (.int r), .val (.int f), .val (.int u)] [(.ref A1)]))
  refine own_via (fun _ k => XS.iloadN X1.here hx rfl (hb hby d10_4) rfl k) ?_
  show own_Go p e below s _ _ _ (T1.setTop (mkF m 5 #[.val (.ref b), .val (.int r), .val (.int f), .val (.int u)] [(.int r), (.ref A1)]))
  refine own_via (fun _ k => XS.bipush X1.here hx rfl (hb hby d10_5) k) ?_
  show own_Go p e below s _ _ _ (T1.setTop (mkF m 7 #[.val (.ref b), .val (.int r), .val (.int f), .val (.int u)] [(.int (12 : Int32)), (.int r), (.ref A1)]))
  refine own_via (fun _ k => XS.iushr X1.here hx rfl (hb hby d10_7) rfl k) ?_
  rw [hblk]
  show own_Go p e below s _ _ _ (T1.setTop (mkF m 8 #[.val (.ref b), .val (.int r), .val (.int f), .val (.int u)] [(.int (0 : Int32)), (.ref A1)]))
  have Vx2 := V_A1
  obtain ⟨cl2, Ar2, q2, S2, N2, H2, G2⟩ := Vx2
  have hin2 : ¬ ((0 : Int32) < 0 ∨ cl2.slots.size ≤ ((0 : Int32)).toNatClampNeg) := inb_of S2 ⟨by decide, by decide⟩
  have hat2 : cl2.slots[((0 : Int32)).toNatClampNeg]? = some (.ref x1) := H2.at hin2 rfl
  refine own_via (fun _ k => X1.aaload hx (j := (0 : Int32)) (v := (.ref x1)) (by rw [e1]; exact Ar2.1) (State.isArrayOf_alike hZ.alike Ar2.2.1) rfl Ar2.2.2 hin2 hat2 (g := (mkF m 8 #[.val (.ref b), .val (.int r), .val (.int f), .val (.int u)] [(.int (0 : Int32)), (.ref A1)])) rfl rfl (hb hby d10_8) _ k) ?_
  show own_Go p e below s _ _ _ (T1.setTop (mkF m 9 #[.val (.ref b), .val (.int r), .val (.int f), .val (.int u)] [(.ref x1)]))
  refine own_via (fun _ k => XS.iloadN X1.here hx rfl (hb hby d10_9) rfl k) ?_
  show own_Go p e below s _ _ _ (T1.setTop (mkF m 10 #[.val (.ref b), .val (.int r), .val (.int f), .val (.int u)] [(.int r), (.ref x1)]))
  refine own_via (fun _ k => XS.sipush X1.here hx rfl (hb hby d10_10) k) ?_
  show own_Go p e below s _ _ _ (T1.setTop (mkF m 13 #[.val (.ref b), .val (.int r), .val (.int f), .val (.int u)] [(.int (4095 : Int32)), (.int r), (.ref x1)]))
  refine own_via (fun _ k => XS.iand X1.here hx rfl (hb hby d10_13) rfl k) ?_
  show own_Go p e below s _ _ _ (T1.setTop (mkF m 14 #[.val (.ref b), .val (.int r), .val (.int f), .val (.int u)] [(.int (r &&& (4095 : Int32))), (.ref x1)]))
  refine own_via (fun _ k => XS.aloadN X1.here hx rfl (hb hby d10_14) rfl rfl k) ?_
  show own_Go p e below s _ _ _ (T1.setTop (mkF m 15 #[.val (.ref b), .val (.int r), .val (.int f), .val (.int u)] [(.ref b), (.int (r &&& (4095 : Int32))), (.ref x1)]))
  obtain ⟨T3, X3, e3, st3⟩ := getF X1 hx hZ hown (host := "") (Or.inl (hw _ (List.mem_of_getElem? (i := 27) rfl))) Via.refl e1 (OB_b.2.2.2.2.2.1) (g := (mkF m 15 #[.val (.ref b), .val (.int r), .val (.int f), .val (.int u)] [(.ref b), (.int (r &&& (4095 : Int32))), (.ref x1)])) rfl rfl (hb hby d10_15)
  refine own_via st3 ?_
  show own_Go p e below s _ _ _ (T3.setTop (mkF m 18 #[.val (.ref b), .val (.int r), .val (.int f), .val (.int u)] [(.int kk), (.int (r &&& (4095 : Int32))), (.ref x1)]))
  refine own_via (fun _ k => XS.imul X3.here hx rfl (hb hby d10_18) rfl k) ?_
  show own_Go p e below s _ _ _ (T3.setTop (mkF m 19 #[.val (.ref b), .val (.int r), .val (.int f), .val (.int u)] [(.int ((r &&& (4095 : Int32)) * kk)), (.ref x1)]))
  refine own_via (fun _ k => XS.iloadN X3.here hx rfl (hb hby d10_19) rfl k) ?_
  show own_Go p e below s _ _ _ (T3.setTop (mkF m 20 #[.val (.ref b), .val (.int r), .val (.int f), .val (.int u)] [(.int f), (.int ((r &&& (4095 : Int32)) * kk)), (.ref x1)]))
  refine own_via (fun _ k => XS.iadd X3.here hx rfl (hb hby d10_20) rfl k) ?_
  show own_Go p e below s _ _ _ (T3.setTop (mkF m 21 #[.val (.ref b), .val (.int r), .val (.int f), .val (.int u)] [(.int (((r &&& (4095 : Int32)) * kk) + f)), (.ref x1)]))
  refine own_via (fun _ k => XS.iloadN X3.here hx rfl (hb hby d10_21) rfl k) ?_
  show own_Go p e below s _ _ _ (T3.setTop (mkF m 22 #[.val (.ref b), .val (.int r), .val (.int f), .val (.int u)] [(.int u), (.int (((r &&& (4095 : Int32)) * kk) + f)), (.ref x1)]))
  obtain ⟨T4, h4, X4, e4, W4, st4⟩ := stI X3 hx hZ e3 AR_x1 (j := (((r &&& (4095 : Int32)) * kk) + f)) hidx (g := (mkF m 22 #[.val (.ref b), .val (.int r), .val (.int f), .val (.int u)] [(.int u), (.int (((r &&& (4095 : Int32)) * kk) + f)), (.ref x1)])) rfl rfl (hb hby d10_22)
  have AR_x1 := AR_x1.same W4
  have N4 := Fr.snoc X4 (Fr.nil n0) g_x1
  have Z0 := Nat.le_trans Z0 (Keep.of_wr W4).1
  have OL := OL.wr W4 g_x1
  have KP := KP.wr W4 (Or.inl (List.mem_of_getElem? (i := 0) rfl))
  have OB_b := OB_b.other W4 ne_b_x1
  have V_A1 := V_A1.other W4 ne_A1_x1
  have V_A2 := V_A2.other W4 ne_A2_x1
  refine own_via st4 ?_
  show own_Go p e below s _ _ _ (T4.setTop (mkF m 23 #[.val (.ref b), .val (.int r), .val (.int f), .val (.int u)] []))
  exact own_retV X4 hx hlk Bd.returns (hb hby d10_23) (by rw [e4]; exact ⟨N4, OL, Z0, KP, rfl, ⟨OB_b, V_A1, V_A2, OV_A1, OV_A2, ne_b_A1, ne_b_A2, ne_A1_A2, g_b, g_A1, g_A2⟩, AR_x1⟩) (by decide) (by decide)
def Q11_1 (Z : State) (b A1 A2 x1 x2 : Addr) (k1 k2 : ClassId) (en kk rf : Int32) (cl : Cell) (r f u : Int32) (w0 w1 mr : Addr) (kw0 kw1 : ClassId) (h0 : Heap) (n0 : Nat) (v : Option Value) (h : Heap) (L : List Loc) : Prop := Fr n0 L ∧ Old Z n0 h ∧ n0 ≤ h.size ∧ Keep h0 h [] ∧ v = some (.int u)
set_option maxRecDepth 65536 in
set_option maxHeartbeats 40000000 in
theorem rm11_1 (l : Launch) (Z : State) (a0 : Array Value) (hw : ∀ d ∈ tables_1, d.before a0 Z = true) (ws : List Jvm.Cond) (b A1 A2 x1 x2 : Addr) (k1 k2 : ClassId) (en kk rf : Int32) (cl : Cell) (r f u : Int32) (w0 w1 mr : Addr) (kw0 kw1 : ClassId) (h0 : Heap) (n0 : Nat) (Z0 : n0 ≤ h0.size) (K : own_K Z Z.heap w0 w1 mr kw0 kw1) (OL : Old Z n0 h0) (hblk : ((r.toUInt32 >>> ((12 : Int32) &&& 31).toUInt32).toInt32) = (0 : Int32)) (hidx : ¬ ((((r &&& (4095 : Int32)) * kk) + f) < 0 ∨ cl.slots.size ≤ ((((r &&& (4095 : Int32)) * kk) + f)).toNatClampNeg)) (hat : cl.slots[((((r &&& (4095 : Int32)) * kk) + f)).toNatClampNeg]? = some (.int u)) (RS : own_Rows Z h0 n0 w0 b A1 A2 x1 x2 k1 k2 en kk rf (8 : Int32)) (AR_x1 : Arr Z h0 x1 cl .int) :
    MetFree l (⟨"com/example/whenever/whenever/internal/engine/Rows", "getInt", "(II)I"⟩ : MethodName) (head1 (Jvm.Cond.code (⟨"com/example/whenever/whenever/internal/engine/Rows", "getInt", "(II)I"⟩ : MethodName) prog_105_method_7_code 3 (some .int) :: ws) ({ frames := 0, cells := 0, slots := 0, locals := 0 } : Room)) (fun a U => a = #[(.ref b), (.int r), (.int f)] ∧ Z.Warmed39 U.vm ∧ U.heap = h0) (fun _ _ _ _ _ => True) (fun _ U o U' => ∃ v L, o = .returned v ∧ Q11_1 Z b A1 A2 x1 x2 k1 k2 en kk rf cl r f u w0 w1 mr kw0 kw1 h0 n0 v U'.heap L ∧ FrameEnd U o U' L ({ frames := 0, cells := 0, slots := 0, locals := 0 } : Room).cells ({ frames := 0, cells := 0, slots := 0, locals := 0 } : Room).slots) := by
  refine MetFree.of_bodySF (plainFor_of_name pn0) hisR ?_
  intro p e s m args below meth c s₁ Bd hml0 hP hK
  obtain ⟨rfl, hZ, hh⟩ := hP
  have hx := Bd.exec
  have hby := Bd.bytes
  have hml : c.maxLocals = 3 := hml0
  have hown : s.vm.findClass "com/example/whenever/whenever/internal/engine/Rows" = some m.cls := findClass_of_methodNamed Bd.named
  have hnm := (name_of_methodNamed Bd.named Bd.method).1
  have hlk := Bd.notSynchronized
  have X0 : Stand p l e ({ frames := 0, cells := 0, slots := 0, locals := 0 } : Room) s m #[(.ref b), (.int r), (.int f)] below meth c s₁ [] 0 0 := Stand.of_body Bd
  have e0 : s₁.heap = h0 := by rw [← hh, Bd.state]; rfl
  have K0 := K
  obtain ⟨S_w0, S_w1, E_w0, E_w1, V_w0, V_w1, MR⟩ := K
  show own_Go p e below s (Q11_1 Z b A1 A2 x1 x2 k1 k2 en kk rf cl r f u w0 w1 mr kw0 kw1 h0 n0) 0 0 (s₁.setTop (entryFrame m #[(.ref b), (.int r), (.int f)] 3))
  rw [show entryFrame m #[(.ref b), (.int r), (.int f)] 3 = mkF m 0 #[.val (.ref b), .val (.int r), .val (.int f)] [] from by first | (simp [entryFrame, mkF, argsToLocals, Value.category]; done) | rfl]
  have KP := Keep.refl h0 []
  obtain ⟨OB_b, V_A1, V_A2, OV_A1, OV_A2, ne_b_A1, ne_b_A2, ne_A1_A2, g_b, g_A1, g_A2⟩ := RS
  show own_Go p e below s _ _ _ (s₁.setTop (mkF m 0 #[.val (.ref b), .val (.int r), .val (.int f)] []))
  refine own_via (fun _ k => XS.aloadN X0.here hx rfl (hb hby d11_0) rfl rfl k) ?_
  show own_Go p e below s _ _ _ (s₁.setTop (mkF m 1 #[.val (.ref b), .val (.int r), .val (.int f)] [(.ref b)]))
  obtain ⟨T1, X1, e1, st1⟩ := getF X0 hx hZ hown (host := "") (Or.inl (hw _ (List.mem_of_getElem? (i := 14) rfl))) Via.refl e0 (OB_b.2.1) (g := (mkF m 1 #[.val (.ref b), .val (.int r), .val (.int f)] [(.ref b)])) rfl rfl (hb hby d11_1)
  refine own_via st1 ?_
  show own_Go p e below s _ _ _ (T1.setTop (mkF m 4 #[.val (.ref b), .val (.int r), .val (.int f)] [(.ref A1)]))
  refine own_via (fun _ k => XS.iloadN X1.here hx rfl (hb hby d11_4) rfl k) ?_
  show own_Go p e below s _ _ _ (T1.setTop (mkF m 5 #[.val (.ref b), .val (.int r), .val (.int f)] [(.int r), (.ref A1)]))
  refine own_via (fun _ k => XS.bipush X1.here hx rfl (hb hby d11_5) k) ?_
  show own_Go p e below s _ _ _ (T1.setTop (mkF m 7 #[.val (.ref b), .val (.int r), .val (.int f)] [(.int (12 : Int32)), (.int r), (.ref A1)]))
  refine own_via (fun _ k => XS.iushr X1.here hx rfl (hb hby d11_7) rfl k) ?_
  rw [hblk]
  show own_Go p e below s _ _ _ (T1.setTop (mkF m 8 #[.val (.ref b), .val (.int r), .val (.int f)] [(.int (0 : Int32)), (.ref A1)]))
  have Vx2 := V_A1
  obtain ⟨cl2, Ar2, q2, S2, N2, H2, G2⟩ := Vx2
  have hin2 : ¬ ((0 : Int32) < 0 ∨ cl2.slots.size ≤ ((0 : Int32)).toNatClampNeg) := inb_of S2 ⟨by decide, by decide⟩
  have hat2 : cl2.slots[((0 : Int32)).toNatClampNeg]? = some (.ref x1) := H2.at hin2 rfl
  refine own_via (fun _ k => X1.aaload hx (j := (0 : Int32)) (v := (.ref x1)) (by rw [e1]; exact Ar2.1) (State.isArrayOf_alike hZ.alike Ar2.2.1) rfl Ar2.2.2 hin2 hat2 (g := (mkF m 8 #[.val (.ref b), .val (.int r), .val (.int f)] [(.int (0 : Int32)), (.ref A1)])) rfl rfl (hb hby d11_8) _ k) ?_
  show own_Go p e below s _ _ _ (T1.setTop (mkF m 9 #[.val (.ref b), .val (.int r), .val (.int f)] [(.ref x1)]))
  refine own_via (fun _ k => XS.iloadN X1.here hx rfl (hb hby d11_9) rfl k) ?_
  show own_Go p e below s _ _ _ (T1.setTop (mkF m 10 #[.val (.ref b), .val (.int r), .val (.int f)] [(.int r), (.ref x1)]))
  refine own_via (fun _ k => XS.sipush X1.here hx rfl (hb hby d11_10) k) ?_
  show own_Go p e below s _ _ _ (T1.setTop (mkF m 13 #[.val (.ref b), .val (.int r), .val (.int f)] [(.int (4095 : Int32)), (.int r), (.ref x1)]))
  refine own_via (fun _ k => XS.iand X1.here hx rfl (hb hby d11_13) rfl k) ?_
  show own_Go p e below s _ _ _ (T1.setTop (mkF m 14 #[.val (.ref b), .val (.int r), .val (.int f)] [(.int (r &&& (4095 : Int32))), (.ref x1)]))
  refine own_via (fun _ k => XS.aloadN X1.here hx rfl (hb hby d11_14) rfl rfl k) ?_
  show own_Go p e below s _ _ _ (T1.setTop (mkF m 15 #[.val (.ref b), .val (.int r), .val (.int f)] [(.ref b), (.int (r &&& (4095 : Int32))), (.ref x1)]))
  obtain ⟨T3, X3, e3, st3⟩ := getF X1 hx hZ hown (host := "") (Or.inl (hw _ (List.mem_of_getElem? (i := 27) rfl))) Via.refl e1 (OB_b.2.2.2.2.2.1) (g := (mkF m 15 #[.val (.ref b), .val (.int r), .val (.int f)] [(.ref b), (.int (r &&& (4095 : Int32))), (.ref x1)])) rfl rfl (hb hby d11_15)
  refine own_via st3 ?_
  show own_Go p e below s _ _ _ (T3.setTop (mkF m 18 #[.val (.ref b), .val (.int r), .val (.int f)] [(.int kk), (.int (r &&& (4095 : Int32))), (.ref x1)]))
  refine own_via (fun _ k => XS.imul X3.here hx rfl (hb hby d11_18) rfl k) ?_
  show own_Go p e below s _ _ _ (T3.setTop (mkF m 19 #[.val (.ref b), .val (.int r), .val (.int f)] [(.int ((r &&& (4095 : Int32)) * kk)), (.ref x1)]))
  refine own_via (fun _ k => XS.iloadN X3.here hx rfl (hb hby d11_19) rfl k) ?_
  show own_Go p e below s _ _ _ (T3.setTop (mkF m 20 #[.val (.ref b), .val (.int r), .val (.int f)] [(.int f), (.int ((r &&& (4095 : Int32)) * kk)), (.ref x1)]))
  refine own_via (fun _ k => XS.iadd X3.here hx rfl (hb hby d11_20) rfl k) ?_
  show own_Go p e below s _ _ _ (T3.setTop (mkF m 21 #[.val (.ref b), .val (.int r), .val (.int f)] [(.int (((r &&& (4095 : Int32)) * kk) + f)), (.ref x1)]))
  refine own_via (fun _ k => X3.iaload hx (j := (((r &&& (4095 : Int32)) * kk) + f)) (v := (.int u)) (by rw [e3]; exact AR_x1.1) (State.isArrayOf_alike hZ.alike AR_x1.2.1) AR_x1.2.2 hidx hat (g := (mkF m 21 #[.val (.ref b), .val (.int r), .val (.int f)] [(.int (((r &&& (4095 : Int32)) * kk) + f)), (.ref x1)])) rfl rfl (hb hby d11_21) _ k) ?_
  show own_Go p e below s _ _ _ (T3.setTop (mkF m 22 #[.val (.ref b), .val (.int r), .val (.int f)] [(.int u)]))
  exact own_retI X3 hx hlk Bd.returns (hb hby d11_22) (by rw [e3]; exact ⟨(Fr.nil n0), OL, Z0, KP, rfl⟩) (by decide) (by decide)
def Q0 (n0 : Nat) (v : Option Value) (h : Heap) (L : List Loc) : Prop := v = some (.int 1) ∧ Fr n0 L
set_option maxRecDepth 65536 in
set_option maxHeartbeats 40000000 in
theorem rm0 (l : Launch) (Z : State) (a0 : Array Value) (hw : ∀ d ∈ tables_1, d.before a0 Z = true) (ws : List Jvm.Cond) (p0 : Int32) (p1 : Int32) (p2 : Int32) (p3 : Int32) (w0 w1 mr : Addr) (kw0 kw1 : ClassId) (h0 : Heap) (n0 : Nat) (Z0 : n0 ≤ h0.size) (K : own_K Z Z.heap w0 w1 mr kw0 kw1) (OL : Old Z n0 h0) :
    MetFree l x (head1 (Jvm.Cond.code x code maxLocals ret :: ws) room_1) (fun a U => a = #[(.int p0), (.int p1), (.int p2), (.int p3)] ∧ Z.Warmed39 U.vm ∧ U.heap = h0) (fun _ _ _ _ _ => True) (fun _ U o U' => ∃ v L, o = .returned v ∧ Q0 n0 v U'.heap L ∧ FrameEnd U o U' L 24 256) := by
  refine MetFree.of_bodySF (plainFor_of_name pn4) hisR ?_
  intro p e s m args below meth c s₁ Bd hml0 hP hK
  obtain ⟨rfl, hZ, hh⟩ := hP
  have hx := Bd.exec
  have hby := Bd.bytes
  have hml : c.maxLocals = 13 := hml0
  have hown : s.vm.findClass "com/example/whenever/whenever/internal/engine/RowsSetIntPinLaw" = some m.cls := findClass_of_methodNamed Bd.named
  have hnm := (name_of_methodNamed Bd.named Bd.method).1
  have hlk := Bd.notSynchronized
  have X0 : Stand p l e room_1 s m #[(.int p0), (.int p1), (.int p2), (.int p3)] below meth c s₁ [] 0 0 := Stand.of_body Bd
  have e0 : s₁.heap = h0 := by rw [← hh, Bd.state]; rfl
  have K0 := K
  obtain ⟨S_w0, S_w1, E_w0, E_w1, V_w0, V_w1, MR⟩ := K
  show own_Go p e below s (Q0 n0) 24 256 (s₁.setTop (entryFrame m #[(.int p0), (.int p1), (.int p2), (.int p3)] maxLocals))
  rw [show entryFrame m #[(.int p0), (.int p1), (.int p2), (.int p3)] maxLocals = mkF m 0 #[.val (.int p0), .val (.int p1), .val (.int p2), .val (.int p3), .unset, .unset, .unset, .unset, .unset, .unset, .unset, .unset, .unset] [] from by first | (simp [entryFrame, mkF, argsToLocals, Value.category, maxLocals]; done) | rfl]
  show own_Go p e below s _ _ _ (s₁.setTop (mkF m 0 #[.val (.int p0), .val (.int p1), .val (.int p2), .val (.int p3), .unset, .unset, .unset, .unset, .unset, .unset, .unset, .unset, .unset] []))
  refine own_via (fun _ k => XS.iconst X0.here hx rfl (hb hby at_0) k) ?_
  show own_Go p e below s _ _ _ (s₁.setTop (mkF m 1 #[.val (.int p0), .val (.int p1), .val (.int p2), .val (.int p3), .unset, .unset, .unset, .unset, .unset, .unset, .unset, .unset, .unset] [(.int (1 : Int32))]))
  refine own_via (fun _ k => XS.iloadN X0.here hx rfl (hb hby at_1) rfl k) ?_
  show own_Go p e below s _ _ _ (s₁.setTop (mkF m 2 #[.val (.int p0), .val (.int p1), .val (.int p2), .val (.int p3), .unset, .unset, .unset, .unset, .unset, .unset, .unset, .unset, .unset] [(.int p0), (.int (1 : Int32))]))
  refine own_via (fun _ k => XS.iconst X0.here hx rfl (hb hby at_2) k) ?_
  show own_Go p e below s _ _ _ (s₁.setTop (mkF m 3 #[.val (.int p0), .val (.int p1), .val (.int p2), .val (.int p3), .unset, .unset, .unset, .unset, .unset, .unset, .unset, .unset, .unset] [(.int (3 : Int32)), (.int p0), (.int (1 : Int32))]))
  refine own_via (fun _ k => XS.iand X0.here hx rfl (hb hby at_3) rfl k) ?_
  rcases (own_and3 _ : (p0 &&& (3 : Int32)) = (0 : Int32) ∨ (p0 &&& (3 : Int32)) = (1 : Int32) ∨ (p0 &&& (3 : Int32)) = (2 : Int32) ∨ (p0 &&& (3 : Int32)) = (3 : Int32)) with hk1 | hk2 | hk3 | hk4
  · rw [hk1]
    show own_Go p e below s _ _ _ (s₁.setTop (mkF m 4 #[.val (.int p0), .val (.int p1), .val (.int p2), .val (.int p3), .unset, .unset, .unset, .unset, .unset, .unset, .unset, .unset, .unset] [(.int (0 : Int32)), (.int (1 : Int32))]))
    refine own_via (fun _ k => XS.iadd X0.here hx rfl (hb hby at_4) rfl k) ?_
    show own_Go p e below s _ _ _ (s₁.setTop (mkF m 5 #[.val (.int p0), .val (.int p1), .val (.int p2), .val (.int p3), .unset, .unset, .unset, .unset, .unset, .unset, .unset, .unset, .unset] [(.int ((1 : Int32) + (0 : Int32)))]))
    refine own_via (fun _ k => XS.istore X0.here hx rfl (hb hby at_5) rfl (l' := #[.val (.int p0), .val (.int p1), .val (.int p2), .val (.int p3), .val (.int ((1 : Int32) + (0 : Int32))), .unset, .unset, .unset, .unset, .unset, .unset, .unset, .unset]) rfl k) ?_
    show own_Go p e below s _ _ _ (s₁.setTop (mkF m 7 #[.val (.int p0), .val (.int p1), .val (.int p2), .val (.int p3), .val (.int ((1 : Int32) + (0 : Int32))), .unset, .unset, .unset, .unset, .unset, .unset, .unset, .unset] []))
    refine own_via (fun _ k => XS.iloadN X0.here hx rfl (hb hby at_7) rfl k) ?_
    show own_Go p e below s _ _ _ (s₁.setTop (mkF m 8 #[.val (.int p0), .val (.int p1), .val (.int p2), .val (.int p3), .val (.int ((1 : Int32) + (0 : Int32))), .unset, .unset, .unset, .unset, .unset, .unset, .unset, .unset] [(.int p0)]))
    refine own_via (fun _ k => XS.iconst X0.here hx rfl (hb hby at_8) k) ?_
    show own_Go p e below s _ _ _ (s₁.setTop (mkF m 9 #[.val (.int p0), .val (.int p1), .val (.int p2), .val (.int p3), .val (.int ((1 : Int32) + (0 : Int32))), .unset, .unset, .unset, .unset, .unset, .unset, .unset, .unset] [(.int (2 : Int32)), (.int p0)]))
    refine own_via (fun _ k => XS.iushr X0.here hx rfl (hb hby at_9) rfl k) ?_
    show own_Go p e below s _ _ _ (s₁.setTop (mkF m 10 #[.val (.int p0), .val (.int p1), .val (.int p2), .val (.int p3), .val (.int ((1 : Int32) + (0 : Int32))), .unset, .unset, .unset, .unset, .unset, .unset, .unset, .unset] [(.int ((p0.toUInt32 >>> ((2 : Int32) &&& 31).toUInt32).toInt32))]))
    refine own_via (fun _ k => XS.iconst X0.here hx rfl (hb hby at_10) k) ?_
    show own_Go p e below s _ _ _ (s₁.setTop (mkF m 11 #[.val (.int p0), .val (.int p1), .val (.int p2), .val (.int p3), .val (.int ((1 : Int32) + (0 : Int32))), .unset, .unset, .unset, .unset, .unset, .unset, .unset, .unset] [(.int (3 : Int32)), (.int ((p0.toUInt32 >>> ((2 : Int32) &&& 31).toUInt32).toInt32))]))
    refine own_via (fun _ k => XS.iand X0.here hx rfl (hb hby at_11) rfl k) ?_
    show own_Go p e below s _ _ _ (s₁.setTop (mkF m 12 #[.val (.int p0), .val (.int p1), .val (.int p2), .val (.int p3), .val (.int ((1 : Int32) + (0 : Int32))), .unset, .unset, .unset, .unset, .unset, .unset, .unset, .unset] [(.int (((p0.toUInt32 >>> ((2 : Int32) &&& 31).toUInt32).toInt32) &&& (3 : Int32)))]))
    refine own_via (fun _ k => XS.istore X0.here hx rfl (hb hby at_12) rfl (l' := #[.val (.int p0), .val (.int p1), .val (.int p2), .val (.int p3), .val (.int ((1 : Int32) + (0 : Int32))), .val (.int (((p0.toUInt32 >>> ((2 : Int32) &&& 31).toUInt32).toInt32) &&& (3 : Int32))), .unset, .unset, .unset, .unset, .unset, .unset, .unset]) rfl k) ?_
    show own_Go p e below s _ _ _ (s₁.setTop (mkF m 14 #[.val (.int p0), .val (.int p1), .val (.int p2), .val (.int p3), .val (.int ((1 : Int32) + (0 : Int32))), .val (.int (((p0.toUInt32 >>> ((2 : Int32) &&& 31).toUInt32).toInt32) &&& (3 : Int32))), .unset, .unset, .unset, .unset, .unset, .unset, .unset] []))
    obtain ⟨T5, h5, X5, e5, E5, A5, D5, -, st5⟩ := newO X0 hx hZ hown (hw _ (List.mem_of_getElem? (i := 0) rfl)) (hw _ (List.mem_of_getElem? (i := 1) rfl)) (hw _ (List.mem_of_getElem? (i := 2) rfl)) e0 (g := (mkF m 14 #[.val (.int p0), .val (.int p1), .val (.int p2), .val (.int p3), .val (.int ((1 : Int32) + (0 : Int32))), .val (.int (((p0.toUInt32 >>> ((2 : Int32) &&& 31).toUInt32).toInt32) &&& (3 : Int32))), .unset, .unset, .unset, .unset, .unset, .unset, .unset] [])) rfl (hb hby at_14) (by decide) (by decide)
    obtain ⟨b5, g5⟩ : ∃ z, z = h0.size := ⟨_, rfl⟩
    rw [← g5] at A5 D5 st5
    skip
    have g_b5 : n0 ≤ b5 := Nat.le_trans Z0 (Nat.le_of_eq g5.symm)
    have Z0 := Nat.le_trans Z0 E5.1
    have OL := OL.ext E5
    skip
    have OB_b5 : own_Obj0 Z h5 b5 .null .null (0 : Int32) .null (0 : Int32) (0 : Int32) (0 : Int32) .null (0 : Int32) := ⟨A5, D5 (Or.inl (hw _ (List.mem_of_getElem? (i := 15) rfl))) (ty := (.array (.array .int))) (by decide), D5 (Or.inl (hw _ (List.mem_of_getElem? (i := 22) rfl))) (ty := (.array (.array (.object "java/lang/Object")))) (by decide), D5 (Or.inl (hw _ (List.mem_of_getElem? (i := 24) rfl))) (ty := .int) (by decide), D5 (Or.inl (hw _ (List.mem_of_getElem? (i := 26) rfl))) (ty := (.array .int)) (by decide), D5 (Or.inr (hw _ (List.mem_of_getElem? (i := 28) rfl))) (ty := .int) (by decide), D5 (Or.inr (hw _ (List.mem_of_getElem? (i := 30) rfl))) (ty := .int) (by decide), D5 (Or.inl (hw _ (List.mem_of_getElem? (i := 38) rfl))) (ty := .int) (by decide), D5 (Or.inl (hw _ (List.mem_of_getElem? (i := 40) rfl))) (ty := (.object "com/example/whenever/whenever/internal/engine/Rows$LaterBlocks")) (by decide), D5 (Or.inl (hw _ (List.mem_of_getElem? (i := 42) rfl))) (ty := .int) (by decide)⟩
    refine own_via st5 ?_
    show own_Go p e below s _ _ _ (T5.setTop (mkF m 17 #[.val (.int p0), .val (.int p1), .val (.int p2), .val (.int p3), .val (.int ((1 : Int32) + (0 : Int32))), .val (.int (((p0.toUInt32 >>> ((2 : Int32) &&& 31).toUInt32).toInt32) &&& (3 : Int32))), .unset, .unset, .unset, .unset, .unset, .unset, .unset] [(.ref b5)]))
    refine own_via (fun _ k => XS.dup X5.here hx rfl (hb hby at_17) rfl rfl k) ?_
    show own_Go p e below s _ _ _ (T5.setTop (mkF m 18 #[.val (.int p0), .val (.int p1), .val (.int p2), .val (.int p3), .val (.int ((1 : Int32) + (0 : Int32))), .val (.int (((p0.toUInt32 >>> ((2 : Int32) &&& 31).toUInt32).toInt32) &&& (3 : Int32))), .unset, .unset, .unset, .unset, .unset, .unset, .unset] [(.ref b5), (.ref b5)]))
    refine own_via (fun _ k => XS.iload X5.here hx rfl (hb hby at_18) rfl k) ?_
    show own_Go p e below s _ _ _ (T5.setTop (mkF m 20 #[.val (.int p0), .val (.int p1), .val (.int p2), .val (.int p3), .val (.int ((1 : Int32) + (0 : Int32))), .val (.int (((p0.toUInt32 >>> ((2 : Int32) &&& 31).toUInt32).toInt32) &&& (3 : Int32))), .unset, .unset, .unset, .unset, .unset, .unset, .unset] [(.int ((1 : Int32) + (0 : Int32))), (.ref b5), (.ref b5)]))
    refine own_via (fun _ k => XS.iload X5.here hx rfl (hb hby at_20) rfl k) ?_
    show own_Go p e below s _ _ _ (T5.setTop (mkF m 22 #[.val (.int p0), .val (.int p1), .val (.int p2), .val (.int p3), .val (.int ((1 : Int32) + (0 : Int32))), .val (.int (((p0.toUInt32 >>> ((2 : Int32) &&& 31).toUInt32).toInt32) &&& (3 : Int32))), .unset, .unset, .unset, .unset, .unset, .unset, .unset] [(.int (((p0.toUInt32 >>> ((2 : Int32) &&& 31).toUInt32).toInt32) &&& (3 : Int32))), (.int ((1 : Int32) + (0 : Int32))), (.ref b5), (.ref b5)]))
    obtain ⟨_, _, ⟨T6, L6, k6, n6⟩, -, X6, ⟨Lc6, hQ6, l6, y6, z6⟩, st6⟩ := X5.specialBack hx (y := (⟨"com/example/whenever/whenever/internal/engine/Rows", "<init>", "(II)V"⟩ : MethodName)) rfl hown (mvT hZ (hw _ (List.mem_of_getElem? (i := 3) rfl))) (mvT hZ (hw _ (List.mem_of_getElem? (i := 4) rfl))) (mvT hZ (hw _ (List.mem_of_getElem? (i := 5) rfl))) (by decide) (backOf (W := 1) (rm1_1 l Z a0 hw [] b5 ((1 : Int32) + (0 : Int32)) (((p0.toUInt32 >>> ((2 : Int32) &&& 31).toUInt32).toInt32) &&& (3 : Int32)) w0 w1 mr kw0 kw1 h5 n0 Z0 K0 OL (by decide) OB_b5 g_b5) hZ (hw _ (List.mem_of_getElem? (i := 5) rfl)) (hw _ (List.mem_of_getElem? (i := 2) rfl)) (by decide) (by decide)) (g := (mkF m 22 #[.val (.int p0), .val (.int p1), .val (.int p2), .val (.int p3), .val (.int ((1 : Int32) + (0 : Int32))), .val (.int (((p0.toUInt32 >>> ((2 : Int32) &&& 31).toUInt32).toInt32) &&& (3 : Int32))), .unset, .unset, .unset, .unset, .unset, .unset, .unset] [(.int (((p0.toUInt32 >>> ((2 : Int32) &&& 31).toUInt32).toInt32) &&& (3 : Int32))), (.int ((1 : Int32) + (0 : Int32))), (.ref b5), (.ref b5)])) rfl (by rw [hml]; rfl) (Steps.refl _) (a := b5) (argsL := [(.int ((1 : Int32) + (0 : Int32))), (.int (((p0.toUInt32 >>> ((2 : Int32) &&& 31).toUInt32).toInt32) &&& (3 : Int32)))]) (rest := [(.ref b5)]) (lenOf pd0 rfl) rfl (by show 2 * 0 + _ ≤ _; exact Nat.le_of_eq rfl) (hb hby at_22) (fun _ _ => ⟨rfl, e5, (by decide : 0 + 1 + 2 ≤ _), (by decide : 0 + 10 + 2 ≤ _)⟩)
    dsimp only [Pt.U, Pt.locs, Pt.cells, Pt.slots] at X6 l6 y6 z6 st6 hQ6
    subst l6 y6 z6
    obtain ⟨NQ6, OLq6, Zq6, KQ6, hP6⟩ := hQ6
    obtain ⟨rfl, A1, A2, k1, k2, OBq6, V_A1, V_A2, OV_A1, OV_A2, ne_b5_A1, ne_b5_A2, ne_A1_A2, -, g_A1, g_A2⟩ := hP6
    have OB_b5 := OBq6
    skip
    have OL := OLq6
    have Z0 := Zq6
    refine own_tr st6 ?_
    show own_Go p e below s _ _ _ (T6.setTop (mkF m 25 #[.val (.int p0), .val (.int p1), .val (.int p2), .val (.int p3), .val (.int ((1 : Int32) + (0 : Int32))), .val (.int (((p0.toUInt32 >>> ((2 : Int32) &&& 31).toUInt32).toInt32) &&& (3 : Int32))), .unset, .unset, .unset, .unset, .unset, .unset, .unset] [(.ref b5)]))
    refine own_via (fun _ k => XS.astore X6.here hx rfl (hb hby at_25) rfl rfl (l' := #[.val (.int p0), .val (.int p1), .val (.int p2), .val (.int p3), .val (.int ((1 : Int32) + (0 : Int32))), .val (.int (((p0.toUInt32 >>> ((2 : Int32) &&& 31).toUInt32).toInt32) &&& (3 : Int32))), .val (.ref b5), .unset, .unset, .unset, .unset, .unset, .unset]) rfl k) ?_
    show own_Go p e below s _ _ _ (T6.setTop (mkF m 27 #[.val (.int p0), .val (.int p1), .val (.int p2), .val (.int p3), .val (.int ((1 : Int32) + (0 : Int32))), .val (.int (((p0.toUInt32 >>> ((2 : Int32) &&& 31).toUInt32).toInt32) &&& (3 : Int32))), .val (.ref b5), .unset, .unset, .unset, .unset, .unset, .unset] []))
    refine own_via (fun _ k => XS.iconst X6.here hx rfl (hb hby at_27) k) ?_
    show own_Go p e below s _ _ _ (T6.setTop (mkF m 28 #[.val (.int p0), .val (.int p1), .val (.int p2), .val (.int p3), .val (.int ((1 : Int32) + (0 : Int32))), .val (.int (((p0.toUInt32 >>> ((2 : Int32) &&& 31).toUInt32).toInt32) &&& (3 : Int32))), .val (.ref b5), .unset, .unset, .unset, .unset, .unset, .unset] [(.int (4 : Int32))]))
    obtain ⟨T7, h7, k7, X7, e7, E7, A7, EX_b7, st7⟩ := newPE X6 hx hZ (hw _ (List.mem_of_getElem? (i := 31) rfl)) rfl (g := (mkF m 28 #[.val (.int p0), .val (.int p1), .val (.int p2), .val (.int p3), .val (.int ((1 : Int32) + (0 : Int32))), .val (.int (((p0.toUInt32 >>> ((2 : Int32) &&& 31).toUInt32).toInt32) &&& (3 : Int32))), .val (.ref b5), .unset, .unset, .unset, .unset, .unset, .unset] [(.int (4 : Int32))])) rfl (hb hby at_28) rfl (by decide) (cap := 4) (by decide) (by decide) (by decide) (by decide) (ad := "[I") (by decide)
    obtain ⟨b7, g7⟩ : ∃ z, z = T6.heap.size := ⟨_, rfl⟩
    rw [← g7] at A7 EX_b7 st7
    have ne_b5_b7 : b5 ≠ b7 := Nat.ne_of_lt (Nat.lt_of_lt_of_le OB_b5.1.lt (Nat.le_of_eq g7.symm))
    have ne_A1_b7 : A1 ≠ b7 := Nat.ne_of_lt (Nat.lt_of_lt_of_le V_A1.lt (Nat.le_of_eq g7.symm))
    have ne_A2_b7 : A2 ≠ b7 := Nat.ne_of_lt (Nat.lt_of_lt_of_le V_A2.lt (Nat.le_of_eq g7.symm))
    skip
    have g_b7 : n0 ≤ b7 := Nat.le_trans Z0 (Nat.le_of_eq g7.symm)
    have Z0 := Nat.le_trans Z0 E7.1
    have OL := OL.ext E7
    skip
    have OB_b5 := OB_b5.ext E7
    have V_A1 := V_A1.ext E7
    have V_A2 := V_A2.ext E7
    have V_b7 : Arv Z h7 b7 k7 .int (4 : Int32) [(.int (0 : Int32)), (.int (0 : Int32)), (.int (0 : Int32)), (.int (0 : Int32))] (.int 0) := (Arv.new A7 (by decide)).pad (pad_rep [] (.int 0) 4)
    refine own_via st7 ?_
    show own_Go p e below s _ _ _ (T7.setTop (mkF m 30 #[.val (.int p0), .val (.int p1), .val (.int p2), .val (.int p3), .val (.int ((1 : Int32) + (0 : Int32))), .val (.int (((p0.toUInt32 >>> ((2 : Int32) &&& 31).toUInt32).toInt32) &&& (3 : Int32))), .val (.ref b5), .unset, .unset, .unset, .unset, .unset, .unset] [(.ref b7)]))
    refine own_via (fun _ k => XS.astore X7.here hx rfl (hb hby at_30) rfl rfl (l' := #[.val (.int p0), .val (.int p1), .val (.int p2), .val (.int p3), .val (.int ((1 : Int32) + (0 : Int32))), .val (.int (((p0.toUInt32 >>> ((2 : Int32) &&& 31).toUInt32).toInt32) &&& (3 : Int32))), .val (.ref b5), .val (.ref b7), .unset, .unset, .unset, .unset, .unset]) rfl k) ?_
    show own_Go p e below s _ _ _ (T7.setTop (mkF m 32 #[.val (.int p0), .val (.int p1), .val (.int p2), .val (.int p3), .val (.int ((1 : Int32) + (0 : Int32))), .val (.int (((p0.toUInt32 >>> ((2 : Int32) &&& 31).toUInt32).toInt32) &&& (3 : Int32))), .val (.ref b5), .val (.ref b7), .unset, .unset, .unset, .unset, .unset] []))
    refine own_via (fun _ k => XS.aload X7.here hx rfl (hb hby at_32) rfl rfl k) ?_
    show own_Go p e below s _ _ _ (T7.setTop (mkF m 34 #[.val (.int p0), .val (.int p1), .val (.int p2), .val (.int p3), .val (.int ((1 : Int32) + (0 : Int32))), .val (.int (((p0.toUInt32 >>> ((2 : Int32) &&& 31).toUInt32).toInt32) &&& (3 : Int32))), .val (.ref b5), .val (.ref b7), .unset, .unset, .unset, .unset, .unset] [(.ref b7)]))
    refine own_via (fun _ k => XS.iconst X7.here hx rfl (hb hby at_34) k) ?_
    show own_Go p e below s _ _ _ (T7.setTop (mkF m 35 #[.val (.int p0), .val (.int p1), .val (.int p2), .val (.int p3), .val (.int ((1 : Int32) + (0 : Int32))), .val (.int (((p0.toUInt32 >>> ((2 : Int32) &&& 31).toUInt32).toInt32) &&& (3 : Int32))), .val (.ref b5), .val (.ref b7), .unset, .unset, .unset, .unset, .unset] [(.int (0 : Int32)), (.ref b7)]))
    refine own_via (fun _ k => XS.aload X7.here hx rfl (hb hby at_35) rfl rfl k) ?_
    show own_Go p e below s _ _ _ (T7.setTop (mkF m 37 #[.val (.int p0), .val (.int p1), .val (.int p2), .val (.int p3), .val (.int ((1 : Int32) + (0 : Int32))), .val (.int (((p0.toUInt32 >>> ((2 : Int32) &&& 31).toUInt32).toInt32) &&& (3 : Int32))), .val (.ref b5), .val (.ref b7), .unset, .unset, .unset, .unset, .unset] [(.ref b5), (.int (0 : Int32)), (.ref b7)]))
    obtain ⟨cq8, kq8, q8a, q8b, q8c⟩ := isOf hZ e7 OB_b5.1
    obtain ⟨_, _, ⟨T8, L8, k8, n8⟩, -, X8, ⟨Lc8, hQ8, l8, y8, z8⟩, st8⟩ := X7.virtualBack hx (y := (⟨"com/example/whenever/whenever/internal/engine/Rows", "add", "()I"⟩ : MethodName)) (z := (⟨"com/example/whenever/whenever/internal/engine/Rows", "add", "()I"⟩ : MethodName)) hown (mvT hZ (hw _ (List.mem_of_getElem? (i := 32) rfl))) (mvT hZ (hw _ (List.mem_of_getElem? (i := 33) rfl))) (notFace_of_selects (args := #[]) (mvT hZ (hw _ (List.mem_of_getElem? (i := 35) rfl)))) (mvT hZ (hw _ (List.mem_of_getElem? (i := 35) rfl))) (mvT hZ (hw _ (List.mem_of_getElem? (i := 34) rfl))) (by decide) (backOf (W := 2) (rm3_1 l Z a0 hw [] b5 A1 A2 k1 k2 ((1 : Int32) + (0 : Int32)) (((p0.toUInt32 >>> ((2 : Int32) &&& 31).toUInt32).toInt32) &&& (3 : Int32)) w0 w1 mr kw0 kw1 h7 n0 Z0 K0 OL (by decide) (by decide) (own_r4 _).1 (own_r4 _).2 ⟨OB_b5, V_A1, V_A2, OV_A1, OV_A2, ne_b5_A1, ne_b5_A2, ne_A1_A2, g_b5, g_A1, g_A2⟩) hZ (hw _ (List.mem_of_getElem? (i := 36) rfl)) (hw _ (List.mem_of_getElem? (i := 2) rfl)) (by decide) (by decide)) q8a q8c (g := (mkF m 37 #[.val (.int p0), .val (.int p1), .val (.int p2), .val (.int p3), .val (.int ((1 : Int32) + (0 : Int32))), .val (.int (((p0.toUInt32 >>> ((2 : Int32) &&& 31).toUInt32).toInt32) &&& (3 : Int32))), .val (.ref b5), .val (.ref b7), .unset, .unset, .unset, .unset, .unset] [(.ref b5), (.int (0 : Int32)), (.ref b7)])) rfl (by rw [hml]; rfl) (Steps.refl _) (argsL := []) (rest := [(.int (0 : Int32)), (.ref b7)]) (lenOf pd4 rfl) rfl (by show 2 * 0 + _ ≤ _; exact Nat.le_of_eq rfl) (hb hby at_37) (fun _ _ => ⟨rfl, e7, (by decide : 0 + 1 + 2 + 1 + 2 ≤ _), (by decide : 0 + 10 + 2 + 4 + 64 ≤ _)⟩)
    dsimp only [Pt.U, Pt.locs, Pt.cells, Pt.slots] at X8 l8 y8 z8 st8 hQ8
    subst l8 y8 z8
    obtain ⟨NQ8, OLq8, Zq8, KQ8, hP8⟩ := hQ8
    obtain ⟨rfl, I, R, kI, kR, ⟨OBq8, Vq8a, Vq8b, -, -, -, -, -, -, -, -⟩, V_I, AR_R, OVR_R, ne_b5_I, ne_A1_I, ne_A2_I, ne_b5_R, ne_A1_R, ne_A2_R, ne_I_R, szI8, szR8⟩ := hP8
    have ne_b7_I : b7 ≠ I := Nat.ne_of_lt (Nat.lt_of_lt_of_le V_b7.lt szI8)
    have g_I : n0 ≤ I := Nat.le_trans Z0 szI8
    have ne_b7_R : b7 ≠ R := Nat.ne_of_lt (Nat.lt_of_lt_of_le V_b7.lt szR8)
    have g_R : n0 ≤ R := Nat.le_trans Z0 szR8
    have V_b7 := V_b7.keep KQ8 (ninS (Ne.symm ne_b5_b7) (ninS (Ne.symm ne_A1_b7) (ninS (Ne.symm ne_A2_b7) nin0)))
    have EX_b7 := EX_b7.keep KQ8
    have OB_b5 := OBq8
    have V_A1 := Vq8a
    have V_A2 := Vq8b
    skip
    have OL := OLq8
    have Z0 := Zq8
    refine own_tr st8 ?_
    obtain ⟨cl, AR_I, -, SI, -, HI, -⟩ := V_I
    show own_Go p e below s _ _ _ (T8.setTop (mkF m 40 #[.val (.int p0), .val (.int p1), .val (.int p2), .val (.int p3), .val (.int ((1 : Int32) + (0 : Int32))), .val (.int (((p0.toUInt32 >>> ((2 : Int32) &&& 31).toUInt32).toInt32) &&& (3 : Int32))), .val (.ref b5), .val (.ref b7), .unset, .unset, .unset, .unset, .unset] [(.int (1 : Int32)), (.int (0 : Int32)), (.ref b7)]))
    have Vx9 := V_b7
    obtain ⟨cl9, Ar9, q9, S9, N9, H9, G9⟩ := Vx9
    have hin9 : ¬ ((0 : Int32) < 0 ∨ cl9.slots.size ≤ ((0 : Int32)).toNatClampNeg) := inb_of S9 ⟨by decide, by decide⟩
    obtain ⟨T9, h9, X9, e9, W9, st9⟩ := stI X8 hx hZ rfl Ar9 (j := (0 : Int32)) hin9 (g := (mkF m 40 #[.val (.int p0), .val (.int p1), .val (.int p2), .val (.int p3), .val (.int ((1 : Int32) + (0 : Int32))), .val (.int (((p0.toUInt32 >>> ((2 : Int32) &&& 31).toUInt32).toInt32) &&& (3 : Int32))), .val (.ref b5), .val (.ref b7), .unset, .unset, .unset, .unset, .unset] [(.int (1 : Int32)), (.int (0 : Int32)), (.ref b7)])) rfl rfl (hb hby at_40)
    have V_b7 : Arv Z h9 b7 k7 .int (4 : Int32) [(.int (1 : Int32)), (.int (0 : Int32)), (.int (0 : Int32)), (.int (0 : Int32))] (.int 0) := Arv.set Ar9 q9 S9 N9 H9 G9 rfl W9 0 rfl (Nat.le_of_ble_eq_true rfl)
    have N9 := Fr.snoc X9 (Fr.app (Fr.app (Fr.nil n0) NQ6) NQ8) g_b7
    have Z0 := Nat.le_trans Z0 (Keep.of_wr W9).1
    have OL := OL.wr W9 g_b7
    skip
    have OB_b5 := OB_b5.other W9 ne_b5_b7
    have V_A1 := V_A1.other W9 ne_A1_b7
    have V_A2 := V_A2.other W9 ne_A2_b7
    have AR_R := AR_R.other W9 (Ne.symm ne_b7_R)
    have AR_I := AR_I.other W9 (Ne.symm ne_b7_I)
    have EX_b7 := EX_b7.wr W9
    refine own_via st9 ?_
    show own_Go p e below s _ _ _ (T9.setTop (mkF m 41 #[.val (.int p0), .val (.int p1), .val (.int p2), .val (.int p3), .val (.int ((1 : Int32) + (0 : Int32))), .val (.int (((p0.toUInt32 >>> ((2 : Int32) &&& 31).toUInt32).toInt32) &&& (3 : Int32))), .val (.ref b5), .val (.ref b7), .unset, .unset, .unset, .unset, .unset] []))
    refine own_via (fun _ k => XS.aload X9.here hx rfl (hb hby at_41) rfl rfl k) ?_
    show own_Go p e below s _ _ _ (T9.setTop (mkF m 43 #[.val (.int p0), .val (.int p1), .val (.int p2), .val (.int p3), .val (.int ((1 : Int32) + (0 : Int32))), .val (.int (((p0.toUInt32 >>> ((2 : Int32) &&& 31).toUInt32).toInt32) &&& (3 : Int32))), .val (.ref b5), .val (.ref b7), .unset, .unset, .unset, .unset, .unset] [(.ref b7)]))
    refine own_via (fun _ k => XS.iconst X9.here hx rfl (hb hby at_43) k) ?_
    show own_Go p e below s _ _ _ (T9.setTop (mkF m 44 #[.val (.int p0), .val (.int p1), .val (.int p2), .val (.int p3), .val (.int ((1 : Int32) + (0 : Int32))), .val (.int (((p0.toUInt32 >>> ((2 : Int32) &&& 31).toUInt32).toInt32) &&& (3 : Int32))), .val (.ref b5), .val (.ref b7), .unset, .unset, .unset, .unset, .unset] [(.int (1 : Int32)), (.ref b7)]))
    refine own_via (fun _ k => XS.aload X9.here hx rfl (hb hby at_44) rfl rfl k) ?_
    show own_Go p e below s _ _ _ (T9.setTop (mkF m 46 #[.val (.int p0), .val (.int p1), .val (.int p2), .val (.int p3), .val (.int ((1 : Int32) + (0 : Int32))), .val (.int (((p0.toUInt32 >>> ((2 : Int32) &&& 31).toUInt32).toInt32) &&& (3 : Int32))), .val (.ref b5), .val (.ref b7), .unset, .unset, .unset, .unset, .unset] [(.ref b5), (.int (1 : Int32)), (.ref b7)]))
    obtain ⟨cq10, kq10, q10a, q10b, q10c⟩ := isOf hZ e9 OB_b5.1
    obtain ⟨_, _, ⟨T10, L10, k10, n10⟩, -, X10, ⟨Lc10, hQ10, l10, y10, z10⟩, st10⟩ := X9.virtualBack hx (y := (⟨"com/example/whenever/whenever/internal/engine/Rows", "add", "()I"⟩ : MethodName)) (z := (⟨"com/example/whenever/whenever/internal/engine/Rows", "add", "()I"⟩ : MethodName)) hown (mvT hZ (hw _ (List.mem_of_getElem? (i := 32) rfl))) (mvT hZ (hw _ (List.mem_of_getElem? (i := 33) rfl))) (notFace_of_selects (args := #[]) (mvT hZ (hw _ (List.mem_of_getElem? (i := 35) rfl)))) (mvT hZ (hw _ (List.mem_of_getElem? (i := 35) rfl))) (mvT hZ (hw _ (List.mem_of_getElem? (i := 34) rfl))) (by decide) (backOf (W := 2) (rm3_2 l Z a0 hw [] b5 A1 A2 I R k1 k2 ((1 : Int32) + (0 : Int32)) (((p0.toUInt32 >>> ((2 : Int32) &&& 31).toUInt32).toInt32) &&& (3 : Int32)) w0 w1 mr kw0 kw1 h9 n0 Z0 K0 OL ⟨OB_b5, V_A1, V_A2, OV_A1, OV_A2, ne_b5_A1, ne_b5_A2, ne_A1_A2, g_b5, g_A1, g_A2⟩) hZ (hw _ (List.mem_of_getElem? (i := 36) rfl)) (hw _ (List.mem_of_getElem? (i := 2) rfl)) (by decide) (by decide)) q10a q10c (g := (mkF m 46 #[.val (.int p0), .val (.int p1), .val (.int p2), .val (.int p3), .val (.int ((1 : Int32) + (0 : Int32))), .val (.int (((p0.toUInt32 >>> ((2 : Int32) &&& 31).toUInt32).toInt32) &&& (3 : Int32))), .val (.ref b5), .val (.ref b7), .unset, .unset, .unset, .unset, .unset] [(.ref b5), (.int (1 : Int32)), (.ref b7)])) rfl (by rw [hml]; rfl) (Steps.refl _) (argsL := []) (rest := [(.int (1 : Int32)), (.ref b7)]) (lenOf pd4 rfl) rfl (by show 2 * 0 + _ ≤ _; exact Nat.le_of_eq rfl) (hb hby at_46) (fun _ _ => ⟨rfl, e9, (by decide : 0 + 1 + 2 + 1 + 2 + 0 ≤ _), (by decide : 0 + 10 + 2 + 4 + 64 + 0 ≤ _)⟩)
    dsimp only [Pt.U, Pt.locs, Pt.cells, Pt.slots] at X10 l10 y10 z10 st10 hQ10
    subst l10 y10 z10
    obtain ⟨NQ10, OLq10, Zq10, KQ10, hP10⟩ := hQ10
    obtain ⟨rfl, ⟨OBq10, Vq10a, Vq10b, -, -, -, -, -, -, -, -⟩⟩ := hP10
    have V_A1 := V_A1.keep KQ10 (ninS (Ne.symm ne_b5_A1) nin0)
    have V_A2 := V_A2.keep KQ10 (ninS (Ne.symm ne_b5_A2) nin0)
    have V_b7 := V_b7.keep KQ10 (ninS (Ne.symm ne_b5_b7) nin0)
    have AR_R := own_arrKeep AR_R KQ10 (ninS (Ne.symm ne_b5_R) nin0)
    have AR_I := own_arrKeep AR_I KQ10 (ninS (Ne.symm ne_b5_I) nin0)
    have EX_b7 := EX_b7.keep KQ10
    have OB_b5 := OBq10
    skip
    have OL := OLq10
    have Z0 := Zq10
    refine own_tr st10 ?_
    show own_Go p e below s _ _ _ (T10.setTop (mkF m 49 #[.val (.int p0), .val (.int p1), .val (.int p2), .val (.int p3), .val (.int ((1 : Int32) + (0 : Int32))), .val (.int (((p0.toUInt32 >>> ((2 : Int32) &&& 31).toUInt32).toInt32) &&& (3 : Int32))), .val (.ref b5), .val (.ref b7), .unset, .unset, .unset, .unset, .unset] [(.int ((1 : Int32) + (1 : Int32))), (.int (1 : Int32)), (.ref b7)]))
    have Vx11 := V_b7
    obtain ⟨cl11, Ar11, q11, S11, N11, H11, G11⟩ := Vx11
    have hin11 : ¬ ((1 : Int32) < 0 ∨ cl11.slots.size ≤ ((1 : Int32)).toNatClampNeg) := inb_of S11 ⟨by decide, by decide⟩
    obtain ⟨T11, h11, X11, e11, W11, st11⟩ := stI X10 hx hZ rfl Ar11 (j := (1 : Int32)) hin11 (g := (mkF m 49 #[.val (.int p0), .val (.int p1), .val (.int p2), .val (.int p3), .val (.int ((1 : Int32) + (0 : Int32))), .val (.int (((p0.toUInt32 >>> ((2 : Int32) &&& 31).toUInt32).toInt32) &&& (3 : Int32))), .val (.ref b5), .val (.ref b7), .unset, .unset, .unset, .unset, .unset] [(.int ((1 : Int32) + (1 : Int32))), (.int (1 : Int32)), (.ref b7)])) rfl rfl (hb hby at_49)
    have V_b7 : Arv Z h11 b7 k7 .int (4 : Int32) [(.int (1 : Int32)), (.int ((1 : Int32) + (1 : Int32))), (.int (0 : Int32)), (.int (0 : Int32))] (.int 0) := Arv.set Ar11 q11 S11 N11 H11 G11 rfl W11 1 rfl (Nat.le_of_ble_eq_true rfl)
    have N11 := Fr.snoc X11 (Fr.app N9 NQ10) g_b7
    have Z0 := Nat.le_trans Z0 (Keep.of_wr W11).1
    have OL := OL.wr W11 g_b7
    skip
    have OB_b5 := OB_b5.other W11 ne_b5_b7
    have V_A1 := V_A1.other W11 ne_A1_b7
    have V_A2 := V_A2.other W11 ne_A2_b7
    have AR_R := AR_R.other W11 (Ne.symm ne_b7_R)
    have AR_I := AR_I.other W11 (Ne.symm ne_b7_I)
    have EX_b7 := EX_b7.wr W11
    refine own_via st11 ?_
    show own_Go p e below s _ _ _ (T11.setTop (mkF m 50 #[.val (.int p0), .val (.int p1), .val (.int p2), .val (.int p3), .val (.int ((1 : Int32) + (0 : Int32))), .val (.int (((p0.toUInt32 >>> ((2 : Int32) &&& 31).toUInt32).toInt32) &&& (3 : Int32))), .val (.ref b5), .val (.ref b7), .unset, .unset, .unset, .unset, .unset] []))
    refine own_via (fun _ k => XS.aload X11.here hx rfl (hb hby at_50) rfl rfl k) ?_
    show own_Go p e below s _ _ _ (T11.setTop (mkF m 52 #[.val (.int p0), .val (.int p1), .val (.int p2), .val (.int p3), .val (.int ((1 : Int32) + (0 : Int32))), .val (.int (((p0.toUInt32 >>> ((2 : Int32) &&& 31).toUInt32).toInt32) &&& (3 : Int32))), .val (.ref b5), .val (.ref b7), .unset, .unset, .unset, .unset, .unset] [(.ref b7)]))
    refine own_via (fun _ k => XS.iconst X11.here hx rfl (hb hby at_52) k) ?_
    show own_Go p e below s _ _ _ (T11.setTop (mkF m 53 #[.val (.int p0), .val (.int p1), .val (.int p2), .val (.int p3), .val (.int ((1 : Int32) + (0 : Int32))), .val (.int (((p0.toUInt32 >>> ((2 : Int32) &&& 31).toUInt32).toInt32) &&& (3 : Int32))), .val (.ref b5), .val (.ref b7), .unset, .unset, .unset, .unset, .unset] [(.int (2 : Int32)), (.ref b7)]))
    refine own_via (fun _ k => XS.aload X11.here hx rfl (hb hby at_53) rfl rfl k) ?_
    show own_Go p e below s _ _ _ (T11.setTop (mkF m 55 #[.val (.int p0), .val (.int p1), .val (.int p2), .val (.int p3), .val (.int ((1 : Int32) + (0 : Int32))), .val (.int (((p0.toUInt32 >>> ((2 : Int32) &&& 31).toUInt32).toInt32) &&& (3 : Int32))), .val (.ref b5), .val (.ref b7), .unset, .unset, .unset, .unset, .unset] [(.ref b5), (.int (2 : Int32)), (.ref b7)]))
    obtain ⟨cq12, kq12, q12a, q12b, q12c⟩ := isOf hZ e11 OB_b5.1
    obtain ⟨_, _, ⟨T12, L12, k12, n12⟩, -, X12, ⟨Lc12, hQ12, l12, y12, z12⟩, st12⟩ := X11.virtualBack hx (y := (⟨"com/example/whenever/whenever/internal/engine/Rows", "add", "()I"⟩ : MethodName)) (z := (⟨"com/example/whenever/whenever/internal/engine/Rows", "add", "()I"⟩ : MethodName)) hown (mvT hZ (hw _ (List.mem_of_getElem? (i := 32) rfl))) (mvT hZ (hw _ (List.mem_of_getElem? (i := 33) rfl))) (notFace_of_selects (args := #[]) (mvT hZ (hw _ (List.mem_of_getElem? (i := 35) rfl)))) (mvT hZ (hw _ (List.mem_of_getElem? (i := 35) rfl))) (mvT hZ (hw _ (List.mem_of_getElem? (i := 34) rfl))) (by decide) (backOf (W := 2) (rm3_3 l Z a0 hw [] b5 A1 A2 I R k1 k2 ((1 : Int32) + (0 : Int32)) (((p0.toUInt32 >>> ((2 : Int32) &&& 31).toUInt32).toInt32) &&& (3 : Int32)) w0 w1 mr kw0 kw1 h11 n0 Z0 K0 OL ⟨OB_b5, V_A1, V_A2, OV_A1, OV_A2, ne_b5_A1, ne_b5_A2, ne_A1_A2, g_b5, g_A1, g_A2⟩) hZ (hw _ (List.mem_of_getElem? (i := 36) rfl)) (hw _ (List.mem_of_getElem? (i := 2) rfl)) (by decide) (by decide)) q12a q12c (g := (mkF m 55 #[.val (.int p0), .val (.int p1), .val (.int p2), .val (.int p3), .val (.int ((1 : Int32) + (0 : Int32))), .val (.int (((p0.toUInt32 >>> ((2 : Int32) &&& 31).toUInt32).toInt32) &&& (3 : Int32))), .val (.ref b5), .val (.ref b7), .unset, .unset, .unset, .unset, .unset] [(.ref b5), (.int (2 : Int32)), (.ref b7)])) rfl (by rw [hml]; rfl) (Steps.refl _) (argsL := []) (rest := [(.int (2 : Int32)), (.ref b7)]) (lenOf pd4 rfl) rfl (by show 2 * 0 + _ ≤ _; exact Nat.le_of_eq rfl) (hb hby at_55) (fun _ _ => ⟨rfl, e11, (by decide : 0 + 1 + 2 + 1 + 2 + 0 + 0 ≤ _), (by decide : 0 + 10 + 2 + 4 + 64 + 0 + 0 ≤ _)⟩)
    dsimp only [Pt.U, Pt.locs, Pt.cells, Pt.slots] at X12 l12 y12 z12 st12 hQ12
    subst l12 y12 z12
    obtain ⟨NQ12, OLq12, Zq12, KQ12, hP12⟩ := hQ12
    obtain ⟨rfl, ⟨OBq12, Vq12a, Vq12b, -, -, -, -, -, -, -, -⟩⟩ := hP12
    have V_A1 := V_A1.keep KQ12 (ninS (Ne.symm ne_b5_A1) nin0)
    have V_A2 := V_A2.keep KQ12 (ninS (Ne.symm ne_b5_A2) nin0)
    have V_b7 := V_b7.keep KQ12 (ninS (Ne.symm ne_b5_b7) nin0)
    have AR_R := own_arrKeep AR_R KQ12 (ninS (Ne.symm ne_b5_R) nin0)
    have AR_I := own_arrKeep AR_I KQ12 (ninS (Ne.symm ne_b5_I) nin0)
    have EX_b7 := EX_b7.keep KQ12
    have OB_b5 := OBq12
    skip
    have OL := OLq12
    have Z0 := Zq12
    refine own_tr st12 ?_
    show own_Go p e below s _ _ _ (T12.setTop (mkF m 58 #[.val (.int p0), .val (.int p1), .val (.int p2), .val (.int p3), .val (.int ((1 : Int32) + (0 : Int32))), .val (.int (((p0.toUInt32 >>> ((2 : Int32) &&& 31).toUInt32).toInt32) &&& (3 : Int32))), .val (.ref b5), .val (.ref b7), .unset, .unset, .unset, .unset, .unset] [(.int (((1 : Int32) + (1 : Int32)) + (1 : Int32))), (.int (2 : Int32)), (.ref b7)]))
    have Vx13 := V_b7
    obtain ⟨cl13, Ar13, q13, S13, N13, H13, G13⟩ := Vx13
    have hin13 : ¬ ((2 : Int32) < 0 ∨ cl13.slots.size ≤ ((2 : Int32)).toNatClampNeg) := inb_of S13 ⟨by decide, by decide⟩
    obtain ⟨T13, h13, X13, e13, W13, st13⟩ := stI X12 hx hZ rfl Ar13 (j := (2 : Int32)) hin13 (g := (mkF m 58 #[.val (.int p0), .val (.int p1), .val (.int p2), .val (.int p3), .val (.int ((1 : Int32) + (0 : Int32))), .val (.int (((p0.toUInt32 >>> ((2 : Int32) &&& 31).toUInt32).toInt32) &&& (3 : Int32))), .val (.ref b5), .val (.ref b7), .unset, .unset, .unset, .unset, .unset] [(.int (((1 : Int32) + (1 : Int32)) + (1 : Int32))), (.int (2 : Int32)), (.ref b7)])) rfl rfl (hb hby at_58)
    have V_b7 : Arv Z h13 b7 k7 .int (4 : Int32) [(.int (1 : Int32)), (.int ((1 : Int32) + (1 : Int32))), (.int (((1 : Int32) + (1 : Int32)) + (1 : Int32))), (.int (0 : Int32))] (.int 0) := Arv.set Ar13 q13 S13 N13 H13 G13 rfl W13 2 rfl (Nat.le_of_ble_eq_true rfl)
    have N13 := Fr.snoc X13 (Fr.app N11 NQ12) g_b7
    have Z0 := Nat.le_trans Z0 (Keep.of_wr W13).1
    have OL := OL.wr W13 g_b7
    skip
    have OB_b5 := OB_b5.other W13 ne_b5_b7
    have V_A1 := V_A1.other W13 ne_A1_b7
    have V_A2 := V_A2.other W13 ne_A2_b7
    have AR_R := AR_R.other W13 (Ne.symm ne_b7_R)
    have AR_I := AR_I.other W13 (Ne.symm ne_b7_I)
    have EX_b7 := EX_b7.wr W13
    refine own_via st13 ?_
    show own_Go p e below s _ _ _ (T13.setTop (mkF m 59 #[.val (.int p0), .val (.int p1), .val (.int p2), .val (.int p3), .val (.int ((1 : Int32) + (0 : Int32))), .val (.int (((p0.toUInt32 >>> ((2 : Int32) &&& 31).toUInt32).toInt32) &&& (3 : Int32))), .val (.ref b5), .val (.ref b7), .unset, .unset, .unset, .unset, .unset] []))
    refine own_via (fun _ k => XS.aload X13.here hx rfl (hb hby at_59) rfl rfl k) ?_
    show own_Go p e below s _ _ _ (T13.setTop (mkF m 61 #[.val (.int p0), .val (.int p1), .val (.int p2), .val (.int p3), .val (.int ((1 : Int32) + (0 : Int32))), .val (.int (((p0.toUInt32 >>> ((2 : Int32) &&& 31).toUInt32).toInt32) &&& (3 : Int32))), .val (.ref b5), .val (.ref b7), .unset, .unset, .unset, .unset, .unset] [(.ref b7)]))
    refine own_via (fun _ k => XS.iconst X13.here hx rfl (hb hby at_61) k) ?_
    show own_Go p e below s _ _ _ (T13.setTop (mkF m 62 #[.val (.int p0), .val (.int p1), .val (.int p2), .val (.int p3), .val (.int ((1 : Int32) + (0 : Int32))), .val (.int (((p0.toUInt32 >>> ((2 : Int32) &&& 31).toUInt32).toInt32) &&& (3 : Int32))), .val (.ref b5), .val (.ref b7), .unset, .unset, .unset, .unset, .unset] [(.int (3 : Int32)), (.ref b7)]))
    refine own_via (fun _ k => XS.aload X13.here hx rfl (hb hby at_62) rfl rfl k) ?_
    show own_Go p e below s _ _ _ (T13.setTop (mkF m 64 #[.val (.int p0), .val (.int p1), .val (.int p2), .val (.int p3), .val (.int ((1 : Int32) + (0 : Int32))), .val (.int (((p0.toUInt32 >>> ((2 : Int32) &&& 31).toUInt32).toInt32) &&& (3 : Int32))), .val (.ref b5), .val (.ref b7), .unset, .unset, .unset, .unset, .unset] [(.ref b5), (.int (3 : Int32)), (.ref b7)]))
    obtain ⟨cq14, kq14, q14a, q14b, q14c⟩ := isOf hZ e13 OB_b5.1
    obtain ⟨_, _, ⟨T14, L14, k14, n14⟩, -, X14, ⟨Lc14, hQ14, l14, y14, z14⟩, st14⟩ := X13.virtualBack hx (y := (⟨"com/example/whenever/whenever/internal/engine/Rows", "add", "()I"⟩ : MethodName)) (z := (⟨"com/example/whenever/whenever/internal/engine/Rows", "add", "()I"⟩ : MethodName)) hown (mvT hZ (hw _ (List.mem_of_getElem? (i := 32) rfl))) (mvT hZ (hw _ (List.mem_of_getElem? (i := 33) rfl))) (notFace_of_selects (args := #[]) (mvT hZ (hw _ (List.mem_of_getElem? (i := 35) rfl)))) (mvT hZ (hw _ (List.mem_of_getElem? (i := 35) rfl))) (mvT hZ (hw _ (List.mem_of_getElem? (i := 34) rfl))) (by decide) (backOf (W := 2) (rm3_4 l Z a0 hw [] b5 A1 A2 I R k1 k2 ((1 : Int32) + (0 : Int32)) (((p0.toUInt32 >>> ((2 : Int32) &&& 31).toUInt32).toInt32) &&& (3 : Int32)) w0 w1 mr kw0 kw1 h13 n0 Z0 K0 OL ⟨OB_b5, V_A1, V_A2, OV_A1, OV_A2, ne_b5_A1, ne_b5_A2, ne_A1_A2, g_b5, g_A1, g_A2⟩) hZ (hw _ (List.mem_of_getElem? (i := 36) rfl)) (hw _ (List.mem_of_getElem? (i := 2) rfl)) (by decide) (by decide)) q14a q14c (g := (mkF m 64 #[.val (.int p0), .val (.int p1), .val (.int p2), .val (.int p3), .val (.int ((1 : Int32) + (0 : Int32))), .val (.int (((p0.toUInt32 >>> ((2 : Int32) &&& 31).toUInt32).toInt32) &&& (3 : Int32))), .val (.ref b5), .val (.ref b7), .unset, .unset, .unset, .unset, .unset] [(.ref b5), (.int (3 : Int32)), (.ref b7)])) rfl (by rw [hml]; rfl) (Steps.refl _) (argsL := []) (rest := [(.int (3 : Int32)), (.ref b7)]) (lenOf pd4 rfl) rfl (by show 2 * 0 + _ ≤ _; exact Nat.le_of_eq rfl) (hb hby at_64) (fun _ _ => ⟨rfl, e13, (by decide : 0 + 1 + 2 + 1 + 2 + 0 + 0 + 0 ≤ _), (by decide : 0 + 10 + 2 + 4 + 64 + 0 + 0 + 0 ≤ _)⟩)
    dsimp only [Pt.U, Pt.locs, Pt.cells, Pt.slots] at X14 l14 y14 z14 st14 hQ14
    subst l14 y14 z14
    obtain ⟨NQ14, OLq14, Zq14, KQ14, hP14⟩ := hQ14
    obtain ⟨rfl, ⟨OBq14, Vq14a, Vq14b, -, -, -, -, -, -, -, -⟩⟩ := hP14
    have V_A1 := V_A1.keep KQ14 (ninS (Ne.symm ne_b5_A1) nin0)
    have V_A2 := V_A2.keep KQ14 (ninS (Ne.symm ne_b5_A2) nin0)
    have V_b7 := V_b7.keep KQ14 (ninS (Ne.symm ne_b5_b7) nin0)
    have AR_R := own_arrKeep AR_R KQ14 (ninS (Ne.symm ne_b5_R) nin0)
    have AR_I := own_arrKeep AR_I KQ14 (ninS (Ne.symm ne_b5_I) nin0)
    have EX_b7 := EX_b7.keep KQ14
    have OB_b5 := OBq14
    skip
    have OL := OLq14
    have Z0 := Zq14
    refine own_tr st14 ?_
    show own_Go p e below s _ _ _ (T14.setTop (mkF m 67 #[.val (.int p0), .val (.int p1), .val (.int p2), .val (.int p3), .val (.int ((1 : Int32) + (0 : Int32))), .val (.int (((p0.toUInt32 >>> ((2 : Int32) &&& 31).toUInt32).toInt32) &&& (3 : Int32))), .val (.ref b5), .val (.ref b7), .unset, .unset, .unset, .unset, .unset] [(.int ((((1 : Int32) + (1 : Int32)) + (1 : Int32)) + (1 : Int32))), (.int (3 : Int32)), (.ref b7)]))
    have Vx15 := V_b7
    obtain ⟨cl15, Ar15, q15, S15, N15, H15, G15⟩ := Vx15
    have hin15 : ¬ ((3 : Int32) < 0 ∨ cl15.slots.size ≤ ((3 : Int32)).toNatClampNeg) := inb_of S15 ⟨by decide, by decide⟩
    obtain ⟨T15, h15, X15, e15, W15, st15⟩ := stI X14 hx hZ rfl Ar15 (j := (3 : Int32)) hin15 (g := (mkF m 67 #[.val (.int p0), .val (.int p1), .val (.int p2), .val (.int p3), .val (.int ((1 : Int32) + (0 : Int32))), .val (.int (((p0.toUInt32 >>> ((2 : Int32) &&& 31).toUInt32).toInt32) &&& (3 : Int32))), .val (.ref b5), .val (.ref b7), .unset, .unset, .unset, .unset, .unset] [(.int ((((1 : Int32) + (1 : Int32)) + (1 : Int32)) + (1 : Int32))), (.int (3 : Int32)), (.ref b7)])) rfl rfl (hb hby at_67)
    have V_b7 : Arv Z h15 b7 k7 .int (4 : Int32) [(.int (1 : Int32)), (.int ((1 : Int32) + (1 : Int32))), (.int (((1 : Int32) + (1 : Int32)) + (1 : Int32))), (.int ((((1 : Int32) + (1 : Int32)) + (1 : Int32)) + (1 : Int32)))] (.int 0) := Arv.set Ar15 q15 S15 N15 H15 G15 rfl W15 3 rfl (Nat.le_of_ble_eq_true rfl)
    have N15 := Fr.snoc X15 (Fr.app N13 NQ14) g_b7
    have Z0 := Nat.le_trans Z0 (Keep.of_wr W15).1
    have OL := OL.wr W15 g_b7
    skip
    have OB_b5 := OB_b5.other W15 ne_b5_b7
    have V_A1 := V_A1.other W15 ne_A1_b7
    have V_A2 := V_A2.other W15 ne_A2_b7
    have AR_R := AR_R.other W15 (Ne.symm ne_b7_R)
    have AR_I := AR_I.other W15 (Ne.symm ne_b7_I)
    have EX_b7 := EX_b7.wr W15
    refine own_via st15 ?_
    show own_Go p e below s _ _ _ (T15.setTop (mkF m 68 #[.val (.int p0), .val (.int p1), .val (.int p2), .val (.int p3), .val (.int ((1 : Int32) + (0 : Int32))), .val (.int (((p0.toUInt32 >>> ((2 : Int32) &&& 31).toUInt32).toInt32) &&& (3 : Int32))), .val (.ref b5), .val (.ref b7), .unset, .unset, .unset, .unset, .unset] []))
    refine own_via (fun _ k => XS.aload X15.here hx rfl (hb hby at_68) rfl rfl k) ?_
    show own_Go p e below s _ _ _ (T15.setTop (mkF m 70 #[.val (.int p0), .val (.int p1), .val (.int p2), .val (.int p3), .val (.int ((1 : Int32) + (0 : Int32))), .val (.int (((p0.toUInt32 >>> ((2 : Int32) &&& 31).toUInt32).toInt32) &&& (3 : Int32))), .val (.ref b5), .val (.ref b7), .unset, .unset, .unset, .unset, .unset] [(.ref b7)]))
    refine own_via (fun _ k => XS.iloadN X15.here hx rfl (hb hby at_70) rfl k) ?_
    show own_Go p e below s _ _ _ (T15.setTop (mkF m 71 #[.val (.int p0), .val (.int p1), .val (.int p2), .val (.int p3), .val (.int ((1 : Int32) + (0 : Int32))), .val (.int (((p0.toUInt32 >>> ((2 : Int32) &&& 31).toUInt32).toInt32) &&& (3 : Int32))), .val (.ref b5), .val (.ref b7), .unset, .unset, .unset, .unset, .unset] [(.int p1), (.ref b7)]))
    refine own_via (fun _ k => XS.iconst X15.here hx rfl (hb hby at_71) k) ?_
    show own_Go p e below s _ _ _ (T15.setTop (mkF m 72 #[.val (.int p0), .val (.int p1), .val (.int p2), .val (.int p3), .val (.int ((1 : Int32) + (0 : Int32))), .val (.int (((p0.toUInt32 >>> ((2 : Int32) &&& 31).toUInt32).toInt32) &&& (3 : Int32))), .val (.ref b5), .val (.ref b7), .unset, .unset, .unset, .unset, .unset] [(.int (3 : Int32)), (.int p1), (.ref b7)]))
    refine own_via (fun _ k => XS.iand X15.here hx rfl (hb hby at_72) rfl k) ?_
    show own_Go p e below s _ _ _ (T15.setTop (mkF m 73 #[.val (.int p0), .val (.int p1), .val (.int p2), .val (.int p3), .val (.int ((1 : Int32) + (0 : Int32))), .val (.int (((p0.toUInt32 >>> ((2 : Int32) &&& 31).toUInt32).toInt32) &&& (3 : Int32))), .val (.ref b5), .val (.ref b7), .unset, .unset, .unset, .unset, .unset] [(.int (p1 &&& (3 : Int32))), (.ref b7)]))
    have Vx16 := V_b7
    obtain ⟨cl16, Ar16, q16, S16, N16, H16, G16⟩ := Vx16
    have hin16 : ¬ ((p1 &&& (3 : Int32)) < 0 ∨ cl16.slots.size ≤ ((p1 &&& (3 : Int32))).toNatClampNeg) := own_inb S16 (own_a3 _).1 (own_a3 _).2
    obtain ⟨r16, hat16, hrb16⟩ := own_giv H16 S16 hin16 (by decide) (by decide) (by decide) (by decide)
    refine own_via (fun _ k => X15.iaload hx (j := (p1 &&& (3 : Int32))) (v := (.int r16)) (by rw [e15]; exact Ar16.1) (State.isArrayOf_alike hZ.alike Ar16.2.1) Ar16.2.2 hin16 hat16 (g := (mkF m 73 #[.val (.int p0), .val (.int p1), .val (.int p2), .val (.int p3), .val (.int ((1 : Int32) + (0 : Int32))), .val (.int (((p0.toUInt32 >>> ((2 : Int32) &&& 31).toUInt32).toInt32) &&& (3 : Int32))), .val (.ref b5), .val (.ref b7), .unset, .unset, .unset, .unset, .unset] [(.int (p1 &&& (3 : Int32))), (.ref b7)])) rfl rfl (hb hby at_73) _ k) ?_
    show own_Go p e below s _ _ _ (T15.setTop (mkF m 74 #[.val (.int p0), .val (.int p1), .val (.int p2), .val (.int p3), .val (.int ((1 : Int32) + (0 : Int32))), .val (.int (((p0.toUInt32 >>> ((2 : Int32) &&& 31).toUInt32).toInt32) &&& (3 : Int32))), .val (.ref b5), .val (.ref b7), .unset, .unset, .unset, .unset, .unset] [(.int r16)]))
    refine own_via (fun _ k => XS.istore X15.here hx rfl (hb hby at_74) rfl (l' := #[.val (.int p0), .val (.int p1), .val (.int p2), .val (.int p3), .val (.int ((1 : Int32) + (0 : Int32))), .val (.int (((p0.toUInt32 >>> ((2 : Int32) &&& 31).toUInt32).toInt32) &&& (3 : Int32))), .val (.ref b5), .val (.ref b7), .val (.int r16), .unset, .unset, .unset, .unset]) rfl k) ?_
    show own_Go p e below s _ _ _ (T15.setTop (mkF m 76 #[.val (.int p0), .val (.int p1), .val (.int p2), .val (.int p3), .val (.int ((1 : Int32) + (0 : Int32))), .val (.int (((p0.toUInt32 >>> ((2 : Int32) &&& 31).toUInt32).toInt32) &&& (3 : Int32))), .val (.ref b5), .val (.ref b7), .val (.int r16), .unset, .unset, .unset, .unset] []))
    refine own_via (fun _ k => XS.iloadN X15.here hx rfl (hb hby at_76) rfl k) ?_
    show own_Go p e below s _ _ _ (T15.setTop (mkF m 77 #[.val (.int p0), .val (.int p1), .val (.int p2), .val (.int p3), .val (.int ((1 : Int32) + (0 : Int32))), .val (.int (((p0.toUInt32 >>> ((2 : Int32) &&& 31).toUInt32).toInt32) &&& (3 : Int32))), .val (.ref b5), .val (.ref b7), .val (.int r16), .unset, .unset, .unset, .unset] [(.int p1)]))
    refine own_via (fun _ k => XS.iconst X15.here hx rfl (hb hby at_77) k) ?_
    show own_Go p e below s _ _ _ (T15.setTop (mkF m 78 #[.val (.int p0), .val (.int p1), .val (.int p2), .val (.int p3), .val (.int ((1 : Int32) + (0 : Int32))), .val (.int (((p0.toUInt32 >>> ((2 : Int32) &&& 31).toUInt32).toInt32) &&& (3 : Int32))), .val (.ref b5), .val (.ref b7), .val (.int r16), .unset, .unset, .unset, .unset] [(.int (2 : Int32)), (.int p1)]))
    refine own_via (fun _ k => XS.iushr X15.here hx rfl (hb hby at_78) rfl k) ?_
    show own_Go p e below s _ _ _ (T15.setTop (mkF m 79 #[.val (.int p0), .val (.int p1), .val (.int p2), .val (.int p3), .val (.int ((1 : Int32) + (0 : Int32))), .val (.int (((p0.toUInt32 >>> ((2 : Int32) &&& 31).toUInt32).toInt32) &&& (3 : Int32))), .val (.ref b5), .val (.ref b7), .val (.int r16), .unset, .unset, .unset, .unset] [(.int ((p1.toUInt32 >>> ((2 : Int32) &&& 31).toUInt32).toInt32))]))
    refine own_via (fun _ k => XS.iconst X15.here hx rfl (hb hby at_79) k) ?_
    show own_Go p e below s _ _ _ (T15.setTop (mkF m 80 #[.val (.int p0), .val (.int p1), .val (.int p2), .val (.int p3), .val (.int ((1 : Int32) + (0 : Int32))), .val (.int (((p0.toUInt32 >>> ((2 : Int32) &&& 31).toUInt32).toInt32) &&& (3 : Int32))), .val (.ref b5), .val (.ref b7), .val (.int r16), .unset, .unset, .unset, .unset] [(.int (3 : Int32)), (.int ((p1.toUInt32 >>> ((2 : Int32) &&& 31).toUInt32).toInt32))]))
    refine own_via (fun _ k => XS.iand X15.here hx rfl (hb hby at_80) rfl k) ?_
    show own_Go p e below s _ _ _ (T15.setTop (mkF m 81 #[.val (.int p0), .val (.int p1), .val (.int p2), .val (.int p3), .val (.int ((1 : Int32) + (0 : Int32))), .val (.int (((p0.toUInt32 >>> ((2 : Int32) &&& 31).toUInt32).toInt32) &&& (3 : Int32))), .val (.ref b5), .val (.ref b7), .val (.int r16), .unset, .unset, .unset, .unset] [(.int (((p1.toUInt32 >>> ((2 : Int32) &&& 31).toUInt32).toInt32) &&& (3 : Int32)))]))
    refine own_via (fun _ k => XS.iload X15.here hx rfl (hb hby at_81) rfl k) ?_
    show own_Go p e below s _ _ _ (T15.setTop (mkF m 83 #[.val (.int p0), .val (.int p1), .val (.int p2), .val (.int p3), .val (.int ((1 : Int32) + (0 : Int32))), .val (.int (((p0.toUInt32 >>> ((2 : Int32) &&& 31).toUInt32).toInt32) &&& (3 : Int32))), .val (.ref b5), .val (.ref b7), .val (.int r16), .unset, .unset, .unset, .unset] [(.int ((1 : Int32) + (0 : Int32))), (.int (((p1.toUInt32 >>> ((2 : Int32) &&& 31).toUInt32).toInt32) &&& (3 : Int32)))]))
    refine own_via (fun _ k => iremM X15 hx rfl (hb hby at_83) rfl (by decide : ¬ (((1 : Int32) + (0 : Int32)) = (0 : Int32))) k) ?_
    have hfb17 : 0 ≤ ((((p1.toUInt32 >>> ((2 : Int32) &&& 31).toUInt32).toInt32) &&& (3 : Int32)) % ((1 : Int32) + (0 : Int32))).toInt ∧ ((((p1.toUInt32 >>> ((2 : Int32) &&& 31).toUInt32).toInt32) &&& (3 : Int32)) % ((1 : Int32) + (0 : Int32))).toInt < 1 := own_fb rfl (by decide) (own_a3 _).1
    obtain ⟨f17, hf17⟩ : ∃ z : Int32, z = ((((p1.toUInt32 >>> ((2 : Int32) &&& 31).toUInt32).toInt32) &&& (3 : Int32)) % ((1 : Int32) + (0 : Int32))) := ⟨_, rfl⟩
    rw [← hf17] at hfb17
    rw [← hf17]
    show own_Go p e below s _ _ _ (T15.setTop (mkF m 84 #[.val (.int p0), .val (.int p1), .val (.int p2), .val (.int p3), .val (.int ((1 : Int32) + (0 : Int32))), .val (.int (((p0.toUInt32 >>> ((2 : Int32) &&& 31).toUInt32).toInt32) &&& (3 : Int32))), .val (.ref b5), .val (.ref b7), .val (.int r16), .unset, .unset, .unset, .unset] [(.int f17)]))
    refine own_via (fun _ k => XS.istore X15.here hx rfl (hb hby at_84) rfl (l' := #[.val (.int p0), .val (.int p1), .val (.int p2), .val (.int p3), .val (.int ((1 : Int32) + (0 : Int32))), .val (.int (((p0.toUInt32 >>> ((2 : Int32) &&& 31).toUInt32).toInt32) &&& (3 : Int32))), .val (.ref b5), .val (.ref b7), .val (.int r16), .val (.int f17), .unset, .unset, .unset]) rfl k) ?_
    show own_Go p e below s _ _ _ (T15.setTop (mkF m 86 #[.val (.int p0), .val (.int p1), .val (.int p2), .val (.int p3), .val (.int ((1 : Int32) + (0 : Int32))), .val (.int (((p0.toUInt32 >>> ((2 : Int32) &&& 31).toUInt32).toInt32) &&& (3 : Int32))), .val (.ref b5), .val (.ref b7), .val (.int r16), .val (.int f17), .unset, .unset, .unset] []))
    refine own_via (fun _ k => XS.aload X15.here hx rfl (hb hby at_86) rfl rfl k) ?_
    show own_Go p e below s _ _ _ (T15.setTop (mkF m 88 #[.val (.int p0), .val (.int p1), .val (.int p2), .val (.int p3), .val (.int ((1 : Int32) + (0 : Int32))), .val (.int (((p0.toUInt32 >>> ((2 : Int32) &&& 31).toUInt32).toInt32) &&& (3 : Int32))), .val (.ref b5), .val (.ref b7), .val (.int r16), .val (.int f17), .unset, .unset, .unset] [(.ref b7)]))
    refine own_via (fun _ k => XS.iloadN X15.here hx rfl (hb hby at_88) rfl k) ?_
    show own_Go p e below s _ _ _ (T15.setTop (mkF m 89 #[.val (.int p0), .val (.int p1), .val (.int p2), .val (.int p3), .val (.int ((1 : Int32) + (0 : Int32))), .val (.int (((p0.toUInt32 >>> ((2 : Int32) &&& 31).toUInt32).toInt32) &&& (3 : Int32))), .val (.ref b5), .val (.ref b7), .val (.int r16), .val (.int f17), .unset, .unset, .unset] [(.int p1), (.ref b7)]))
    refine own_via (fun _ k => XS.iconst X15.here hx rfl (hb hby at_89) k) ?_
    show own_Go p e below s _ _ _ (T15.setTop (mkF m 90 #[.val (.int p0), .val (.int p1), .val (.int p2), .val (.int p3), .val (.int ((1 : Int32) + (0 : Int32))), .val (.int (((p0.toUInt32 >>> ((2 : Int32) &&& 31).toUInt32).toInt32) &&& (3 : Int32))), .val (.ref b5), .val (.ref b7), .val (.int r16), .val (.int f17), .unset, .unset, .unset] [(.int (4 : Int32)), (.int p1), (.ref b7)]))
    refine own_via (fun _ k => XS.iushr X15.here hx rfl (hb hby at_90) rfl k) ?_
    show own_Go p e below s _ _ _ (T15.setTop (mkF m 91 #[.val (.int p0), .val (.int p1), .val (.int p2), .val (.int p3), .val (.int ((1 : Int32) + (0 : Int32))), .val (.int (((p0.toUInt32 >>> ((2 : Int32) &&& 31).toUInt32).toInt32) &&& (3 : Int32))), .val (.ref b5), .val (.ref b7), .val (.int r16), .val (.int f17), .unset, .unset, .unset] [(.int ((p1.toUInt32 >>> ((4 : Int32) &&& 31).toUInt32).toInt32)), (.ref b7)]))
    refine own_via (fun _ k => XS.iconst X15.here hx rfl (hb hby at_91) k) ?_
    show own_Go p e below s _ _ _ (T15.setTop (mkF m 92 #[.val (.int p0), .val (.int p1), .val (.int p2), .val (.int p3), .val (.int ((1 : Int32) + (0 : Int32))), .val (.int (((p0.toUInt32 >>> ((2 : Int32) &&& 31).toUInt32).toInt32) &&& (3 : Int32))), .val (.ref b5), .val (.ref b7), .val (.int r16), .val (.int f17), .unset, .unset, .unset] [(.int (3 : Int32)), (.int ((p1.toUInt32 >>> ((4 : Int32) &&& 31).toUInt32).toInt32)), (.ref b7)]))
    refine own_via (fun _ k => XS.iand X15.here hx rfl (hb hby at_92) rfl k) ?_
    show own_Go p e below s _ _ _ (T15.setTop (mkF m 93 #[.val (.int p0), .val (.int p1), .val (.int p2), .val (.int p3), .val (.int ((1 : Int32) + (0 : Int32))), .val (.int (((p0.toUInt32 >>> ((2 : Int32) &&& 31).toUInt32).toInt32) &&& (3 : Int32))), .val (.ref b5), .val (.ref b7), .val (.int r16), .val (.int f17), .unset, .unset, .unset] [(.int (((p1.toUInt32 >>> ((4 : Int32) &&& 31).toUInt32).toInt32) &&& (3 : Int32))), (.ref b7)]))
    have Vx18 := V_b7
    obtain ⟨cl18, Ar18, q18, S18, N18, H18, G18⟩ := Vx18
    have hin18 : ¬ ((((p1.toUInt32 >>> ((4 : Int32) &&& 31).toUInt32).toInt32) &&& (3 : Int32)) < 0 ∨ cl18.slots.size ≤ ((((p1.toUInt32 >>> ((4 : Int32) &&& 31).toUInt32).toInt32) &&& (3 : Int32))).toNatClampNeg) := own_inb S18 (own_a3 _).1 (own_a3 _).2
    obtain ⟨r18, hat18, hrb18⟩ := own_giv H18 S18 hin18 (by decide) (by decide) (by decide) (by decide)
    refine own_via (fun _ k => X15.iaload hx (j := (((p1.toUInt32 >>> ((4 : Int32) &&& 31).toUInt32).toInt32) &&& (3 : Int32))) (v := (.int r18)) (by rw [e15]; exact Ar18.1) (State.isArrayOf_alike hZ.alike Ar18.2.1) Ar18.2.2 hin18 hat18 (g := (mkF m 93 #[.val (.int p0), .val (.int p1), .val (.int p2), .val (.int p3), .val (.int ((1 : Int32) + (0 : Int32))), .val (.int (((p0.toUInt32 >>> ((2 : Int32) &&& 31).toUInt32).toInt32) &&& (3 : Int32))), .val (.ref b5), .val (.ref b7), .val (.int r16), .val (.int f17), .unset, .unset, .unset] [(.int (((p1.toUInt32 >>> ((4 : Int32) &&& 31).toUInt32).toInt32) &&& (3 : Int32))), (.ref b7)])) rfl rfl (hb hby at_93) _ k) ?_
    show own_Go p e below s _ _ _ (T15.setTop (mkF m 94 #[.val (.int p0), .val (.int p1), .val (.int p2), .val (.int p3), .val (.int ((1 : Int32) + (0 : Int32))), .val (.int (((p0.toUInt32 >>> ((2 : Int32) &&& 31).toUInt32).toInt32) &&& (3 : Int32))), .val (.ref b5), .val (.ref b7), .val (.int r16), .val (.int f17), .unset, .unset, .unset] [(.int r18)]))
    refine own_via (fun _ k => XS.istore X15.here hx rfl (hb hby at_94) rfl (l' := #[.val (.int p0), .val (.int p1), .val (.int p2), .val (.int p3), .val (.int ((1 : Int32) + (0 : Int32))), .val (.int (((p0.toUInt32 >>> ((2 : Int32) &&& 31).toUInt32).toInt32) &&& (3 : Int32))), .val (.ref b5), .val (.ref b7), .val (.int r16), .val (.int f17), .val (.int r18), .unset, .unset]) rfl k) ?_
    show own_Go p e below s _ _ _ (T15.setTop (mkF m 96 #[.val (.int p0), .val (.int p1), .val (.int p2), .val (.int p3), .val (.int ((1 : Int32) + (0 : Int32))), .val (.int (((p0.toUInt32 >>> ((2 : Int32) &&& 31).toUInt32).toInt32) &&& (3 : Int32))), .val (.ref b5), .val (.ref b7), .val (.int r16), .val (.int f17), .val (.int r18), .unset, .unset] []))
    refine own_via (fun _ k => XS.iloadN X15.here hx rfl (hb hby at_96) rfl k) ?_
    show own_Go p e below s _ _ _ (T15.setTop (mkF m 97 #[.val (.int p0), .val (.int p1), .val (.int p2), .val (.int p3), .val (.int ((1 : Int32) + (0 : Int32))), .val (.int (((p0.toUInt32 >>> ((2 : Int32) &&& 31).toUInt32).toInt32) &&& (3 : Int32))), .val (.ref b5), .val (.ref b7), .val (.int r16), .val (.int f17), .val (.int r18), .unset, .unset] [(.int p1)]))
    refine own_via (fun _ k => XS.bipush X15.here hx rfl (hb hby at_97) k) ?_
    show own_Go p e below s _ _ _ (T15.setTop (mkF m 99 #[.val (.int p0), .val (.int p1), .val (.int p2), .val (.int p3), .val (.int ((1 : Int32) + (0 : Int32))), .val (.int (((p0.toUInt32 >>> ((2 : Int32) &&& 31).toUInt32).toInt32) &&& (3 : Int32))), .val (.ref b5), .val (.ref b7), .val (.int r16), .val (.int f17), .val (.int r18), .unset, .unset] [(.int (6 : Int32)), (.int p1)]))
    refine own_via (fun _ k => XS.iushr X15.here hx rfl (hb hby at_99) rfl k) ?_
    show own_Go p e below s _ _ _ (T15.setTop (mkF m 100 #[.val (.int p0), .val (.int p1), .val (.int p2), .val (.int p3), .val (.int ((1 : Int32) + (0 : Int32))), .val (.int (((p0.toUInt32 >>> ((2 : Int32) &&& 31).toUInt32).toInt32) &&& (3 : Int32))), .val (.ref b5), .val (.ref b7), .val (.int r16), .val (.int f17), .val (.int r18), .unset, .unset] [(.int ((p1.toUInt32 >>> ((6 : Int32) &&& 31).toUInt32).toInt32))]))
    refine own_via (fun _ k => XS.iconst X15.here hx rfl (hb hby at_100) k) ?_
    show own_Go p e below s _ _ _ (T15.setTop (mkF m 101 #[.val (.int p0), .val (.int p1), .val (.int p2), .val (.int p3), .val (.int ((1 : Int32) + (0 : Int32))), .val (.int (((p0.toUInt32 >>> ((2 : Int32) &&& 31).toUInt32).toInt32) &&& (3 : Int32))), .val (.ref b5), .val (.ref b7), .val (.int r16), .val (.int f17), .val (.int r18), .unset, .unset] [(.int (3 : Int32)), (.int ((p1.toUInt32 >>> ((6 : Int32) &&& 31).toUInt32).toInt32))]))
    refine own_via (fun _ k => XS.iand X15.here hx rfl (hb hby at_101) rfl k) ?_
    show own_Go p e below s _ _ _ (T15.setTop (mkF m 102 #[.val (.int p0), .val (.int p1), .val (.int p2), .val (.int p3), .val (.int ((1 : Int32) + (0 : Int32))), .val (.int (((p0.toUInt32 >>> ((2 : Int32) &&& 31).toUInt32).toInt32) &&& (3 : Int32))), .val (.ref b5), .val (.ref b7), .val (.int r16), .val (.int f17), .val (.int r18), .unset, .unset] [(.int (((p1.toUInt32 >>> ((6 : Int32) &&& 31).toUInt32).toInt32) &&& (3 : Int32)))]))
    refine own_via (fun _ k => XS.iload X15.here hx rfl (hb hby at_102) rfl k) ?_
    show own_Go p e below s _ _ _ (T15.setTop (mkF m 104 #[.val (.int p0), .val (.int p1), .val (.int p2), .val (.int p3), .val (.int ((1 : Int32) + (0 : Int32))), .val (.int (((p0.toUInt32 >>> ((2 : Int32) &&& 31).toUInt32).toInt32) &&& (3 : Int32))), .val (.ref b5), .val (.ref b7), .val (.int r16), .val (.int f17), .val (.int r18), .unset, .unset] [(.int ((1 : Int32) + (0 : Int32))), (.int (((p1.toUInt32 >>> ((6 : Int32) &&& 31).toUInt32).toInt32) &&& (3 : Int32)))]))
    refine own_via (fun _ k => iremM X15 hx rfl (hb hby at_104) rfl (by decide : ¬ (((1 : Int32) + (0 : Int32)) = (0 : Int32))) k) ?_
    have hfb19 : 0 ≤ ((((p1.toUInt32 >>> ((6 : Int32) &&& 31).toUInt32).toInt32) &&& (3 : Int32)) % ((1 : Int32) + (0 : Int32))).toInt ∧ ((((p1.toUInt32 >>> ((6 : Int32) &&& 31).toUInt32).toInt32) &&& (3 : Int32)) % ((1 : Int32) + (0 : Int32))).toInt < 1 := own_fb rfl (by decide) (own_a3 _).1
    obtain ⟨f19, hf19⟩ : ∃ z : Int32, z = ((((p1.toUInt32 >>> ((6 : Int32) &&& 31).toUInt32).toInt32) &&& (3 : Int32)) % ((1 : Int32) + (0 : Int32))) := ⟨_, rfl⟩
    rw [← hf19] at hfb19
    rw [← hf19]
    show own_Go p e below s _ _ _ (T15.setTop (mkF m 105 #[.val (.int p0), .val (.int p1), .val (.int p2), .val (.int p3), .val (.int ((1 : Int32) + (0 : Int32))), .val (.int (((p0.toUInt32 >>> ((2 : Int32) &&& 31).toUInt32).toInt32) &&& (3 : Int32))), .val (.ref b5), .val (.ref b7), .val (.int r16), .val (.int f17), .val (.int r18), .unset, .unset] [(.int f19)]))
    refine own_via (fun _ k => XS.istore X15.here hx rfl (hb hby at_105) rfl (l' := #[.val (.int p0), .val (.int p1), .val (.int p2), .val (.int p3), .val (.int ((1 : Int32) + (0 : Int32))), .val (.int (((p0.toUInt32 >>> ((2 : Int32) &&& 31).toUInt32).toInt32) &&& (3 : Int32))), .val (.ref b5), .val (.ref b7), .val (.int r16), .val (.int f17), .val (.int r18), .val (.int f19), .unset]) rfl k) ?_
    show own_Go p e below s _ _ _ (T15.setTop (mkF m 107 #[.val (.int p0), .val (.int p1), .val (.int p2), .val (.int p3), .val (.int ((1 : Int32) + (0 : Int32))), .val (.int (((p0.toUInt32 >>> ((2 : Int32) &&& 31).toUInt32).toInt32) &&& (3 : Int32))), .val (.ref b5), .val (.ref b7), .val (.int r16), .val (.int f17), .val (.int r18), .val (.int f19), .unset] []))
    refine own_via (fun _ k => XS.aload X15.here hx rfl (hb hby at_107) rfl rfl k) ?_
    show own_Go p e below s _ _ _ (T15.setTop (mkF m 109 #[.val (.int p0), .val (.int p1), .val (.int p2), .val (.int p3), .val (.int ((1 : Int32) + (0 : Int32))), .val (.int (((p0.toUInt32 >>> ((2 : Int32) &&& 31).toUInt32).toInt32) &&& (3 : Int32))), .val (.ref b5), .val (.ref b7), .val (.int r16), .val (.int f17), .val (.int r18), .val (.int f19), .unset] [(.ref b5)]))
    refine own_via (fun _ k => XS.iload X15.here hx rfl (hb hby at_109) rfl k) ?_
    show own_Go p e below s _ _ _ (T15.setTop (mkF m 111 #[.val (.int p0), .val (.int p1), .val (.int p2), .val (.int p3), .val (.int ((1 : Int32) + (0 : Int32))), .val (.int (((p0.toUInt32 >>> ((2 : Int32) &&& 31).toUInt32).toInt32) &&& (3 : Int32))), .val (.ref b5), .val (.ref b7), .val (.int r16), .val (.int f17), .val (.int r18), .val (.int f19), .unset] [(.int r18), (.ref b5)]))
    refine own_via (fun _ k => XS.iload X15.here hx rfl (hb hby at_111) rfl k) ?_
    show own_Go p e below s _ _ _ (T15.setTop (mkF m 113 #[.val (.int p0), .val (.int p1), .val (.int p2), .val (.int p3), .val (.int ((1 : Int32) + (0 : Int32))), .val (.int (((p0.toUInt32 >>> ((2 : Int32) &&& 31).toUInt32).toInt32) &&& (3 : Int32))), .val (.ref b5), .val (.ref b7), .val (.int r16), .val (.int f17), .val (.int r18), .val (.int f19), .unset] [(.int f19), (.int r18), (.ref b5)]))
    refine own_via (fun _ k => XS.iloadN X15.here hx rfl (hb hby at_113) rfl k) ?_
    show own_Go p e below s _ _ _ (T15.setTop (mkF m 114 #[.val (.int p0), .val (.int p1), .val (.int p2), .val (.int p3), .val (.int ((1 : Int32) + (0 : Int32))), .val (.int (((p0.toUInt32 >>> ((2 : Int32) &&& 31).toUInt32).toInt32) &&& (3 : Int32))), .val (.ref b5), .val (.ref b7), .val (.int r16), .val (.int f17), .val (.int r18), .val (.int f19), .unset] [(.int p3), (.int f19), (.int r18), (.ref b5)]))
    have ix21 : (((r18 &&& (4095 : Int32)) * ((1 : Int32) + (0 : Int32))) + f19).toInt = r18.toInt * 1 + f19.toInt := own_ix1 hrb18 hfb19
    obtain ⟨cq20, kq20, q20a, q20b, q20c⟩ := isOf hZ e15 OB_b5.1
    obtain ⟨_, _, ⟨T20, L20, k20, n20⟩, -, X20, ⟨Lc20, hQ20, l20, y20, z20⟩, st20⟩ := X15.virtualBack hx (y := (⟨"com/example/whenever/whenever/internal/engine/Rows", "setInt", "(III)V"⟩ : MethodName)) (z := (⟨"com/example/whenever/whenever/internal/engine/Rows", "setInt", "(III)V"⟩ : MethodName)) hown (mvT hZ (hw _ (List.mem_of_getElem? (i := 76) rfl))) (mvT hZ (hw _ (List.mem_of_getElem? (i := 77) rfl))) (notFace_of_selects (args := #[]) (mvT hZ (hw _ (List.mem_of_getElem? (i := 79) rfl)))) (mvT hZ (hw _ (List.mem_of_getElem? (i := 79) rfl))) (mvT hZ (hw _ (List.mem_of_getElem? (i := 78) rfl))) (by decide) (backOf (W := 0) (rm10_1 l Z a0 hw [] b5 A1 A2 I R k1 k2 (((((1 : Int32) + (1 : Int32)) + (1 : Int32)) + (1 : Int32)) + (1 : Int32)) ((1 : Int32) + (0 : Int32)) (((p0.toUInt32 >>> ((2 : Int32) &&& 31).toUInt32).toInt32) &&& (3 : Int32)) cl r18 f19 p3 w0 w1 mr kw0 kw1 h15 n0 Z0 K0 OL (own_blk hrb18) (own_inx SI ix21 hrb18 hfb19) ⟨OB_b5, V_A1, V_A2, OV_A1, OV_A2, ne_b5_A1, ne_b5_A2, ne_A1_A2, g_b5, g_A1, g_A2⟩ AR_I ne_b5_I ne_A1_I ne_A2_I g_I) hZ (hw _ (List.mem_of_getElem? (i := 80) rfl)) (hw _ (List.mem_of_getElem? (i := 2) rfl)) (by decide) (by decide)) q20a q20c (g := (mkF m 114 #[.val (.int p0), .val (.int p1), .val (.int p2), .val (.int p3), .val (.int ((1 : Int32) + (0 : Int32))), .val (.int (((p0.toUInt32 >>> ((2 : Int32) &&& 31).toUInt32).toInt32) &&& (3 : Int32))), .val (.ref b5), .val (.ref b7), .val (.int r16), .val (.int f17), .val (.int r18), .val (.int f19), .unset] [(.int p3), (.int f19), (.int r18), (.ref b5)])) rfl (by rw [hml]; rfl) (Steps.refl _) (argsL := [(.int r18), (.int f19), (.int p3)]) (rest := []) (lenOf pd5 rfl) rfl (by show 2 * 0 + _ ≤ _; exact Nat.le_of_eq rfl) (hb hby at_114) (fun _ _ => ⟨rfl, e15, (by decide : 0 + 1 + 2 + 1 + 2 + 0 + 0 + 0 + 0 ≤ _), (by decide : 0 + 10 + 2 + 4 + 64 + 0 + 0 + 0 + 0 ≤ _)⟩)
    dsimp only [Pt.U, Pt.locs, Pt.cells, Pt.slots] at X20 l20 y20 z20 st20 hQ20
    subst l20 y20 z20
    obtain ⟨NQ20, OLq20, Zq20, KQ20, hP20⟩ := hQ20
    obtain ⟨rfl, -, ARq20⟩ := hP20
    have OB_b5 := OB_b5.keep KQ20 (ninS ne_b5_I nin0)
    have V_A1 := V_A1.keep KQ20 (ninS ne_A1_I nin0)
    have V_A2 := V_A2.keep KQ20 (ninS ne_A2_I nin0)
    have V_b7 := V_b7.keep KQ20 (ninS ne_b7_I nin0)
    have AR_R := own_arrKeep AR_R KQ20 (ninS (Ne.symm ne_I_R) nin0)
    have EX_b7 := EX_b7.keep KQ20
    have AR_I := ARq20
    skip
    have OL := OLq20
    have Z0 := Zq20
    refine own_tr st20 ?_
    show own_Go p e below s _ _ _ (T20.setTop (mkF m 117 #[.val (.int p0), .val (.int p1), .val (.int p2), .val (.int p3), .val (.int ((1 : Int32) + (0 : Int32))), .val (.int (((p0.toUInt32 >>> ((2 : Int32) &&& 31).toUInt32).toInt32) &&& (3 : Int32))), .val (.ref b5), .val (.ref b7), .val (.int r16), .val (.int f17), .val (.int r18), .val (.int f19), .unset] []))
    refine own_via (fun _ k => XS.aload X20.here hx rfl (hb hby at_117) rfl rfl k) ?_
    show own_Go p e below s _ _ _ (T20.setTop (mkF m 119 #[.val (.int p0), .val (.int p1), .val (.int p2), .val (.int p3), .val (.int ((1 : Int32) + (0 : Int32))), .val (.int (((p0.toUInt32 >>> ((2 : Int32) &&& 31).toUInt32).toInt32) &&& (3 : Int32))), .val (.ref b5), .val (.ref b7), .val (.int r16), .val (.int f17), .val (.int r18), .val (.int f19), .unset] [(.ref b5)]))
    refine own_via (fun _ k => XS.iload X20.here hx rfl (hb hby at_119) rfl k) ?_
    show own_Go p e below s _ _ _ (T20.setTop (mkF m 121 #[.val (.int p0), .val (.int p1), .val (.int p2), .val (.int p3), .val (.int ((1 : Int32) + (0 : Int32))), .val (.int (((p0.toUInt32 >>> ((2 : Int32) &&& 31).toUInt32).toInt32) &&& (3 : Int32))), .val (.ref b5), .val (.ref b7), .val (.int r16), .val (.int f17), .val (.int r18), .val (.int f19), .unset] [(.int r16), (.ref b5)]))
    refine own_via (fun _ k => XS.iload X20.here hx rfl (hb hby at_121) rfl k) ?_
    show own_Go p e below s _ _ _ (T20.setTop (mkF m 123 #[.val (.int p0), .val (.int p1), .val (.int p2), .val (.int p3), .val (.int ((1 : Int32) + (0 : Int32))), .val (.int (((p0.toUInt32 >>> ((2 : Int32) &&& 31).toUInt32).toInt32) &&& (3 : Int32))), .val (.ref b5), .val (.ref b7), .val (.int r16), .val (.int f17), .val (.int r18), .val (.int f19), .unset] [(.int f17), (.int r16), (.ref b5)]))
    refine own_via (fun _ k => XS.iloadN X20.here hx rfl (hb hby at_123) rfl k) ?_
    show own_Go p e below s _ _ _ (T20.setTop (mkF m 124 #[.val (.int p0), .val (.int p1), .val (.int p2), .val (.int p3), .val (.int ((1 : Int32) + (0 : Int32))), .val (.int (((p0.toUInt32 >>> ((2 : Int32) &&& 31).toUInt32).toInt32) &&& (3 : Int32))), .val (.ref b5), .val (.ref b7), .val (.int r16), .val (.int f17), .val (.int r18), .val (.int f19), .unset] [(.int p2), (.int f17), (.int r16), (.ref b5)]))
    have ix23 : (((r16 &&& (4095 : Int32)) * ((1 : Int32) + (0 : Int32))) + f17).toInt = r16.toInt * 1 + f17.toInt := own_ix1 hrb16 hfb17
    obtain ⟨cq22, kq22, q22a, q22b, q22c⟩ := isOf hZ rfl OB_b5.1
    obtain ⟨_, _, ⟨T22, L22, k22, n22⟩, -, X22, ⟨Lc22, hQ22, l22, y22, z22⟩, st22⟩ := X20.virtualBack hx (y := (⟨"com/example/whenever/whenever/internal/engine/Rows", "setInt", "(III)V"⟩ : MethodName)) (z := (⟨"com/example/whenever/whenever/internal/engine/Rows", "setInt", "(III)V"⟩ : MethodName)) hown (mvT hZ (hw _ (List.mem_of_getElem? (i := 76) rfl))) (mvT hZ (hw _ (List.mem_of_getElem? (i := 77) rfl))) (notFace_of_selects (args := #[]) (mvT hZ (hw _ (List.mem_of_getElem? (i := 79) rfl)))) (mvT hZ (hw _ (List.mem_of_getElem? (i := 79) rfl))) (mvT hZ (hw _ (List.mem_of_getElem? (i := 78) rfl))) (by decide) (backOf (W := 0) (rm10_1 l Z a0 hw [] b5 A1 A2 I R k1 k2 (((((1 : Int32) + (1 : Int32)) + (1 : Int32)) + (1 : Int32)) + (1 : Int32)) ((1 : Int32) + (0 : Int32)) (((p0.toUInt32 >>> ((2 : Int32) &&& 31).toUInt32).toInt32) &&& (3 : Int32)) (cl.setSlot ((((r18 &&& (4095 : Int32)) * ((1 : Int32) + (0 : Int32))) + f19)).toNatClampNeg (.int p3)) r16 f17 p2 w0 w1 mr kw0 kw1 T20.heap n0 Z0 K0 OL (own_blk hrb16) (own_inx ((sz_set _ _ _).trans SI) ix23 hrb16 hfb17) ⟨OB_b5, V_A1, V_A2, OV_A1, OV_A2, ne_b5_A1, ne_b5_A2, ne_A1_A2, g_b5, g_A1, g_A2⟩ AR_I ne_b5_I ne_A1_I ne_A2_I g_I) hZ (hw _ (List.mem_of_getElem? (i := 80) rfl)) (hw _ (List.mem_of_getElem? (i := 2) rfl)) (by decide) (by decide)) q22a q22c (g := (mkF m 124 #[.val (.int p0), .val (.int p1), .val (.int p2), .val (.int p3), .val (.int ((1 : Int32) + (0 : Int32))), .val (.int (((p0.toUInt32 >>> ((2 : Int32) &&& 31).toUInt32).toInt32) &&& (3 : Int32))), .val (.ref b5), .val (.ref b7), .val (.int r16), .val (.int f17), .val (.int r18), .val (.int f19), .unset] [(.int p2), (.int f17), (.int r16), (.ref b5)])) rfl (by rw [hml]; rfl) (Steps.refl _) (argsL := [(.int r16), (.int f17), (.int p2)]) (rest := []) (lenOf pd5 rfl) rfl (by show 2 * 0 + _ ≤ _; exact Nat.le_of_eq rfl) (hb hby at_124) (fun _ _ => ⟨rfl, rfl, (by decide : 0 + 1 + 2 + 1 + 2 + 0 + 0 + 0 + 0 + 0 ≤ _), (by decide : 0 + 10 + 2 + 4 + 64 + 0 + 0 + 0 + 0 + 0 ≤ _)⟩)
    dsimp only [Pt.U, Pt.locs, Pt.cells, Pt.slots] at X22 l22 y22 z22 st22 hQ22
    subst l22 y22 z22
    obtain ⟨NQ22, OLq22, Zq22, KQ22, hP22⟩ := hQ22
    obtain ⟨rfl, -, ARq22⟩ := hP22
    have OB_b5 := OB_b5.keep KQ22 (ninS ne_b5_I nin0)
    have V_A1 := V_A1.keep KQ22 (ninS ne_A1_I nin0)
    have V_A2 := V_A2.keep KQ22 (ninS ne_A2_I nin0)
    have V_b7 := V_b7.keep KQ22 (ninS ne_b7_I nin0)
    have AR_R := own_arrKeep AR_R KQ22 (ninS (Ne.symm ne_I_R) nin0)
    have EX_b7 := EX_b7.keep KQ22
    have AR_I := ARq22
    skip
    have OL := OLq22
    have Z0 := Zq22
    refine own_tr st22 ?_
    show own_Go p e below s _ _ _ (T22.setTop (mkF m 127 #[.val (.int p0), .val (.int p1), .val (.int p2), .val (.int p3), .val (.int ((1 : Int32) + (0 : Int32))), .val (.int (((p0.toUInt32 >>> ((2 : Int32) &&& 31).toUInt32).toInt32) &&& (3 : Int32))), .val (.ref b5), .val (.ref b7), .val (.int r16), .val (.int f17), .val (.int r18), .val (.int f19), .unset] []))
    refine own_via (fun _ k => XS.iload X22.here hx rfl (hb hby at_127) rfl k) ?_
    show own_Go p e below s _ _ _ (T22.setTop (mkF m 129 #[.val (.int p0), .val (.int p1), .val (.int p2), .val (.int p3), .val (.int ((1 : Int32) + (0 : Int32))), .val (.int (((p0.toUInt32 >>> ((2 : Int32) &&& 31).toUInt32).toInt32) &&& (3 : Int32))), .val (.ref b5), .val (.ref b7), .val (.int r16), .val (.int f17), .val (.int r18), .val (.int f19), .unset] [(.int r16)]))
    refine own_via (fun _ k => XS.iload X22.here hx rfl (hb hby at_129) rfl k) ?_
    show own_Go p e below s _ _ _ (T22.setTop (mkF m 131 #[.val (.int p0), .val (.int p1), .val (.int p2), .val (.int p3), .val (.int ((1 : Int32) + (0 : Int32))), .val (.int (((p0.toUInt32 >>> ((2 : Int32) &&& 31).toUInt32).toInt32) &&& (3 : Int32))), .val (.ref b5), .val (.ref b7), .val (.int r16), .val (.int f17), .val (.int r18), .val (.int f19), .unset] [(.int r18), (.int r16)]))
    by_cases hc24 : r16 = r18
    · refine own_via (fun _ k => XS.icmpNo X22.here hx rfl (hb hby at_131) rfl (teq hc24).2 k) ?_
      show own_Go p e below s _ _ _ (T22.setTop (mkF m 134 #[.val (.int p0), .val (.int p1), .val (.int p2), .val (.int p3), .val (.int ((1 : Int32) + (0 : Int32))), .val (.int (((p0.toUInt32 >>> ((2 : Int32) &&& 31).toUInt32).toInt32) &&& (3 : Int32))), .val (.ref b5), .val (.ref b7), .val (.int r16), .val (.int f17), .val (.int r18), .val (.int f19), .unset] []))
      refine own_via (fun _ k => XS.iload X22.here hx rfl (hb hby at_134) rfl k) ?_
      show own_Go p e below s _ _ _ (T22.setTop (mkF m 136 #[.val (.int p0), .val (.int p1), .val (.int p2), .val (.int p3), .val (.int ((1 : Int32) + (0 : Int32))), .val (.int (((p0.toUInt32 >>> ((2 : Int32) &&& 31).toUInt32).toInt32) &&& (3 : Int32))), .val (.ref b5), .val (.ref b7), .val (.int r16), .val (.int f17), .val (.int r18), .val (.int f19), .unset] [(.int f17)]))
      refine own_via (fun _ k => XS.iload X22.here hx rfl (hb hby at_136) rfl k) ?_
      show own_Go p e below s _ _ _ (T22.setTop (mkF m 138 #[.val (.int p0), .val (.int p1), .val (.int p2), .val (.int p3), .val (.int ((1 : Int32) + (0 : Int32))), .val (.int (((p0.toUInt32 >>> ((2 : Int32) &&& 31).toUInt32).toInt32) &&& (3 : Int32))), .val (.ref b5), .val (.ref b7), .val (.int r16), .val (.int f17), .val (.int r18), .val (.int f19), .unset] [(.int f19), (.int f17)]))
      by_cases hc25 : f17 = f19
      · refine own_via (fun _ k => XS.icmpNo X22.here hx rfl (hb hby at_138) rfl (teq hc25).2 k) ?_
        show own_Go p e below s _ _ _ (T22.setTop (mkF m 141 #[.val (.int p0), .val (.int p1), .val (.int p2), .val (.int p3), .val (.int ((1 : Int32) + (0 : Int32))), .val (.int (((p0.toUInt32 >>> ((2 : Int32) &&& 31).toUInt32).toInt32) &&& (3 : Int32))), .val (.ref b5), .val (.ref b7), .val (.int r16), .val (.int f17), .val (.int r18), .val (.int f19), .unset] []))
        refine own_via (fun _ k => XS.iloadN X22.here hx rfl (hb hby at_141) rfl k) ?_
        show own_Go p e below s _ _ _ (T22.setTop (mkF m 142 #[.val (.int p0), .val (.int p1), .val (.int p2), .val (.int p3), .val (.int ((1 : Int32) + (0 : Int32))), .val (.int (((p0.toUInt32 >>> ((2 : Int32) &&& 31).toUInt32).toInt32) &&& (3 : Int32))), .val (.ref b5), .val (.ref b7), .val (.int r16), .val (.int f17), .val (.int r18), .val (.int f19), .unset] [(.int p2)]))
        refine own_via (fun _ k => XS.goto X22.here hx rfl (pc0 := 142) (pc' := 146) rfl (hb hby at_142) (by decide) (by decide) k) ?_
        show own_Go p e below s _ _ _ (T22.setTop (mkF m 146 #[.val (.int p0), .val (.int p1), .val (.int p2), .val (.int p3), .val (.int ((1 : Int32) + (0 : Int32))), .val (.int (((p0.toUInt32 >>> ((2 : Int32) &&& 31).toUInt32).toInt32) &&& (3 : Int32))), .val (.ref b5), .val (.ref b7), .val (.int r16), .val (.int f17), .val (.int r18), .val (.int f19), .unset] [(.int p2)]))
        refine own_via (fun _ k => XS.istore X22.here hx rfl (hb hby at_146) rfl (l' := #[.val (.int p0), .val (.int p1), .val (.int p2), .val (.int p3), .val (.int ((1 : Int32) + (0 : Int32))), .val (.int (((p0.toUInt32 >>> ((2 : Int32) &&& 31).toUInt32).toInt32) &&& (3 : Int32))), .val (.ref b5), .val (.ref b7), .val (.int r16), .val (.int f17), .val (.int r18), .val (.int f19), .val (.int p2)]) rfl k) ?_
        show own_Go p e below s _ _ _ (T22.setTop (mkF m 148 #[.val (.int p0), .val (.int p1), .val (.int p2), .val (.int p3), .val (.int ((1 : Int32) + (0 : Int32))), .val (.int (((p0.toUInt32 >>> ((2 : Int32) &&& 31).toUInt32).toInt32) &&& (3 : Int32))), .val (.ref b5), .val (.ref b7), .val (.int r16), .val (.int f17), .val (.int r18), .val (.int f19), .val (.int p2)] []))
        refine own_via (fun _ k => XS.aload X22.here hx rfl (hb hby at_148) rfl rfl k) ?_
        show own_Go p e below s _ _ _ (T22.setTop (mkF m 150 #[.val (.int p0), .val (.int p1), .val (.int p2), .val (.int p3), .val (.int ((1 : Int32) + (0 : Int32))), .val (.int (((p0.toUInt32 >>> ((2 : Int32) &&& 31).toUInt32).toInt32) &&& (3 : Int32))), .val (.ref b5), .val (.ref b7), .val (.int r16), .val (.int f17), .val (.int r18), .val (.int f19), .val (.int p2)] [(.ref b5)]))
        refine own_via (fun _ k => XS.iload X22.here hx rfl (hb hby at_150) rfl k) ?_
        show own_Go p e below s _ _ _ (T22.setTop (mkF m 152 #[.val (.int p0), .val (.int p1), .val (.int p2), .val (.int p3), .val (.int ((1 : Int32) + (0 : Int32))), .val (.int (((p0.toUInt32 >>> ((2 : Int32) &&& 31).toUInt32).toInt32) &&& (3 : Int32))), .val (.ref b5), .val (.ref b7), .val (.int r16), .val (.int f17), .val (.int r18), .val (.int f19), .val (.int p2)] [(.int r16), (.ref b5)]))
        refine own_via (fun _ k => XS.iload X22.here hx rfl (hb hby at_152) rfl k) ?_
        show own_Go p e below s _ _ _ (T22.setTop (mkF m 154 #[.val (.int p0), .val (.int p1), .val (.int p2), .val (.int p3), .val (.int ((1 : Int32) + (0 : Int32))), .val (.int (((p0.toUInt32 >>> ((2 : Int32) &&& 31).toUInt32).toInt32) &&& (3 : Int32))), .val (.ref b5), .val (.ref b7), .val (.int r16), .val (.int f17), .val (.int r18), .val (.int f19), .val (.int p2)] [(.int f17), (.int r16), (.ref b5)]))
        have hat26 : ((cl.setSlot ((((r18 &&& (4095 : Int32)) * ((1 : Int32) + (0 : Int32))) + f19)).toNatClampNeg (.int p3)).setSlot ((((r16 &&& (4095 : Int32)) * ((1 : Int32) + (0 : Int32))) + f17)).toNatClampNeg (.int p2)).slots[((((r16 &&& (4095 : Int32)) * ((1 : Int32) + (0 : Int32))) + f17)).toNatClampNeg]? = some (.int p2) := (get_hit (own_inx ((sz_set _ _ _).trans SI) ix23 hrb16 hfb17) rfl)
        obtain ⟨cq26, kq26, q26a, q26b, q26c⟩ := isOf hZ rfl OB_b5.1
        obtain ⟨_, _, ⟨T26, L26, k26, n26⟩, -, X26, ⟨Lc26, hQ26, l26, y26, z26⟩, st26⟩ := X22.virtualBack hx (y := (⟨"com/example/whenever/whenever/internal/engine/Rows", "getInt", "(II)I"⟩ : MethodName)) (z := (⟨"com/example/whenever/whenever/internal/engine/Rows", "getInt", "(II)I"⟩ : MethodName)) hown (mvT hZ (hw _ (List.mem_of_getElem? (i := 81) rfl))) (mvT hZ (hw _ (List.mem_of_getElem? (i := 82) rfl))) (notFace_of_selects (args := #[]) (mvT hZ (hw _ (List.mem_of_getElem? (i := 84) rfl)))) (mvT hZ (hw _ (List.mem_of_getElem? (i := 84) rfl))) (mvT hZ (hw _ (List.mem_of_getElem? (i := 83) rfl))) (by decide) (backOf (W := 0) (rm11_1 l Z a0 hw [] b5 A1 A2 I R k1 k2 (((((1 : Int32) + (1 : Int32)) + (1 : Int32)) + (1 : Int32)) + (1 : Int32)) ((1 : Int32) + (0 : Int32)) (((p0.toUInt32 >>> ((2 : Int32) &&& 31).toUInt32).toInt32) &&& (3 : Int32)) ((cl.setSlot ((((r18 &&& (4095 : Int32)) * ((1 : Int32) + (0 : Int32))) + f19)).toNatClampNeg (.int p3)).setSlot ((((r16 &&& (4095 : Int32)) * ((1 : Int32) + (0 : Int32))) + f17)).toNatClampNeg (.int p2)) r16 f17 p2 w0 w1 mr kw0 kw1 T22.heap n0 Z0 K0 OL (own_blk hrb16) (own_inx ((sz_set _ _ _).trans ((sz_set _ _ _).trans SI)) ix23 hrb16 hfb17) hat26 ⟨OB_b5, V_A1, V_A2, OV_A1, OV_A2, ne_b5_A1, ne_b5_A2, ne_A1_A2, g_b5, g_A1, g_A2⟩ AR_I) hZ (hw _ (List.mem_of_getElem? (i := 85) rfl)) (hw _ (List.mem_of_getElem? (i := 2) rfl)) (by decide) (by decide)) q26a q26c (g := (mkF m 154 #[.val (.int p0), .val (.int p1), .val (.int p2), .val (.int p3), .val (.int ((1 : Int32) + (0 : Int32))), .val (.int (((p0.toUInt32 >>> ((2 : Int32) &&& 31).toUInt32).toInt32) &&& (3 : Int32))), .val (.ref b5), .val (.ref b7), .val (.int r16), .val (.int f17), .val (.int r18), .val (.int f19), .val (.int p2)] [(.int f17), (.int r16), (.ref b5)])) rfl (by rw [hml]; rfl) (Steps.refl _) (argsL := [(.int r16), (.int f17)]) (rest := []) (lenOf pd1 rfl) rfl (by show 2 * 0 + _ ≤ _; exact Nat.le_of_eq rfl) (hb hby at_154) (fun _ _ => ⟨rfl, rfl, (by decide : 0 + 1 + 2 + 1 + 2 + 0 + 0 + 0 + 0 + 0 + 0 ≤ _), (by decide : 0 + 10 + 2 + 4 + 64 + 0 + 0 + 0 + 0 + 0 + 0 ≤ _)⟩)
        dsimp only [Pt.U, Pt.locs, Pt.cells, Pt.slots] at X26 l26 y26 z26 st26 hQ26
        subst l26 y26 z26
        obtain ⟨NQ26, OLq26, Zq26, KQ26, hP26⟩ := hQ26
        obtain rfl := hP26
        have OB_b5 := OB_b5.keep KQ26 nin0
        have V_A1 := V_A1.keep KQ26 nin0
        have V_A2 := V_A2.keep KQ26 nin0
        have V_b7 := V_b7.keep KQ26 nin0
        have AR_R := own_arrKeep AR_R KQ26 nin0
        have AR_I := own_arrKeep AR_I KQ26 nin0
        have EX_b7 := EX_b7.keep KQ26
        skip
        have OL := OLq26
        have Z0 := Zq26
        refine own_tr st26 ?_
        show own_Go p e below s _ _ _ (T26.setTop (mkF m 157 #[.val (.int p0), .val (.int p1), .val (.int p2), .val (.int p3), .val (.int ((1 : Int32) + (0 : Int32))), .val (.int (((p0.toUInt32 >>> ((2 : Int32) &&& 31).toUInt32).toInt32) &&& (3 : Int32))), .val (.ref b5), .val (.ref b7), .val (.int r16), .val (.int f17), .val (.int r18), .val (.int f19), .val (.int p2)] [(.int p2)]))
        refine own_via (fun _ k => XS.iloadN X26.here hx rfl (hb hby at_157) rfl k) ?_
        show own_Go p e below s _ _ _ (T26.setTop (mkF m 158 #[.val (.int p0), .val (.int p1), .val (.int p2), .val (.int p3), .val (.int ((1 : Int32) + (0 : Int32))), .val (.int (((p0.toUInt32 >>> ((2 : Int32) &&& 31).toUInt32).toInt32) &&& (3 : Int32))), .val (.ref b5), .val (.ref b7), .val (.int r16), .val (.int f17), .val (.int r18), .val (.int f19), .val (.int p2)] [(.int p2), (.int p2)]))
        refine own_via (fun _ k => XS.icmpNo X26.here hx rfl (hb hby at_158) rfl (teq (rfl : p2 = p2)).2 k) ?_
        show own_Go p e below s _ _ _ (T26.setTop (mkF m 161 #[.val (.int p0), .val (.int p1), .val (.int p2), .val (.int p3), .val (.int ((1 : Int32) + (0 : Int32))), .val (.int (((p0.toUInt32 >>> ((2 : Int32) &&& 31).toUInt32).toInt32) &&& (3 : Int32))), .val (.ref b5), .val (.ref b7), .val (.int r16), .val (.int f17), .val (.int r18), .val (.int f19), .val (.int p2)] []))
        refine own_via (fun _ k => XS.aload X26.here hx rfl (hb hby at_161) rfl rfl k) ?_
        show own_Go p e below s _ _ _ (T26.setTop (mkF m 163 #[.val (.int p0), .val (.int p1), .val (.int p2), .val (.int p3), .val (.int ((1 : Int32) + (0 : Int32))), .val (.int (((p0.toUInt32 >>> ((2 : Int32) &&& 31).toUInt32).toInt32) &&& (3 : Int32))), .val (.ref b5), .val (.ref b7), .val (.int r16), .val (.int f17), .val (.int r18), .val (.int f19), .val (.int p2)] [(.ref b5)]))
        refine own_via (fun _ k => XS.iload X26.here hx rfl (hb hby at_163) rfl k) ?_
        show own_Go p e below s _ _ _ (T26.setTop (mkF m 165 #[.val (.int p0), .val (.int p1), .val (.int p2), .val (.int p3), .val (.int ((1 : Int32) + (0 : Int32))), .val (.int (((p0.toUInt32 >>> ((2 : Int32) &&& 31).toUInt32).toInt32) &&& (3 : Int32))), .val (.ref b5), .val (.ref b7), .val (.int r16), .val (.int f17), .val (.int r18), .val (.int f19), .val (.int p2)] [(.int r18), (.ref b5)]))
        refine own_via (fun _ k => XS.iload X26.here hx rfl (hb hby at_165) rfl k) ?_
        show own_Go p e below s _ _ _ (T26.setTop (mkF m 167 #[.val (.int p0), .val (.int p1), .val (.int p2), .val (.int p3), .val (.int ((1 : Int32) + (0 : Int32))), .val (.int (((p0.toUInt32 >>> ((2 : Int32) &&& 31).toUInt32).toInt32) &&& (3 : Int32))), .val (.ref b5), .val (.ref b7), .val (.int r16), .val (.int f17), .val (.int r18), .val (.int f19), .val (.int p2)] [(.int f19), (.int r18), (.ref b5)]))
        have eq28 : (((r18 &&& (4095 : Int32)) * ((1 : Int32) + (0 : Int32))) + f19) = (((r16 &&& (4095 : Int32)) * ((1 : Int32) + (0 : Int32))) + f17) := by rw [show r18 = r16 from (Eq.symm hc24), show f19 = f17 from (Eq.symm hc25)]
        have hat27 : ((cl.setSlot ((((r18 &&& (4095 : Int32)) * ((1 : Int32) + (0 : Int32))) + f19)).toNatClampNeg (.int p3)).setSlot ((((r16 &&& (4095 : Int32)) * ((1 : Int32) + (0 : Int32))) + f17)).toNatClampNeg (.int p2)).slots[((((r18 &&& (4095 : Int32)) * ((1 : Int32) + (0 : Int32))) + f19)).toNatClampNeg]? = some (.int p2) := (get_hit (own_inx ((sz_set _ _ _).trans SI) ix23 hrb16 hfb17) eq28)
        obtain ⟨cq27, kq27, q27a, q27b, q27c⟩ := isOf hZ rfl OB_b5.1
        obtain ⟨_, _, ⟨T27, L27, k27, n27⟩, -, X27, ⟨Lc27, hQ27, l27, y27, z27⟩, st27⟩ := X26.virtualBack hx (y := (⟨"com/example/whenever/whenever/internal/engine/Rows", "getInt", "(II)I"⟩ : MethodName)) (z := (⟨"com/example/whenever/whenever/internal/engine/Rows", "getInt", "(II)I"⟩ : MethodName)) hown (mvT hZ (hw _ (List.mem_of_getElem? (i := 81) rfl))) (mvT hZ (hw _ (List.mem_of_getElem? (i := 82) rfl))) (notFace_of_selects (args := #[]) (mvT hZ (hw _ (List.mem_of_getElem? (i := 84) rfl)))) (mvT hZ (hw _ (List.mem_of_getElem? (i := 84) rfl))) (mvT hZ (hw _ (List.mem_of_getElem? (i := 83) rfl))) (by decide) (backOf (W := 0) (rm11_1 l Z a0 hw [] b5 A1 A2 I R k1 k2 (((((1 : Int32) + (1 : Int32)) + (1 : Int32)) + (1 : Int32)) + (1 : Int32)) ((1 : Int32) + (0 : Int32)) (((p0.toUInt32 >>> ((2 : Int32) &&& 31).toUInt32).toInt32) &&& (3 : Int32)) ((cl.setSlot ((((r18 &&& (4095 : Int32)) * ((1 : Int32) + (0 : Int32))) + f19)).toNatClampNeg (.int p3)).setSlot ((((r16 &&& (4095 : Int32)) * ((1 : Int32) + (0 : Int32))) + f17)).toNatClampNeg (.int p2)) r18 f19 p2 w0 w1 mr kw0 kw1 T26.heap n0 Z0 K0 OL (own_blk hrb18) (own_inx ((sz_set _ _ _).trans ((sz_set _ _ _).trans SI)) ix21 hrb18 hfb19) hat27 ⟨OB_b5, V_A1, V_A2, OV_A1, OV_A2, ne_b5_A1, ne_b5_A2, ne_A1_A2, g_b5, g_A1, g_A2⟩ AR_I) hZ (hw _ (List.mem_of_getElem? (i := 85) rfl)) (hw _ (List.mem_of_getElem? (i := 2) rfl)) (by decide) (by decide)) q27a q27c (g := (mkF m 167 #[.val (.int p0), .val (.int p1), .val (.int p2), .val (.int p3), .val (.int ((1 : Int32) + (0 : Int32))), .val (.int (((p0.toUInt32 >>> ((2 : Int32) &&& 31).toUInt32).toInt32) &&& (3 : Int32))), .val (.ref b5), .val (.ref b7), .val (.int r16), .val (.int f17), .val (.int r18), .val (.int f19), .val (.int p2)] [(.int f19), (.int r18), (.ref b5)])) rfl (by rw [hml]; rfl) (Steps.refl _) (argsL := [(.int r18), (.int f19)]) (rest := []) (lenOf pd1 rfl) rfl (by show 2 * 0 + _ ≤ _; exact Nat.le_of_eq rfl) (hb hby at_167) (fun _ _ => ⟨rfl, rfl, (by decide : 0 + 1 + 2 + 1 + 2 + 0 + 0 + 0 + 0 + 0 + 0 + 0 ≤ _), (by decide : 0 + 10 + 2 + 4 + 64 + 0 + 0 + 0 + 0 + 0 + 0 + 0 ≤ _)⟩)
        dsimp only [Pt.U, Pt.locs, Pt.cells, Pt.slots] at X27 l27 y27 z27 st27 hQ27
        subst l27 y27 z27
        obtain ⟨NQ27, OLq27, Zq27, KQ27, hP27⟩ := hQ27
        obtain rfl := hP27
        have OB_b5 := OB_b5.keep KQ27 nin0
        have V_A1 := V_A1.keep KQ27 nin0
        have V_A2 := V_A2.keep KQ27 nin0
        have V_b7 := V_b7.keep KQ27 nin0
        have AR_R := own_arrKeep AR_R KQ27 nin0
        have AR_I := own_arrKeep AR_I KQ27 nin0
        have EX_b7 := EX_b7.keep KQ27
        skip
        have OL := OLq27
        have Z0 := Zq27
        refine own_tr st27 ?_
        show own_Go p e below s _ _ _ (T27.setTop (mkF m 170 #[.val (.int p0), .val (.int p1), .val (.int p2), .val (.int p3), .val (.int ((1 : Int32) + (0 : Int32))), .val (.int (((p0.toUInt32 >>> ((2 : Int32) &&& 31).toUInt32).toInt32) &&& (3 : Int32))), .val (.ref b5), .val (.ref b7), .val (.int r16), .val (.int f17), .val (.int r18), .val (.int f19), .val (.int p2)] [(.int p2)]))
        refine own_via (fun _ k => XS.iload X27.here hx rfl (hb hby at_170) rfl k) ?_
        show own_Go p e below s _ _ _ (T27.setTop (mkF m 172 #[.val (.int p0), .val (.int p1), .val (.int p2), .val (.int p3), .val (.int ((1 : Int32) + (0 : Int32))), .val (.int (((p0.toUInt32 >>> ((2 : Int32) &&& 31).toUInt32).toInt32) &&& (3 : Int32))), .val (.ref b5), .val (.ref b7), .val (.int r16), .val (.int f17), .val (.int r18), .val (.int f19), .val (.int p2)] [(.int p2), (.int p2)]))
        refine own_via (fun _ k => XS.icmpNo X27.here hx rfl (hb hby at_172) rfl (teq (rfl : p2 = p2)).2 k) ?_
        show own_Go p e below s _ _ _ (T27.setTop (mkF m 175 #[.val (.int p0), .val (.int p1), .val (.int p2), .val (.int p3), .val (.int ((1 : Int32) + (0 : Int32))), .val (.int (((p0.toUInt32 >>> ((2 : Int32) &&& 31).toUInt32).toInt32) &&& (3 : Int32))), .val (.ref b5), .val (.ref b7), .val (.int r16), .val (.int f17), .val (.int r18), .val (.int f19), .val (.int p2)] []))
        refine own_via (fun _ k => XS.iconst X27.here hx rfl (hb hby at_175) k) ?_
        show own_Go p e below s _ _ _ (T27.setTop (mkF m 176 #[.val (.int p0), .val (.int p1), .val (.int p2), .val (.int p3), .val (.int ((1 : Int32) + (0 : Int32))), .val (.int (((p0.toUInt32 >>> ((2 : Int32) &&& 31).toUInt32).toInt32) &&& (3 : Int32))), .val (.ref b5), .val (.ref b7), .val (.int r16), .val (.int f17), .val (.int r18), .val (.int f19), .val (.int p2)] [(.int (1 : Int32))]))
        refine own_via (fun _ k => XS.goto X27.here hx rfl (pc0 := 176) (pc' := 180) rfl (hb hby at_176) (by decide) (by decide) k) ?_
        show own_Go p e below s _ _ _ (T27.setTop (mkF m 180 #[.val (.int p0), .val (.int p1), .val (.int p2), .val (.int p3), .val (.int ((1 : Int32) + (0 : Int32))), .val (.int (((p0.toUInt32 >>> ((2 : Int32) &&& 31).toUInt32).toInt32) &&& (3 : Int32))), .val (.ref b5), .val (.ref b7), .val (.int r16), .val (.int f17), .val (.int r18), .val (.int f19), .val (.int p2)] [(.int (1 : Int32))]))
        exact own_retZ X27 hx hlk (t := .boolean) Bd.returns (by simp) (hb hby at_180) (z' := (1 : Int32)) (by first | rfl | decide) ⟨rfl, (Fr.app (Fr.app (Fr.app (Fr.app N15 NQ20) NQ22) NQ26) NQ27)⟩ (by decide) (by decide)
      · refine own_via (fun _ k => XS.icmpYes X22.here hx rfl (pc0 := 138) (pc' := 145) rfl (hb hby at_138) rfl (feq hc25).2 (by decide) (by decide) k) ?_
        show own_Go p e below s _ _ _ (T22.setTop (mkF m 145 #[.val (.int p0), .val (.int p1), .val (.int p2), .val (.int p3), .val (.int ((1 : Int32) + (0 : Int32))), .val (.int (((p0.toUInt32 >>> ((2 : Int32) &&& 31).toUInt32).toInt32) &&& (3 : Int32))), .val (.ref b5), .val (.ref b7), .val (.int r16), .val (.int f17), .val (.int r18), .val (.int f19), .unset] []))
        refine own_via (fun _ k => XS.iloadN X22.here hx rfl (hb hby at_145) rfl k) ?_
        show own_Go p e below s _ _ _ (T22.setTop (mkF m 146 #[.val (.int p0), .val (.int p1), .val (.int p2), .val (.int p3), .val (.int ((1 : Int32) + (0 : Int32))), .val (.int (((p0.toUInt32 >>> ((2 : Int32) &&& 31).toUInt32).toInt32) &&& (3 : Int32))), .val (.ref b5), .val (.ref b7), .val (.int r16), .val (.int f17), .val (.int r18), .val (.int f19), .unset] [(.int p3)]))
        refine own_via (fun _ k => XS.istore X22.here hx rfl (hb hby at_146) rfl (l' := #[.val (.int p0), .val (.int p1), .val (.int p2), .val (.int p3), .val (.int ((1 : Int32) + (0 : Int32))), .val (.int (((p0.toUInt32 >>> ((2 : Int32) &&& 31).toUInt32).toInt32) &&& (3 : Int32))), .val (.ref b5), .val (.ref b7), .val (.int r16), .val (.int f17), .val (.int r18), .val (.int f19), .val (.int p3)]) rfl k) ?_
        show own_Go p e below s _ _ _ (T22.setTop (mkF m 148 #[.val (.int p0), .val (.int p1), .val (.int p2), .val (.int p3), .val (.int ((1 : Int32) + (0 : Int32))), .val (.int (((p0.toUInt32 >>> ((2 : Int32) &&& 31).toUInt32).toInt32) &&& (3 : Int32))), .val (.ref b5), .val (.ref b7), .val (.int r16), .val (.int f17), .val (.int r18), .val (.int f19), .val (.int p3)] []))
        refine own_via (fun _ k => XS.aload X22.here hx rfl (hb hby at_148) rfl rfl k) ?_
        show own_Go p e below s _ _ _ (T22.setTop (mkF m 150 #[.val (.int p0), .val (.int p1), .val (.int p2), .val (.int p3), .val (.int ((1 : Int32) + (0 : Int32))), .val (.int (((p0.toUInt32 >>> ((2 : Int32) &&& 31).toUInt32).toInt32) &&& (3 : Int32))), .val (.ref b5), .val (.ref b7), .val (.int r16), .val (.int f17), .val (.int r18), .val (.int f19), .val (.int p3)] [(.ref b5)]))
        refine own_via (fun _ k => XS.iload X22.here hx rfl (hb hby at_150) rfl k) ?_
        show own_Go p e below s _ _ _ (T22.setTop (mkF m 152 #[.val (.int p0), .val (.int p1), .val (.int p2), .val (.int p3), .val (.int ((1 : Int32) + (0 : Int32))), .val (.int (((p0.toUInt32 >>> ((2 : Int32) &&& 31).toUInt32).toInt32) &&& (3 : Int32))), .val (.ref b5), .val (.ref b7), .val (.int r16), .val (.int f17), .val (.int r18), .val (.int f19), .val (.int p3)] [(.int r16), (.ref b5)]))
        refine own_via (fun _ k => XS.iload X22.here hx rfl (hb hby at_152) rfl k) ?_
        show own_Go p e below s _ _ _ (T22.setTop (mkF m 154 #[.val (.int p0), .val (.int p1), .val (.int p2), .val (.int p3), .val (.int ((1 : Int32) + (0 : Int32))), .val (.int (((p0.toUInt32 >>> ((2 : Int32) &&& 31).toUInt32).toInt32) &&& (3 : Int32))), .val (.ref b5), .val (.ref b7), .val (.int r16), .val (.int f17), .val (.int r18), .val (.int f19), .val (.int p3)] [(.int f17), (.int r16), (.ref b5)]))
        have hat29 : ((cl.setSlot ((((r18 &&& (4095 : Int32)) * ((1 : Int32) + (0 : Int32))) + f19)).toNatClampNeg (.int p3)).setSlot ((((r16 &&& (4095 : Int32)) * ((1 : Int32) + (0 : Int32))) + f17)).toNatClampNeg (.int p2)).slots[((((r16 &&& (4095 : Int32)) * ((1 : Int32) + (0 : Int32))) + f17)).toNatClampNeg]? = some (.int p2) := (get_hit (own_inx ((sz_set _ _ _).trans SI) ix23 hrb16 hfb17) rfl)
        obtain ⟨cq29, kq29, q29a, q29b, q29c⟩ := isOf hZ rfl OB_b5.1
        obtain ⟨_, _, ⟨T29, L29, k29, n29⟩, -, X29, ⟨Lc29, hQ29, l29, y29, z29⟩, st29⟩ := X22.virtualBack hx (y := (⟨"com/example/whenever/whenever/internal/engine/Rows", "getInt", "(II)I"⟩ : MethodName)) (z := (⟨"com/example/whenever/whenever/internal/engine/Rows", "getInt", "(II)I"⟩ : MethodName)) hown (mvT hZ (hw _ (List.mem_of_getElem? (i := 81) rfl))) (mvT hZ (hw _ (List.mem_of_getElem? (i := 82) rfl))) (notFace_of_selects (args := #[]) (mvT hZ (hw _ (List.mem_of_getElem? (i := 84) rfl)))) (mvT hZ (hw _ (List.mem_of_getElem? (i := 84) rfl))) (mvT hZ (hw _ (List.mem_of_getElem? (i := 83) rfl))) (by decide) (backOf (W := 0) (rm11_1 l Z a0 hw [] b5 A1 A2 I R k1 k2 (((((1 : Int32) + (1 : Int32)) + (1 : Int32)) + (1 : Int32)) + (1 : Int32)) ((1 : Int32) + (0 : Int32)) (((p0.toUInt32 >>> ((2 : Int32) &&& 31).toUInt32).toInt32) &&& (3 : Int32)) ((cl.setSlot ((((r18 &&& (4095 : Int32)) * ((1 : Int32) + (0 : Int32))) + f19)).toNatClampNeg (.int p3)).setSlot ((((r16 &&& (4095 : Int32)) * ((1 : Int32) + (0 : Int32))) + f17)).toNatClampNeg (.int p2)) r16 f17 p2 w0 w1 mr kw0 kw1 T22.heap n0 Z0 K0 OL (own_blk hrb16) (own_inx ((sz_set _ _ _).trans ((sz_set _ _ _).trans SI)) ix23 hrb16 hfb17) hat29 ⟨OB_b5, V_A1, V_A2, OV_A1, OV_A2, ne_b5_A1, ne_b5_A2, ne_A1_A2, g_b5, g_A1, g_A2⟩ AR_I) hZ (hw _ (List.mem_of_getElem? (i := 85) rfl)) (hw _ (List.mem_of_getElem? (i := 2) rfl)) (by decide) (by decide)) q29a q29c (g := (mkF m 154 #[.val (.int p0), .val (.int p1), .val (.int p2), .val (.int p3), .val (.int ((1 : Int32) + (0 : Int32))), .val (.int (((p0.toUInt32 >>> ((2 : Int32) &&& 31).toUInt32).toInt32) &&& (3 : Int32))), .val (.ref b5), .val (.ref b7), .val (.int r16), .val (.int f17), .val (.int r18), .val (.int f19), .val (.int p3)] [(.int f17), (.int r16), (.ref b5)])) rfl (by rw [hml]; rfl) (Steps.refl _) (argsL := [(.int r16), (.int f17)]) (rest := []) (lenOf pd1 rfl) rfl (by show 2 * 0 + _ ≤ _; exact Nat.le_of_eq rfl) (hb hby at_154) (fun _ _ => ⟨rfl, rfl, (by decide : 0 + 1 + 2 + 1 + 2 + 0 + 0 + 0 + 0 + 0 + 0 ≤ _), (by decide : 0 + 10 + 2 + 4 + 64 + 0 + 0 + 0 + 0 + 0 + 0 ≤ _)⟩)
        dsimp only [Pt.U, Pt.locs, Pt.cells, Pt.slots] at X29 l29 y29 z29 st29 hQ29
        subst l29 y29 z29
        obtain ⟨NQ29, OLq29, Zq29, KQ29, hP29⟩ := hQ29
        obtain rfl := hP29
        have OB_b5 := OB_b5.keep KQ29 nin0
        have V_A1 := V_A1.keep KQ29 nin0
        have V_A2 := V_A2.keep KQ29 nin0
        have V_b7 := V_b7.keep KQ29 nin0
        have AR_R := own_arrKeep AR_R KQ29 nin0
        have AR_I := own_arrKeep AR_I KQ29 nin0
        have EX_b7 := EX_b7.keep KQ29
        skip
        have OL := OLq29
        have Z0 := Zq29
        refine own_tr st29 ?_
        show own_Go p e below s _ _ _ (T29.setTop (mkF m 157 #[.val (.int p0), .val (.int p1), .val (.int p2), .val (.int p3), .val (.int ((1 : Int32) + (0 : Int32))), .val (.int (((p0.toUInt32 >>> ((2 : Int32) &&& 31).toUInt32).toInt32) &&& (3 : Int32))), .val (.ref b5), .val (.ref b7), .val (.int r16), .val (.int f17), .val (.int r18), .val (.int f19), .val (.int p3)] [(.int p2)]))
        refine own_via (fun _ k => XS.iloadN X29.here hx rfl (hb hby at_157) rfl k) ?_
        show own_Go p e below s _ _ _ (T29.setTop (mkF m 158 #[.val (.int p0), .val (.int p1), .val (.int p2), .val (.int p3), .val (.int ((1 : Int32) + (0 : Int32))), .val (.int (((p0.toUInt32 >>> ((2 : Int32) &&& 31).toUInt32).toInt32) &&& (3 : Int32))), .val (.ref b5), .val (.ref b7), .val (.int r16), .val (.int f17), .val (.int r18), .val (.int f19), .val (.int p3)] [(.int p2), (.int p2)]))
        refine own_via (fun _ k => XS.icmpNo X29.here hx rfl (hb hby at_158) rfl (teq (rfl : p2 = p2)).2 k) ?_
        show own_Go p e below s _ _ _ (T29.setTop (mkF m 161 #[.val (.int p0), .val (.int p1), .val (.int p2), .val (.int p3), .val (.int ((1 : Int32) + (0 : Int32))), .val (.int (((p0.toUInt32 >>> ((2 : Int32) &&& 31).toUInt32).toInt32) &&& (3 : Int32))), .val (.ref b5), .val (.ref b7), .val (.int r16), .val (.int f17), .val (.int r18), .val (.int f19), .val (.int p3)] []))
        refine own_via (fun _ k => XS.aload X29.here hx rfl (hb hby at_161) rfl rfl k) ?_
        show own_Go p e below s _ _ _ (T29.setTop (mkF m 163 #[.val (.int p0), .val (.int p1), .val (.int p2), .val (.int p3), .val (.int ((1 : Int32) + (0 : Int32))), .val (.int (((p0.toUInt32 >>> ((2 : Int32) &&& 31).toUInt32).toInt32) &&& (3 : Int32))), .val (.ref b5), .val (.ref b7), .val (.int r16), .val (.int f17), .val (.int r18), .val (.int f19), .val (.int p3)] [(.ref b5)]))
        refine own_via (fun _ k => XS.iload X29.here hx rfl (hb hby at_163) rfl k) ?_
        show own_Go p e below s _ _ _ (T29.setTop (mkF m 165 #[.val (.int p0), .val (.int p1), .val (.int p2), .val (.int p3), .val (.int ((1 : Int32) + (0 : Int32))), .val (.int (((p0.toUInt32 >>> ((2 : Int32) &&& 31).toUInt32).toInt32) &&& (3 : Int32))), .val (.ref b5), .val (.ref b7), .val (.int r16), .val (.int f17), .val (.int r18), .val (.int f19), .val (.int p3)] [(.int r18), (.ref b5)]))
        refine own_via (fun _ k => XS.iload X29.here hx rfl (hb hby at_165) rfl k) ?_
        show own_Go p e below s _ _ _ (T29.setTop (mkF m 167 #[.val (.int p0), .val (.int p1), .val (.int p2), .val (.int p3), .val (.int ((1 : Int32) + (0 : Int32))), .val (.int (((p0.toUInt32 >>> ((2 : Int32) &&& 31).toUInt32).toInt32) &&& (3 : Int32))), .val (.ref b5), .val (.ref b7), .val (.int r16), .val (.int f17), .val (.int r18), .val (.int f19), .val (.int p3)] [(.int f19), (.int r18), (.ref b5)]))
        have ne31 : ¬ ((((r18 &&& (4095 : Int32)) * ((1 : Int32) + (0 : Int32))) + f19) = (((r16 &&& (4095 : Int32)) * ((1 : Int32) + (0 : Int32))) + f17)) := own_ne1 ix21 ix23 hfb19 hfb17 (Or.inr (fun q => hc25 (Eq.symm q)))
        have hat30 : ((cl.setSlot ((((r18 &&& (4095 : Int32)) * ((1 : Int32) + (0 : Int32))) + f19)).toNatClampNeg (.int p3)).setSlot ((((r16 &&& (4095 : Int32)) * ((1 : Int32) + (0 : Int32))) + f17)).toNatClampNeg (.int p2)).slots[((((r18 &&& (4095 : Int32)) * ((1 : Int32) + (0 : Int32))) + f19)).toNatClampNeg]? = some (.int p3) := ((get_miss (fun q => (own_inx SI ix23 hrb16 hfb17) (Or.inl q)) (fun q => (own_inx SI ix21 hrb18 hfb19) (Or.inl q)) ne31).trans (get_hit (own_inx SI ix21 hrb18 hfb19) rfl))
        obtain ⟨cq30, kq30, q30a, q30b, q30c⟩ := isOf hZ rfl OB_b5.1
        obtain ⟨_, _, ⟨T30, L30, k30, n30⟩, -, X30, ⟨Lc30, hQ30, l30, y30, z30⟩, st30⟩ := X29.virtualBack hx (y := (⟨"com/example/whenever/whenever/internal/engine/Rows", "getInt", "(II)I"⟩ : MethodName)) (z := (⟨"com/example/whenever/whenever/internal/engine/Rows", "getInt", "(II)I"⟩ : MethodName)) hown (mvT hZ (hw _ (List.mem_of_getElem? (i := 81) rfl))) (mvT hZ (hw _ (List.mem_of_getElem? (i := 82) rfl))) (notFace_of_selects (args := #[]) (mvT hZ (hw _ (List.mem_of_getElem? (i := 84) rfl)))) (mvT hZ (hw _ (List.mem_of_getElem? (i := 84) rfl))) (mvT hZ (hw _ (List.mem_of_getElem? (i := 83) rfl))) (by decide) (backOf (W := 0) (rm11_1 l Z a0 hw [] b5 A1 A2 I R k1 k2 (((((1 : Int32) + (1 : Int32)) + (1 : Int32)) + (1 : Int32)) + (1 : Int32)) ((1 : Int32) + (0 : Int32)) (((p0.toUInt32 >>> ((2 : Int32) &&& 31).toUInt32).toInt32) &&& (3 : Int32)) ((cl.setSlot ((((r18 &&& (4095 : Int32)) * ((1 : Int32) + (0 : Int32))) + f19)).toNatClampNeg (.int p3)).setSlot ((((r16 &&& (4095 : Int32)) * ((1 : Int32) + (0 : Int32))) + f17)).toNatClampNeg (.int p2)) r18 f19 p3 w0 w1 mr kw0 kw1 T29.heap n0 Z0 K0 OL (own_blk hrb18) (own_inx ((sz_set _ _ _).trans ((sz_set _ _ _).trans SI)) ix21 hrb18 hfb19) hat30 ⟨OB_b5, V_A1, V_A2, OV_A1, OV_A2, ne_b5_A1, ne_b5_A2, ne_A1_A2, g_b5, g_A1, g_A2⟩ AR_I) hZ (hw _ (List.mem_of_getElem? (i := 85) rfl)) (hw _ (List.mem_of_getElem? (i := 2) rfl)) (by decide) (by decide)) q30a q30c (g := (mkF m 167 #[.val (.int p0), .val (.int p1), .val (.int p2), .val (.int p3), .val (.int ((1 : Int32) + (0 : Int32))), .val (.int (((p0.toUInt32 >>> ((2 : Int32) &&& 31).toUInt32).toInt32) &&& (3 : Int32))), .val (.ref b5), .val (.ref b7), .val (.int r16), .val (.int f17), .val (.int r18), .val (.int f19), .val (.int p3)] [(.int f19), (.int r18), (.ref b5)])) rfl (by rw [hml]; rfl) (Steps.refl _) (argsL := [(.int r18), (.int f19)]) (rest := []) (lenOf pd1 rfl) rfl (by show 2 * 0 + _ ≤ _; exact Nat.le_of_eq rfl) (hb hby at_167) (fun _ _ => ⟨rfl, rfl, (by decide : 0 + 1 + 2 + 1 + 2 + 0 + 0 + 0 + 0 + 0 + 0 + 0 ≤ _), (by decide : 0 + 10 + 2 + 4 + 64 + 0 + 0 + 0 + 0 + 0 + 0 + 0 ≤ _)⟩)
        dsimp only [Pt.U, Pt.locs, Pt.cells, Pt.slots] at X30 l30 y30 z30 st30 hQ30
        subst l30 y30 z30
        obtain ⟨NQ30, OLq30, Zq30, KQ30, hP30⟩ := hQ30
        obtain rfl := hP30
        have OB_b5 := OB_b5.keep KQ30 nin0
        have V_A1 := V_A1.keep KQ30 nin0
        have V_A2 := V_A2.keep KQ30 nin0
        have V_b7 := V_b7.keep KQ30 nin0
        have AR_R := own_arrKeep AR_R KQ30 nin0
        have AR_I := own_arrKeep AR_I KQ30 nin0
        have EX_b7 := EX_b7.keep KQ30
        skip
        have OL := OLq30
        have Z0 := Zq30
        refine own_tr st30 ?_
        show own_Go p e below s _ _ _ (T30.setTop (mkF m 170 #[.val (.int p0), .val (.int p1), .val (.int p2), .val (.int p3), .val (.int ((1 : Int32) + (0 : Int32))), .val (.int (((p0.toUInt32 >>> ((2 : Int32) &&& 31).toUInt32).toInt32) &&& (3 : Int32))), .val (.ref b5), .val (.ref b7), .val (.int r16), .val (.int f17), .val (.int r18), .val (.int f19), .val (.int p3)] [(.int p3)]))
        refine own_via (fun _ k => XS.iload X30.here hx rfl (hb hby at_170) rfl k) ?_
        show own_Go p e below s _ _ _ (T30.setTop (mkF m 172 #[.val (.int p0), .val (.int p1), .val (.int p2), .val (.int p3), .val (.int ((1 : Int32) + (0 : Int32))), .val (.int (((p0.toUInt32 >>> ((2 : Int32) &&& 31).toUInt32).toInt32) &&& (3 : Int32))), .val (.ref b5), .val (.ref b7), .val (.int r16), .val (.int f17), .val (.int r18), .val (.int f19), .val (.int p3)] [(.int p3), (.int p3)]))
        refine own_via (fun _ k => XS.icmpNo X30.here hx rfl (hb hby at_172) rfl (teq (rfl : p3 = p3)).2 k) ?_
        show own_Go p e below s _ _ _ (T30.setTop (mkF m 175 #[.val (.int p0), .val (.int p1), .val (.int p2), .val (.int p3), .val (.int ((1 : Int32) + (0 : Int32))), .val (.int (((p0.toUInt32 >>> ((2 : Int32) &&& 31).toUInt32).toInt32) &&& (3 : Int32))), .val (.ref b5), .val (.ref b7), .val (.int r16), .val (.int f17), .val (.int r18), .val (.int f19), .val (.int p3)] []))
        refine own_via (fun _ k => XS.iconst X30.here hx rfl (hb hby at_175) k) ?_
        show own_Go p e below s _ _ _ (T30.setTop (mkF m 176 #[.val (.int p0), .val (.int p1), .val (.int p2), .val (.int p3), .val (.int ((1 : Int32) + (0 : Int32))), .val (.int (((p0.toUInt32 >>> ((2 : Int32) &&& 31).toUInt32).toInt32) &&& (3 : Int32))), .val (.ref b5), .val (.ref b7), .val (.int r16), .val (.int f17), .val (.int r18), .val (.int f19), .val (.int p3)] [(.int (1 : Int32))]))
        refine own_via (fun _ k => XS.goto X30.here hx rfl (pc0 := 176) (pc' := 180) rfl (hb hby at_176) (by decide) (by decide) k) ?_
        show own_Go p e below s _ _ _ (T30.setTop (mkF m 180 #[.val (.int p0), .val (.int p1), .val (.int p2), .val (.int p3), .val (.int ((1 : Int32) + (0 : Int32))), .val (.int (((p0.toUInt32 >>> ((2 : Int32) &&& 31).toUInt32).toInt32) &&& (3 : Int32))), .val (.ref b5), .val (.ref b7), .val (.int r16), .val (.int f17), .val (.int r18), .val (.int f19), .val (.int p3)] [(.int (1 : Int32))]))
        exact own_retZ X30 hx hlk (t := .boolean) Bd.returns (by simp) (hb hby at_180) (z' := (1 : Int32)) (by first | rfl | decide) ⟨rfl, (Fr.app (Fr.app (Fr.app (Fr.app N15 NQ20) NQ22) NQ29) NQ30)⟩ (by decide) (by decide)
    · refine own_via (fun _ k => XS.icmpYes X22.here hx rfl (pc0 := 131) (pc' := 145) rfl (hb hby at_131) rfl (feq hc24).2 (by decide) (by decide) k) ?_
      show own_Go p e below s _ _ _ (T22.setTop (mkF m 145 #[.val (.int p0), .val (.int p1), .val (.int p2), .val (.int p3), .val (.int ((1 : Int32) + (0 : Int32))), .val (.int (((p0.toUInt32 >>> ((2 : Int32) &&& 31).toUInt32).toInt32) &&& (3 : Int32))), .val (.ref b5), .val (.ref b7), .val (.int r16), .val (.int f17), .val (.int r18), .val (.int f19), .unset] []))
      refine own_via (fun _ k => XS.iloadN X22.here hx rfl (hb hby at_145) rfl k) ?_
      show own_Go p e below s _ _ _ (T22.setTop (mkF m 146 #[.val (.int p0), .val (.int p1), .val (.int p2), .val (.int p3), .val (.int ((1 : Int32) + (0 : Int32))), .val (.int (((p0.toUInt32 >>> ((2 : Int32) &&& 31).toUInt32).toInt32) &&& (3 : Int32))), .val (.ref b5), .val (.ref b7), .val (.int r16), .val (.int f17), .val (.int r18), .val (.int f19), .unset] [(.int p3)]))
      refine own_via (fun _ k => XS.istore X22.here hx rfl (hb hby at_146) rfl (l' := #[.val (.int p0), .val (.int p1), .val (.int p2), .val (.int p3), .val (.int ((1 : Int32) + (0 : Int32))), .val (.int (((p0.toUInt32 >>> ((2 : Int32) &&& 31).toUInt32).toInt32) &&& (3 : Int32))), .val (.ref b5), .val (.ref b7), .val (.int r16), .val (.int f17), .val (.int r18), .val (.int f19), .val (.int p3)]) rfl k) ?_
      show own_Go p e below s _ _ _ (T22.setTop (mkF m 148 #[.val (.int p0), .val (.int p1), .val (.int p2), .val (.int p3), .val (.int ((1 : Int32) + (0 : Int32))), .val (.int (((p0.toUInt32 >>> ((2 : Int32) &&& 31).toUInt32).toInt32) &&& (3 : Int32))), .val (.ref b5), .val (.ref b7), .val (.int r16), .val (.int f17), .val (.int r18), .val (.int f19), .val (.int p3)] []))
      refine own_via (fun _ k => XS.aload X22.here hx rfl (hb hby at_148) rfl rfl k) ?_
      show own_Go p e below s _ _ _ (T22.setTop (mkF m 150 #[.val (.int p0), .val (.int p1), .val (.int p2), .val (.int p3), .val (.int ((1 : Int32) + (0 : Int32))), .val (.int (((p0.toUInt32 >>> ((2 : Int32) &&& 31).toUInt32).toInt32) &&& (3 : Int32))), .val (.ref b5), .val (.ref b7), .val (.int r16), .val (.int f17), .val (.int r18), .val (.int f19), .val (.int p3)] [(.ref b5)]))
      refine own_via (fun _ k => XS.iload X22.here hx rfl (hb hby at_150) rfl k) ?_
      show own_Go p e below s _ _ _ (T22.setTop (mkF m 152 #[.val (.int p0), .val (.int p1), .val (.int p2), .val (.int p3), .val (.int ((1 : Int32) + (0 : Int32))), .val (.int (((p0.toUInt32 >>> ((2 : Int32) &&& 31).toUInt32).toInt32) &&& (3 : Int32))), .val (.ref b5), .val (.ref b7), .val (.int r16), .val (.int f17), .val (.int r18), .val (.int f19), .val (.int p3)] [(.int r16), (.ref b5)]))
      refine own_via (fun _ k => XS.iload X22.here hx rfl (hb hby at_152) rfl k) ?_
      show own_Go p e below s _ _ _ (T22.setTop (mkF m 154 #[.val (.int p0), .val (.int p1), .val (.int p2), .val (.int p3), .val (.int ((1 : Int32) + (0 : Int32))), .val (.int (((p0.toUInt32 >>> ((2 : Int32) &&& 31).toUInt32).toInt32) &&& (3 : Int32))), .val (.ref b5), .val (.ref b7), .val (.int r16), .val (.int f17), .val (.int r18), .val (.int f19), .val (.int p3)] [(.int f17), (.int r16), (.ref b5)]))
      have hat32 : ((cl.setSlot ((((r18 &&& (4095 : Int32)) * ((1 : Int32) + (0 : Int32))) + f19)).toNatClampNeg (.int p3)).setSlot ((((r16 &&& (4095 : Int32)) * ((1 : Int32) + (0 : Int32))) + f17)).toNatClampNeg (.int p2)).slots[((((r16 &&& (4095 : Int32)) * ((1 : Int32) + (0 : Int32))) + f17)).toNatClampNeg]? = some (.int p2) := (get_hit (own_inx ((sz_set _ _ _).trans SI) ix23 hrb16 hfb17) rfl)
      obtain ⟨cq32, kq32, q32a, q32b, q32c⟩ := isOf hZ rfl OB_b5.1
      obtain ⟨_, _, ⟨T32, L32, k32, n32⟩, -, X32, ⟨Lc32, hQ32, l32, y32, z32⟩, st32⟩ := X22.virtualBack hx (y := (⟨"com/example/whenever/whenever/internal/engine/Rows", "getInt", "(II)I"⟩ : MethodName)) (z := (⟨"com/example/whenever/whenever/internal/engine/Rows", "getInt", "(II)I"⟩ : MethodName)) hown (mvT hZ (hw _ (List.mem_of_getElem? (i := 81) rfl))) (mvT hZ (hw _ (List.mem_of_getElem? (i := 82) rfl))) (notFace_of_selects (args := #[]) (mvT hZ (hw _ (List.mem_of_getElem? (i := 84) rfl)))) (mvT hZ (hw _ (List.mem_of_getElem? (i := 84) rfl))) (mvT hZ (hw _ (List.mem_of_getElem? (i := 83) rfl))) (by decide) (backOf (W := 0) (rm11_1 l Z a0 hw [] b5 A1 A2 I R k1 k2 (((((1 : Int32) + (1 : Int32)) + (1 : Int32)) + (1 : Int32)) + (1 : Int32)) ((1 : Int32) + (0 : Int32)) (((p0.toUInt32 >>> ((2 : Int32) &&& 31).toUInt32).toInt32) &&& (3 : Int32)) ((cl.setSlot ((((r18 &&& (4095 : Int32)) * ((1 : Int32) + (0 : Int32))) + f19)).toNatClampNeg (.int p3)).setSlot ((((r16 &&& (4095 : Int32)) * ((1 : Int32) + (0 : Int32))) + f17)).toNatClampNeg (.int p2)) r16 f17 p2 w0 w1 mr kw0 kw1 T22.heap n0 Z0 K0 OL (own_blk hrb16) (own_inx ((sz_set _ _ _).trans ((sz_set _ _ _).trans SI)) ix23 hrb16 hfb17) hat32 ⟨OB_b5, V_A1, V_A2, OV_A1, OV_A2, ne_b5_A1, ne_b5_A2, ne_A1_A2, g_b5, g_A1, g_A2⟩ AR_I) hZ (hw _ (List.mem_of_getElem? (i := 85) rfl)) (hw _ (List.mem_of_getElem? (i := 2) rfl)) (by decide) (by decide)) q32a q32c (g := (mkF m 154 #[.val (.int p0), .val (.int p1), .val (.int p2), .val (.int p3), .val (.int ((1 : Int32) + (0 : Int32))), .val (.int (((p0.toUInt32 >>> ((2 : Int32) &&& 31).toUInt32).toInt32) &&& (3 : Int32))), .val (.ref b5), .val (.ref b7), .val (.int r16), .val (.int f17), .val (.int r18), .val (.int f19), .val (.int p3)] [(.int f17), (.int r16), (.ref b5)])) rfl (by rw [hml]; rfl) (Steps.refl _) (argsL := [(.int r16), (.int f17)]) (rest := []) (lenOf pd1 rfl) rfl (by show 2 * 0 + _ ≤ _; exact Nat.le_of_eq rfl) (hb hby at_154) (fun _ _ => ⟨rfl, rfl, (by decide : 0 + 1 + 2 + 1 + 2 + 0 + 0 + 0 + 0 + 0 + 0 ≤ _), (by decide : 0 + 10 + 2 + 4 + 64 + 0 + 0 + 0 + 0 + 0 + 0 ≤ _)⟩)
      dsimp only [Pt.U, Pt.locs, Pt.cells, Pt.slots] at X32 l32 y32 z32 st32 hQ32
      subst l32 y32 z32
      obtain ⟨NQ32, OLq32, Zq32, KQ32, hP32⟩ := hQ32
      obtain rfl := hP32
      have OB_b5 := OB_b5.keep KQ32 nin0
      have V_A1 := V_A1.keep KQ32 nin0
      have V_A2 := V_A2.keep KQ32 nin0
      have V_b7 := V_b7.keep KQ32 nin0
      have AR_R := own_arrKeep AR_R KQ32 nin0
      have AR_I := own_arrKeep AR_I KQ32 nin0
      have EX_b7 := EX_b7.keep KQ32
      skip
      have OL := OLq32
      have Z0 := Zq32
      refine own_tr st32 ?_
      show own_Go p e below s _ _ _ (T32.setTop (mkF m 157 #[.val (.int p0), .val (.int p1), .val (.int p2), .val (.int p3), .val (.int ((1 : Int32) + (0 : Int32))), .val (.int (((p0.toUInt32 >>> ((2 : Int32) &&& 31).toUInt32).toInt32) &&& (3 : Int32))), .val (.ref b5), .val (.ref b7), .val (.int r16), .val (.int f17), .val (.int r18), .val (.int f19), .val (.int p3)] [(.int p2)]))
      refine own_via (fun _ k => XS.iloadN X32.here hx rfl (hb hby at_157) rfl k) ?_
      show own_Go p e below s _ _ _ (T32.setTop (mkF m 158 #[.val (.int p0), .val (.int p1), .val (.int p2), .val (.int p3), .val (.int ((1 : Int32) + (0 : Int32))), .val (.int (((p0.toUInt32 >>> ((2 : Int32) &&& 31).toUInt32).toInt32) &&& (3 : Int32))), .val (.ref b5), .val (.ref b7), .val (.int r16), .val (.int f17), .val (.int r18), .val (.int f19), .val (.int p3)] [(.int p2), (.int p2)]))
      refine own_via (fun _ k => XS.icmpNo X32.here hx rfl (hb hby at_158) rfl (teq (rfl : p2 = p2)).2 k) ?_
      show own_Go p e below s _ _ _ (T32.setTop (mkF m 161 #[.val (.int p0), .val (.int p1), .val (.int p2), .val (.int p3), .val (.int ((1 : Int32) + (0 : Int32))), .val (.int (((p0.toUInt32 >>> ((2 : Int32) &&& 31).toUInt32).toInt32) &&& (3 : Int32))), .val (.ref b5), .val (.ref b7), .val (.int r16), .val (.int f17), .val (.int r18), .val (.int f19), .val (.int p3)] []))
      refine own_via (fun _ k => XS.aload X32.here hx rfl (hb hby at_161) rfl rfl k) ?_
      show own_Go p e below s _ _ _ (T32.setTop (mkF m 163 #[.val (.int p0), .val (.int p1), .val (.int p2), .val (.int p3), .val (.int ((1 : Int32) + (0 : Int32))), .val (.int (((p0.toUInt32 >>> ((2 : Int32) &&& 31).toUInt32).toInt32) &&& (3 : Int32))), .val (.ref b5), .val (.ref b7), .val (.int r16), .val (.int f17), .val (.int r18), .val (.int f19), .val (.int p3)] [(.ref b5)]))
      refine own_via (fun _ k => XS.iload X32.here hx rfl (hb hby at_163) rfl k) ?_
      show own_Go p e below s _ _ _ (T32.setTop (mkF m 165 #[.val (.int p0), .val (.int p1), .val (.int p2), .val (.int p3), .val (.int ((1 : Int32) + (0 : Int32))), .val (.int (((p0.toUInt32 >>> ((2 : Int32) &&& 31).toUInt32).toInt32) &&& (3 : Int32))), .val (.ref b5), .val (.ref b7), .val (.int r16), .val (.int f17), .val (.int r18), .val (.int f19), .val (.int p3)] [(.int r18), (.ref b5)]))
      refine own_via (fun _ k => XS.iload X32.here hx rfl (hb hby at_165) rfl k) ?_
      show own_Go p e below s _ _ _ (T32.setTop (mkF m 167 #[.val (.int p0), .val (.int p1), .val (.int p2), .val (.int p3), .val (.int ((1 : Int32) + (0 : Int32))), .val (.int (((p0.toUInt32 >>> ((2 : Int32) &&& 31).toUInt32).toInt32) &&& (3 : Int32))), .val (.ref b5), .val (.ref b7), .val (.int r16), .val (.int f17), .val (.int r18), .val (.int f19), .val (.int p3)] [(.int f19), (.int r18), (.ref b5)]))
      have ne34 : ¬ ((((r18 &&& (4095 : Int32)) * ((1 : Int32) + (0 : Int32))) + f19) = (((r16 &&& (4095 : Int32)) * ((1 : Int32) + (0 : Int32))) + f17)) := own_ne1 ix21 ix23 hfb19 hfb17 (Or.inl (fun q => hc24 (Eq.symm q)))
      have hat33 : ((cl.setSlot ((((r18 &&& (4095 : Int32)) * ((1 : Int32) + (0 : Int32))) + f19)).toNatClampNeg (.int p3)).setSlot ((((r16 &&& (4095 : Int32)) * ((1 : Int32) + (0 : Int32))) + f17)).toNatClampNeg (.int p2)).slots[((((r18 &&& (4095 : Int32)) * ((1 : Int32) + (0 : Int32))) + f19)).toNatClampNeg]? = some (.int p3) := ((get_miss (fun q => (own_inx SI ix23 hrb16 hfb17) (Or.inl q)) (fun q => (own_inx SI ix21 hrb18 hfb19) (Or.inl q)) ne34).trans (get_hit (own_inx SI ix21 hrb18 hfb19) rfl))
      obtain ⟨cq33, kq33, q33a, q33b, q33c⟩ := isOf hZ rfl OB_b5.1
      obtain ⟨_, _, ⟨T33, L33, k33, n33⟩, -, X33, ⟨Lc33, hQ33, l33, y33, z33⟩, st33⟩ := X32.virtualBack hx (y := (⟨"com/example/whenever/whenever/internal/engine/Rows", "getInt", "(II)I"⟩ : MethodName)) (z := (⟨"com/example/whenever/whenever/internal/engine/Rows", "getInt", "(II)I"⟩ : MethodName)) hown (mvT hZ (hw _ (List.mem_of_getElem? (i := 81) rfl))) (mvT hZ (hw _ (List.mem_of_getElem? (i := 82) rfl))) (notFace_of_selects (args := #[]) (mvT hZ (hw _ (List.mem_of_getElem? (i := 84) rfl)))) (mvT hZ (hw _ (List.mem_of_getElem? (i := 84) rfl))) (mvT hZ (hw _ (List.mem_of_getElem? (i := 83) rfl))) (by decide) (backOf (W := 0) (rm11_1 l Z a0 hw [] b5 A1 A2 I R k1 k2 (((((1 : Int32) + (1 : Int32)) + (1 : Int32)) + (1 : Int32)) + (1 : Int32)) ((1 : Int32) + (0 : Int32)) (((p0.toUInt32 >>> ((2 : Int32) &&& 31).toUInt32).toInt32) &&& (3 : Int32)) ((cl.setSlot ((((r18 &&& (4095 : Int32)) * ((1 : Int32) + (0 : Int32))) + f19)).toNatClampNeg (.int p3)).setSlot ((((r16 &&& (4095 : Int32)) * ((1 : Int32) + (0 : Int32))) + f17)).toNatClampNeg (.int p2)) r18 f19 p3 w0 w1 mr kw0 kw1 T32.heap n0 Z0 K0 OL (own_blk hrb18) (own_inx ((sz_set _ _ _).trans ((sz_set _ _ _).trans SI)) ix21 hrb18 hfb19) hat33 ⟨OB_b5, V_A1, V_A2, OV_A1, OV_A2, ne_b5_A1, ne_b5_A2, ne_A1_A2, g_b5, g_A1, g_A2⟩ AR_I) hZ (hw _ (List.mem_of_getElem? (i := 85) rfl)) (hw _ (List.mem_of_getElem? (i := 2) rfl)) (by decide) (by decide)) q33a q33c (g := (mkF m 167 #[.val (.int p0), .val (.int p1), .val (.int p2), .val (.int p3), .val (.int ((1 : Int32) + (0 : Int32))), .val (.int (((p0.toUInt32 >>> ((2 : Int32) &&& 31).toUInt32).toInt32) &&& (3 : Int32))), .val (.ref b5), .val (.ref b7), .val (.int r16), .val (.int f17), .val (.int r18), .val (.int f19), .val (.int p3)] [(.int f19), (.int r18), (.ref b5)])) rfl (by rw [hml]; rfl) (Steps.refl _) (argsL := [(.int r18), (.int f19)]) (rest := []) (lenOf pd1 rfl) rfl (by show 2 * 0 + _ ≤ _; exact Nat.le_of_eq rfl) (hb hby at_167) (fun _ _ => ⟨rfl, rfl, (by decide : 0 + 1 + 2 + 1 + 2 + 0 + 0 + 0 + 0 + 0 + 0 + 0 ≤ _), (by decide : 0 + 10 + 2 + 4 + 64 + 0 + 0 + 0 + 0 + 0 + 0 + 0 ≤ _)⟩)
      dsimp only [Pt.U, Pt.locs, Pt.cells, Pt.slots] at X33 l33 y33 z33 st33 hQ33
      subst l33 y33 z33
      obtain ⟨NQ33, OLq33, Zq33, KQ33, hP33⟩ := hQ33
      obtain rfl := hP33
      have OB_b5 := OB_b5.keep KQ33 nin0
      have V_A1 := V_A1.keep KQ33 nin0
      have V_A2 := V_A2.keep KQ33 nin0
      have V_b7 := V_b7.keep KQ33 nin0
      have AR_R := own_arrKeep AR_R KQ33 nin0
      have AR_I := own_arrKeep AR_I KQ33 nin0
      have EX_b7 := EX_b7.keep KQ33
      skip
      have OL := OLq33
      have Z0 := Zq33
      refine own_tr st33 ?_
      show own_Go p e below s _ _ _ (T33.setTop (mkF m 170 #[.val (.int p0), .val (.int p1), .val (.int p2), .val (.int p3), .val (.int ((1 : Int32) + (0 : Int32))), .val (.int (((p0.toUInt32 >>> ((2 : Int32) &&& 31).toUInt32).toInt32) &&& (3 : Int32))), .val (.ref b5), .val (.ref b7), .val (.int r16), .val (.int f17), .val (.int r18), .val (.int f19), .val (.int p3)] [(.int p3)]))
      refine own_via (fun _ k => XS.iload X33.here hx rfl (hb hby at_170) rfl k) ?_
      show own_Go p e below s _ _ _ (T33.setTop (mkF m 172 #[.val (.int p0), .val (.int p1), .val (.int p2), .val (.int p3), .val (.int ((1 : Int32) + (0 : Int32))), .val (.int (((p0.toUInt32 >>> ((2 : Int32) &&& 31).toUInt32).toInt32) &&& (3 : Int32))), .val (.ref b5), .val (.ref b7), .val (.int r16), .val (.int f17), .val (.int r18), .val (.int f19), .val (.int p3)] [(.int p3), (.int p3)]))
      refine own_via (fun _ k => XS.icmpNo X33.here hx rfl (hb hby at_172) rfl (teq (rfl : p3 = p3)).2 k) ?_
      show own_Go p e below s _ _ _ (T33.setTop (mkF m 175 #[.val (.int p0), .val (.int p1), .val (.int p2), .val (.int p3), .val (.int ((1 : Int32) + (0 : Int32))), .val (.int (((p0.toUInt32 >>> ((2 : Int32) &&& 31).toUInt32).toInt32) &&& (3 : Int32))), .val (.ref b5), .val (.ref b7), .val (.int r16), .val (.int f17), .val (.int r18), .val (.int f19), .val (.int p3)] []))
      refine own_via (fun _ k => XS.iconst X33.here hx rfl (hb hby at_175) k) ?_
      show own_Go p e below s _ _ _ (T33.setTop (mkF m 176 #[.val (.int p0), .val (.int p1), .val (.int p2), .val (.int p3), .val (.int ((1 : Int32) + (0 : Int32))), .val (.int (((p0.toUInt32 >>> ((2 : Int32) &&& 31).toUInt32).toInt32) &&& (3 : Int32))), .val (.ref b5), .val (.ref b7), .val (.int r16), .val (.int f17), .val (.int r18), .val (.int f19), .val (.int p3)] [(.int (1 : Int32))]))
      refine own_via (fun _ k => XS.goto X33.here hx rfl (pc0 := 176) (pc' := 180) rfl (hb hby at_176) (by decide) (by decide) k) ?_
      show own_Go p e below s _ _ _ (T33.setTop (mkF m 180 #[.val (.int p0), .val (.int p1), .val (.int p2), .val (.int p3), .val (.int ((1 : Int32) + (0 : Int32))), .val (.int (((p0.toUInt32 >>> ((2 : Int32) &&& 31).toUInt32).toInt32) &&& (3 : Int32))), .val (.ref b5), .val (.ref b7), .val (.int r16), .val (.int f17), .val (.int r18), .val (.int f19), .val (.int p3)] [(.int (1 : Int32))]))
      exact own_retZ X33 hx hlk (t := .boolean) Bd.returns (by simp) (hb hby at_180) (z' := (1 : Int32)) (by first | rfl | decide) ⟨rfl, (Fr.app (Fr.app (Fr.app (Fr.app N15 NQ20) NQ22) NQ32) NQ33)⟩ (by decide) (by decide)
  · rw [hk2]
    show own_Go p e below s _ _ _ (s₁.setTop (mkF m 4 #[.val (.int p0), .val (.int p1), .val (.int p2), .val (.int p3), .unset, .unset, .unset, .unset, .unset, .unset, .unset, .unset, .unset] [(.int (1 : Int32)), (.int (1 : Int32))]))
    refine own_via (fun _ k => XS.iadd X0.here hx rfl (hb hby at_4) rfl k) ?_
    show own_Go p e below s _ _ _ (s₁.setTop (mkF m 5 #[.val (.int p0), .val (.int p1), .val (.int p2), .val (.int p3), .unset, .unset, .unset, .unset, .unset, .unset, .unset, .unset, .unset] [(.int ((1 : Int32) + (1 : Int32)))]))
    refine own_via (fun _ k => XS.istore X0.here hx rfl (hb hby at_5) rfl (l' := #[.val (.int p0), .val (.int p1), .val (.int p2), .val (.int p3), .val (.int ((1 : Int32) + (1 : Int32))), .unset, .unset, .unset, .unset, .unset, .unset, .unset, .unset]) rfl k) ?_
    show own_Go p e below s _ _ _ (s₁.setTop (mkF m 7 #[.val (.int p0), .val (.int p1), .val (.int p2), .val (.int p3), .val (.int ((1 : Int32) + (1 : Int32))), .unset, .unset, .unset, .unset, .unset, .unset, .unset, .unset] []))
    refine own_via (fun _ k => XS.iloadN X0.here hx rfl (hb hby at_7) rfl k) ?_
    show own_Go p e below s _ _ _ (s₁.setTop (mkF m 8 #[.val (.int p0), .val (.int p1), .val (.int p2), .val (.int p3), .val (.int ((1 : Int32) + (1 : Int32))), .unset, .unset, .unset, .unset, .unset, .unset, .unset, .unset] [(.int p0)]))
    refine own_via (fun _ k => XS.iconst X0.here hx rfl (hb hby at_8) k) ?_
    show own_Go p e below s _ _ _ (s₁.setTop (mkF m 9 #[.val (.int p0), .val (.int p1), .val (.int p2), .val (.int p3), .val (.int ((1 : Int32) + (1 : Int32))), .unset, .unset, .unset, .unset, .unset, .unset, .unset, .unset] [(.int (2 : Int32)), (.int p0)]))
    refine own_via (fun _ k => XS.iushr X0.here hx rfl (hb hby at_9) rfl k) ?_
    show own_Go p e below s _ _ _ (s₁.setTop (mkF m 10 #[.val (.int p0), .val (.int p1), .val (.int p2), .val (.int p3), .val (.int ((1 : Int32) + (1 : Int32))), .unset, .unset, .unset, .unset, .unset, .unset, .unset, .unset] [(.int ((p0.toUInt32 >>> ((2 : Int32) &&& 31).toUInt32).toInt32))]))
    refine own_via (fun _ k => XS.iconst X0.here hx rfl (hb hby at_10) k) ?_
    show own_Go p e below s _ _ _ (s₁.setTop (mkF m 11 #[.val (.int p0), .val (.int p1), .val (.int p2), .val (.int p3), .val (.int ((1 : Int32) + (1 : Int32))), .unset, .unset, .unset, .unset, .unset, .unset, .unset, .unset] [(.int (3 : Int32)), (.int ((p0.toUInt32 >>> ((2 : Int32) &&& 31).toUInt32).toInt32))]))
    refine own_via (fun _ k => XS.iand X0.here hx rfl (hb hby at_11) rfl k) ?_
    show own_Go p e below s _ _ _ (s₁.setTop (mkF m 12 #[.val (.int p0), .val (.int p1), .val (.int p2), .val (.int p3), .val (.int ((1 : Int32) + (1 : Int32))), .unset, .unset, .unset, .unset, .unset, .unset, .unset, .unset] [(.int (((p0.toUInt32 >>> ((2 : Int32) &&& 31).toUInt32).toInt32) &&& (3 : Int32)))]))
    refine own_via (fun _ k => XS.istore X0.here hx rfl (hb hby at_12) rfl (l' := #[.val (.int p0), .val (.int p1), .val (.int p2), .val (.int p3), .val (.int ((1 : Int32) + (1 : Int32))), .val (.int (((p0.toUInt32 >>> ((2 : Int32) &&& 31).toUInt32).toInt32) &&& (3 : Int32))), .unset, .unset, .unset, .unset, .unset, .unset, .unset]) rfl k) ?_
    show own_Go p e below s _ _ _ (s₁.setTop (mkF m 14 #[.val (.int p0), .val (.int p1), .val (.int p2), .val (.int p3), .val (.int ((1 : Int32) + (1 : Int32))), .val (.int (((p0.toUInt32 >>> ((2 : Int32) &&& 31).toUInt32).toInt32) &&& (3 : Int32))), .unset, .unset, .unset, .unset, .unset, .unset, .unset] []))
    obtain ⟨T35, h35, X35, e35, E35, A35, D35, -, st35⟩ := newO X0 hx hZ hown (hw _ (List.mem_of_getElem? (i := 0) rfl)) (hw _ (List.mem_of_getElem? (i := 1) rfl)) (hw _ (List.mem_of_getElem? (i := 2) rfl)) e0 (g := (mkF m 14 #[.val (.int p0), .val (.int p1), .val (.int p2), .val (.int p3), .val (.int ((1 : Int32) + (1 : Int32))), .val (.int (((p0.toUInt32 >>> ((2 : Int32) &&& 31).toUInt32).toInt32) &&& (3 : Int32))), .unset, .unset, .unset, .unset, .unset, .unset, .unset] [])) rfl (hb hby at_14) (by decide) (by decide)
    obtain ⟨b35, g35⟩ : ∃ z, z = h0.size := ⟨_, rfl⟩
    rw [← g35] at A35 D35 st35
    skip
    have g_b35 : n0 ≤ b35 := Nat.le_trans Z0 (Nat.le_of_eq g35.symm)
    have Z0 := Nat.le_trans Z0 E35.1
    have OL := OL.ext E35
    skip
    have OB_b35 : own_Obj0 Z h35 b35 .null .null (0 : Int32) .null (0 : Int32) (0 : Int32) (0 : Int32) .null (0 : Int32) := ⟨A35, D35 (Or.inl (hw _ (List.mem_of_getElem? (i := 15) rfl))) (ty := (.array (.array .int))) (by decide), D35 (Or.inl (hw _ (List.mem_of_getElem? (i := 22) rfl))) (ty := (.array (.array (.object "java/lang/Object")))) (by decide), D35 (Or.inl (hw _ (List.mem_of_getElem? (i := 24) rfl))) (ty := .int) (by decide), D35 (Or.inl (hw _ (List.mem_of_getElem? (i := 26) rfl))) (ty := (.array .int)) (by decide), D35 (Or.inr (hw _ (List.mem_of_getElem? (i := 28) rfl))) (ty := .int) (by decide), D35 (Or.inr (hw _ (List.mem_of_getElem? (i := 30) rfl))) (ty := .int) (by decide), D35 (Or.inl (hw _ (List.mem_of_getElem? (i := 38) rfl))) (ty := .int) (by decide), D35 (Or.inl (hw _ (List.mem_of_getElem? (i := 40) rfl))) (ty := (.object "com/example/whenever/whenever/internal/engine/Rows$LaterBlocks")) (by decide), D35 (Or.inl (hw _ (List.mem_of_getElem? (i := 42) rfl))) (ty := .int) (by decide)⟩
    refine own_via st35 ?_
    show own_Go p e below s _ _ _ (T35.setTop (mkF m 17 #[.val (.int p0), .val (.int p1), .val (.int p2), .val (.int p3), .val (.int ((1 : Int32) + (1 : Int32))), .val (.int (((p0.toUInt32 >>> ((2 : Int32) &&& 31).toUInt32).toInt32) &&& (3 : Int32))), .unset, .unset, .unset, .unset, .unset, .unset, .unset] [(.ref b35)]))
    refine own_via (fun _ k => XS.dup X35.here hx rfl (hb hby at_17) rfl rfl k) ?_
    show own_Go p e below s _ _ _ (T35.setTop (mkF m 18 #[.val (.int p0), .val (.int p1), .val (.int p2), .val (.int p3), .val (.int ((1 : Int32) + (1 : Int32))), .val (.int (((p0.toUInt32 >>> ((2 : Int32) &&& 31).toUInt32).toInt32) &&& (3 : Int32))), .unset, .unset, .unset, .unset, .unset, .unset, .unset] [(.ref b35), (.ref b35)]))
    refine own_via (fun _ k => XS.iload X35.here hx rfl (hb hby at_18) rfl k) ?_
    show own_Go p e below s _ _ _ (T35.setTop (mkF m 20 #[.val (.int p0), .val (.int p1), .val (.int p2), .val (.int p3), .val (.int ((1 : Int32) + (1 : Int32))), .val (.int (((p0.toUInt32 >>> ((2 : Int32) &&& 31).toUInt32).toInt32) &&& (3 : Int32))), .unset, .unset, .unset, .unset, .unset, .unset, .unset] [(.int ((1 : Int32) + (1 : Int32))), (.ref b35), (.ref b35)]))
    refine own_via (fun _ k => XS.iload X35.here hx rfl (hb hby at_20) rfl k) ?_
    show own_Go p e below s _ _ _ (T35.setTop (mkF m 22 #[.val (.int p0), .val (.int p1), .val (.int p2), .val (.int p3), .val (.int ((1 : Int32) + (1 : Int32))), .val (.int (((p0.toUInt32 >>> ((2 : Int32) &&& 31).toUInt32).toInt32) &&& (3 : Int32))), .unset, .unset, .unset, .unset, .unset, .unset, .unset] [(.int (((p0.toUInt32 >>> ((2 : Int32) &&& 31).toUInt32).toInt32) &&& (3 : Int32))), (.int ((1 : Int32) + (1 : Int32))), (.ref b35), (.ref b35)]))
    obtain ⟨_, _, ⟨T36, L36, k36, n36⟩, -, X36, ⟨Lc36, hQ36, l36, y36, z36⟩, st36⟩ := X35.specialBack hx (y := (⟨"com/example/whenever/whenever/internal/engine/Rows", "<init>", "(II)V"⟩ : MethodName)) rfl hown (mvT hZ (hw _ (List.mem_of_getElem? (i := 3) rfl))) (mvT hZ (hw _ (List.mem_of_getElem? (i := 4) rfl))) (mvT hZ (hw _ (List.mem_of_getElem? (i := 5) rfl))) (by decide) (backOf (W := 1) (rm1_1 l Z a0 hw [] b35 ((1 : Int32) + (1 : Int32)) (((p0.toUInt32 >>> ((2 : Int32) &&& 31).toUInt32).toInt32) &&& (3 : Int32)) w0 w1 mr kw0 kw1 h35 n0 Z0 K0 OL (by decide) OB_b35 g_b35) hZ (hw _ (List.mem_of_getElem? (i := 5) rfl)) (hw _ (List.mem_of_getElem? (i := 2) rfl)) (by decide) (by decide)) (g := (mkF m 22 #[.val (.int p0), .val (.int p1), .val (.int p2), .val (.int p3), .val (.int ((1 : Int32) + (1 : Int32))), .val (.int (((p0.toUInt32 >>> ((2 : Int32) &&& 31).toUInt32).toInt32) &&& (3 : Int32))), .unset, .unset, .unset, .unset, .unset, .unset, .unset] [(.int (((p0.toUInt32 >>> ((2 : Int32) &&& 31).toUInt32).toInt32) &&& (3 : Int32))), (.int ((1 : Int32) + (1 : Int32))), (.ref b35), (.ref b35)])) rfl (by rw [hml]; rfl) (Steps.refl _) (a := b35) (argsL := [(.int ((1 : Int32) + (1 : Int32))), (.int (((p0.toUInt32 >>> ((2 : Int32) &&& 31).toUInt32).toInt32) &&& (3 : Int32)))]) (rest := [(.ref b35)]) (lenOf pd0 rfl) rfl (by show 2 * 0 + _ ≤ _; exact Nat.le_of_eq rfl) (hb hby at_22) (fun _ _ => ⟨rfl, e35, (by decide : 0 + 1 + 2 ≤ _), (by decide : 0 + 10 + 2 ≤ _)⟩)
    dsimp only [Pt.U, Pt.locs, Pt.cells, Pt.slots] at X36 l36 y36 z36 st36 hQ36
    subst l36 y36 z36
    obtain ⟨NQ36, OLq36, Zq36, KQ36, hP36⟩ := hQ36
    obtain ⟨rfl, A1, A2, k1, k2, OBq36, V_A1, V_A2, OV_A1, OV_A2, ne_b35_A1, ne_b35_A2, ne_A1_A2, -, g_A1, g_A2⟩ := hP36
    have OB_b35 := OBq36
    skip
    have OL := OLq36
    have Z0 := Zq36
    refine own_tr st36 ?_
    show own_Go p e below s _ _ _ (T36.setTop (mkF m 25 #[.val (.int p0), .val (.int p1), .val (.int p2), .val (.int p3), .val (.int ((1 : Int32) + (1 : Int32))), .val (.int (((p0.toUInt32 >>> ((2 : Int32) &&& 31).toUInt32).toInt32) &&& (3 : Int32))), .unset, .unset, .unset, .unset, .unset, .unset, .unset] [(.ref b35)]))
    refine own_via (fun _ k => XS.astore X36.here hx rfl (hb hby at_25) rfl rfl (l' := #[.val (.int p0), .val (.int p1), .val (.int p2), .val (.int p3), .val (.int ((1 : Int32) + (1 : Int32))), .val (.int (((p0.toUInt32 >>> ((2 : Int32) &&& 31).toUInt32).toInt32) &&& (3 : Int32))), .val (.ref b35), .unset, .unset, .unset, .unset, .unset, .unset]) rfl k) ?_
    show own_Go p e below s _ _ _ (T36.setTop (mkF m 27 #[.val (.int p0), .val (.int p1), .val (.int p2), .val (.int p3), .val (.int ((1 : Int32) + (1 : Int32))), .val (.int (((p0.toUInt32 >>> ((2 : Int32) &&& 31).toUInt32).toInt32) &&& (3 : Int32))), .val (.ref b35), .unset, .unset, .unset, .unset, .unset, .unset] []))
    refine own_via (fun _ k => XS.iconst X36.here hx rfl (hb hby at_27) k) ?_
    show own_Go p e below s _ _ _ (T36.setTop (mkF m 28 #[.val (.int p0), .val (.int p1), .val (.int p2), .val (.int p3), .val (.int ((1 : Int32) + (1 : Int32))), .val (.int (((p0.toUInt32 >>> ((2 : Int32) &&& 31).toUInt32).toInt32) &&& (3 : Int32))), .val (.ref b35), .unset, .unset, .unset, .unset, .unset, .unset] [(.int (4 : Int32))]))
    obtain ⟨T37, h37, k37, X37, e37, E37, A37, EX_b37, st37⟩ := newPE X36 hx hZ (hw _ (List.mem_of_getElem? (i := 31) rfl)) rfl (g := (mkF m 28 #[.val (.int p0), .val (.int p1), .val (.int p2), .val (.int p3), .val (.int ((1 : Int32) + (1 : Int32))), .val (.int (((p0.toUInt32 >>> ((2 : Int32) &&& 31).toUInt32).toInt32) &&& (3 : Int32))), .val (.ref b35), .unset, .unset, .unset, .unset, .unset, .unset] [(.int (4 : Int32))])) rfl (hb hby at_28) rfl (by decide) (cap := 4) (by decide) (by decide) (by decide) (by decide) (ad := "[I") (by decide)
    obtain ⟨b37, g37⟩ : ∃ z, z = T36.heap.size := ⟨_, rfl⟩
    rw [← g37] at A37 EX_b37 st37
    have ne_b35_b37 : b35 ≠ b37 := Nat.ne_of_lt (Nat.lt_of_lt_of_le OB_b35.1.lt (Nat.le_of_eq g37.symm))
    have ne_A1_b37 : A1 ≠ b37 := Nat.ne_of_lt (Nat.lt_of_lt_of_le V_A1.lt (Nat.le_of_eq g37.symm))
    have ne_A2_b37 : A2 ≠ b37 := Nat.ne_of_lt (Nat.lt_of_lt_of_le V_A2.lt (Nat.le_of_eq g37.symm))
    skip
    have g_b37 : n0 ≤ b37 := Nat.le_trans Z0 (Nat.le_of_eq g37.symm)
    have Z0 := Nat.le_trans Z0 E37.1
    have OL := OL.ext E37
    skip
    have OB_b35 := OB_b35.ext E37
    have V_A1 := V_A1.ext E37
    have V_A2 := V_A2.ext E37
    have V_b37 : Arv Z h37 b37 k37 .int (4 : Int32) [(.int (0 : Int32)), (.int (0 : Int32)), (.int (0 : Int32)), (.int (0 : Int32))] (.int 0) := (Arv.new A37 (by decide)).pad (pad_rep [] (.int 0) 4)
    refine own_via st37 ?_
    show own_Go p e below s _ _ _ (T37.setTop (mkF m 30 #[.val (.int p0), .val (.int p1), .val (.int p2), .val (.int p3), .val (.int ((1 : Int32) + (1 : Int32))), .val (.int (((p0.toUInt32 >>> ((2 : Int32) &&& 31).toUInt32).toInt32) &&& (3 : Int32))), .val (.ref b35), .unset, .unset, .unset, .unset, .unset, .unset] [(.ref b37)]))
    refine own_via (fun _ k => XS.astore X37.here hx rfl (hb hby at_30) rfl rfl (l' := #[.val (.int p0), .val (.int p1), .val (.int p2), .val (.int p3), .val (.int ((1 : Int32) + (1 : Int32))), .val (.int (((p0.toUInt32 >>> ((2 : Int32) &&& 31).toUInt32).toInt32) &&& (3 : Int32))), .val (.ref b35), .val (.ref b37), .unset, .unset, .unset, .unset, .unset]) rfl k) ?_
    show own_Go p e below s _ _ _ (T37.setTop (mkF m 32 #[.val (.int p0), .val (.int p1), .val (.int p2), .val (.int p3), .val (.int ((1 : Int32) + (1 : Int32))), .val (.int (((p0.toUInt32 >>> ((2 : Int32) &&& 31).toUInt32).toInt32) &&& (3 : Int32))), .val (.ref b35), .val (.ref b37), .unset, .unset, .unset, .unset, .unset] []))
    refine own_via (fun _ k => XS.aload X37.here hx rfl (hb hby at_32) rfl rfl k) ?_
    show own_Go p e below s _ _ _ (T37.setTop (mkF m 34 #[.val (.int p0), .val (.int p1), .val (.int p2), .val (.int p3), .val (.int ((1 : Int32) + (1 : Int32))), .val (.int (((p0.toUInt32 >>> ((2 : Int32) &&& 31).toUInt32).toInt32) &&& (3 : Int32))), .val (.ref b35), .val (.ref b37), .unset, .unset, .unset, .unset, .unset] [(.ref b37)]))
    refine own_via (fun _ k => XS.iconst X37.here hx rfl (hb hby at_34) k) ?_
    show own_Go p e below s _ _ _ (T37.setTop (mkF m 35 #[.val (.int p0), .val (.int p1), .val (.int p2), .val (.int p3), .val (.int ((1 : Int32) + (1 : Int32))), .val (.int (((p0.toUInt32 >>> ((2 : Int32) &&& 31).toUInt32).toInt32) &&& (3 : Int32))), .val (.ref b35), .val (.ref b37), .unset, .unset, .unset, .unset, .unset] [(.int (0 : Int32)), (.ref b37)]))
    refine own_via (fun _ k => XS.aload X37.here hx rfl (hb hby at_35) rfl rfl k) ?_
    show own_Go p e below s _ _ _ (T37.setTop (mkF m 37 #[.val (.int p0), .val (.int p1), .val (.int p2), .val (.int p3), .val (.int ((1 : Int32) + (1 : Int32))), .val (.int (((p0.toUInt32 >>> ((2 : Int32) &&& 31).toUInt32).toInt32) &&& (3 : Int32))), .val (.ref b35), .val (.ref b37), .unset, .unset, .unset, .unset, .unset] [(.ref b35), (.int (0 : Int32)), (.ref b37)]))
    obtain ⟨cq38, kq38, q38a, q38b, q38c⟩ := isOf hZ e37 OB_b35.1
    obtain ⟨_, _, ⟨T38, L38, k38, n38⟩, -, X38, ⟨Lc38, hQ38, l38, y38, z38⟩, st38⟩ := X37.virtualBack hx (y := (⟨"com/example/whenever/whenever/internal/engine/Rows", "add", "()I"⟩ : MethodName)) (z := (⟨"com/example/whenever/whenever/internal/engine/Rows", "add", "()I"⟩ : MethodName)) hown (mvT hZ (hw _ (List.mem_of_getElem? (i := 32) rfl))) (mvT hZ (hw _ (List.mem_of_getElem? (i := 33) rfl))) (notFace_of_selects (args := #[]) (mvT hZ (hw _ (List.mem_of_getElem? (i := 35) rfl)))) (mvT hZ (hw _ (List.mem_of_getElem? (i := 35) rfl))) (mvT hZ (hw _ (List.mem_of_getElem? (i := 34) rfl))) (by decide) (backOf (W := 2) (rm3_1 l Z a0 hw [] b35 A1 A2 k1 k2 ((1 : Int32) + (1 : Int32)) (((p0.toUInt32 >>> ((2 : Int32) &&& 31).toUInt32).toInt32) &&& (3 : Int32)) w0 w1 mr kw0 kw1 h37 n0 Z0 K0 OL (by decide) (by decide) (own_r4 _).1 (own_r4 _).2 ⟨OB_b35, V_A1, V_A2, OV_A1, OV_A2, ne_b35_A1, ne_b35_A2, ne_A1_A2, g_b35, g_A1, g_A2⟩) hZ (hw _ (List.mem_of_getElem? (i := 36) rfl)) (hw _ (List.mem_of_getElem? (i := 2) rfl)) (by decide) (by decide)) q38a q38c (g := (mkF m 37 #[.val (.int p0), .val (.int p1), .val (.int p2), .val (.int p3), .val (.int ((1 : Int32) + (1 : Int32))), .val (.int (((p0.toUInt32 >>> ((2 : Int32) &&& 31).toUInt32).toInt32) &&& (3 : Int32))), .val (.ref b35), .val (.ref b37), .unset, .unset, .unset, .unset, .unset] [(.ref b35), (.int (0 : Int32)), (.ref b37)])) rfl (by rw [hml]; rfl) (Steps.refl _) (argsL := []) (rest := [(.int (0 : Int32)), (.ref b37)]) (lenOf pd4 rfl) rfl (by show 2 * 0 + _ ≤ _; exact Nat.le_of_eq rfl) (hb hby at_37) (fun _ _ => ⟨rfl, e37, (by decide : 0 + 1 + 2 + 1 + 2 ≤ _), (by decide : 0 + 10 + 2 + 4 + 64 ≤ _)⟩)
    dsimp only [Pt.U, Pt.locs, Pt.cells, Pt.slots] at X38 l38 y38 z38 st38 hQ38
    subst l38 y38 z38
    obtain ⟨NQ38, OLq38, Zq38, KQ38, hP38⟩ := hQ38
    obtain ⟨rfl, I, R, kI, kR, ⟨OBq38, Vq38a, Vq38b, -, -, -, -, -, -, -, -⟩, V_I, AR_R, OVR_R, ne_b35_I, ne_A1_I, ne_A2_I, ne_b35_R, ne_A1_R, ne_A2_R, ne_I_R, szI38, szR38⟩ := hP38
    have ne_b37_I : b37 ≠ I := Nat.ne_of_lt (Nat.lt_of_lt_of_le V_b37.lt szI38)
    have g_I : n0 ≤ I := Nat.le_trans Z0 szI38
    have ne_b37_R : b37 ≠ R := Nat.ne_of_lt (Nat.lt_of_lt_of_le V_b37.lt szR38)
    have g_R : n0 ≤ R := Nat.le_trans Z0 szR38
    have V_b37 := V_b37.keep KQ38 (ninS (Ne.symm ne_b35_b37) (ninS (Ne.symm ne_A1_b37) (ninS (Ne.symm ne_A2_b37) nin0)))
    have EX_b37 := EX_b37.keep KQ38
    have OB_b35 := OBq38
    have V_A1 := Vq38a
    have V_A2 := Vq38b
    skip
    have OL := OLq38
    have Z0 := Zq38
    refine own_tr st38 ?_
    obtain ⟨cl, AR_I, -, SI, -, HI, -⟩ := V_I
    show own_Go p e below s _ _ _ (T38.setTop (mkF m 40 #[.val (.int p0), .val (.int p1), .val (.int p2), .val (.int p3), .val (.int ((1 : Int32) + (1 : Int32))), .val (.int (((p0.toUInt32 >>> ((2 : Int32) &&& 31).toUInt32).toInt32) &&& (3 : Int32))), .val (.ref b35), .val (.ref b37), .unset, .unset, .unset, .unset, .unset] [(.int (1 : Int32)), (.int (0 : Int32)), (.ref b37)]))
    have Vx39 := V_b37
    obtain ⟨cl39, Ar39, q39, S39, N39, H39, G39⟩ := Vx39
    have hin39 : ¬ ((0 : Int32) < 0 ∨ cl39.slots.size ≤ ((0 : Int32)).toNatClampNeg) := inb_of S39 ⟨by decide, by decide⟩
    obtain ⟨T39, h39, X39, e39, W39, st39⟩ := stI X38 hx hZ rfl Ar39 (j := (0 : Int32)) hin39 (g := (mkF m 40 #[.val (.int p0), .val (.int p1), .val (.int p2), .val (.int p3), .val (.int ((1 : Int32) + (1 : Int32))), .val (.int (((p0.toUInt32 >>> ((2 : Int32) &&& 31).toUInt32).toInt32) &&& (3 : Int32))), .val (.ref b35), .val (.ref b37), .unset, .unset, .unset, .unset, .unset] [(.int (1 : Int32)), (.int (0 : Int32)), (.ref b37)])) rfl rfl (hb hby at_40)
    have V_b37 : Arv Z h39 b37 k37 .int (4 : Int32) [(.int (1 : Int32)), (.int (0 : Int32)), (.int (0 : Int32)), (.int (0 : Int32))] (.int 0) := Arv.set Ar39 q39 S39 N39 H39 G39 rfl W39 0 rfl (Nat.le_of_ble_eq_true rfl)
    have N39 := Fr.snoc X39 (Fr.app (Fr.app (Fr.nil n0) NQ36) NQ38) g_b37
    have Z0 := Nat.le_trans Z0 (Keep.of_wr W39).1
    have OL := OL.wr W39 g_b37
    skip
    have OB_b35 := OB_b35.other W39 ne_b35_b37
    have V_A1 := V_A1.other W39 ne_A1_b37
    have V_A2 := V_A2.other W39 ne_A2_b37
    have AR_R := AR_R.other W39 (Ne.symm ne_b37_R)
    have AR_I := AR_I.other W39 (Ne.symm ne_b37_I)
    have EX_b37 := EX_b37.wr W39
    refine own_via st39 ?_
    show own_Go p e below s _ _ _ (T39.setTop (mkF m 41 #[.val (.int p0), .val (.int p1), .val (.int p2), .val (.int p3), .val (.int ((1 : Int32) + (1 : Int32))), .val (.int (((p0.toUInt32 >>> ((2 : Int32) &&& 31).toUInt32).toInt32) &&& (3 : Int32))), .val (.ref b35), .val (.ref b37), .unset, .unset, .unset, .unset, .unset] []))
    refine own_via (fun _ k => XS.aload X39.here hx rfl (hb hby at_41) rfl rfl k) ?_
    show own_Go p e below s _ _ _ (T39.setTop (mkF m 43 #[.val (.int p0), .val (.int p1), .val (.int p2), .val (.int p3), .val (.int ((1 : Int32) + (1 : Int32))), .val (.int (((p0.toUInt32 >>> ((2 : Int32) &&& 31).toUInt32).toInt32) &&& (3 : Int32))), .val (.ref b35), .val (.ref b37), .unset, .unset, .unset, .unset, .unset] [(.ref b37)]))
    refine own_via (fun _ k => XS.iconst X39.here hx rfl (hb hby at_43) k) ?_
    show own_Go p e below s _ _ _ (T39.setTop (mkF m 44 #[.val (.int p0), .val (.int p1), .val (.int p2), .val (.int p3), .val (.int ((1 : Int32) + (1 : Int32))), .val (.int (((p0.toUInt32 >>> ((2 : Int32) &&& 31).toUInt32).toInt32) &&& (3 : Int32))), .val (.ref b35), .val (.ref b37), .unset, .unset, .unset, .unset, .unset] [(.int (1 : Int32)), (.ref b37)]))
    refine own_via (fun _ k => XS.aload X39.here hx rfl (hb hby at_44) rfl rfl k) ?_
    show own_Go p e below s _ _ _ (T39.setTop (mkF m 46 #[.val (.int p0), .val (.int p1), .val (.int p2), .val (.int p3), .val (.int ((1 : Int32) + (1 : Int32))), .val (.int (((p0.toUInt32 >>> ((2 : Int32) &&& 31).toUInt32).toInt32) &&& (3 : Int32))), .val (.ref b35), .val (.ref b37), .unset, .unset, .unset, .unset, .unset] [(.ref b35), (.int (1 : Int32)), (.ref b37)]))
    obtain ⟨cq40, kq40, q40a, q40b, q40c⟩ := isOf hZ e39 OB_b35.1
    obtain ⟨_, _, ⟨T40, L40, k40, n40⟩, -, X40, ⟨Lc40, hQ40, l40, y40, z40⟩, st40⟩ := X39.virtualBack hx (y := (⟨"com/example/whenever/whenever/internal/engine/Rows", "add", "()I"⟩ : MethodName)) (z := (⟨"com/example/whenever/whenever/internal/engine/Rows", "add", "()I"⟩ : MethodName)) hown (mvT hZ (hw _ (List.mem_of_getElem? (i := 32) rfl))) (mvT hZ (hw _ (List.mem_of_getElem? (i := 33) rfl))) (notFace_of_selects (args := #[]) (mvT hZ (hw _ (List.mem_of_getElem? (i := 35) rfl)))) (mvT hZ (hw _ (List.mem_of_getElem? (i := 35) rfl))) (mvT hZ (hw _ (List.mem_of_getElem? (i := 34) rfl))) (by decide) (backOf (W := 2) (rm3_2 l Z a0 hw [] b35 A1 A2 I R k1 k2 ((1 : Int32) + (1 : Int32)) (((p0.toUInt32 >>> ((2 : Int32) &&& 31).toUInt32).toInt32) &&& (3 : Int32)) w0 w1 mr kw0 kw1 h39 n0 Z0 K0 OL ⟨OB_b35, V_A1, V_A2, OV_A1, OV_A2, ne_b35_A1, ne_b35_A2, ne_A1_A2, g_b35, g_A1, g_A2⟩) hZ (hw _ (List.mem_of_getElem? (i := 36) rfl)) (hw _ (List.mem_of_getElem? (i := 2) rfl)) (by decide) (by decide)) q40a q40c (g := (mkF m 46 #[.val (.int p0), .val (.int p1), .val (.int p2), .val (.int p3), .val (.int ((1 : Int32) + (1 : Int32))), .val (.int (((p0.toUInt32 >>> ((2 : Int32) &&& 31).toUInt32).toInt32) &&& (3 : Int32))), .val (.ref b35), .val (.ref b37), .unset, .unset, .unset, .unset, .unset] [(.ref b35), (.int (1 : Int32)), (.ref b37)])) rfl (by rw [hml]; rfl) (Steps.refl _) (argsL := []) (rest := [(.int (1 : Int32)), (.ref b37)]) (lenOf pd4 rfl) rfl (by show 2 * 0 + _ ≤ _; exact Nat.le_of_eq rfl) (hb hby at_46) (fun _ _ => ⟨rfl, e39, (by decide : 0 + 1 + 2 + 1 + 2 + 0 ≤ _), (by decide : 0 + 10 + 2 + 4 + 64 + 0 ≤ _)⟩)
    dsimp only [Pt.U, Pt.locs, Pt.cells, Pt.slots] at X40 l40 y40 z40 st40 hQ40
    subst l40 y40 z40
    obtain ⟨NQ40, OLq40, Zq40, KQ40, hP40⟩ := hQ40
    obtain ⟨rfl, ⟨OBq40, Vq40a, Vq40b, -, -, -, -, -, -, -, -⟩⟩ := hP40
    have V_A1 := V_A1.keep KQ40 (ninS (Ne.symm ne_b35_A1) nin0)
    have V_A2 := V_A2.keep KQ40 (ninS (Ne.symm ne_b35_A2) nin0)
    have V_b37 := V_b37.keep KQ40 (ninS (Ne.symm ne_b35_b37) nin0)
    have AR_R := own_arrKeep AR_R KQ40 (ninS (Ne.symm ne_b35_R) nin0)
    have AR_I := own_arrKeep AR_I KQ40 (ninS (Ne.symm ne_b35_I) nin0)
    have EX_b37 := EX_b37.keep KQ40
    have OB_b35 := OBq40
    skip
    have OL := OLq40
    have Z0 := Zq40
    refine own_tr st40 ?_
    show own_Go p e below s _ _ _ (T40.setTop (mkF m 49 #[.val (.int p0), .val (.int p1), .val (.int p2), .val (.int p3), .val (.int ((1 : Int32) + (1 : Int32))), .val (.int (((p0.toUInt32 >>> ((2 : Int32) &&& 31).toUInt32).toInt32) &&& (3 : Int32))), .val (.ref b35), .val (.ref b37), .unset, .unset, .unset, .unset, .unset] [(.int ((1 : Int32) + (1 : Int32))), (.int (1 : Int32)), (.ref b37)]))
    have Vx41 := V_b37
    obtain ⟨cl41, Ar41, q41, S41, N41, H41, G41⟩ := Vx41
    have hin41 : ¬ ((1 : Int32) < 0 ∨ cl41.slots.size ≤ ((1 : Int32)).toNatClampNeg) := inb_of S41 ⟨by decide, by decide⟩
    obtain ⟨T41, h41, X41, e41, W41, st41⟩ := stI X40 hx hZ rfl Ar41 (j := (1 : Int32)) hin41 (g := (mkF m 49 #[.val (.int p0), .val (.int p1), .val (.int p2), .val (.int p3), .val (.int ((1 : Int32) + (1 : Int32))), .val (.int (((p0.toUInt32 >>> ((2 : Int32) &&& 31).toUInt32).toInt32) &&& (3 : Int32))), .val (.ref b35), .val (.ref b37), .unset, .unset, .unset, .unset, .unset] [(.int ((1 : Int32) + (1 : Int32))), (.int (1 : Int32)), (.ref b37)])) rfl rfl (hb hby at_49)
    have V_b37 : Arv Z h41 b37 k37 .int (4 : Int32) [(.int (1 : Int32)), (.int ((1 : Int32) + (1 : Int32))), (.int (0 : Int32)), (.int (0 : Int32))] (.int 0) := Arv.set Ar41 q41 S41 N41 H41 G41 rfl W41 1 rfl (Nat.le_of_ble_eq_true rfl)
    have N41 := Fr.snoc X41 (Fr.app N39 NQ40) g_b37
    have Z0 := Nat.le_trans Z0 (Keep.of_wr W41).1
    have OL := OL.wr W41 g_b37
    skip
    have OB_b35 := OB_b35.other W41 ne_b35_b37
    have V_A1 := V_A1.other W41 ne_A1_b37
    have V_A2 := V_A2.other W41 ne_A2_b37
    have AR_R := AR_R.other W41 (Ne.symm ne_b37_R)
    have AR_I := AR_I.other W41 (Ne.symm ne_b37_I)
    have EX_b37 := EX_b37.wr W41
    refine own_via st41 ?_
    show own_Go p e below s _ _ _ (T41.setTop (mkF m 50 #[.val (.int p0), .val (.int p1), .val (.int p2), .val (.int p3), .val (.int ((1 : Int32) + (1 : Int32))), .val (.int (((p0.toUInt32 >>> ((2 : Int32) &&& 31).toUInt32).toInt32) &&& (3 : Int32))), .val (.ref b35), .val (.ref b37), .unset, .unset, .unset, .unset, .unset] []))
    refine own_via (fun _ k => XS.aload X41.here hx rfl (hb hby at_50) rfl rfl k) ?_
    show own_Go p e below s _ _ _ (T41.setTop (mkF m 52 #[.val (.int p0), .val (.int p1), .val (.int p2), .val (.int p3), .val (.int ((1 : Int32) + (1 : Int32))), .val (.int (((p0.toUInt32 >>> ((2 : Int32) &&& 31).toUInt32).toInt32) &&& (3 : Int32))), .val (.ref b35), .val (.ref b37), .unset, .unset, .unset, .unset, .unset] [(.ref b37)]))
    refine own_via (fun _ k => XS.iconst X41.here hx rfl (hb hby at_52) k) ?_
    show own_Go p e below s _ _ _ (T41.setTop (mkF m 53 #[.val (.int p0), .val (.int p1), .val (.int p2), .val (.int p3), .val (.int ((1 : Int32) + (1 : Int32))), .val (.int (((p0.toUInt32 >>> ((2 : Int32) &&& 31).toUInt32).toInt32) &&& (3 : Int32))), .val (.ref b35), .val (.ref b37), .unset, .unset, .unset, .unset, .unset] [(.int (2 : Int32)), (.ref b37)]))
    refine own_via (fun _ k => XS.aload X41.here hx rfl (hb hby at_53) rfl rfl k) ?_
    show own_Go p e below s _ _ _ (T41.setTop (mkF m 55 #[.val (.int p0), .val (.int p1), .val (.int p2), .val (.int p3), .val (.int ((1 : Int32) + (1 : Int32))), .val (.int (((p0.toUInt32 >>> ((2 : Int32) &&& 31).toUInt32).toInt32) &&& (3 : Int32))), .val (.ref b35), .val (.ref b37), .unset, .unset, .unset, .unset, .unset] [(.ref b35), (.int (2 : Int32)), (.ref b37)]))
    obtain ⟨cq42, kq42, q42a, q42b, q42c⟩ := isOf hZ e41 OB_b35.1
    obtain ⟨_, _, ⟨T42, L42, k42, n42⟩, -, X42, ⟨Lc42, hQ42, l42, y42, z42⟩, st42⟩ := X41.virtualBack hx (y := (⟨"com/example/whenever/whenever/internal/engine/Rows", "add", "()I"⟩ : MethodName)) (z := (⟨"com/example/whenever/whenever/internal/engine/Rows", "add", "()I"⟩ : MethodName)) hown (mvT hZ (hw _ (List.mem_of_getElem? (i := 32) rfl))) (mvT hZ (hw _ (List.mem_of_getElem? (i := 33) rfl))) (notFace_of_selects (args := #[]) (mvT hZ (hw _ (List.mem_of_getElem? (i := 35) rfl)))) (mvT hZ (hw _ (List.mem_of_getElem? (i := 35) rfl))) (mvT hZ (hw _ (List.mem_of_getElem? (i := 34) rfl))) (by decide) (backOf (W := 2) (rm3_3 l Z a0 hw [] b35 A1 A2 I R k1 k2 ((1 : Int32) + (1 : Int32)) (((p0.toUInt32 >>> ((2 : Int32) &&& 31).toUInt32).toInt32) &&& (3 : Int32)) w0 w1 mr kw0 kw1 h41 n0 Z0 K0 OL ⟨OB_b35, V_A1, V_A2, OV_A1, OV_A2, ne_b35_A1, ne_b35_A2, ne_A1_A2, g_b35, g_A1, g_A2⟩) hZ (hw _ (List.mem_of_getElem? (i := 36) rfl)) (hw _ (List.mem_of_getElem? (i := 2) rfl)) (by decide) (by decide)) q42a q42c (g := (mkF m 55 #[.val (.int p0), .val (.int p1), .val (.int p2), .val (.int p3), .val (.int ((1 : Int32) + (1 : Int32))), .val (.int (((p0.toUInt32 >>> ((2 : Int32) &&& 31).toUInt32).toInt32) &&& (3 : Int32))), .val (.ref b35), .val (.ref b37), .unset, .unset, .unset, .unset, .unset] [(.ref b35), (.int (2 : Int32)), (.ref b37)])) rfl (by rw [hml]; rfl) (Steps.refl _) (argsL := []) (rest := [(.int (2 : Int32)), (.ref b37)]) (lenOf pd4 rfl) rfl (by show 2 * 0 + _ ≤ _; exact Nat.le_of_eq rfl) (hb hby at_55) (fun _ _ => ⟨rfl, e41, (by decide : 0 + 1 + 2 + 1 + 2 + 0 + 0 ≤ _), (by decide : 0 + 10 + 2 + 4 + 64 + 0 + 0 ≤ _)⟩)
    dsimp only [Pt.U, Pt.locs, Pt.cells, Pt.slots] at X42 l42 y42 z42 st42 hQ42
    subst l42 y42 z42
    obtain ⟨NQ42, OLq42, Zq42, KQ42, hP42⟩ := hQ42
    obtain ⟨rfl, ⟨OBq42, Vq42a, Vq42b, -, -, -, -, -, -, -, -⟩⟩ := hP42
    have V_A1 := V_A1.keep KQ42 (ninS (Ne.symm ne_b35_A1) nin0)
    have V_A2 := V_A2.keep KQ42 (ninS (Ne.symm ne_b35_A2) nin0)
    have V_b37 := V_b37.keep KQ42 (ninS (Ne.symm ne_b35_b37) nin0)
    have AR_R := own_arrKeep AR_R KQ42 (ninS (Ne.symm ne_b35_R) nin0)
    have AR_I := own_arrKeep AR_I KQ42 (ninS (Ne.symm ne_b35_I) nin0)
    have EX_b37 := EX_b37.keep KQ42
    have OB_b35 := OBq42
    skip
    have OL := OLq42
    have Z0 := Zq42
    refine own_tr st42 ?_
    show own_Go p e below s _ _ _ (T42.setTop (mkF m 58 #[.val (.int p0), .val (.int p1), .val (.int p2), .val (.int p3), .val (.int ((1 : Int32) + (1 : Int32))), .val (.int (((p0.toUInt32 >>> ((2 : Int32) &&& 31).toUInt32).toInt32) &&& (3 : Int32))), .val (.ref b35), .val (.ref b37), .unset, .unset, .unset, .unset, .unset] [(.int (((1 : Int32) + (1 : Int32)) + (1 : Int32))), (.int (2 : Int32)), (.ref b37)]))
    have Vx43 := V_b37
    obtain ⟨cl43, Ar43, q43, S43, N43, H43, G43⟩ := Vx43
    have hin43 : ¬ ((2 : Int32) < 0 ∨ cl43.slots.size ≤ ((2 : Int32)).toNatClampNeg) := inb_of S43 ⟨by decide, by decide⟩
    obtain ⟨T43, h43, X43, e43, W43, st43⟩ := stI X42 hx hZ rfl Ar43 (j := (2 : Int32)) hin43 (g := (mkF m 58 #[.val (.int p0), .val (.int p1), .val (.int p2), .val (.int p3), .val (.int ((1 : Int32) + (1 : Int32))), .val (.int (((p0.toUInt32 >>> ((2 : Int32) &&& 31).toUInt32).toInt32) &&& (3 : Int32))), .val (.ref b35), .val (.ref b37), .unset, .unset, .unset, .unset, .unset] [(.int (((1 : Int32) + (1 : Int32)) + (1 : Int32))), (.int (2 : Int32)), (.ref b37)])) rfl rfl (hb hby at_58)
    have V_b37 : Arv Z h43 b37 k37 .int (4 : Int32) [(.int (1 : Int32)), (.int ((1 : Int32) + (1 : Int32))), (.int (((1 : Int32) + (1 : Int32)) + (1 : Int32))), (.int (0 : Int32))] (.int 0) := Arv.set Ar43 q43 S43 N43 H43 G43 rfl W43 2 rfl (Nat.le_of_ble_eq_true rfl)
    have N43 := Fr.snoc X43 (Fr.app N41 NQ42) g_b37
    have Z0 := Nat.le_trans Z0 (Keep.of_wr W43).1
    have OL := OL.wr W43 g_b37
    skip
    have OB_b35 := OB_b35.other W43 ne_b35_b37
    have V_A1 := V_A1.other W43 ne_A1_b37
    have V_A2 := V_A2.other W43 ne_A2_b37
    have AR_R := AR_R.other W43 (Ne.symm ne_b37_R)
    have AR_I := AR_I.other W43 (Ne.symm ne_b37_I)
    have EX_b37 := EX_b37.wr W43
    refine own_via st43 ?_
    show own_Go p e below s _ _ _ (T43.setTop (mkF m 59 #[.val (.int p0), .val (.int p1), .val (.int p2), .val (.int p3), .val (.int ((1 : Int32) + (1 : Int32))), .val (.int (((p0.toUInt32 >>> ((2 : Int32) &&& 31).toUInt32).toInt32) &&& (3 : Int32))), .val (.ref b35), .val (.ref b37), .unset, .unset, .unset, .unset, .unset] []))
    refine own_via (fun _ k => XS.aload X43.here hx rfl (hb hby at_59) rfl rfl k) ?_
    show own_Go p e below s _ _ _ (T43.setTop (mkF m 61 #[.val (.int p0), .val (.int p1), .val (.int p2), .val (.int p3), .val (.int ((1 : Int32) + (1 : Int32))), .val (.int (((p0.toUInt32 >>> ((2 : Int32) &&& 31).toUInt32).toInt32) &&& (3 : Int32))), .val (.ref b35), .val (.ref b37), .unset, .unset, .unset, .unset, .unset] [(.ref b37)]))
    refine own_via (fun _ k => XS.iconst X43.here hx rfl (hb hby at_61) k) ?_
    show own_Go p e below s _ _ _ (T43.setTop (mkF m 62 #[.val (.int p0), .val (.int p1), .val (.int p2), .val (.int p3), .val (.int ((1 : Int32) + (1 : Int32))), .val (.int (((p0.toUInt32 >>> ((2 : Int32) &&& 31).toUInt32).toInt32) &&& (3 : Int32))), .val (.ref b35), .val (.ref b37), .unset, .unset, .unset, .unset, .unset] [(.int (3 : Int32)), (.ref b37)]))
    refine own_via (fun _ k => XS.aload X43.here hx rfl (hb hby at_62) rfl rfl k) ?_
    show own_Go p e below s _ _ _ (T43.setTop (mkF m 64 #[.val (.int p0), .val (.int p1), .val (.int p2), .val (.int p3), .val (.int ((1 : Int32) + (1 : Int32))), .val (.int (((p0.toUInt32 >>> ((2 : Int32) &&& 31).toUInt32).toInt32) &&& (3 : Int32))), .val (.ref b35), .val (.ref b37), .unset, .unset, .unset, .unset, .unset] [(.ref b35), (.int (3 : Int32)), (.ref b37)]))
    obtain ⟨cq44, kq44, q44a, q44b, q44c⟩ := isOf hZ e43 OB_b35.1
    obtain ⟨_, _, ⟨T44, L44, k44, n44⟩, -, X44, ⟨Lc44, hQ44, l44, y44, z44⟩, st44⟩ := X43.virtualBack hx (y := (⟨"com/example/whenever/whenever/internal/engine/Rows", "add", "()I"⟩ : MethodName)) (z := (⟨"com/example/whenever/whenever/internal/engine/Rows", "add", "()I"⟩ : MethodName)) hown (mvT hZ (hw _ (List.mem_of_getElem? (i := 32) rfl))) (mvT hZ (hw _ (List.mem_of_getElem? (i := 33) rfl))) (notFace_of_selects (args := #[]) (mvT hZ (hw _ (List.mem_of_getElem? (i := 35) rfl)))) (mvT hZ (hw _ (List.mem_of_getElem? (i := 35) rfl))) (mvT hZ (hw _ (List.mem_of_getElem? (i := 34) rfl))) (by decide) (backOf (W := 2) (rm3_4 l Z a0 hw [] b35 A1 A2 I R k1 k2 ((1 : Int32) + (1 : Int32)) (((p0.toUInt32 >>> ((2 : Int32) &&& 31).toUInt32).toInt32) &&& (3 : Int32)) w0 w1 mr kw0 kw1 h43 n0 Z0 K0 OL ⟨OB_b35, V_A1, V_A2, OV_A1, OV_A2, ne_b35_A1, ne_b35_A2, ne_A1_A2, g_b35, g_A1, g_A2⟩) hZ (hw _ (List.mem_of_getElem? (i := 36) rfl)) (hw _ (List.mem_of_getElem? (i := 2) rfl)) (by decide) (by decide)) q44a q44c (g := (mkF m 64 #[.val (.int p0), .val (.int p1), .val (.int p2), .val (.int p3), .val (.int ((1 : Int32) + (1 : Int32))), .val (.int (((p0.toUInt32 >>> ((2 : Int32) &&& 31).toUInt32).toInt32) &&& (3 : Int32))), .val (.ref b35), .val (.ref b37), .unset, .unset, .unset, .unset, .unset] [(.ref b35), (.int (3 : Int32)), (.ref b37)])) rfl (by rw [hml]; rfl) (Steps.refl _) (argsL := []) (rest := [(.int (3 : Int32)), (.ref b37)]) (lenOf pd4 rfl) rfl (by show 2 * 0 + _ ≤ _; exact Nat.le_of_eq rfl) (hb hby at_64) (fun _ _ => ⟨rfl, e43, (by decide : 0 + 1 + 2 + 1 + 2 + 0 + 0 + 0 ≤ _), (by decide : 0 + 10 + 2 + 4 + 64 + 0 + 0 + 0 ≤ _)⟩)
    dsimp only [Pt.U, Pt.locs, Pt.cells, Pt.slots] at X44 l44 y44 z44 st44 hQ44
    subst l44 y44 z44
    obtain ⟨NQ44, OLq44, Zq44, KQ44, hP44⟩ := hQ44
    obtain ⟨rfl, ⟨OBq44, Vq44a, Vq44b, -, -, -, -, -, -, -, -⟩⟩ := hP44
    have V_A1 := V_A1.keep KQ44 (ninS (Ne.symm ne_b35_A1) nin0)
    have V_A2 := V_A2.keep KQ44 (ninS (Ne.symm ne_b35_A2) nin0)
    have V_b37 := V_b37.keep KQ44 (ninS (Ne.symm ne_b35_b37) nin0)
    have AR_R := own_arrKeep AR_R KQ44 (ninS (Ne.symm ne_b35_R) nin0)
    have AR_I := own_arrKeep AR_I KQ44 (ninS (Ne.symm ne_b35_I) nin0)
    have EX_b37 := EX_b37.keep KQ44
    have OB_b35 := OBq44
    skip
    have OL := OLq44
    have Z0 := Zq44
    refine own_tr st44 ?_
    show own_Go p e below s _ _ _ (T44.setTop (mkF m 67 #[.val (.int p0), .val (.int p1), .val (.int p2), .val (.int p3), .val (.int ((1 : Int32) + (1 : Int32))), .val (.int (((p0.toUInt32 >>> ((2 : Int32) &&& 31).toUInt32).toInt32) &&& (3 : Int32))), .val (.ref b35), .val (.ref b37), .unset, .unset, .unset, .unset, .unset] [(.int ((((1 : Int32) + (1 : Int32)) + (1 : Int32)) + (1 : Int32))), (.int (3 : Int32)), (.ref b37)]))
    have Vx45 := V_b37
    obtain ⟨cl45, Ar45, q45, S45, N45, H45, G45⟩ := Vx45
    have hin45 : ¬ ((3 : Int32) < 0 ∨ cl45.slots.size ≤ ((3 : Int32)).toNatClampNeg) := inb_of S45 ⟨by decide, by decide⟩
    obtain ⟨T45, h45, X45, e45, W45, st45⟩ := stI X44 hx hZ rfl Ar45 (j := (3 : Int32)) hin45 (g := (mkF m 67 #[.val (.int p0), .val (.int p1), .val (.int p2), .val (.int p3), .val (.int ((1 : Int32) + (1 : Int32))), .val (.int (((p0.toUInt32 >>> ((2 : Int32) &&& 31).toUInt32).toInt32) &&& (3 : Int32))), .val (.ref b35), .val (.ref b37), .unset, .unset, .unset, .unset, .unset] [(.int ((((1 : Int32) + (1 : Int32)) + (1 : Int32)) + (1 : Int32))), (.int (3 : Int32)), (.ref b37)])) rfl rfl (hb hby at_67)
    have V_b37 : Arv Z h45 b37 k37 .int (4 : Int32) [(.int (1 : Int32)), (.int ((1 : Int32) + (1 : Int32))), (.int (((1 : Int32) + (1 : Int32)) + (1 : Int32))), (.int ((((1 : Int32) + (1 : Int32)) + (1 : Int32)) + (1 : Int32)))] (.int 0) := Arv.set Ar45 q45 S45 N45 H45 G45 rfl W45 3 rfl (Nat.le_of_ble_eq_true rfl)
    have N45 := Fr.snoc X45 (Fr.app N43 NQ44) g_b37
    have Z0 := Nat.le_trans Z0 (Keep.of_wr W45).1
    have OL := OL.wr W45 g_b37
    skip
    have OB_b35 := OB_b35.other W45 ne_b35_b37
    have V_A1 := V_A1.other W45 ne_A1_b37
    have V_A2 := V_A2.other W45 ne_A2_b37
    have AR_R := AR_R.other W45 (Ne.symm ne_b37_R)
    have AR_I := AR_I.other W45 (Ne.symm ne_b37_I)
    have EX_b37 := EX_b37.wr W45
    refine own_via st45 ?_
    show own_Go p e below s _ _ _ (T45.setTop (mkF m 68 #[.val (.int p0), .val (.int p1), .val (.int p2), .val (.int p3), .val (.int ((1 : Int32) + (1 : Int32))), .val (.int (((p0.toUInt32 >>> ((2 : Int32) &&& 31).toUInt32).toInt32) &&& (3 : Int32))), .val (.ref b35), .val (.ref b37), .unset, .unset, .unset, .unset, .unset] []))
    refine own_via (fun _ k => XS.aload X45.here hx rfl (hb hby at_68) rfl rfl k) ?_
    show own_Go p e below s _ _ _ (T45.setTop (mkF m 70 #[.val (.int p0), .val (.int p1), .val (.int p2), .val (.int p3), .val (.int ((1 : Int32) + (1 : Int32))), .val (.int (((p0.toUInt32 >>> ((2 : Int32) &&& 31).toUInt32).toInt32) &&& (3 : Int32))), .val (.ref b35), .val (.ref b37), .unset, .unset, .unset, .unset, .unset] [(.ref b37)]))
    refine own_via (fun _ k => XS.iloadN X45.here hx rfl (hb hby at_70) rfl k) ?_
    show own_Go p e below s _ _ _ (T45.setTop (mkF m 71 #[.val (.int p0), .val (.int p1), .val (.int p2), .val (.int p3), .val (.int ((1 : Int32) + (1 : Int32))), .val (.int (((p0.toUInt32 >>> ((2 : Int32) &&& 31).toUInt32).toInt32) &&& (3 : Int32))), .val (.ref b35), .val (.ref b37), .unset, .unset, .unset, .unset, .unset] [(.int p1), (.ref b37)]))
    refine own_via (fun _ k => XS.iconst X45.here hx rfl (hb hby at_71) k) ?_
    show own_Go p e below s _ _ _ (T45.setTop (mkF m 72 #[.val (.int p0), .val (.int p1), .val (.int p2), .val (.int p3), .val (.int ((1 : Int32) + (1 : Int32))), .val (.int (((p0.toUInt32 >>> ((2 : Int32) &&& 31).toUInt32).toInt32) &&& (3 : Int32))), .val (.ref b35), .val (.ref b37), .unset, .unset, .unset, .unset, .unset] [(.int (3 : Int32)), (.int p1), (.ref b37)]))
    refine own_via (fun _ k => XS.iand X45.here hx rfl (hb hby at_72) rfl k) ?_
    show own_Go p e below s _ _ _ (T45.setTop (mkF m 73 #[.val (.int p0), .val (.int p1), .val (.int p2), .val (.int p3), .val (.int ((1 : Int32) + (1 : Int32))), .val (.int (((p0.toUInt32 >>> ((2 : Int32) &&& 31).toUInt32).toInt32) &&& (3 : Int32))), .val (.ref b35), .val (.ref b37), .unset, .unset, .unset, .unset, .unset] [(.int (p1 &&& (3 : Int32))), (.ref b37)]))
    have Vx46 := V_b37
    obtain ⟨cl46, Ar46, q46, S46, N46, H46, G46⟩ := Vx46
    have hin46 : ¬ ((p1 &&& (3 : Int32)) < 0 ∨ cl46.slots.size ≤ ((p1 &&& (3 : Int32))).toNatClampNeg) := own_inb S46 (own_a3 _).1 (own_a3 _).2
    obtain ⟨r46, hat46, hrb46⟩ := own_giv H46 S46 hin46 (by decide) (by decide) (by decide) (by decide)
    refine own_via (fun _ k => X45.iaload hx (j := (p1 &&& (3 : Int32))) (v := (.int r46)) (by rw [e45]; exact Ar46.1) (State.isArrayOf_alike hZ.alike Ar46.2.1) Ar46.2.2 hin46 hat46 (g := (mkF m 73 #[.val (.int p0), .val (.int p1), .val (.int p2), .val (.int p3), .val (.int ((1 : Int32) + (1 : Int32))), .val (.int (((p0.toUInt32 >>> ((2 : Int32) &&& 31).toUInt32).toInt32) &&& (3 : Int32))), .val (.ref b35), .val (.ref b37), .unset, .unset, .unset, .unset, .unset] [(.int (p1 &&& (3 : Int32))), (.ref b37)])) rfl rfl (hb hby at_73) _ k) ?_
    show own_Go p e below s _ _ _ (T45.setTop (mkF m 74 #[.val (.int p0), .val (.int p1), .val (.int p2), .val (.int p3), .val (.int ((1 : Int32) + (1 : Int32))), .val (.int (((p0.toUInt32 >>> ((2 : Int32) &&& 31).toUInt32).toInt32) &&& (3 : Int32))), .val (.ref b35), .val (.ref b37), .unset, .unset, .unset, .unset, .unset] [(.int r46)]))
    refine own_via (fun _ k => XS.istore X45.here hx rfl (hb hby at_74) rfl (l' := #[.val (.int p0), .val (.int p1), .val (.int p2), .val (.int p3), .val (.int ((1 : Int32) + (1 : Int32))), .val (.int (((p0.toUInt32 >>> ((2 : Int32) &&& 31).toUInt32).toInt32) &&& (3 : Int32))), .val (.ref b35), .val (.ref b37), .val (.int r46), .unset, .unset, .unset, .unset]) rfl k) ?_
    show own_Go p e below s _ _ _ (T45.setTop (mkF m 76 #[.val (.int p0), .val (.int p1), .val (.int p2), .val (.int p3), .val (.int ((1 : Int32) + (1 : Int32))), .val (.int (((p0.toUInt32 >>> ((2 : Int32) &&& 31).toUInt32).toInt32) &&& (3 : Int32))), .val (.ref b35), .val (.ref b37), .val (.int r46), .unset, .unset, .unset, .unset] []))
    refine own_via (fun _ k => XS.iloadN X45.here hx rfl (hb hby at_76) rfl k) ?_
    show own_Go p e below s _ _ _ (T45.setTop (mkF m 77 #[.val (.int p0), .val (.int p1), .val (.int p2), .val (.int p3), .val (.int ((1 : Int32) + (1 : Int32))), .val (.int (((p0.toUInt32 >>> ((2 : Int32) &&& 31).toUInt32).toInt32) &&& (3 : Int32))), .val (.ref b35), .val (.ref b37), .val (.int r46), .unset, .unset, .unset, .unset] [(.int p1)]))
    refine own_via (fun _ k => XS.iconst X45.here hx rfl (hb hby at_77) k) ?_
    show own_Go p e below s _ _ _ (T45.setTop (mkF m 78 #[.val (.int p0), .val (.int p1), .val (.int p2), .val (.int p3), .val (.int ((1 : Int32) + (1 : Int32))), .val (.int (((p0.toUInt32 >>> ((2 : Int32) &&& 31).toUInt32).toInt32) &&& (3 : Int32))), .val (.ref b35), .val (.ref b37), .val (.int r46), .unset, .unset, .unset, .unset] [(.int (2 : Int32)), (.int p1)]))
    refine own_via (fun _ k => XS.iushr X45.here hx rfl (hb hby at_78) rfl k) ?_
    show own_Go p e below s _ _ _ (T45.setTop (mkF m 79 #[.val (.int p0), .val (.int p1), .val (.int p2), .val (.int p3), .val (.int ((1 : Int32) + (1 : Int32))), .val (.int (((p0.toUInt32 >>> ((2 : Int32) &&& 31).toUInt32).toInt32) &&& (3 : Int32))), .val (.ref b35), .val (.ref b37), .val (.int r46), .unset, .unset, .unset, .unset] [(.int ((p1.toUInt32 >>> ((2 : Int32) &&& 31).toUInt32).toInt32))]))
    refine own_via (fun _ k => XS.iconst X45.here hx rfl (hb hby at_79) k) ?_
    show own_Go p e below s _ _ _ (T45.setTop (mkF m 80 #[.val (.int p0), .val (.int p1), .val (.int p2), .val (.int p3), .val (.int ((1 : Int32) + (1 : Int32))), .val (.int (((p0.toUInt32 >>> ((2 : Int32) &&& 31).toUInt32).toInt32) &&& (3 : Int32))), .val (.ref b35), .val (.ref b37), .val (.int r46), .unset, .unset, .unset, .unset] [(.int (3 : Int32)), (.int ((p1.toUInt32 >>> ((2 : Int32) &&& 31).toUInt32).toInt32))]))
    refine own_via (fun _ k => XS.iand X45.here hx rfl (hb hby at_80) rfl k) ?_
    show own_Go p e below s _ _ _ (T45.setTop (mkF m 81 #[.val (.int p0), .val (.int p1), .val (.int p2), .val (.int p3), .val (.int ((1 : Int32) + (1 : Int32))), .val (.int (((p0.toUInt32 >>> ((2 : Int32) &&& 31).toUInt32).toInt32) &&& (3 : Int32))), .val (.ref b35), .val (.ref b37), .val (.int r46), .unset, .unset, .unset, .unset] [(.int (((p1.toUInt32 >>> ((2 : Int32) &&& 31).toUInt32).toInt32) &&& (3 : Int32)))]))
    refine own_via (fun _ k => XS.iload X45.here hx rfl (hb hby at_81) rfl k) ?_
    show own_Go p e below s _ _ _ (T45.setTop (mkF m 83 #[.val (.int p0), .val (.int p1), .val (.int p2), .val (.int p3), .val (.int ((1 : Int32) + (1 : Int32))), .val (.int (((p0.toUInt32 >>> ((2 : Int32) &&& 31).toUInt32).toInt32) &&& (3 : Int32))), .val (.ref b35), .val (.ref b37), .val (.int r46), .unset, .unset, .unset, .unset] [(.int ((1 : Int32) + (1 : Int32))), (.int (((p1.toUInt32 >>> ((2 : Int32) &&& 31).toUInt32).toInt32) &&& (3 : Int32)))]))
    refine own_via (fun _ k => iremM X45 hx rfl (hb hby at_83) rfl (by decide : ¬ (((1 : Int32) + (1 : Int32)) = (0 : Int32))) k) ?_
    have hfb47 : 0 ≤ ((((p1.toUInt32 >>> ((2 : Int32) &&& 31).toUInt32).toInt32) &&& (3 : Int32)) % ((1 : Int32) + (1 : Int32))).toInt ∧ ((((p1.toUInt32 >>> ((2 : Int32) &&& 31).toUInt32).toInt32) &&& (3 : Int32)) % ((1 : Int32) + (1 : Int32))).toInt < 2 := own_fb rfl (by decide) (own_a3 _).1
    obtain ⟨f47, hf47⟩ : ∃ z : Int32, z = ((((p1.toUInt32 >>> ((2 : Int32) &&& 31).toUInt32).toInt32) &&& (3 : Int32)) % ((1 : Int32) + (1 : Int32))) := ⟨_, rfl⟩
    rw [← hf47] at hfb47
    rw [← hf47]
    show own_Go p e below s _ _ _ (T45.setTop (mkF m 84 #[.val (.int p0), .val (.int p1), .val (.int p2), .val (.int p3), .val (.int ((1 : Int32) + (1 : Int32))), .val (.int (((p0.toUInt32 >>> ((2 : Int32) &&& 31).toUInt32).toInt32) &&& (3 : Int32))), .val (.ref b35), .val (.ref b37), .val (.int r46), .unset, .unset, .unset, .unset] [(.int f47)]))
    refine own_via (fun _ k => XS.istore X45.here hx rfl (hb hby at_84) rfl (l' := #[.val (.int p0), .val (.int p1), .val (.int p2), .val (.int p3), .val (.int ((1 : Int32) + (1 : Int32))), .val (.int (((p0.toUInt32 >>> ((2 : Int32) &&& 31).toUInt32).toInt32) &&& (3 : Int32))), .val (.ref b35), .val (.ref b37), .val (.int r46), .val (.int f47), .unset, .unset, .unset]) rfl k) ?_
    show own_Go p e below s _ _ _ (T45.setTop (mkF m 86 #[.val (.int p0), .val (.int p1), .val (.int p2), .val (.int p3), .val (.int ((1 : Int32) + (1 : Int32))), .val (.int (((p0.toUInt32 >>> ((2 : Int32) &&& 31).toUInt32).toInt32) &&& (3 : Int32))), .val (.ref b35), .val (.ref b37), .val (.int r46), .val (.int f47), .unset, .unset, .unset] []))
    refine own_via (fun _ k => XS.aload X45.here hx rfl (hb hby at_86) rfl rfl k) ?_
    show own_Go p e below s _ _ _ (T45.setTop (mkF m 88 #[.val (.int p0), .val (.int p1), .val (.int p2), .val (.int p3), .val (.int ((1 : Int32) + (1 : Int32))), .val (.int (((p0.toUInt32 >>> ((2 : Int32) &&& 31).toUInt32).toInt32) &&& (3 : Int32))), .val (.ref b35), .val (.ref b37), .val (.int r46), .val (.int f47), .unset, .unset, .unset] [(.ref b37)]))
    refine own_via (fun _ k => XS.iloadN X45.here hx rfl (hb hby at_88) rfl k) ?_
    show own_Go p e below s _ _ _ (T45.setTop (mkF m 89 #[.val (.int p0), .val (.int p1), .val (.int p2), .val (.int p3), .val (.int ((1 : Int32) + (1 : Int32))), .val (.int (((p0.toUInt32 >>> ((2 : Int32) &&& 31).toUInt32).toInt32) &&& (3 : Int32))), .val (.ref b35), .val (.ref b37), .val (.int r46), .val (.int f47), .unset, .unset, .unset] [(.int p1), (.ref b37)]))
    refine own_via (fun _ k => XS.iconst X45.here hx rfl (hb hby at_89) k) ?_
    show own_Go p e below s _ _ _ (T45.setTop (mkF m 90 #[.val (.int p0), .val (.int p1), .val (.int p2), .val (.int p3), .val (.int ((1 : Int32) + (1 : Int32))), .val (.int (((p0.toUInt32 >>> ((2 : Int32) &&& 31).toUInt32).toInt32) &&& (3 : Int32))), .val (.ref b35), .val (.ref b37), .val (.int r46), .val (.int f47), .unset, .unset, .unset] [(.int (4 : Int32)), (.int p1), (.ref b37)]))
    refine own_via (fun _ k => XS.iushr X45.here hx rfl (hb hby at_90) rfl k) ?_
    show own_Go p e below s _ _ _ (T45.setTop (mkF m 91 #[.val (.int p0), .val (.int p1), .val (.int p2), .val (.int p3), .val (.int ((1 : Int32) + (1 : Int32))), .val (.int (((p0.toUInt32 >>> ((2 : Int32) &&& 31).toUInt32).toInt32) &&& (3 : Int32))), .val (.ref b35), .val (.ref b37), .val (.int r46), .val (.int f47), .unset, .unset, .unset] [(.int ((p1.toUInt32 >>> ((4 : Int32) &&& 31).toUInt32).toInt32)), (.ref b37)]))
    refine own_via (fun _ k => XS.iconst X45.here hx rfl (hb hby at_91) k) ?_
    show own_Go p e below s _ _ _ (T45.setTop (mkF m 92 #[.val (.int p0), .val (.int p1), .val (.int p2), .val (.int p3), .val (.int ((1 : Int32) + (1 : Int32))), .val (.int (((p0.toUInt32 >>> ((2 : Int32) &&& 31).toUInt32).toInt32) &&& (3 : Int32))), .val (.ref b35), .val (.ref b37), .val (.int r46), .val (.int f47), .unset, .unset, .unset] [(.int (3 : Int32)), (.int ((p1.toUInt32 >>> ((4 : Int32) &&& 31).toUInt32).toInt32)), (.ref b37)]))
    refine own_via (fun _ k => XS.iand X45.here hx rfl (hb hby at_92) rfl k) ?_
    show own_Go p e below s _ _ _ (T45.setTop (mkF m 93 #[.val (.int p0), .val (.int p1), .val (.int p2), .val (.int p3), .val (.int ((1 : Int32) + (1 : Int32))), .val (.int (((p0.toUInt32 >>> ((2 : Int32) &&& 31).toUInt32).toInt32) &&& (3 : Int32))), .val (.ref b35), .val (.ref b37), .val (.int r46), .val (.int f47), .unset, .unset, .unset] [(.int (((p1.toUInt32 >>> ((4 : Int32) &&& 31).toUInt32).toInt32) &&& (3 : Int32))), (.ref b37)]))
    have Vx48 := V_b37
    obtain ⟨cl48, Ar48, q48, S48, N48, H48, G48⟩ := Vx48
    have hin48 : ¬ ((((p1.toUInt32 >>> ((4 : Int32) &&& 31).toUInt32).toInt32) &&& (3 : Int32)) < 0 ∨ cl48.slots.size ≤ ((((p1.toUInt32 >>> ((4 : Int32) &&& 31).toUInt32).toInt32) &&& (3 : Int32))).toNatClampNeg) := own_inb S48 (own_a3 _).1 (own_a3 _).2
    obtain ⟨r48, hat48, hrb48⟩ := own_giv H48 S48 hin48 (by decide) (by decide) (by decide) (by decide)
    refine own_via (fun _ k => X45.iaload hx (j := (((p1.toUInt32 >>> ((4 : Int32) &&& 31).toUInt32).toInt32) &&& (3 : Int32))) (v := (.int r48)) (by rw [e45]; exact Ar48.1) (State.isArrayOf_alike hZ.alike Ar48.2.1) Ar48.2.2 hin48 hat48 (g := (mkF m 93 #[.val (.int p0), .val (.int p1), .val (.int p2), .val (.int p3), .val (.int ((1 : Int32) + (1 : Int32))), .val (.int (((p0.toUInt32 >>> ((2 : Int32) &&& 31).toUInt32).toInt32) &&& (3 : Int32))), .val (.ref b35), .val (.ref b37), .val (.int r46), .val (.int f47), .unset, .unset, .unset] [(.int (((p1.toUInt32 >>> ((4 : Int32) &&& 31).toUInt32).toInt32) &&& (3 : Int32))), (.ref b37)])) rfl rfl (hb hby at_93) _ k) ?_
    show own_Go p e below s _ _ _ (T45.setTop (mkF m 94 #[.val (.int p0), .val (.int p1), .val (.int p2), .val (.int p3), .val (.int ((1 : Int32) + (1 : Int32))), .val (.int (((p0.toUInt32 >>> ((2 : Int32) &&& 31).toUInt32).toInt32) &&& (3 : Int32))), .val (.ref b35), .val (.ref b37), .val (.int r46), .val (.int f47), .unset, .unset, .unset] [(.int r48)]))
    refine own_via (fun _ k => XS.istore X45.here hx rfl (hb hby at_94) rfl (l' := #[.val (.int p0), .val (.int p1), .val (.int p2), .val (.int p3), .val (.int ((1 : Int32) + (1 : Int32))), .val (.int (((p0.toUInt32 >>> ((2 : Int32) &&& 31).toUInt32).toInt32) &&& (3 : Int32))), .val (.ref b35), .val (.ref b37), .val (.int r46), .val (.int f47), .val (.int r48), .unset, .unset]) rfl k) ?_
    show own_Go p e below s _ _ _ (T45.setTop (mkF m 96 #[.val (.int p0), .val (.int p1), .val (.int p2), .val (.int p3), .val (.int ((1 : Int32) + (1 : Int32))), .val (.int (((p0.toUInt32 >>> ((2 : Int32) &&& 31).toUInt32).toInt32) &&& (3 : Int32))), .val (.ref b35), .val (.ref b37), .val (.int r46), .val (.int f47), .val (.int r48), .unset, .unset] []))
    refine own_via (fun _ k => XS.iloadN X45.here hx rfl (hb hby at_96) rfl k) ?_
    show own_Go p e below s _ _ _ (T45.setTop (mkF m 97 #[.val (.int p0), .val (.int p1), .val (.int p2), .val (.int p3), .val (.int ((1 : Int32) + (1 : Int32))), .val (.int (((p0.toUInt32 >>> ((2 : Int32) &&& 31).toUInt32).toInt32) &&& (3 : Int32))), .val (.ref b35), .val (.ref b37), .val (.int r46), .val (.int f47), .val (.int r48), .unset, .unset] [(.int p1)]))
    refine own_via (fun _ k => XS.bipush X45.here hx rfl (hb hby at_97) k) ?_
    show own_Go p e below s _ _ _ (T45.setTop (mkF m 99 #[.val (.int p0), .val (.int p1), .val (.int p2), .val (.int p3), .val (.int ((1 : Int32) + (1 : Int32))), .val (.int (((p0.toUInt32 >>> ((2 : Int32) &&& 31).toUInt32).toInt32) &&& (3 : Int32))), .val (.ref b35), .val (.ref b37), .val (.int r46), .val (.int f47), .val (.int r48), .unset, .unset] [(.int (6 : Int32)), (.int p1)]))
    refine own_via (fun _ k => XS.iushr X45.here hx rfl (hb hby at_99) rfl k) ?_
    show own_Go p e below s _ _ _ (T45.setTop (mkF m 100 #[.val (.int p0), .val (.int p1), .val (.int p2), .val (.int p3), .val (.int ((1 : Int32) + (1 : Int32))), .val (.int (((p0.toUInt32 >>> ((2 : Int32) &&& 31).toUInt32).toInt32) &&& (3 : Int32))), .val (.ref b35), .val (.ref b37), .val (.int r46), .val (.int f47), .val (.int r48), .unset, .unset] [(.int ((p1.toUInt32 >>> ((6 : Int32) &&& 31).toUInt32).toInt32))]))
    refine own_via (fun _ k => XS.iconst X45.here hx rfl (hb hby at_100) k) ?_
    show own_Go p e below s _ _ _ (T45.setTop (mkF m 101 #[.val (.int p0), .val (.int p1), .val (.int p2), .val (.int p3), .val (.int ((1 : Int32) + (1 : Int32))), .val (.int (((p0.toUInt32 >>> ((2 : Int32) &&& 31).toUInt32).toInt32) &&& (3 : Int32))), .val (.ref b35), .val (.ref b37), .val (.int r46), .val (.int f47), .val (.int r48), .unset, .unset] [(.int (3 : Int32)), (.int ((p1.toUInt32 >>> ((6 : Int32) &&& 31).toUInt32).toInt32))]))
    refine own_via (fun _ k => XS.iand X45.here hx rfl (hb hby at_101) rfl k) ?_
    show own_Go p e below s _ _ _ (T45.setTop (mkF m 102 #[.val (.int p0), .val (.int p1), .val (.int p2), .val (.int p3), .val (.int ((1 : Int32) + (1 : Int32))), .val (.int (((p0.toUInt32 >>> ((2 : Int32) &&& 31).toUInt32).toInt32) &&& (3 : Int32))), .val (.ref b35), .val (.ref b37), .val (.int r46), .val (.int f47), .val (.int r48), .unset, .unset] [(.int (((p1.toUInt32 >>> ((6 : Int32) &&& 31).toUInt32).toInt32) &&& (3 : Int32)))]))
    refine own_via (fun _ k => XS.iload X45.here hx rfl (hb hby at_102) rfl k) ?_
    show own_Go p e below s _ _ _ (T45.setTop (mkF m 104 #[.val (.int p0), .val (.int p1), .val (.int p2), .val (.int p3), .val (.int ((1 : Int32) + (1 : Int32))), .val (.int (((p0.toUInt32 >>> ((2 : Int32) &&& 31).toUInt32).toInt32) &&& (3 : Int32))), .val (.ref b35), .val (.ref b37), .val (.int r46), .val (.int f47), .val (.int r48), .unset, .unset] [(.int ((1 : Int32) + (1 : Int32))), (.int (((p1.toUInt32 >>> ((6 : Int32) &&& 31).toUInt32).toInt32) &&& (3 : Int32)))]))
    refine own_via (fun _ k => iremM X45 hx rfl (hb hby at_104) rfl (by decide : ¬ (((1 : Int32) + (1 : Int32)) = (0 : Int32))) k) ?_
    have hfb49 : 0 ≤ ((((p1.toUInt32 >>> ((6 : Int32) &&& 31).toUInt32).toInt32) &&& (3 : Int32)) % ((1 : Int32) + (1 : Int32))).toInt ∧ ((((p1.toUInt32 >>> ((6 : Int32) &&& 31).toUInt32).toInt32) &&& (3 : Int32)) % ((1 : Int32) + (1 : Int32))).toInt < 2 := own_fb rfl (by decide) (own_a3 _).1
    obtain ⟨f49, hf49⟩ : ∃ z : Int32, z = ((((p1.toUInt32 >>> ((6 : Int32) &&& 31).toUInt32).toInt32) &&& (3 : Int32)) % ((1 : Int32) + (1 : Int32))) := ⟨_, rfl⟩
    rw [← hf49] at hfb49
    rw [← hf49]
    show own_Go p e below s _ _ _ (T45.setTop (mkF m 105 #[.val (.int p0), .val (.int p1), .val (.int p2), .val (.int p3), .val (.int ((1 : Int32) + (1 : Int32))), .val (.int (((p0.toUInt32 >>> ((2 : Int32) &&& 31).toUInt32).toInt32) &&& (3 : Int32))), .val (.ref b35), .val (.ref b37), .val (.int r46), .val (.int f47), .val (.int r48), .unset, .unset] [(.int f49)]))
    refine own_via (fun _ k => XS.istore X45.here hx rfl (hb hby at_105) rfl (l' := #[.val (.int p0), .val (.int p1), .val (.int p2), .val (.int p3), .val (.int ((1 : Int32) + (1 : Int32))), .val (.int (((p0.toUInt32 >>> ((2 : Int32) &&& 31).toUInt32).toInt32) &&& (3 : Int32))), .val (.ref b35), .val (.ref b37), .val (.int r46), .val (.int f47), .val (.int r48), .val (.int f49), .unset]) rfl k) ?_
    show own_Go p e below s _ _ _ (T45.setTop (mkF m 107 #[.val (.int p0), .val (.int p1), .val (.int p2), .val (.int p3), .val (.int ((1 : Int32) + (1 : Int32))), .val (.int (((p0.toUInt32 >>> ((2 : Int32) &&& 31).toUInt32).toInt32) &&& (3 : Int32))), .val (.ref b35), .val (.ref b37), .val (.int r46), .val (.int f47), .val (.int r48), .val (.int f49), .unset] []))
    refine own_via (fun _ k => XS.aload X45.here hx rfl (hb hby at_107) rfl rfl k) ?_
    show own_Go p e below s _ _ _ (T45.setTop (mkF m 109 #[.val (.int p0), .val (.int p1), .val (.int p2), .val (.int p3), .val (.int ((1 : Int32) + (1 : Int32))), .val (.int (((p0.toUInt32 >>> ((2 : Int32) &&& 31).toUInt32).toInt32) &&& (3 : Int32))), .val (.ref b35), .val (.ref b37), .val (.int r46), .val (.int f47), .val (.int r48), .val (.int f49), .unset] [(.ref b35)]))
    refine own_via (fun _ k => XS.iload X45.here hx rfl (hb hby at_109) rfl k) ?_
    show own_Go p e below s _ _ _ (T45.setTop (mkF m 111 #[.val (.int p0), .val (.int p1), .val (.int p2), .val (.int p3), .val (.int ((1 : Int32) + (1 : Int32))), .val (.int (((p0.toUInt32 >>> ((2 : Int32) &&& 31).toUInt32).toInt32) &&& (3 : Int32))), .val (.ref b35), .val (.ref b37), .val (.int r46), .val (.int f47), .val (.int r48), .val (.int f49), .unset] [(.int r48), (.ref b35)]))
    refine own_via (fun _ k => XS.iload X45.here hx rfl (hb hby at_111) rfl k) ?_
    show own_Go p e below s _ _ _ (T45.setTop (mkF m 113 #[.val (.int p0), .val (.int p1), .val (.int p2), .val (.int p3), .val (.int ((1 : Int32) + (1 : Int32))), .val (.int (((p0.toUInt32 >>> ((2 : Int32) &&& 31).toUInt32).toInt32) &&& (3 : Int32))), .val (.ref b35), .val (.ref b37), .val (.int r46), .val (.int f47), .val (.int r48), .val (.int f49), .unset] [(.int f49), (.int r48), (.ref b35)]))
    refine own_via (fun _ k => XS.iloadN X45.here hx rfl (hb hby at_113) rfl k) ?_
    show own_Go p e below s _ _ _ (T45.setTop (mkF m 114 #[.val (.int p0), .val (.int p1), .val (.int p2), .val (.int p3), .val (.int ((1 : Int32) + (1 : Int32))), .val (.int (((p0.toUInt32 >>> ((2 : Int32) &&& 31).toUInt32).toInt32) &&& (3 : Int32))), .val (.ref b35), .val (.ref b37), .val (.int r46), .val (.int f47), .val (.int r48), .val (.int f49), .unset] [(.int p3), (.int f49), (.int r48), (.ref b35)]))
    have ix51 : (((r48 &&& (4095 : Int32)) * ((1 : Int32) + (1 : Int32))) + f49).toInt = r48.toInt * 2 + f49.toInt := own_ix2 hrb48 hfb49
    obtain ⟨cq50, kq50, q50a, q50b, q50c⟩ := isOf hZ e45 OB_b35.1
    obtain ⟨_, _, ⟨T50, L50, k50, n50⟩, -, X50, ⟨Lc50, hQ50, l50, y50, z50⟩, st50⟩ := X45.virtualBack hx (y := (⟨"com/example/whenever/whenever/internal/engine/Rows", "setInt", "(III)V"⟩ : MethodName)) (z := (⟨"com/example/whenever/whenever/internal/engine/Rows", "setInt", "(III)V"⟩ : MethodName)) hown (mvT hZ (hw _ (List.mem_of_getElem? (i := 76) rfl))) (mvT hZ (hw _ (List.mem_of_getElem? (i := 77) rfl))) (notFace_of_selects (args := #[]) (mvT hZ (hw _ (List.mem_of_getElem? (i := 79) rfl)))) (mvT hZ (hw _ (List.mem_of_getElem? (i := 79) rfl))) (mvT hZ (hw _ (List.mem_of_getElem? (i := 78) rfl))) (by decide) (backOf (W := 0) (rm10_1 l Z a0 hw [] b35 A1 A2 I R k1 k2 (((((1 : Int32) + (1 : Int32)) + (1 : Int32)) + (1 : Int32)) + (1 : Int32)) ((1 : Int32) + (1 : Int32)) (((p0.toUInt32 >>> ((2 : Int32) &&& 31).toUInt32).toInt32) &&& (3 : Int32)) cl r48 f49 p3 w0 w1 mr kw0 kw1 h45 n0 Z0 K0 OL (own_blk hrb48) (own_inx SI ix51 hrb48 hfb49) ⟨OB_b35, V_A1, V_A2, OV_A1, OV_A2, ne_b35_A1, ne_b35_A2, ne_A1_A2, g_b35, g_A1, g_A2⟩ AR_I ne_b35_I ne_A1_I ne_A2_I g_I) hZ (hw _ (List.mem_of_getElem? (i := 80) rfl)) (hw _ (List.mem_of_getElem? (i := 2) rfl)) (by decide) (by decide)) q50a q50c (g := (mkF m 114 #[.val (.int p0), .val (.int p1), .val (.int p2), .val (.int p3), .val (.int ((1 : Int32) + (1 : Int32))), .val (.int (((p0.toUInt32 >>> ((2 : Int32) &&& 31).toUInt32).toInt32) &&& (3 : Int32))), .val (.ref b35), .val (.ref b37), .val (.int r46), .val (.int f47), .val (.int r48), .val (.int f49), .unset] [(.int p3), (.int f49), (.int r48), (.ref b35)])) rfl (by rw [hml]; rfl) (Steps.refl _) (argsL := [(.int r48), (.int f49), (.int p3)]) (rest := []) (lenOf pd5 rfl) rfl (by show 2 * 0 + _ ≤ _; exact Nat.le_of_eq rfl) (hb hby at_114) (fun _ _ => ⟨rfl, e45, (by decide : 0 + 1 + 2 + 1 + 2 + 0 + 0 + 0 + 0 ≤ _), (by decide : 0 + 10 + 2 + 4 + 64 + 0 + 0 + 0 + 0 ≤ _)⟩)
    dsimp only [Pt.U, Pt.locs, Pt.cells, Pt.slots] at X50 l50 y50 z50 st50 hQ50
    subst l50 y50 z50
    obtain ⟨NQ50, OLq50, Zq50, KQ50, hP50⟩ := hQ50
    obtain ⟨rfl, -, ARq50⟩ := hP50
    have OB_b35 := OB_b35.keep KQ50 (ninS ne_b35_I nin0)
    have V_A1 := V_A1.keep KQ50 (ninS ne_A1_I nin0)
    have V_A2 := V_A2.keep KQ50 (ninS ne_A2_I nin0)
    have V_b37 := V_b37.keep KQ50 (ninS ne_b37_I nin0)
    have AR_R := own_arrKeep AR_R KQ50 (ninS (Ne.symm ne_I_R) nin0)
    have EX_b37 := EX_b37.keep KQ50
    have AR_I := ARq50
    skip
    have OL := OLq50
    have Z0 := Zq50
    refine own_tr st50 ?_
    show own_Go p e below s _ _ _ (T50.setTop (mkF m 117 #[.val (.int p0), .val (.int p1), .val (.int p2), .val (.int p3), .val (.int ((1 : Int32) + (1 : Int32))), .val (.int (((p0.toUInt32 >>> ((2 : Int32) &&& 31).toUInt32).toInt32) &&& (3 : Int32))), .val (.ref b35), .val (.ref b37), .val (.int r46), .val (.int f47), .val (.int r48), .val (.int f49), .unset] []))
    refine own_via (fun _ k => XS.aload X50.here hx rfl (hb hby at_117) rfl rfl k) ?_
    show own_Go p e below s _ _ _ (T50.setTop (mkF m 119 #[.val (.int p0), .val (.int p1), .val (.int p2), .val (.int p3), .val (.int ((1 : Int32) + (1 : Int32))), .val (.int (((p0.toUInt32 >>> ((2 : Int32) &&& 31).toUInt32).toInt32) &&& (3 : Int32))), .val (.ref b35), .val (.ref b37), .val (.int r46), .val (.int f47), .val (.int r48), .val (.int f49), .unset] [(.ref b35)]))
    refine own_via (fun _ k => XS.iload X50.here hx rfl (hb hby at_119) rfl k) ?_
    show own_Go p e below s _ _ _ (T50.setTop (mkF m 121 #[.val (.int p0), .val (.int p1), .val (.int p2), .val (.int p3), .val (.int ((1 : Int32) + (1 : Int32))), .val (.int (((p0.toUInt32 >>> ((2 : Int32) &&& 31).toUInt32).toInt32) &&& (3 : Int32))), .val (.ref b35), .val (.ref b37), .val (.int r46), .val (.int f47), .val (.int r48), .val (.int f49), .unset] [(.int r46), (.ref b35)]))
    refine own_via (fun _ k => XS.iload X50.here hx rfl (hb hby at_121) rfl k) ?_
    show own_Go p e below s _ _ _ (T50.setTop (mkF m 123 #[.val (.int p0), .val (.int p1), .val (.int p2), .val (.int p3), .val (.int ((1 : Int32) + (1 : Int32))), .val (.int (((p0.toUInt32 >>> ((2 : Int32) &&& 31).toUInt32).toInt32) &&& (3 : Int32))), .val (.ref b35), .val (.ref b37), .val (.int r46), .val (.int f47), .val (.int r48), .val (.int f49), .unset] [(.int f47), (.int r46), (.ref b35)]))
    refine own_via (fun _ k => XS.iloadN X50.here hx rfl (hb hby at_123) rfl k) ?_
    show own_Go p e below s _ _ _ (T50.setTop (mkF m 124 #[.val (.int p0), .val (.int p1), .val (.int p2), .val (.int p3), .val (.int ((1 : Int32) + (1 : Int32))), .val (.int (((p0.toUInt32 >>> ((2 : Int32) &&& 31).toUInt32).toInt32) &&& (3 : Int32))), .val (.ref b35), .val (.ref b37), .val (.int r46), .val (.int f47), .val (.int r48), .val (.int f49), .unset] [(.int p2), (.int f47), (.int r46), (.ref b35)]))
    have ix53 : (((r46 &&& (4095 : Int32)) * ((1 : Int32) + (1 : Int32))) + f47).toInt = r46.toInt * 2 + f47.toInt := own_ix2 hrb46 hfb47
    obtain ⟨cq52, kq52, q52a, q52b, q52c⟩ := isOf hZ rfl OB_b35.1
    obtain ⟨_, _, ⟨T52, L52, k52, n52⟩, -, X52, ⟨Lc52, hQ52, l52, y52, z52⟩, st52⟩ := X50.virtualBack hx (y := (⟨"com/example/whenever/whenever/internal/engine/Rows", "setInt", "(III)V"⟩ : MethodName)) (z := (⟨"com/example/whenever/whenever/internal/engine/Rows", "setInt", "(III)V"⟩ : MethodName)) hown (mvT hZ (hw _ (List.mem_of_getElem? (i := 76) rfl))) (mvT hZ (hw _ (List.mem_of_getElem? (i := 77) rfl))) (notFace_of_selects (args := #[]) (mvT hZ (hw _ (List.mem_of_getElem? (i := 79) rfl)))) (mvT hZ (hw _ (List.mem_of_getElem? (i := 79) rfl))) (mvT hZ (hw _ (List.mem_of_getElem? (i := 78) rfl))) (by decide) (backOf (W := 0) (rm10_1 l Z a0 hw [] b35 A1 A2 I R k1 k2 (((((1 : Int32) + (1 : Int32)) + (1 : Int32)) + (1 : Int32)) + (1 : Int32)) ((1 : Int32) + (1 : Int32)) (((p0.toUInt32 >>> ((2 : Int32) &&& 31).toUInt32).toInt32) &&& (3 : Int32)) (cl.setSlot ((((r48 &&& (4095 : Int32)) * ((1 : Int32) + (1 : Int32))) + f49)).toNatClampNeg (.int p3)) r46 f47 p2 w0 w1 mr kw0 kw1 T50.heap n0 Z0 K0 OL (own_blk hrb46) (own_inx ((sz_set _ _ _).trans SI) ix53 hrb46 hfb47) ⟨OB_b35, V_A1, V_A2, OV_A1, OV_A2, ne_b35_A1, ne_b35_A2, ne_A1_A2, g_b35, g_A1, g_A2⟩ AR_I ne_b35_I ne_A1_I ne_A2_I g_I) hZ (hw _ (List.mem_of_getElem? (i := 80) rfl)) (hw _ (List.mem_of_getElem? (i := 2) rfl)) (by decide) (by decide)) q52a q52c (g := (mkF m 124 #[.val (.int p0), .val (.int p1), .val (.int p2), .val (.int p3), .val (.int ((1 : Int32) + (1 : Int32))), .val (.int (((p0.toUInt32 >>> ((2 : Int32) &&& 31).toUInt32).toInt32) &&& (3 : Int32))), .val (.ref b35), .val (.ref b37), .val (.int r46), .val (.int f47), .val (.int r48), .val (.int f49), .unset] [(.int p2), (.int f47), (.int r46), (.ref b35)])) rfl (by rw [hml]; rfl) (Steps.refl _) (argsL := [(.int r46), (.int f47), (.int p2)]) (rest := []) (lenOf pd5 rfl) rfl (by show 2 * 0 + _ ≤ _; exact Nat.le_of_eq rfl) (hb hby at_124) (fun _ _ => ⟨rfl, rfl, (by decide : 0 + 1 + 2 + 1 + 2 + 0 + 0 + 0 + 0 + 0 ≤ _), (by decide : 0 + 10 + 2 + 4 + 64 + 0 + 0 + 0 + 0 + 0 ≤ _)⟩)
    dsimp only [Pt.U, Pt.locs, Pt.cells, Pt.slots] at X52 l52 y52 z52 st52 hQ52
    subst l52 y52 z52
    obtain ⟨NQ52, OLq52, Zq52, KQ52, hP52⟩ := hQ52
    obtain ⟨rfl, -, ARq52⟩ := hP52
    have OB_b35 := OB_b35.keep KQ52 (ninS ne_b35_I nin0)
    have V_A1 := V_A1.keep KQ52 (ninS ne_A1_I nin0)
    have V_A2 := V_A2.keep KQ52 (ninS ne_A2_I nin0)
    have V_b37 := V_b37.keep KQ52 (ninS ne_b37_I nin0)
    have AR_R := own_arrKeep AR_R KQ52 (ninS (Ne.symm ne_I_R) nin0)
    have EX_b37 := EX_b37.keep KQ52
    have AR_I := ARq52
    skip
    have OL := OLq52
    have Z0 := Zq52
    refine own_tr st52 ?_
    show own_Go p e below s _ _ _ (T52.setTop (mkF m 127 #[.val (.int p0), .val (.int p1), .val (.int p2), .val (.int p3), .val (.int ((1 : Int32) + (1 : Int32))), .val (.int (((p0.toUInt32 >>> ((2 : Int32) &&& 31).toUInt32).toInt32) &&& (3 : Int32))), .val (.ref b35), .val (.ref b37), .val (.int r46), .val (.int f47), .val (.int r48), .val (.int f49), .unset] []))
    refine own_via (fun _ k => XS.iload X52.here hx rfl (hb hby at_127) rfl k) ?_
    show own_Go p e below s _ _ _ (T52.setTop (mkF m 129 #[.val (.int p0), .val (.int p1), .val (.int p2), .val (.int p3), .val (.int ((1 : Int32) + (1 : Int32))), .val (.int (((p0.toUInt32 >>> ((2 : Int32) &&& 31).toUInt32).toInt32) &&& (3 : Int32))), .val (.ref b35), .val (.ref b37), .val (.int r46), .val (.int f47), .val (.int r48), .val (.int f49), .unset] [(.int r46)]))
    refine own_via (fun _ k => XS.iload X52.here hx rfl (hb hby at_129) rfl k) ?_
    show own_Go p e below s _ _ _ (T52.setTop (mkF m 131 #[.val (.int p0), .val (.int p1), .val (.int p2), .val (.int p3), .val (.int ((1 : Int32) + (1 : Int32))), .val (.int (((p0.toUInt32 >>> ((2 : Int32) &&& 31).toUInt32).toInt32) &&& (3 : Int32))), .val (.ref b35), .val (.ref b37), .val (.int r46), .val (.int f47), .val (.int r48), .val (.int f49), .unset] [(.int r48), (.int r46)]))
    by_cases hc54 : r46 = r48
    · refine own_via (fun _ k => XS.icmpNo X52.here hx rfl (hb hby at_131) rfl (teq hc54).2 k) ?_
      show own_Go p e below s _ _ _ (T52.setTop (mkF m 134 #[.val (.int p0), .val (.int p1), .val (.int p2), .val (.int p3), .val (.int ((1 : Int32) + (1 : Int32))), .val (.int (((p0.toUInt32 >>> ((2 : Int32) &&& 31).toUInt32).toInt32) &&& (3 : Int32))), .val (.ref b35), .val (.ref b37), .val (.int r46), .val (.int f47), .val (.int r48), .val (.int f49), .unset] []))
      refine own_via (fun _ k => XS.iload X52.here hx rfl (hb hby at_134) rfl k) ?_
      show own_Go p e below s _ _ _ (T52.setTop (mkF m 136 #[.val (.int p0), .val (.int p1), .val (.int p2), .val (.int p3), .val (.int ((1 : Int32) + (1 : Int32))), .val (.int (((p0.toUInt32 >>> ((2 : Int32) &&& 31).toUInt32).toInt32) &&& (3 : Int32))), .val (.ref b35), .val (.ref b37), .val (.int r46), .val (.int f47), .val (.int r48), .val (.int f49), .unset] [(.int f47)]))
      refine own_via (fun _ k => XS.iload X52.here hx rfl (hb hby at_136) rfl k) ?_
      show own_Go p e below s _ _ _ (T52.setTop (mkF m 138 #[.val (.int p0), .val (.int p1), .val (.int p2), .val (.int p3), .val (.int ((1 : Int32) + (1 : Int32))), .val (.int (((p0.toUInt32 >>> ((2 : Int32) &&& 31).toUInt32).toInt32) &&& (3 : Int32))), .val (.ref b35), .val (.ref b37), .val (.int r46), .val (.int f47), .val (.int r48), .val (.int f49), .unset] [(.int f49), (.int f47)]))
      by_cases hc55 : f47 = f49
      · refine own_via (fun _ k => XS.icmpNo X52.here hx rfl (hb hby at_138) rfl (teq hc55).2 k) ?_
        show own_Go p e below s _ _ _ (T52.setTop (mkF m 141 #[.val (.int p0), .val (.int p1), .val (.int p2), .val (.int p3), .val (.int ((1 : Int32) + (1 : Int32))), .val (.int (((p0.toUInt32 >>> ((2 : Int32) &&& 31).toUInt32).toInt32) &&& (3 : Int32))), .val (.ref b35), .val (.ref b37), .val (.int r46), .val (.int f47), .val (.int r48), .val (.int f49), .unset] []))
        refine own_via (fun _ k => XS.iloadN X52.here hx rfl (hb hby at_141) rfl k) ?_
        show own_Go p e below s _ _ _ (T52.setTop (mkF m 142 #[.val (.int p0), .val (.int p1), .val (.int p2), .val (.int p3), .val (.int ((1 : Int32) + (1 : Int32))), .val (.int (((p0.toUInt32 >>> ((2 : Int32) &&& 31).toUInt32).toInt32) &&& (3 : Int32))), .val (.ref b35), .val (.ref b37), .val (.int r46), .val (.int f47), .val (.int r48), .val (.int f49), .unset] [(.int p2)]))
        refine own_via (fun _ k => XS.goto X52.here hx rfl (pc0 := 142) (pc' := 146) rfl (hb hby at_142) (by decide) (by decide) k) ?_
        show own_Go p e below s _ _ _ (T52.setTop (mkF m 146 #[.val (.int p0), .val (.int p1), .val (.int p2), .val (.int p3), .val (.int ((1 : Int32) + (1 : Int32))), .val (.int (((p0.toUInt32 >>> ((2 : Int32) &&& 31).toUInt32).toInt32) &&& (3 : Int32))), .val (.ref b35), .val (.ref b37), .val (.int r46), .val (.int f47), .val (.int r48), .val (.int f49), .unset] [(.int p2)]))
        refine own_via (fun _ k => XS.istore X52.here hx rfl (hb hby at_146) rfl (l' := #[.val (.int p0), .val (.int p1), .val (.int p2), .val (.int p3), .val (.int ((1 : Int32) + (1 : Int32))), .val (.int (((p0.toUInt32 >>> ((2 : Int32) &&& 31).toUInt32).toInt32) &&& (3 : Int32))), .val (.ref b35), .val (.ref b37), .val (.int r46), .val (.int f47), .val (.int r48), .val (.int f49), .val (.int p2)]) rfl k) ?_
        show own_Go p e below s _ _ _ (T52.setTop (mkF m 148 #[.val (.int p0), .val (.int p1), .val (.int p2), .val (.int p3), .val (.int ((1 : Int32) + (1 : Int32))), .val (.int (((p0.toUInt32 >>> ((2 : Int32) &&& 31).toUInt32).toInt32) &&& (3 : Int32))), .val (.ref b35), .val (.ref b37), .val (.int r46), .val (.int f47), .val (.int r48), .val (.int f49), .val (.int p2)] []))
        refine own_via (fun _ k => XS.aload X52.here hx rfl (hb hby at_148) rfl rfl k) ?_
        show own_Go p e below s _ _ _ (T52.setTop (mkF m 150 #[.val (.int p0), .val (.int p1), .val (.int p2), .val (.int p3), .val (.int ((1 : Int32) + (1 : Int32))), .val (.int (((p0.toUInt32 >>> ((2 : Int32) &&& 31).toUInt32).toInt32) &&& (3 : Int32))), .val (.ref b35), .val (.ref b37), .val (.int r46), .val (.int f47), .val (.int r48), .val (.int f49), .val (.int p2)] [(.ref b35)]))
        refine own_via (fun _ k => XS.iload X52.here hx rfl (hb hby at_150) rfl k) ?_
        show own_Go p e below s _ _ _ (T52.setTop (mkF m 152 #[.val (.int p0), .val (.int p1), .val (.int p2), .val (.int p3), .val (.int ((1 : Int32) + (1 : Int32))), .val (.int (((p0.toUInt32 >>> ((2 : Int32) &&& 31).toUInt32).toInt32) &&& (3 : Int32))), .val (.ref b35), .val (.ref b37), .val (.int r46), .val (.int f47), .val (.int r48), .val (.int f49), .val (.int p2)] [(.int r46), (.ref b35)]))
        refine own_via (fun _ k => XS.iload X52.here hx rfl (hb hby at_152) rfl k) ?_
        show own_Go p e below s _ _ _ (T52.setTop (mkF m 154 #[.val (.int p0), .val (.int p1), .val (.int p2), .val (.int p3), .val (.int ((1 : Int32) + (1 : Int32))), .val (.int (((p0.toUInt32 >>> ((2 : Int32) &&& 31).toUInt32).toInt32) &&& (3 : Int32))), .val (.ref b35), .val (.ref b37), .val (.int r46), .val (.int f47), .val (.int r48), .val (.int f49), .val (.int p2)] [(.int f47), (.int r46), (.ref b35)]))
        have hat56 : ((cl.setSlot ((((r48 &&& (4095 : Int32)) * ((1 : Int32) + (1 : Int32))) + f49)).toNatClampNeg (.int p3)).setSlot ((((r46 &&& (4095 : Int32)) * ((1 : Int32) + (1 : Int32))) + f47)).toNatClampNeg (.int p2)).slots[((((r46 &&& (4095 : Int32)) * ((1 : Int32) + (1 : Int32))) + f47)).toNatClampNeg]? = some (.int p2) := (get_hit (own_inx ((sz_set _ _ _).trans SI) ix53 hrb46 hfb47) rfl)
        obtain ⟨cq56, kq56, q56a, q56b, q56c⟩ := isOf hZ rfl OB_b35.1
        obtain ⟨_, _, ⟨T56, L56, k56, n56⟩, -, X56, ⟨Lc56, hQ56, l56, y56, z56⟩, st56⟩ := X52.virtualBack hx (y := (⟨"com/example/whenever/whenever/internal/engine/Rows", "getInt", "(II)I"⟩ : MethodName)) (z := (⟨"com/example/whenever/whenever/internal/engine/Rows", "getInt", "(II)I"⟩ : MethodName)) hown (mvT hZ (hw _ (List.mem_of_getElem? (i := 81) rfl))) (mvT hZ (hw _ (List.mem_of_getElem? (i := 82) rfl))) (notFace_of_selects (args := #[]) (mvT hZ (hw _ (List.mem_of_getElem? (i := 84) rfl)))) (mvT hZ (hw _ (List.mem_of_getElem? (i := 84) rfl))) (mvT hZ (hw _ (List.mem_of_getElem? (i := 83) rfl))) (by decide) (backOf (W := 0) (rm11_1 l Z a0 hw [] b35 A1 A2 I R k1 k2 (((((1 : Int32) + (1 : Int32)) + (1 : Int32)) + (1 : Int32)) + (1 : Int32)) ((1 : Int32) + (1 : Int32)) (((p0.toUInt32 >>> ((2 : Int32) &&& 31).toUInt32).toInt32) &&& (3 : Int32)) ((cl.setSlot ((((r48 &&& (4095 : Int32)) * ((1 : Int32) + (1 : Int32))) + f49)).toNatClampNeg (.int p3)).setSlot ((((r46 &&& (4095 : Int32)) * ((1 : Int32) + (1 : Int32))) + f47)).toNatClampNeg (.int p2)) r46 f47 p2 w0 w1 mr kw0 kw1 T52.heap n0 Z0 K0 OL (own_blk hrb46) (own_inx ((sz_set _ _ _).trans ((sz_set _ _ _).trans SI)) ix53 hrb46 hfb47) hat56 ⟨OB_b35, V_A1, V_A2, OV_A1, OV_A2, ne_b35_A1, ne_b35_A2, ne_A1_A2, g_b35, g_A1, g_A2⟩ AR_I) hZ (hw _ (List.mem_of_getElem? (i := 85) rfl)) (hw _ (List.mem_of_getElem? (i := 2) rfl)) (by decide) (by decide)) q56a q56c (g := (mkF m 154 #[.val (.int p0), .val (.int p1), .val (.int p2), .val (.int p3), .val (.int ((1 : Int32) + (1 : Int32))), .val (.int (((p0.toUInt32 >>> ((2 : Int32) &&& 31).toUInt32).toInt32) &&& (3 : Int32))), .val (.ref b35), .val (.ref b37), .val (.int r46), .val (.int f47), .val (.int r48), .val (.int f49), .val (.int p2)] [(.int f47), (.int r46), (.ref b35)])) rfl (by rw [hml]; rfl) (Steps.refl _) (argsL := [(.int r46), (.int f47)]) (rest := []) (lenOf pd1 rfl) rfl (by show 2 * 0 + _ ≤ _; exact Nat.le_of_eq rfl) (hb hby at_154) (fun _ _ => ⟨rfl, rfl, (by decide : 0 + 1 + 2 + 1 + 2 + 0 + 0 + 0 + 0 + 0 + 0 ≤ _), (by decide : 0 + 10 + 2 + 4 + 64 + 0 + 0 + 0 + 0 + 0 + 0 ≤ _)⟩)
        dsimp only [Pt.U, Pt.locs, Pt.cells, Pt.slots] at X56 l56 y56 z56 st56 hQ56
        subst l56 y56 z56
        obtain ⟨NQ56, OLq56, Zq56, KQ56, hP56⟩ := hQ56
        obtain rfl := hP56
        have OB_b35 := OB_b35.keep KQ56 nin0
        have V_A1 := V_A1.keep KQ56 nin0
        have V_A2 := V_A2.keep KQ56 nin0
        have V_b37 := V_b37.keep KQ56 nin0
        have AR_R := own_arrKeep AR_R KQ56 nin0
        have AR_I := own_arrKeep AR_I KQ56 nin0
        have EX_b37 := EX_b37.keep KQ56
        skip
        have OL := OLq56
        have Z0 := Zq56
        refine own_tr st56 ?_
        show own_Go p e below s _ _ _ (T56.setTop (mkF m 157 #[.val (.int p0), .val (.int p1), .val (.int p2), .val (.int p3), .val (.int ((1 : Int32) + (1 : Int32))), .val (.int (((p0.toUInt32 >>> ((2 : Int32) &&& 31).toUInt32).toInt32) &&& (3 : Int32))), .val (.ref b35), .val (.ref b37), .val (.int r46), .val (.int f47), .val (.int r48), .val (.int f49), .val (.int p2)] [(.int p2)]))
        refine own_via (fun _ k => XS.iloadN X56.here hx rfl (hb hby at_157) rfl k) ?_
        show own_Go p e below s _ _ _ (T56.setTop (mkF m 158 #[.val (.int p0), .val (.int p1), .val (.int p2), .val (.int p3), .val (.int ((1 : Int32) + (1 : Int32))), .val (.int (((p0.toUInt32 >>> ((2 : Int32) &&& 31).toUInt32).toInt32) &&& (3 : Int32))), .val (.ref b35), .val (.ref b37), .val (.int r46), .val (.int f47), .val (.int r48), .val (.int f49), .val (.int p2)] [(.int p2), (.int p2)]))
        refine own_via (fun _ k => XS.icmpNo X56.here hx rfl (hb hby at_158) rfl (teq (rfl : p2 = p2)).2 k) ?_
        show own_Go p e below s _ _ _ (T56.setTop (mkF m 161 #[.val (.int p0), .val (.int p1), .val (.int p2), .val (.int p3), .val (.int ((1 : Int32) + (1 : Int32))), .val (.int (((p0.toUInt32 >>> ((2 : Int32) &&& 31).toUInt32).toInt32) &&& (3 : Int32))), .val (.ref b35), .val (.ref b37), .val (.int r46), .val (.int f47), .val (.int r48), .val (.int f49), .val (.int p2)] []))
        refine own_via (fun _ k => XS.aload X56.here hx rfl (hb hby at_161) rfl rfl k) ?_
        show own_Go p e below s _ _ _ (T56.setTop (mkF m 163 #[.val (.int p0), .val (.int p1), .val (.int p2), .val (.int p3), .val (.int ((1 : Int32) + (1 : Int32))), .val (.int (((p0.toUInt32 >>> ((2 : Int32) &&& 31).toUInt32).toInt32) &&& (3 : Int32))), .val (.ref b35), .val (.ref b37), .val (.int r46), .val (.int f47), .val (.int r48), .val (.int f49), .val (.int p2)] [(.ref b35)]))
        refine own_via (fun _ k => XS.iload X56.here hx rfl (hb hby at_163) rfl k) ?_
        show own_Go p e below s _ _ _ (T56.setTop (mkF m 165 #[.val (.int p0), .val (.int p1), .val (.int p2), .val (.int p3), .val (.int ((1 : Int32) + (1 : Int32))), .val (.int (((p0.toUInt32 >>> ((2 : Int32) &&& 31).toUInt32).toInt32) &&& (3 : Int32))), .val (.ref b35), .val (.ref b37), .val (.int r46), .val (.int f47), .val (.int r48), .val (.int f49), .val (.int p2)] [(.int r48), (.ref b35)]))
        refine own_via (fun _ k => XS.iload X56.here hx rfl (hb hby at_165) rfl k) ?_
        show own_Go p e below s _ _ _ (T56.setTop (mkF m 167 #[.val (.int p0), .val (.int p1), .val (.int p2), .val (.int p3), .val (.int ((1 : Int32) + (1 : Int32))), .val (.int (((p0.toUInt32 >>> ((2 : Int32) &&& 31).toUInt32).toInt32) &&& (3 : Int32))), .val (.ref b35), .val (.ref b37), .val (.int r46), .val (.int f47), .val (.int r48), .val (.int f49), .val (.int p2)] [(.int f49), (.int r48), (.ref b35)]))
        have eq58 : (((r48 &&& (4095 : Int32)) * ((1 : Int32) + (1 : Int32))) + f49) = (((r46 &&& (4095 : Int32)) * ((1 : Int32) + (1 : Int32))) + f47) := by rw [show r48 = r46 from (Eq.symm hc54), show f49 = f47 from (Eq.symm hc55)]
        have hat57 : ((cl.setSlot ((((r48 &&& (4095 : Int32)) * ((1 : Int32) + (1 : Int32))) + f49)).toNatClampNeg (.int p3)).setSlot ((((r46 &&& (4095 : Int32)) * ((1 : Int32) + (1 : Int32))) + f47)).toNatClampNeg (.int p2)).slots[((((r48 &&& (4095 : Int32)) * ((1 : Int32) + (1 : Int32))) + f49)).toNatClampNeg]? = some (.int p2) := (get_hit (own_inx ((sz_set _ _ _).trans SI) ix53 hrb46 hfb47) eq58)
        obtain ⟨cq57, kq57, q57a, q57b, q57c⟩ := isOf hZ rfl OB_b35.1
        obtain ⟨_, _, ⟨T57, L57, k57, n57⟩, -, X57, ⟨Lc57, hQ57, l57, y57, z57⟩, st57⟩ := X56.virtualBack hx (y := (⟨"com/example/whenever/whenever/internal/engine/Rows", "getInt", "(II)I"⟩ : MethodName)) (z := (⟨"com/example/whenever/whenever/internal/engine/Rows", "getInt", "(II)I"⟩ : MethodName)) hown (mvT hZ (hw _ (List.mem_of_getElem? (i := 81) rfl))) (mvT hZ (hw _ (List.mem_of_getElem? (i := 82) rfl))) (notFace_of_selects (args := #[]) (mvT hZ (hw _ (List.mem_of_getElem? (i := 84) rfl)))) (mvT hZ (hw _ (List.mem_of_getElem? (i := 84) rfl))) (mvT hZ (hw _ (List.mem_of_getElem? (i := 83) rfl))) (by decide) (backOf (W := 0) (rm11_1 l Z a0 hw [] b35 A1 A2 I R k1 k2 (((((1 : Int32) + (1 : Int32)) + (1 : Int32)) + (1 : Int32)) + (1 : Int32)) ((1 : Int32) + (1 : Int32)) (((p0.toUInt32 >>> ((2 : Int32) &&& 31).toUInt32).toInt32) &&& (3 : Int32)) ((cl.setSlot ((((r48 &&& (4095 : Int32)) * ((1 : Int32) + (1 : Int32))) + f49)).toNatClampNeg (.int p3)).setSlot ((((r46 &&& (4095 : Int32)) * ((1 : Int32) + (1 : Int32))) + f47)).toNatClampNeg (.int p2)) r48 f49 p2 w0 w1 mr kw0 kw1 T56.heap n0 Z0 K0 OL (own_blk hrb48) (own_inx ((sz_set _ _ _).trans ((sz_set _ _ _).trans SI)) ix51 hrb48 hfb49) hat57 ⟨OB_b35, V_A1, V_A2, OV_A1, OV_A2, ne_b35_A1, ne_b35_A2, ne_A1_A2, g_b35, g_A1, g_A2⟩ AR_I) hZ (hw _ (List.mem_of_getElem? (i := 85) rfl)) (hw _ (List.mem_of_getElem? (i := 2) rfl)) (by decide) (by decide)) q57a q57c (g := (mkF m 167 #[.val (.int p0), .val (.int p1), .val (.int p2), .val (.int p3), .val (.int ((1 : Int32) + (1 : Int32))), .val (.int (((p0.toUInt32 >>> ((2 : Int32) &&& 31).toUInt32).toInt32) &&& (3 : Int32))), .val (.ref b35), .val (.ref b37), .val (.int r46), .val (.int f47), .val (.int r48), .val (.int f49), .val (.int p2)] [(.int f49), (.int r48), (.ref b35)])) rfl (by rw [hml]; rfl) (Steps.refl _) (argsL := [(.int r48), (.int f49)]) (rest := []) (lenOf pd1 rfl) rfl (by show 2 * 0 + _ ≤ _; exact Nat.le_of_eq rfl) (hb hby at_167) (fun _ _ => ⟨rfl, rfl, (by decide : 0 + 1 + 2 + 1 + 2 + 0 + 0 + 0 + 0 + 0 + 0 + 0 ≤ _), (by decide : 0 + 10 + 2 + 4 + 64 + 0 + 0 + 0 + 0 + 0 + 0 + 0 ≤ _)⟩)
        dsimp only [Pt.U, Pt.locs, Pt.cells, Pt.slots] at X57 l57 y57 z57 st57 hQ57
        subst l57 y57 z57
        obtain ⟨NQ57, OLq57, Zq57, KQ57, hP57⟩ := hQ57
        obtain rfl := hP57
        have OB_b35 := OB_b35.keep KQ57 nin0
        have V_A1 := V_A1.keep KQ57 nin0
        have V_A2 := V_A2.keep KQ57 nin0
        have V_b37 := V_b37.keep KQ57 nin0
        have AR_R := own_arrKeep AR_R KQ57 nin0
        have AR_I := own_arrKeep AR_I KQ57 nin0
        have EX_b37 := EX_b37.keep KQ57
        skip
        have OL := OLq57
        have Z0 := Zq57
        refine own_tr st57 ?_
        show own_Go p e below s _ _ _ (T57.setTop (mkF m 170 #[.val (.int p0), .val (.int p1), .val (.int p2), .val (.int p3), .val (.int ((1 : Int32) + (1 : Int32))), .val (.int (((p0.toUInt32 >>> ((2 : Int32) &&& 31).toUInt32).toInt32) &&& (3 : Int32))), .val (.ref b35), .val (.ref b37), .val (.int r46), .val (.int f47), .val (.int r48), .val (.int f49), .val (.int p2)] [(.int p2)]))
        refine own_via (fun _ k => XS.iload X57.here hx rfl (hb hby at_170) rfl k) ?_
        show own_Go p e below s _ _ _ (T57.setTop (mkF m 172 #[.val (.int p0), .val (.int p1), .val (.int p2), .val (.int p3), .val (.int ((1 : Int32) + (1 : Int32))), .val (.int (((p0.toUInt32 >>> ((2 : Int32) &&& 31).toUInt32).toInt32) &&& (3 : Int32))), .val (.ref b35), .val (.ref b37), .val (.int r46), .val (.int f47), .val (.int r48), .val (.int f49), .val (.int p2)] [(.int p2), (.int p2)]))
        refine own_via (fun _ k => XS.icmpNo X57.here hx rfl (hb hby at_172) rfl (teq (rfl : p2 = p2)).2 k) ?_
        show own_Go p e below s _ _ _ (T57.setTop (mkF m 175 #[.val (.int p0), .val (.int p1), .val (.int p2), .val (.int p3), .val (.int ((1 : Int32) + (1 : Int32))), .val (.int (((p0.toUInt32 >>> ((2 : Int32) &&& 31).toUInt32).toInt32) &&& (3 : Int32))), .val (.ref b35), .val (.ref b37), .val (.int r46), .val (.int f47), .val (.int r48), .val (.int f49), .val (.int p2)] []))
        refine own_via (fun _ k => XS.iconst X57.here hx rfl (hb hby at_175) k) ?_
        show own_Go p e below s _ _ _ (T57.setTop (mkF m 176 #[.val (.int p0), .val (.int p1), .val (.int p2), .val (.int p3), .val (.int ((1 : Int32) + (1 : Int32))), .val (.int (((p0.toUInt32 >>> ((2 : Int32) &&& 31).toUInt32).toInt32) &&& (3 : Int32))), .val (.ref b35), .val (.ref b37), .val (.int r46), .val (.int f47), .val (.int r48), .val (.int f49), .val (.int p2)] [(.int (1 : Int32))]))
        refine own_via (fun _ k => XS.goto X57.here hx rfl (pc0 := 176) (pc' := 180) rfl (hb hby at_176) (by decide) (by decide) k) ?_
        show own_Go p e below s _ _ _ (T57.setTop (mkF m 180 #[.val (.int p0), .val (.int p1), .val (.int p2), .val (.int p3), .val (.int ((1 : Int32) + (1 : Int32))), .val (.int (((p0.toUInt32 >>> ((2 : Int32) &&& 31).toUInt32).toInt32) &&& (3 : Int32))), .val (.ref b35), .val (.ref b37), .val (.int r46), .val (.int f47), .val (.int r48), .val (.int f49), .val (.int p2)] [(.int (1 : Int32))]))
        exact own_retZ X57 hx hlk (t := .boolean) Bd.returns (by simp) (hb hby at_180) (z' := (1 : Int32)) (by first | rfl | decide) ⟨rfl, (Fr.app (Fr.app (Fr.app (Fr.app N45 NQ50) NQ52) NQ56) NQ57)⟩ (by decide) (by decide)
      · refine own_via (fun _ k => XS.icmpYes X52.here hx rfl (pc0 := 138) (pc' := 145) rfl (hb hby at_138) rfl (feq hc55).2 (by decide) (by decide) k) ?_
        show own_Go p e below s _ _ _ (T52.setTop (mkF m 145 #[.val (.int p0), .val (.int p1), .val (.int p2), .val (.int p3), .val (.int ((1 : Int32) + (1 : Int32))), .val (.int (((p0.toUInt32 >>> ((2 : Int32) &&& 31).toUInt32).toInt32) &&& (3 : Int32))), .val (.ref b35), .val (.ref b37), .val (.int r46), .val (.int f47), .val (.int r48), .val (.int f49), .unset] []))
        refine own_via (fun _ k => XS.iloadN X52.here hx rfl (hb hby at_145) rfl k) ?_
        show own_Go p e below s _ _ _ (T52.setTop (mkF m 146 #[.val (.int p0), .val (.int p1), .val (.int p2), .val (.int p3), .val (.int ((1 : Int32) + (1 : Int32))), .val (.int (((p0.toUInt32 >>> ((2 : Int32) &&& 31).toUInt32).toInt32) &&& (3 : Int32))), .val (.ref b35), .val (.ref b37), .val (.int r46), .val (.int f47), .val (.int r48), .val (.int f49), .unset] [(.int p3)]))
        refine own_via (fun _ k => XS.istore X52.here hx rfl (hb hby at_146) rfl (l' := #[.val (.int p0), .val (.int p1), .val (.int p2), .val (.int p3), .val (.int ((1 : Int32) + (1 : Int32))), .val (.int (((p0.toUInt32 >>> ((2 : Int32) &&& 31).toUInt32).toInt32) &&& (3 : Int32))), .val (.ref b35), .val (.ref b37), .val (.int r46), .val (.int f47), .val (.int r48), .val (.int f49), .val (.int p3)]) rfl k) ?_
        show own_Go p e below s _ _ _ (T52.setTop (mkF m 148 #[.val (.int p0), .val (.int p1), .val (.int p2), .val (.int p3), .val (.int ((1 : Int32) + (1 : Int32))), .val (.int (((p0.toUInt32 >>> ((2 : Int32) &&& 31).toUInt32).toInt32) &&& (3 : Int32))), .val (.ref b35), .val (.ref b37), .val (.int r46), .val (.int f47), .val (.int r48), .val (.int f49), .val (.int p3)] []))
        refine own_via (fun _ k => XS.aload X52.here hx rfl (hb hby at_148) rfl rfl k) ?_
        show own_Go p e below s _ _ _ (T52.setTop (mkF m 150 #[.val (.int p0), .val (.int p1), .val (.int p2), .val (.int p3), .val (.int ((1 : Int32) + (1 : Int32))), .val (.int (((p0.toUInt32 >>> ((2 : Int32) &&& 31).toUInt32).toInt32) &&& (3 : Int32))), .val (.ref b35), .val (.ref b37), .val (.int r46), .val (.int f47), .val (.int r48), .val (.int f49), .val (.int p3)] [(.ref b35)]))
        refine own_via (fun _ k => XS.iload X52.here hx rfl (hb hby at_150) rfl k) ?_
        show own_Go p e below s _ _ _ (T52.setTop (mkF m 152 #[.val (.int p0), .val (.int p1), .val (.int p2), .val (.int p3), .val (.int ((1 : Int32) + (1 : Int32))), .val (.int (((p0.toUInt32 >>> ((2 : Int32) &&& 31).toUInt32).toInt32) &&& (3 : Int32))), .val (.ref b35), .val (.ref b37), .val (.int r46), .val (.int f47), .val (.int r48), .val (.int f49), .val (.int p3)] [(.int r46), (.ref b35)]))
        refine own_via (fun _ k => XS.iload X52.here hx rfl (hb hby at_152) rfl k) ?_
        show own_Go p e below s _ _ _ (T52.setTop (mkF m 154 #[.val (.int p0), .val (.int p1), .val (.int p2), .val (.int p3), .val (.int ((1 : Int32) + (1 : Int32))), .val (.int (((p0.toUInt32 >>> ((2 : Int32) &&& 31).toUInt32).toInt32) &&& (3 : Int32))), .val (.ref b35), .val (.ref b37), .val (.int r46), .val (.int f47), .val (.int r48), .val (.int f49), .val (.int p3)] [(.int f47), (.int r46), (.ref b35)]))
        have hat59 : ((cl.setSlot ((((r48 &&& (4095 : Int32)) * ((1 : Int32) + (1 : Int32))) + f49)).toNatClampNeg (.int p3)).setSlot ((((r46 &&& (4095 : Int32)) * ((1 : Int32) + (1 : Int32))) + f47)).toNatClampNeg (.int p2)).slots[((((r46 &&& (4095 : Int32)) * ((1 : Int32) + (1 : Int32))) + f47)).toNatClampNeg]? = some (.int p2) := (get_hit (own_inx ((sz_set _ _ _).trans SI) ix53 hrb46 hfb47) rfl)
        obtain ⟨cq59, kq59, q59a, q59b, q59c⟩ := isOf hZ rfl OB_b35.1
        obtain ⟨_, _, ⟨T59, L59, k59, n59⟩, -, X59, ⟨Lc59, hQ59, l59, y59, z59⟩, st59⟩ := X52.virtualBack hx (y := (⟨"com/example/whenever/whenever/internal/engine/Rows", "getInt", "(II)I"⟩ : MethodName)) (z := (⟨"com/example/whenever/whenever/internal/engine/Rows", "getInt", "(II)I"⟩ : MethodName)) hown (mvT hZ (hw _ (List.mem_of_getElem? (i := 81) rfl))) (mvT hZ (hw _ (List.mem_of_getElem? (i := 82) rfl))) (notFace_of_selects (args := #[]) (mvT hZ (hw _ (List.mem_of_getElem? (i := 84) rfl)))) (mvT hZ (hw _ (List.mem_of_getElem? (i := 84) rfl))) (mvT hZ (hw _ (List.mem_of_getElem? (i := 83) rfl))) (by decide) (backOf (W := 0) (rm11_1 l Z a0 hw [] b35 A1 A2 I R k1 k2 (((((1 : Int32) + (1 : Int32)) + (1 : Int32)) + (1 : Int32)) + (1 : Int32)) ((1 : Int32) + (1 : Int32)) (((p0.toUInt32 >>> ((2 : Int32) &&& 31).toUInt32).toInt32) &&& (3 : Int32)) ((cl.setSlot ((((r48 &&& (4095 : Int32)) * ((1 : Int32) + (1 : Int32))) + f49)).toNatClampNeg (.int p3)).setSlot ((((r46 &&& (4095 : Int32)) * ((1 : Int32) + (1 : Int32))) + f47)).toNatClampNeg (.int p2)) r46 f47 p2 w0 w1 mr kw0 kw1 T52.heap n0 Z0 K0 OL (own_blk hrb46) (own_inx ((sz_set _ _ _).trans ((sz_set _ _ _).trans SI)) ix53 hrb46 hfb47) hat59 ⟨OB_b35, V_A1, V_A2, OV_A1, OV_A2, ne_b35_A1, ne_b35_A2, ne_A1_A2, g_b35, g_A1, g_A2⟩ AR_I) hZ (hw _ (List.mem_of_getElem? (i := 85) rfl)) (hw _ (List.mem_of_getElem? (i := 2) rfl)) (by decide) (by decide)) q59a q59c (g := (mkF m 154 #[.val (.int p0), .val (.int p1), .val (.int p2), .val (.int p3), .val (.int ((1 : Int32) + (1 : Int32))), .val (.int (((p0.toUInt32 >>> ((2 : Int32) &&& 31).toUInt32).toInt32) &&& (3 : Int32))), .val (.ref b35), .val (.ref b37), .val (.int r46), .val (.int f47), .val (.int r48), .val (.int f49), .val (.int p3)] [(.int f47), (.int r46), (.ref b35)])) rfl (by rw [hml]; rfl) (Steps.refl _) (argsL := [(.int r46), (.int f47)]) (rest := []) (lenOf pd1 rfl) rfl (by show 2 * 0 + _ ≤ _; exact Nat.le_of_eq rfl) (hb hby at_154) (fun _ _ => ⟨rfl, rfl, (by decide : 0 + 1 + 2 + 1 + 2 + 0 + 0 + 0 + 0 + 0 + 0 ≤ _), (by decide : 0 + 10 + 2 + 4 + 64 + 0 + 0 + 0 + 0 + 0 + 0 ≤ _)⟩)
        dsimp only [Pt.U, Pt.locs, Pt.cells, Pt.slots] at X59 l59 y59 z59 st59 hQ59
        subst l59 y59 z59
        obtain ⟨NQ59, OLq59, Zq59, KQ59, hP59⟩ := hQ59
        obtain rfl := hP59
        have OB_b35 := OB_b35.keep KQ59 nin0
        have V_A1 := V_A1.keep KQ59 nin0
        have V_A2 := V_A2.keep KQ59 nin0
        have V_b37 := V_b37.keep KQ59 nin0
        have AR_R := own_arrKeep AR_R KQ59 nin0
        have AR_I := own_arrKeep AR_I KQ59 nin0
        have EX_b37 := EX_b37.keep KQ59
        skip
        have OL := OLq59
        have Z0 := Zq59
        refine own_tr st59 ?_
        show own_Go p e below s _ _ _ (T59.setTop (mkF m 157 #[.val (.int p0), .val (.int p1), .val (.int p2), .val (.int p3), .val (.int ((1 : Int32) + (1 : Int32))), .val (.int (((p0.toUInt32 >>> ((2 : Int32) &&& 31).toUInt32).toInt32) &&& (3 : Int32))), .val (.ref b35), .val (.ref b37), .val (.int r46), .val (.int f47), .val (.int r48), .val (.int f49), .val (.int p3)] [(.int p2)]))
        refine own_via (fun _ k => XS.iloadN X59.here hx rfl (hb hby at_157) rfl k) ?_
        show own_Go p e below s _ _ _ (T59.setTop (mkF m 158 #[.val (.int p0), .val (.int p1), .val (.int p2), .val (.int p3), .val (.int ((1 : Int32) + (1 : Int32))), .val (.int (((p0.toUInt32 >>> ((2 : Int32) &&& 31).toUInt32).toInt32) &&& (3 : Int32))), .val (.ref b35), .val (.ref b37), .val (.int r46), .val (.int f47), .val (.int r48), .val (.int f49), .val (.int p3)] [(.int p2), (.int p2)]))
        refine own_via (fun _ k => XS.icmpNo X59.here hx rfl (hb hby at_158) rfl (teq (rfl : p2 = p2)).2 k) ?_
        show own_Go p e below s _ _ _ (T59.setTop (mkF m 161 #[.val (.int p0), .val (.int p1), .val (.int p2), .val (.int p3), .val (.int ((1 : Int32) + (1 : Int32))), .val (.int (((p0.toUInt32 >>> ((2 : Int32) &&& 31).toUInt32).toInt32) &&& (3 : Int32))), .val (.ref b35), .val (.ref b37), .val (.int r46), .val (.int f47), .val (.int r48), .val (.int f49), .val (.int p3)] []))
        refine own_via (fun _ k => XS.aload X59.here hx rfl (hb hby at_161) rfl rfl k) ?_
        show own_Go p e below s _ _ _ (T59.setTop (mkF m 163 #[.val (.int p0), .val (.int p1), .val (.int p2), .val (.int p3), .val (.int ((1 : Int32) + (1 : Int32))), .val (.int (((p0.toUInt32 >>> ((2 : Int32) &&& 31).toUInt32).toInt32) &&& (3 : Int32))), .val (.ref b35), .val (.ref b37), .val (.int r46), .val (.int f47), .val (.int r48), .val (.int f49), .val (.int p3)] [(.ref b35)]))
        refine own_via (fun _ k => XS.iload X59.here hx rfl (hb hby at_163) rfl k) ?_
        show own_Go p e below s _ _ _ (T59.setTop (mkF m 165 #[.val (.int p0), .val (.int p1), .val (.int p2), .val (.int p3), .val (.int ((1 : Int32) + (1 : Int32))), .val (.int (((p0.toUInt32 >>> ((2 : Int32) &&& 31).toUInt32).toInt32) &&& (3 : Int32))), .val (.ref b35), .val (.ref b37), .val (.int r46), .val (.int f47), .val (.int r48), .val (.int f49), .val (.int p3)] [(.int r48), (.ref b35)]))
        refine own_via (fun _ k => XS.iload X59.here hx rfl (hb hby at_165) rfl k) ?_
        show own_Go p e below s _ _ _ (T59.setTop (mkF m 167 #[.val (.int p0), .val (.int p1), .val (.int p2), .val (.int p3), .val (.int ((1 : Int32) + (1 : Int32))), .val (.int (((p0.toUInt32 >>> ((2 : Int32) &&& 31).toUInt32).toInt32) &&& (3 : Int32))), .val (.ref b35), .val (.ref b37), .val (.int r46), .val (.int f47), .val (.int r48), .val (.int f49), .val (.int p3)] [(.int f49), (.int r48), (.ref b35)]))
        have ne61 : ¬ ((((r48 &&& (4095 : Int32)) * ((1 : Int32) + (1 : Int32))) + f49) = (((r46 &&& (4095 : Int32)) * ((1 : Int32) + (1 : Int32))) + f47)) := own_ne2 ix51 ix53 hfb49 hfb47 (Or.inr (fun q => hc55 (Eq.symm q)))
        have hat60 : ((cl.setSlot ((((r48 &&& (4095 : Int32)) * ((1 : Int32) + (1 : Int32))) + f49)).toNatClampNeg (.int p3)).setSlot ((((r46 &&& (4095 : Int32)) * ((1 : Int32) + (1 : Int32))) + f47)).toNatClampNeg (.int p2)).slots[((((r48 &&& (4095 : Int32)) * ((1 : Int32) + (1 : Int32))) + f49)).toNatClampNeg]? = some (.int p3) := ((get_miss (fun q => (own_inx SI ix53 hrb46 hfb47) (Or.inl q)) (fun q => (own_inx SI ix51 hrb48 hfb49) (Or.inl q)) ne61).trans (get_hit (own_inx SI ix51 hrb48 hfb49) rfl))
        obtain ⟨cq60, kq60, q60a, q60b, q60c⟩ := isOf hZ rfl OB_b35.1
        obtain ⟨_, _, ⟨T60, L60, k60, n60⟩, -, X60, ⟨Lc60, hQ60, l60, y60, z60⟩, st60⟩ := X59.virtualBack hx (y := (⟨"com/example/whenever/whenever/internal/engine/Rows", "getInt", "(II)I"⟩ : MethodName)) (z := (⟨"com/example/whenever/whenever/internal/engine/Rows", "getInt", "(II)I"⟩ : MethodName)) hown (mvT hZ (hw _ (List.mem_of_getElem? (i := 81) rfl))) (mvT hZ (hw _ (List.mem_of_getElem? (i := 82) rfl))) (notFace_of_selects (args := #[]) (mvT hZ (hw _ (List.mem_of_getElem? (i := 84) rfl)))) (mvT hZ (hw _ (List.mem_of_getElem? (i := 84) rfl))) (mvT hZ (hw _ (List.mem_of_getElem? (i := 83) rfl))) (by decide) (backOf (W := 0) (rm11_1 l Z a0 hw [] b35 A1 A2 I R k1 k2 (((((1 : Int32) + (1 : Int32)) + (1 : Int32)) + (1 : Int32)) + (1 : Int32)) ((1 : Int32) + (1 : Int32)) (((p0.toUInt32 >>> ((2 : Int32) &&& 31).toUInt32).toInt32) &&& (3 : Int32)) ((cl.setSlot ((((r48 &&& (4095 : Int32)) * ((1 : Int32) + (1 : Int32))) + f49)).toNatClampNeg (.int p3)).setSlot ((((r46 &&& (4095 : Int32)) * ((1 : Int32) + (1 : Int32))) + f47)).toNatClampNeg (.int p2)) r48 f49 p3 w0 w1 mr kw0 kw1 T59.heap n0 Z0 K0 OL (own_blk hrb48) (own_inx ((sz_set _ _ _).trans ((sz_set _ _ _).trans SI)) ix51 hrb48 hfb49) hat60 ⟨OB_b35, V_A1, V_A2, OV_A1, OV_A2, ne_b35_A1, ne_b35_A2, ne_A1_A2, g_b35, g_A1, g_A2⟩ AR_I) hZ (hw _ (List.mem_of_getElem? (i := 85) rfl)) (hw _ (List.mem_of_getElem? (i := 2) rfl)) (by decide) (by decide)) q60a q60c (g := (mkF m 167 #[.val (.int p0), .val (.int p1), .val (.int p2), .val (.int p3), .val (.int ((1 : Int32) + (1 : Int32))), .val (.int (((p0.toUInt32 >>> ((2 : Int32) &&& 31).toUInt32).toInt32) &&& (3 : Int32))), .val (.ref b35), .val (.ref b37), .val (.int r46), .val (.int f47), .val (.int r48), .val (.int f49), .val (.int p3)] [(.int f49), (.int r48), (.ref b35)])) rfl (by rw [hml]; rfl) (Steps.refl _) (argsL := [(.int r48), (.int f49)]) (rest := []) (lenOf pd1 rfl) rfl (by show 2 * 0 + _ ≤ _; exact Nat.le_of_eq rfl) (hb hby at_167) (fun _ _ => ⟨rfl, rfl, (by decide : 0 + 1 + 2 + 1 + 2 + 0 + 0 + 0 + 0 + 0 + 0 + 0 ≤ _), (by decide : 0 + 10 + 2 + 4 + 64 + 0 + 0 + 0 + 0 + 0 + 0 + 0 ≤ _)⟩)
        dsimp only [Pt.U, Pt.locs, Pt.cells, Pt.slots] at X60 l60 y60 z60 st60 hQ60
        subst l60 y60 z60
        obtain ⟨NQ60, OLq60, Zq60, KQ60, hP60⟩ := hQ60
        obtain rfl := hP60
        have OB_b35 := OB_b35.keep KQ60 nin0
        have V_A1 := V_A1.keep KQ60 nin0
        have V_A2 := V_A2.keep KQ60 nin0
        have V_b37 := V_b37.keep KQ60 nin0
        have AR_R := own_arrKeep AR_R KQ60 nin0
        have AR_I := own_arrKeep AR_I KQ60 nin0
        have EX_b37 := EX_b37.keep KQ60
        skip
        have OL := OLq60
        have Z0 := Zq60
        refine own_tr st60 ?_
        show own_Go p e below s _ _ _ (T60.setTop (mkF m 170 #[.val (.int p0), .val (.int p1), .val (.int p2), .val (.int p3), .val (.int ((1 : Int32) + (1 : Int32))), .val (.int (((p0.toUInt32 >>> ((2 : Int32) &&& 31).toUInt32).toInt32) &&& (3 : Int32))), .val (.ref b35), .val (.ref b37), .val (.int r46), .val (.int f47), .val (.int r48), .val (.int f49), .val (.int p3)] [(.int p3)]))
        refine own_via (fun _ k => XS.iload X60.here hx rfl (hb hby at_170) rfl k) ?_
        show own_Go p e below s _ _ _ (T60.setTop (mkF m 172 #[.val (.int p0), .val (.int p1), .val (.int p2), .val (.int p3), .val (.int ((1 : Int32) + (1 : Int32))), .val (.int (((p0.toUInt32 >>> ((2 : Int32) &&& 31).toUInt32).toInt32) &&& (3 : Int32))), .val (.ref b35), .val (.ref b37), .val (.int r46), .val (.int f47), .val (.int r48), .val (.int f49), .val (.int p3)] [(.int p3), (.int p3)]))
        refine own_via (fun _ k => XS.icmpNo X60.here hx rfl (hb hby at_172) rfl (teq (rfl : p3 = p3)).2 k) ?_
        show own_Go p e below s _ _ _ (T60.setTop (mkF m 175 #[.val (.int p0), .val (.int p1), .val (.int p2), .val (.int p3), .val (.int ((1 : Int32) + (1 : Int32))), .val (.int (((p0.toUInt32 >>> ((2 : Int32) &&& 31).toUInt32).toInt32) &&& (3 : Int32))), .val (.ref b35), .val (.ref b37), .val (.int r46), .val (.int f47), .val (.int r48), .val (.int f49), .val (.int p3)] []))
        refine own_via (fun _ k => XS.iconst X60.here hx rfl (hb hby at_175) k) ?_
        show own_Go p e below s _ _ _ (T60.setTop (mkF m 176 #[.val (.int p0), .val (.int p1), .val (.int p2), .val (.int p3), .val (.int ((1 : Int32) + (1 : Int32))), .val (.int (((p0.toUInt32 >>> ((2 : Int32) &&& 31).toUInt32).toInt32) &&& (3 : Int32))), .val (.ref b35), .val (.ref b37), .val (.int r46), .val (.int f47), .val (.int r48), .val (.int f49), .val (.int p3)] [(.int (1 : Int32))]))
        refine own_via (fun _ k => XS.goto X60.here hx rfl (pc0 := 176) (pc' := 180) rfl (hb hby at_176) (by decide) (by decide) k) ?_
        show own_Go p e below s _ _ _ (T60.setTop (mkF m 180 #[.val (.int p0), .val (.int p1), .val (.int p2), .val (.int p3), .val (.int ((1 : Int32) + (1 : Int32))), .val (.int (((p0.toUInt32 >>> ((2 : Int32) &&& 31).toUInt32).toInt32) &&& (3 : Int32))), .val (.ref b35), .val (.ref b37), .val (.int r46), .val (.int f47), .val (.int r48), .val (.int f49), .val (.int p3)] [(.int (1 : Int32))]))
        exact own_retZ X60 hx hlk (t := .boolean) Bd.returns (by simp) (hb hby at_180) (z' := (1 : Int32)) (by first | rfl | decide) ⟨rfl, (Fr.app (Fr.app (Fr.app (Fr.app N45 NQ50) NQ52) NQ59) NQ60)⟩ (by decide) (by decide)
    · refine own_via (fun _ k => XS.icmpYes X52.here hx rfl (pc0 := 131) (pc' := 145) rfl (hb hby at_131) rfl (feq hc54).2 (by decide) (by decide) k) ?_
      show own_Go p e below s _ _ _ (T52.setTop (mkF m 145 #[.val (.int p0), .val (.int p1), .val (.int p2), .val (.int p3), .val (.int ((1 : Int32) + (1 : Int32))), .val (.int (((p0.toUInt32 >>> ((2 : Int32) &&& 31).toUInt32).toInt32) &&& (3 : Int32))), .val (.ref b35), .val (.ref b37), .val (.int r46), .val (.int f47), .val (.int r48), .val (.int f49), .unset] []))
      refine own_via (fun _ k => XS.iloadN X52.here hx rfl (hb hby at_145) rfl k) ?_
      show own_Go p e below s _ _ _ (T52.setTop (mkF m 146 #[.val (.int p0), .val (.int p1), .val (.int p2), .val (.int p3), .val (.int ((1 : Int32) + (1 : Int32))), .val (.int (((p0.toUInt32 >>> ((2 : Int32) &&& 31).toUInt32).toInt32) &&& (3 : Int32))), .val (.ref b35), .val (.ref b37), .val (.int r46), .val (.int f47), .val (.int r48), .val (.int f49), .unset] [(.int p3)]))
      refine own_via (fun _ k => XS.istore X52.here hx rfl (hb hby at_146) rfl (l' := #[.val (.int p0), .val (.int p1), .val (.int p2), .val (.int p3), .val (.int ((1 : Int32) + (1 : Int32))), .val (.int (((p0.toUInt32 >>> ((2 : Int32) &&& 31).toUInt32).toInt32) &&& (3 : Int32))), .val (.ref b35), .val (.ref b37), .val (.int r46), .val (.int f47), .val (.int r48), .val (.int f49), .val (.int p3)]) rfl k) ?_
      show own_Go p e below s _ _ _ (T52.setTop (mkF m 148 #[.val (.int p0), .val (.int p1), .val (.int p2), .val (.int p3), .val (.int ((1 : Int32) + (1 : Int32))), .val (.int (((p0.toUInt32 >>> ((2 : Int32) &&& 31).toUInt32).toInt32) &&& (3 : Int32))), .val (.ref b35), .val (.ref b37), .val (.int r46), .val (.int f47), .val (.int r48), .val (.int f49), .val (.int p3)] []))
      refine own_via (fun _ k => XS.aload X52.here hx rfl (hb hby at_148) rfl rfl k) ?_
      show own_Go p e below s _ _ _ (T52.setTop (mkF m 150 #[.val (.int p0), .val (.int p1), .val (.int p2), .val (.int p3), .val (.int ((1 : Int32) + (1 : Int32))), .val (.int (((p0.toUInt32 >>> ((2 : Int32) &&& 31).toUInt32).toInt32) &&& (3 : Int32))), .val (.ref b35), .val (.ref b37), .val (.int r46), .val (.int f47), .val (.int r48), .val (.int f49), .val (.int p3)] [(.ref b35)]))
      refine own_via (fun _ k => XS.iload X52.here hx rfl (hb hby at_150) rfl k) ?_
      show own_Go p e below s _ _ _ (T52.setTop (mkF m 152 #[.val (.int p0), .val (.int p1), .val (.int p2), .val (.int p3), .val (.int ((1 : Int32) + (1 : Int32))), .val (.int (((p0.toUInt32 >>> ((2 : Int32) &&& 31).toUInt32).toInt32) &&& (3 : Int32))), .val (.ref b35), .val (.ref b37), .val (.int r46), .val (.int f47), .val (.int r48), .val (.int f49), .val (.int p3)] [(.int r46), (.ref b35)]))
      refine own_via (fun _ k => XS.iload X52.here hx rfl (hb hby at_152) rfl k) ?_
      show own_Go p e below s _ _ _ (T52.setTop (mkF m 154 #[.val (.int p0), .val (.int p1), .val (.int p2), .val (.int p3), .val (.int ((1 : Int32) + (1 : Int32))), .val (.int (((p0.toUInt32 >>> ((2 : Int32) &&& 31).toUInt32).toInt32) &&& (3 : Int32))), .val (.ref b35), .val (.ref b37), .val (.int r46), .val (.int f47), .val (.int r48), .val (.int f49), .val (.int p3)] [(.int f47), (.int r46), (.ref b35)]))
      have hat62 : ((cl.setSlot ((((r48 &&& (4095 : Int32)) * ((1 : Int32) + (1 : Int32))) + f49)).toNatClampNeg (.int p3)).setSlot ((((r46 &&& (4095 : Int32)) * ((1 : Int32) + (1 : Int32))) + f47)).toNatClampNeg (.int p2)).slots[((((r46 &&& (4095 : Int32)) * ((1 : Int32) + (1 : Int32))) + f47)).toNatClampNeg]? = some (.int p2) := (get_hit (own_inx ((sz_set _ _ _).trans SI) ix53 hrb46 hfb47) rfl)
      obtain ⟨cq62, kq62, q62a, q62b, q62c⟩ := isOf hZ rfl OB_b35.1
      obtain ⟨_, _, ⟨T62, L62, k62, n62⟩, -, X62, ⟨Lc62, hQ62, l62, y62, z62⟩, st62⟩ := X52.virtualBack hx (y := (⟨"com/example/whenever/whenever/internal/engine/Rows", "getInt", "(II)I"⟩ : MethodName)) (z := (⟨"com/example/whenever/whenever/internal/engine/Rows", "getInt", "(II)I"⟩ : MethodName)) hown (mvT hZ (hw _ (List.mem_of_getElem? (i := 81) rfl))) (mvT hZ (hw _ (List.mem_of_getElem? (i := 82) rfl))) (notFace_of_selects (args := #[]) (mvT hZ (hw _ (List.mem_of_getElem? (i := 84) rfl)))) (mvT hZ (hw _ (List.mem_of_getElem? (i := 84) rfl))) (mvT hZ (hw _ (List.mem_of_getElem? (i := 83) rfl))) (by decide) (backOf (W := 0) (rm11_1 l Z a0 hw [] b35 A1 A2 I R k1 k2 (((((1 : Int32) + (1 : Int32)) + (1 : Int32)) + (1 : Int32)) + (1 : Int32)) ((1 : Int32) + (1 : Int32)) (((p0.toUInt32 >>> ((2 : Int32) &&& 31).toUInt32).toInt32) &&& (3 : Int32)) ((cl.setSlot ((((r48 &&& (4095 : Int32)) * ((1 : Int32) + (1 : Int32))) + f49)).toNatClampNeg (.int p3)).setSlot ((((r46 &&& (4095 : Int32)) * ((1 : Int32) + (1 : Int32))) + f47)).toNatClampNeg (.int p2)) r46 f47 p2 w0 w1 mr kw0 kw1 T52.heap n0 Z0 K0 OL (own_blk hrb46) (own_inx ((sz_set _ _ _).trans ((sz_set _ _ _).trans SI)) ix53 hrb46 hfb47) hat62 ⟨OB_b35, V_A1, V_A2, OV_A1, OV_A2, ne_b35_A1, ne_b35_A2, ne_A1_A2, g_b35, g_A1, g_A2⟩ AR_I) hZ (hw _ (List.mem_of_getElem? (i := 85) rfl)) (hw _ (List.mem_of_getElem? (i := 2) rfl)) (by decide) (by decide)) q62a q62c (g := (mkF m 154 #[.val (.int p0), .val (.int p1), .val (.int p2), .val (.int p3), .val (.int ((1 : Int32) + (1 : Int32))), .val (.int (((p0.toUInt32 >>> ((2 : Int32) &&& 31).toUInt32).toInt32) &&& (3 : Int32))), .val (.ref b35), .val (.ref b37), .val (.int r46), .val (.int f47), .val (.int r48), .val (.int f49), .val (.int p3)] [(.int f47), (.int r46), (.ref b35)])) rfl (by rw [hml]; rfl) (Steps.refl _) (argsL := [(.int r46), (.int f47)]) (rest := []) (lenOf pd1 rfl) rfl (by show 2 * 0 + _ ≤ _; exact Nat.le_of_eq rfl) (hb hby at_154) (fun _ _ => ⟨rfl, rfl, (by decide : 0 + 1 + 2 + 1 + 2 + 0 + 0 + 0 + 0 + 0 + 0 ≤ _), (by decide : 0 + 10 + 2 + 4 + 64 + 0 + 0 + 0 + 0 + 0 + 0 ≤ _)⟩)
      dsimp only [Pt.U, Pt.locs, Pt.cells, Pt.slots] at X62 l62 y62 z62 st62 hQ62
      subst l62 y62 z62
      obtain ⟨NQ62, OLq62, Zq62, KQ62, hP62⟩ := hQ62
      obtain rfl := hP62
      have OB_b35 := OB_b35.keep KQ62 nin0
      have V_A1 := V_A1.keep KQ62 nin0
      have V_A2 := V_A2.keep KQ62 nin0
      have V_b37 := V_b37.keep KQ62 nin0
      have AR_R := own_arrKeep AR_R KQ62 nin0
      have AR_I := own_arrKeep AR_I KQ62 nin0
      have EX_b37 := EX_b37.keep KQ62
      skip
      have OL := OLq62
      have Z0 := Zq62
      refine own_tr st62 ?_
      show own_Go p e below s _ _ _ (T62.setTop (mkF m 157 #[.val (.int p0), .val (.int p1), .val (.int p2), .val (.int p3), .val (.int ((1 : Int32) + (1 : Int32))), .val (.int (((p0.toUInt32 >>> ((2 : Int32) &&& 31).toUInt32).toInt32) &&& (3 : Int32))), .val (.ref b35), .val (.ref b37), .val (.int r46), .val (.int f47), .val (.int r48), .val (.int f49), .val (.int p3)] [(.int p2)]))
      refine own_via (fun _ k => XS.iloadN X62.here hx rfl (hb hby at_157) rfl k) ?_
      show own_Go p e below s _ _ _ (T62.setTop (mkF m 158 #[.val (.int p0), .val (.int p1), .val (.int p2), .val (.int p3), .val (.int ((1 : Int32) + (1 : Int32))), .val (.int (((p0.toUInt32 >>> ((2 : Int32) &&& 31).toUInt32).toInt32) &&& (3 : Int32))), .val (.ref b35), .val (.ref b37), .val (.int r46), .val (.int f47), .val (.int r48), .val (.int f49), .val (.int p3)] [(.int p2), (.int p2)]))
      refine own_via (fun _ k => XS.icmpNo X62.here hx rfl (hb hby at_158) rfl (teq (rfl : p2 = p2)).2 k) ?_
      show own_Go p e below s _ _ _ (T62.setTop (mkF m 161 #[.val (.int p0), .val (.int p1), .val (.int p2), .val (.int p3), .val (.int ((1 : Int32) + (1 : Int32))), .val (.int (((p0.toUInt32 >>> ((2 : Int32) &&& 31).toUInt32).toInt32) &&& (3 : Int32))), .val (.ref b35), .val (.ref b37), .val (.int r46), .val (.int f47), .val (.int r48), .val (.int f49), .val (.int p3)] []))
      refine own_via (fun _ k => XS.aload X62.here hx rfl (hb hby at_161) rfl rfl k) ?_
      show own_Go p e below s _ _ _ (T62.setTop (mkF m 163 #[.val (.int p0), .val (.int p1), .val (.int p2), .val (.int p3), .val (.int ((1 : Int32) + (1 : Int32))), .val (.int (((p0.toUInt32 >>> ((2 : Int32) &&& 31).toUInt32).toInt32) &&& (3 : Int32))), .val (.ref b35), .val (.ref b37), .val (.int r46), .val (.int f47), .val (.int r48), .val (.int f49), .val (.int p3)] [(.ref b35)]))
      refine own_via (fun _ k => XS.iload X62.here hx rfl (hb hby at_163) rfl k) ?_
      show own_Go p e below s _ _ _ (T62.setTop (mkF m 165 #[.val (.int p0), .val (.int p1), .val (.int p2), .val (.int p3), .val (.int ((1 : Int32) + (1 : Int32))), .val (.int (((p0.toUInt32 >>> ((2 : Int32) &&& 31).toUInt32).toInt32) &&& (3 : Int32))), .val (.ref b35), .val (.ref b37), .val (.int r46), .val (.int f47), .val (.int r48), .val (.int f49), .val (.int p3)] [(.int r48), (.ref b35)]))
      refine own_via (fun _ k => XS.iload X62.here hx rfl (hb hby at_165) rfl k) ?_
      show own_Go p e below s _ _ _ (T62.setTop (mkF m 167 #[.val (.int p0), .val (.int p1), .val (.int p2), .val (.int p3), .val (.int ((1 : Int32) + (1 : Int32))), .val (.int (((p0.toUInt32 >>> ((2 : Int32) &&& 31).toUInt32).toInt32) &&& (3 : Int32))), .val (.ref b35), .val (.ref b37), .val (.int r46), .val (.int f47), .val (.int r48), .val (.int f49), .val (.int p3)] [(.int f49), (.int r48), (.ref b35)]))
      have ne64 : ¬ ((((r48 &&& (4095 : Int32)) * ((1 : Int32) + (1 : Int32))) + f49) = (((r46 &&& (4095 : Int32)) * ((1 : Int32) + (1 : Int32))) + f47)) := own_ne2 ix51 ix53 hfb49 hfb47 (Or.inl (fun q => hc54 (Eq.symm q)))
      have hat63 : ((cl.setSlot ((((r48 &&& (4095 : Int32)) * ((1 : Int32) + (1 : Int32))) + f49)).toNatClampNeg (.int p3)).setSlot ((((r46 &&& (4095 : Int32)) * ((1 : Int32) + (1 : Int32))) + f47)).toNatClampNeg (.int p2)).slots[((((r48 &&& (4095 : Int32)) * ((1 : Int32) + (1 : Int32))) + f49)).toNatClampNeg]? = some (.int p3) := ((get_miss (fun q => (own_inx SI ix53 hrb46 hfb47) (Or.inl q)) (fun q => (own_inx SI ix51 hrb48 hfb49) (Or.inl q)) ne64).trans (get_hit (own_inx SI ix51 hrb48 hfb49) rfl))
      obtain ⟨cq63, kq63, q63a, q63b, q63c⟩ := isOf hZ rfl OB_b35.1
      obtain ⟨_, _, ⟨T63, L63, k63, n63⟩, -, X63, ⟨Lc63, hQ63, l63, y63, z63⟩, st63⟩ := X62.virtualBack hx (y := (⟨"com/example/whenever/whenever/internal/engine/Rows", "getInt", "(II)I"⟩ : MethodName)) (z := (⟨"com/example/whenever/whenever/internal/engine/Rows", "getInt", "(II)I"⟩ : MethodName)) hown (mvT hZ (hw _ (List.mem_of_getElem? (i := 81) rfl))) (mvT hZ (hw _ (List.mem_of_getElem? (i := 82) rfl))) (notFace_of_selects (args := #[]) (mvT hZ (hw _ (List.mem_of_getElem? (i := 84) rfl)))) (mvT hZ (hw _ (List.mem_of_getElem? (i := 84) rfl))) (mvT hZ (hw _ (List.mem_of_getElem? (i := 83) rfl))) (by decide) (backOf (W := 0) (rm11_1 l Z a0 hw [] b35 A1 A2 I R k1 k2 (((((1 : Int32) + (1 : Int32)) + (1 : Int32)) + (1 : Int32)) + (1 : Int32)) ((1 : Int32) + (1 : Int32)) (((p0.toUInt32 >>> ((2 : Int32) &&& 31).toUInt32).toInt32) &&& (3 : Int32)) ((cl.setSlot ((((r48 &&& (4095 : Int32)) * ((1 : Int32) + (1 : Int32))) + f49)).toNatClampNeg (.int p3)).setSlot ((((r46 &&& (4095 : Int32)) * ((1 : Int32) + (1 : Int32))) + f47)).toNatClampNeg (.int p2)) r48 f49 p3 w0 w1 mr kw0 kw1 T62.heap n0 Z0 K0 OL (own_blk hrb48) (own_inx ((sz_set _ _ _).trans ((sz_set _ _ _).trans SI)) ix51 hrb48 hfb49) hat63 ⟨OB_b35, V_A1, V_A2, OV_A1, OV_A2, ne_b35_A1, ne_b35_A2, ne_A1_A2, g_b35, g_A1, g_A2⟩ AR_I) hZ (hw _ (List.mem_of_getElem? (i := 85) rfl)) (hw _ (List.mem_of_getElem? (i := 2) rfl)) (by decide) (by decide)) q63a q63c (g := (mkF m 167 #[.val (.int p0), .val (.int p1), .val (.int p2), .val (.int p3), .val (.int ((1 : Int32) + (1 : Int32))), .val (.int (((p0.toUInt32 >>> ((2 : Int32) &&& 31).toUInt32).toInt32) &&& (3 : Int32))), .val (.ref b35), .val (.ref b37), .val (.int r46), .val (.int f47), .val (.int r48), .val (.int f49), .val (.int p3)] [(.int f49), (.int r48), (.ref b35)])) rfl (by rw [hml]; rfl) (Steps.refl _) (argsL := [(.int r48), (.int f49)]) (rest := []) (lenOf pd1 rfl) rfl (by show 2 * 0 + _ ≤ _; exact Nat.le_of_eq rfl) (hb hby at_167) (fun _ _ => ⟨rfl, rfl, (by decide : 0 + 1 + 2 + 1 + 2 + 0 + 0 + 0 + 0 + 0 + 0 + 0 ≤ _), (by decide : 0 + 10 + 2 + 4 + 64 + 0 + 0 + 0 + 0 + 0 + 0 + 0 ≤ _)⟩)
      dsimp only [Pt.U, Pt.locs, Pt.cells, Pt.slots] at X63 l63 y63 z63 st63 hQ63
      subst l63 y63 z63
      obtain ⟨NQ63, OLq63, Zq63, KQ63, hP63⟩ := hQ63
      obtain rfl := hP63
      have OB_b35 := OB_b35.keep KQ63 nin0
      have V_A1 := V_A1.keep KQ63 nin0
      have V_A2 := V_A2.keep KQ63 nin0
      have V_b37 := V_b37.keep KQ63 nin0
      have AR_R := own_arrKeep AR_R KQ63 nin0
      have AR_I := own_arrKeep AR_I KQ63 nin0
      have EX_b37 := EX_b37.keep KQ63
      skip
      have OL := OLq63
      have Z0 := Zq63
      refine own_tr st63 ?_
      show own_Go p e below s _ _ _ (T63.setTop (mkF m 170 #[.val (.int p0), .val (.int p1), .val (.int p2), .val (.int p3), .val (.int ((1 : Int32) + (1 : Int32))), .val (.int (((p0.toUInt32 >>> ((2 : Int32) &&& 31).toUInt32).toInt32) &&& (3 : Int32))), .val (.ref b35), .val (.ref b37), .val (.int r46), .val (.int f47), .val (.int r48), .val (.int f49), .val (.int p3)] [(.int p3)]))
      refine own_via (fun _ k => XS.iload X63.here hx rfl (hb hby at_170) rfl k) ?_
      show own_Go p e below s _ _ _ (T63.setTop (mkF m 172 #[.val (.int p0), .val (.int p1), .val (.int p2), .val (.int p3), .val (.int ((1 : Int32) + (1 : Int32))), .val (.int (((p0.toUInt32 >>> ((2 : Int32) &&& 31).toUInt32).toInt32) &&& (3 : Int32))), .val (.ref b35), .val (.ref b37), .val (.int r46), .val (.int f47), .val (.int r48), .val (.int f49), .val (.int p3)] [(.int p3), (.int p3)]))
      refine own_via (fun _ k => XS.icmpNo X63.here hx rfl (hb hby at_172) rfl (teq (rfl : p3 = p3)).2 k) ?_
      show own_Go p e below s _ _ _ (T63.setTop (mkF m 175 #[.val (.int p0), .val (.int p1), .val (.int p2), .val (.int p3), .val (.int ((1 : Int32) + (1 : Int32))), .val (.int (((p0.toUInt32 >>> ((2 : Int32) &&& 31).toUInt32).toInt32) &&& (3 : Int32))), .val (.ref b35), .val (.ref b37), .val (.int r46), .val (.int f47), .val (.int r48), .val (.int f49), .val (.int p3)] []))
      refine own_via (fun _ k => XS.iconst X63.here hx rfl (hb hby at_175) k) ?_
      show own_Go p e below s _ _ _ (T63.setTop (mkF m 176 #[.val (.int p0), .val (.int p1), .val (.int p2), .val (.int p3), .val (.int ((1 : Int32) + (1 : Int32))), .val (.int (((p0.toUInt32 >>> ((2 : Int32) &&& 31).toUInt32).toInt32) &&& (3 : Int32))), .val (.ref b35), .val (.ref b37), .val (.int r46), .val (.int f47), .val (.int r48), .val (.int f49), .val (.int p3)] [(.int (1 : Int32))]))
      refine own_via (fun _ k => XS.goto X63.here hx rfl (pc0 := 176) (pc' := 180) rfl (hb hby at_176) (by decide) (by decide) k) ?_
      show own_Go p e below s _ _ _ (T63.setTop (mkF m 180 #[.val (.int p0), .val (.int p1), .val (.int p2), .val (.int p3), .val (.int ((1 : Int32) + (1 : Int32))), .val (.int (((p0.toUInt32 >>> ((2 : Int32) &&& 31).toUInt32).toInt32) &&& (3 : Int32))), .val (.ref b35), .val (.ref b37), .val (.int r46), .val (.int f47), .val (.int r48), .val (.int f49), .val (.int p3)] [(.int (1 : Int32))]))
      exact own_retZ X63 hx hlk (t := .boolean) Bd.returns (by simp) (hb hby at_180) (z' := (1 : Int32)) (by first | rfl | decide) ⟨rfl, (Fr.app (Fr.app (Fr.app (Fr.app N45 NQ50) NQ52) NQ62) NQ63)⟩ (by decide) (by decide)
  · rw [hk3]
    show own_Go p e below s _ _ _ (s₁.setTop (mkF m 4 #[.val (.int p0), .val (.int p1), .val (.int p2), .val (.int p3), .unset, .unset, .unset, .unset, .unset, .unset, .unset, .unset, .unset] [(.int (2 : Int32)), (.int (1 : Int32))]))
    refine own_via (fun _ k => XS.iadd X0.here hx rfl (hb hby at_4) rfl k) ?_
    show own_Go p e below s _ _ _ (s₁.setTop (mkF m 5 #[.val (.int p0), .val (.int p1), .val (.int p2), .val (.int p3), .unset, .unset, .unset, .unset, .unset, .unset, .unset, .unset, .unset] [(.int ((1 : Int32) + (2 : Int32)))]))
    refine own_via (fun _ k => XS.istore X0.here hx rfl (hb hby at_5) rfl (l' := #[.val (.int p0), .val (.int p1), .val (.int p2), .val (.int p3), .val (.int ((1 : Int32) + (2 : Int32))), .unset, .unset, .unset, .unset, .unset, .unset, .unset, .unset]) rfl k) ?_
    show own_Go p e below s _ _ _ (s₁.setTop (mkF m 7 #[.val (.int p0), .val (.int p1), .val (.int p2), .val (.int p3), .val (.int ((1 : Int32) + (2 : Int32))), .unset, .unset, .unset, .unset, .unset, .unset, .unset, .unset] []))
    refine own_via (fun _ k => XS.iloadN X0.here hx rfl (hb hby at_7) rfl k) ?_
    show own_Go p e below s _ _ _ (s₁.setTop (mkF m 8 #[.val (.int p0), .val (.int p1), .val (.int p2), .val (.int p3), .val (.int ((1 : Int32) + (2 : Int32))), .unset, .unset, .unset, .unset, .unset, .unset, .unset, .unset] [(.int p0)]))
    refine own_via (fun _ k => XS.iconst X0.here hx rfl (hb hby at_8) k) ?_
    show own_Go p e below s _ _ _ (s₁.setTop (mkF m 9 #[.val (.int p0), .val (.int p1), .val (.int p2), .val (.int p3), .val (.int ((1 : Int32) + (2 : Int32))), .unset, .unset, .unset, .unset, .unset, .unset, .unset, .unset] [(.int (2 : Int32)), (.int p0)]))
    refine own_via (fun _ k => XS.iushr X0.here hx rfl (hb hby at_9) rfl k) ?_
    show own_Go p e below s _ _ _ (s₁.setTop (mkF m 10 #[.val (.int p0), .val (.int p1), .val (.int p2), .val (.int p3), .val (.int ((1 : Int32) + (2 : Int32))), .unset, .unset, .unset, .unset, .unset, .unset, .unset, .unset] [(.int ((p0.toUInt32 >>> ((2 : Int32) &&& 31).toUInt32).toInt32))]))
    refine own_via (fun _ k => XS.iconst X0.here hx rfl (hb hby at_10) k) ?_
    show own_Go p e below s _ _ _ (s₁.setTop (mkF m 11 #[.val (.int p0), .val (.int p1), .val (.int p2), .val (.int p3), .val (.int ((1 : Int32) + (2 : Int32))), .unset, .unset, .unset, .unset, .unset, .unset, .unset, .unset] [(.int (3 : Int32)), (.int ((p0.toUInt32 >>> ((2 : Int32) &&& 31).toUInt32).toInt32))]))
    refine own_via (fun _ k => XS.iand X0.here hx rfl (hb hby at_11) rfl k) ?_
    show own_Go p e below s _ _ _ (s₁.setTop (mkF m 12 #[.val (.int p0), .val (.int p1), .val (.int p2), .val (.int p3), .val (.int ((1 : Int32) + (2 : Int32))), .unset, .unset, .unset, .unset, .unset, .unset, .unset, .unset] [(.int (((p0.toUInt32 >>> ((2 : Int32) &&& 31).toUInt32).toInt32) &&& (3 : Int32)))]))
    refine own_via (fun _ k => XS.istore X0.here hx rfl (hb hby at_12) rfl (l' := #[.val (.int p0), .val (.int p1), .val (.int p2), .val (.int p3), .val (.int ((1 : Int32) + (2 : Int32))), .val (.int (((p0.toUInt32 >>> ((2 : Int32) &&& 31).toUInt32).toInt32) &&& (3 : Int32))), .unset, .unset, .unset, .unset, .unset, .unset, .unset]) rfl k) ?_
    show own_Go p e below s _ _ _ (s₁.setTop (mkF m 14 #[.val (.int p0), .val (.int p1), .val (.int p2), .val (.int p3), .val (.int ((1 : Int32) + (2 : Int32))), .val (.int (((p0.toUInt32 >>> ((2 : Int32) &&& 31).toUInt32).toInt32) &&& (3 : Int32))), .unset, .unset, .unset, .unset, .unset, .unset, .unset] []))
    obtain ⟨T65, h65, X65, e65, E65, A65, D65, -, st65⟩ := newO X0 hx hZ hown (hw _ (List.mem_of_getElem? (i := 0) rfl)) (hw _ (List.mem_of_getElem? (i := 1) rfl)) (hw _ (List.mem_of_getElem? (i := 2) rfl)) e0 (g := (mkF m 14 #[.val (.int p0), .val (.int p1), .val (.int p2), .val (.int p3), .val (.int ((1 : Int32) + (2 : Int32))), .val (.int (((p0.toUInt32 >>> ((2 : Int32) &&& 31).toUInt32).toInt32) &&& (3 : Int32))), .unset, .unset, .unset, .unset, .unset, .unset, .unset] [])) rfl (hb hby at_14) (by decide) (by decide)
    obtain ⟨b65, g65⟩ : ∃ z, z = h0.size := ⟨_, rfl⟩
    rw [← g65] at A65 D65 st65
    skip
    have g_b65 : n0 ≤ b65 := Nat.le_trans Z0 (Nat.le_of_eq g65.symm)
    have Z0 := Nat.le_trans Z0 E65.1
    have OL := OL.ext E65
    skip
    have OB_b65 : own_Obj0 Z h65 b65 .null .null (0 : Int32) .null (0 : Int32) (0 : Int32) (0 : Int32) .null (0 : Int32) := ⟨A65, D65 (Or.inl (hw _ (List.mem_of_getElem? (i := 15) rfl))) (ty := (.array (.array .int))) (by decide), D65 (Or.inl (hw _ (List.mem_of_getElem? (i := 22) rfl))) (ty := (.array (.array (.object "java/lang/Object")))) (by decide), D65 (Or.inl (hw _ (List.mem_of_getElem? (i := 24) rfl))) (ty := .int) (by decide), D65 (Or.inl (hw _ (List.mem_of_getElem? (i := 26) rfl))) (ty := (.array .int)) (by decide), D65 (Or.inr (hw _ (List.mem_of_getElem? (i := 28) rfl))) (ty := .int) (by decide), D65 (Or.inr (hw _ (List.mem_of_getElem? (i := 30) rfl))) (ty := .int) (by decide), D65 (Or.inl (hw _ (List.mem_of_getElem? (i := 38) rfl))) (ty := .int) (by decide), D65 (Or.inl (hw _ (List.mem_of_getElem? (i := 40) rfl))) (ty := (.object "com/example/whenever/whenever/internal/engine/Rows$LaterBlocks")) (by decide), D65 (Or.inl (hw _ (List.mem_of_getElem? (i := 42) rfl))) (ty := .int) (by decide)⟩
    refine own_via st65 ?_
    show own_Go p e below s _ _ _ (T65.setTop (mkF m 17 #[.val (.int p0), .val (.int p1), .val (.int p2), .val (.int p3), .val (.int ((1 : Int32) + (2 : Int32))), .val (.int (((p0.toUInt32 >>> ((2 : Int32) &&& 31).toUInt32).toInt32) &&& (3 : Int32))), .unset, .unset, .unset, .unset, .unset, .unset, .unset] [(.ref b65)]))
    refine own_via (fun _ k => XS.dup X65.here hx rfl (hb hby at_17) rfl rfl k) ?_
    show own_Go p e below s _ _ _ (T65.setTop (mkF m 18 #[.val (.int p0), .val (.int p1), .val (.int p2), .val (.int p3), .val (.int ((1 : Int32) + (2 : Int32))), .val (.int (((p0.toUInt32 >>> ((2 : Int32) &&& 31).toUInt32).toInt32) &&& (3 : Int32))), .unset, .unset, .unset, .unset, .unset, .unset, .unset] [(.ref b65), (.ref b65)]))
    refine own_via (fun _ k => XS.iload X65.here hx rfl (hb hby at_18) rfl k) ?_
    show own_Go p e below s _ _ _ (T65.setTop (mkF m 20 #[.val (.int p0), .val (.int p1), .val (.int p2), .val (.int p3), .val (.int ((1 : Int32) + (2 : Int32))), .val (.int (((p0.toUInt32 >>> ((2 : Int32) &&& 31).toUInt32).toInt32) &&& (3 : Int32))), .unset, .unset, .unset, .unset, .unset, .unset, .unset] [(.int ((1 : Int32) + (2 : Int32))), (.ref b65), (.ref b65)]))
    refine own_via (fun _ k => XS.iload X65.here hx rfl (hb hby at_20) rfl k) ?_
    show own_Go p e below s _ _ _ (T65.setTop (mkF m 22 #[.val (.int p0), .val (.int p1), .val (.int p2), .val (.int p3), .val (.int ((1 : Int32) + (2 : Int32))), .val (.int (((p0.toUInt32 >>> ((2 : Int32) &&& 31).toUInt32).toInt32) &&& (3 : Int32))), .unset, .unset, .unset, .unset, .unset, .unset, .unset] [(.int (((p0.toUInt32 >>> ((2 : Int32) &&& 31).toUInt32).toInt32) &&& (3 : Int32))), (.int ((1 : Int32) + (2 : Int32))), (.ref b65), (.ref b65)]))
    obtain ⟨_, _, ⟨T66, L66, k66, n66⟩, -, X66, ⟨Lc66, hQ66, l66, y66, z66⟩, st66⟩ := X65.specialBack hx (y := (⟨"com/example/whenever/whenever/internal/engine/Rows", "<init>", "(II)V"⟩ : MethodName)) rfl hown (mvT hZ (hw _ (List.mem_of_getElem? (i := 3) rfl))) (mvT hZ (hw _ (List.mem_of_getElem? (i := 4) rfl))) (mvT hZ (hw _ (List.mem_of_getElem? (i := 5) rfl))) (by decide) (backOf (W := 1) (rm1_1 l Z a0 hw [] b65 ((1 : Int32) + (2 : Int32)) (((p0.toUInt32 >>> ((2 : Int32) &&& 31).toUInt32).toInt32) &&& (3 : Int32)) w0 w1 mr kw0 kw1 h65 n0 Z0 K0 OL (by decide) OB_b65 g_b65) hZ (hw _ (List.mem_of_getElem? (i := 5) rfl)) (hw _ (List.mem_of_getElem? (i := 2) rfl)) (by decide) (by decide)) (g := (mkF m 22 #[.val (.int p0), .val (.int p1), .val (.int p2), .val (.int p3), .val (.int ((1 : Int32) + (2 : Int32))), .val (.int (((p0.toUInt32 >>> ((2 : Int32) &&& 31).toUInt32).toInt32) &&& (3 : Int32))), .unset, .unset, .unset, .unset, .unset, .unset, .unset] [(.int (((p0.toUInt32 >>> ((2 : Int32) &&& 31).toUInt32).toInt32) &&& (3 : Int32))), (.int ((1 : Int32) + (2 : Int32))), (.ref b65), (.ref b65)])) rfl (by rw [hml]; rfl) (Steps.refl _) (a := b65) (argsL := [(.int ((1 : Int32) + (2 : Int32))), (.int (((p0.toUInt32 >>> ((2 : Int32) &&& 31).toUInt32).toInt32) &&& (3 : Int32)))]) (rest := [(.ref b65)]) (lenOf pd0 rfl) rfl (by show 2 * 0 + _ ≤ _; exact Nat.le_of_eq rfl) (hb hby at_22) (fun _ _ => ⟨rfl, e65, (by decide : 0 + 1 + 2 ≤ _), (by decide : 0 + 10 + 2 ≤ _)⟩)
    dsimp only [Pt.U, Pt.locs, Pt.cells, Pt.slots] at X66 l66 y66 z66 st66 hQ66
    subst l66 y66 z66
    obtain ⟨NQ66, OLq66, Zq66, KQ66, hP66⟩ := hQ66
    obtain ⟨rfl, A1, A2, k1, k2, OBq66, V_A1, V_A2, OV_A1, OV_A2, ne_b65_A1, ne_b65_A2, ne_A1_A2, -, g_A1, g_A2⟩ := hP66
    have OB_b65 := OBq66
    skip
    have OL := OLq66
    have Z0 := Zq66
    refine own_tr st66 ?_
    show own_Go p e below s _ _ _ (T66.setTop (mkF m 25 #[.val (.int p0), .val (.int p1), .val (.int p2), .val (.int p3), .val (.int ((1 : Int32) + (2 : Int32))), .val (.int (((p0.toUInt32 >>> ((2 : Int32) &&& 31).toUInt32).toInt32) &&& (3 : Int32))), .unset, .unset, .unset, .unset, .unset, .unset, .unset] [(.ref b65)]))
    refine own_via (fun _ k => XS.astore X66.here hx rfl (hb hby at_25) rfl rfl (l' := #[.val (.int p0), .val (.int p1), .val (.int p2), .val (.int p3), .val (.int ((1 : Int32) + (2 : Int32))), .val (.int (((p0.toUInt32 >>> ((2 : Int32) &&& 31).toUInt32).toInt32) &&& (3 : Int32))), .val (.ref b65), .unset, .unset, .unset, .unset, .unset, .unset]) rfl k) ?_
    show own_Go p e below s _ _ _ (T66.setTop (mkF m 27 #[.val (.int p0), .val (.int p1), .val (.int p2), .val (.int p3), .val (.int ((1 : Int32) + (2 : Int32))), .val (.int (((p0.toUInt32 >>> ((2 : Int32) &&& 31).toUInt32).toInt32) &&& (3 : Int32))), .val (.ref b65), .unset, .unset, .unset, .unset, .unset, .unset] []))
    refine own_via (fun _ k => XS.iconst X66.here hx rfl (hb hby at_27) k) ?_
    show own_Go p e below s _ _ _ (T66.setTop (mkF m 28 #[.val (.int p0), .val (.int p1), .val (.int p2), .val (.int p3), .val (.int ((1 : Int32) + (2 : Int32))), .val (.int (((p0.toUInt32 >>> ((2 : Int32) &&& 31).toUInt32).toInt32) &&& (3 : Int32))), .val (.ref b65), .unset, .unset, .unset, .unset, .unset, .unset] [(.int (4 : Int32))]))
    obtain ⟨T67, h67, k67, X67, e67, E67, A67, EX_b67, st67⟩ := newPE X66 hx hZ (hw _ (List.mem_of_getElem? (i := 31) rfl)) rfl (g := (mkF m 28 #[.val (.int p0), .val (.int p1), .val (.int p2), .val (.int p3), .val (.int ((1 : Int32) + (2 : Int32))), .val (.int (((p0.toUInt32 >>> ((2 : Int32) &&& 31).toUInt32).toInt32) &&& (3 : Int32))), .val (.ref b65), .unset, .unset, .unset, .unset, .unset, .unset] [(.int (4 : Int32))])) rfl (hb hby at_28) rfl (by decide) (cap := 4) (by decide) (by decide) (by decide) (by decide) (ad := "[I") (by decide)
    obtain ⟨b67, g67⟩ : ∃ z, z = T66.heap.size := ⟨_, rfl⟩
    rw [← g67] at A67 EX_b67 st67
    have ne_b65_b67 : b65 ≠ b67 := Nat.ne_of_lt (Nat.lt_of_lt_of_le OB_b65.1.lt (Nat.le_of_eq g67.symm))
    have ne_A1_b67 : A1 ≠ b67 := Nat.ne_of_lt (Nat.lt_of_lt_of_le V_A1.lt (Nat.le_of_eq g67.symm))
    have ne_A2_b67 : A2 ≠ b67 := Nat.ne_of_lt (Nat.lt_of_lt_of_le V_A2.lt (Nat.le_of_eq g67.symm))
    skip
    have g_b67 : n0 ≤ b67 := Nat.le_trans Z0 (Nat.le_of_eq g67.symm)
    have Z0 := Nat.le_trans Z0 E67.1
    have OL := OL.ext E67
    skip
    have OB_b65 := OB_b65.ext E67
    have V_A1 := V_A1.ext E67
    have V_A2 := V_A2.ext E67
    have V_b67 : Arv Z h67 b67 k67 .int (4 : Int32) [(.int (0 : Int32)), (.int (0 : Int32)), (.int (0 : Int32)), (.int (0 : Int32))] (.int 0) := (Arv.new A67 (by decide)).pad (pad_rep [] (.int 0) 4)
    refine own_via st67 ?_
    show own_Go p e below s _ _ _ (T67.setTop (mkF m 30 #[.val (.int p0), .val (.int p1), .val (.int p2), .val (.int p3), .val (.int ((1 : Int32) + (2 : Int32))), .val (.int (((p0.toUInt32 >>> ((2 : Int32) &&& 31).toUInt32).toInt32) &&& (3 : Int32))), .val (.ref b65), .unset, .unset, .unset, .unset, .unset, .unset] [(.ref b67)]))
    refine own_via (fun _ k => XS.astore X67.here hx rfl (hb hby at_30) rfl rfl (l' := #[.val (.int p0), .val (.int p1), .val (.int p2), .val (.int p3), .val (.int ((1 : Int32) + (2 : Int32))), .val (.int (((p0.toUInt32 >>> ((2 : Int32) &&& 31).toUInt32).toInt32) &&& (3 : Int32))), .val (.ref b65), .val (.ref b67), .unset, .unset, .unset, .unset, .unset]) rfl k) ?_
    show own_Go p e below s _ _ _ (T67.setTop (mkF m 32 #[.val (.int p0), .val (.int p1), .val (.int p2), .val (.int p3), .val (.int ((1 : Int32) + (2 : Int32))), .val (.int (((p0.toUInt32 >>> ((2 : Int32) &&& 31).toUInt32).toInt32) &&& (3 : Int32))), .val (.ref b65), .val (.ref b67), .unset, .unset, .unset, .unset, .unset] []))
    refine own_via (fun _ k => XS.aload X67.here hx rfl (hb hby at_32) rfl rfl k) ?_
    show own_Go p e below s _ _ _ (T67.setTop (mkF m 34 #[.val (.int p0), .val (.int p1), .val (.int p2), .val (.int p3), .val (.int ((1 : Int32) + (2 : Int32))), .val (.int (((p0.toUInt32 >>> ((2 : Int32) &&& 31).toUInt32).toInt32) &&& (3 : Int32))), .val (.ref b65), .val (.ref b67), .unset, .unset, .unset, .unset, .unset] [(.ref b67)]))
    refine own_via (fun _ k => XS.iconst X67.here hx rfl (hb hby at_34) k) ?_
    show own_Go p e below s _ _ _ (T67.setTop (mkF m 35 #[.val (.int p0), .val (.int p1), .val (.int p2), .val (.int p3), .val (.int ((1 : Int32) + (2 : Int32))), .val (.int (((p0.toUInt32 >>> ((2 : Int32) &&& 31).toUInt32).toInt32) &&& (3 : Int32))), .val (.ref b65), .val (.ref b67), .unset, .unset, .unset, .unset, .unset] [(.int (0 : Int32)), (.ref b67)]))
    refine own_via (fun _ k => XS.aload X67.here hx rfl (hb hby at_35) rfl rfl k) ?_
    show own_Go p e below s _ _ _ (T67.setTop (mkF m 37 #[.val (.int p0), .val (.int p1), .val (.int p2), .val (.int p3), .val (.int ((1 : Int32) + (2 : Int32))), .val (.int (((p0.toUInt32 >>> ((2 : Int32) &&& 31).toUInt32).toInt32) &&& (3 : Int32))), .val (.ref b65), .val (.ref b67), .unset, .unset, .unset, .unset, .unset] [(.ref b65), (.int (0 : Int32)), (.ref b67)]))
    obtain ⟨cq68, kq68, q68a, q68b, q68c⟩ := isOf hZ e67 OB_b65.1
    obtain ⟨_, _, ⟨T68, L68, k68, n68⟩, -, X68, ⟨Lc68, hQ68, l68, y68, z68⟩, st68⟩ := X67.virtualBack hx (y := (⟨"com/example/whenever/whenever/internal/engine/Rows", "add", "()I"⟩ : MethodName)) (z := (⟨"com/example/whenever/whenever/internal/engine/Rows", "add", "()I"⟩ : MethodName)) hown (mvT hZ (hw _ (List.mem_of_getElem? (i := 32) rfl))) (mvT hZ (hw _ (List.mem_of_getElem? (i := 33) rfl))) (notFace_of_selects (args := #[]) (mvT hZ (hw _ (List.mem_of_getElem? (i := 35) rfl)))) (mvT hZ (hw _ (List.mem_of_getElem? (i := 35) rfl))) (mvT hZ (hw _ (List.mem_of_getElem? (i := 34) rfl))) (by decide) (backOf (W := 2) (rm3_1 l Z a0 hw [] b65 A1 A2 k1 k2 ((1 : Int32) + (2 : Int32)) (((p0.toUInt32 >>> ((2 : Int32) &&& 31).toUInt32).toInt32) &&& (3 : Int32)) w0 w1 mr kw0 kw1 h67 n0 Z0 K0 OL (by decide) (by decide) (own_r4 _).1 (own_r4 _).2 ⟨OB_b65, V_A1, V_A2, OV_A1, OV_A2, ne_b65_A1, ne_b65_A2, ne_A1_A2, g_b65, g_A1, g_A2⟩) hZ (hw _ (List.mem_of_getElem? (i := 36) rfl)) (hw _ (List.mem_of_getElem? (i := 2) rfl)) (by decide) (by decide)) q68a q68c (g := (mkF m 37 #[.val (.int p0), .val (.int p1), .val (.int p2), .val (.int p3), .val (.int ((1 : Int32) + (2 : Int32))), .val (.int (((p0.toUInt32 >>> ((2 : Int32) &&& 31).toUInt32).toInt32) &&& (3 : Int32))), .val (.ref b65), .val (.ref b67), .unset, .unset, .unset, .unset, .unset] [(.ref b65), (.int (0 : Int32)), (.ref b67)])) rfl (by rw [hml]; rfl) (Steps.refl _) (argsL := []) (rest := [(.int (0 : Int32)), (.ref b67)]) (lenOf pd4 rfl) rfl (by show 2 * 0 + _ ≤ _; exact Nat.le_of_eq rfl) (hb hby at_37) (fun _ _ => ⟨rfl, e67, (by decide : 0 + 1 + 2 + 1 + 2 ≤ _), (by decide : 0 + 10 + 2 + 4 + 64 ≤ _)⟩)
    dsimp only [Pt.U, Pt.locs, Pt.cells, Pt.slots] at X68 l68 y68 z68 st68 hQ68
    subst l68 y68 z68
    obtain ⟨NQ68, OLq68, Zq68, KQ68, hP68⟩ := hQ68
    obtain ⟨rfl, I, R, kI, kR, ⟨OBq68, Vq68a, Vq68b, -, -, -, -, -, -, -, -⟩, V_I, AR_R, OVR_R, ne_b65_I, ne_A1_I, ne_A2_I, ne_b65_R, ne_A1_R, ne_A2_R, ne_I_R, szI68, szR68⟩ := hP68
    have ne_b67_I : b67 ≠ I := Nat.ne_of_lt (Nat.lt_of_lt_of_le V_b67.lt szI68)
    have g_I : n0 ≤ I := Nat.le_trans Z0 szI68
    have ne_b67_R : b67 ≠ R := Nat.ne_of_lt (Nat.lt_of_lt_of_le V_b67.lt szR68)
    have g_R : n0 ≤ R := Nat.le_trans Z0 szR68
    have V_b67 := V_b67.keep KQ68 (ninS (Ne.symm ne_b65_b67) (ninS (Ne.symm ne_A1_b67) (ninS (Ne.symm ne_A2_b67) nin0)))
    have EX_b67 := EX_b67.keep KQ68
    have OB_b65 := OBq68
    have V_A1 := Vq68a
    have V_A2 := Vq68b
    skip
    have OL := OLq68
    have Z0 := Zq68
    refine own_tr st68 ?_
    obtain ⟨cl, AR_I, -, SI, -, HI, -⟩ := V_I
    show own_Go p e below s _ _ _ (T68.setTop (mkF m 40 #[.val (.int p0), .val (.int p1), .val (.int p2), .val (.int p3), .val (.int ((1 : Int32) + (2 : Int32))), .val (.int (((p0.toUInt32 >>> ((2 : Int32) &&& 31).toUInt32).toInt32) &&& (3 : Int32))), .val (.ref b65), .val (.ref b67), .unset, .unset, .unset, .unset, .unset] [(.int (1 : Int32)), (.int (0 : Int32)), (.ref b67)]))
    have Vx69 := V_b67
    obtain ⟨cl69, Ar69, q69, S69, N69, H69, G69⟩ := Vx69
    have hin69 : ¬ ((0 : Int32) < 0 ∨ cl69.slots.size ≤ ((0 : Int32)).toNatClampNeg) := inb_of S69 ⟨by decide, by decide⟩
    obtain ⟨T69, h69, X69, e69, W69, st69⟩ := stI X68 hx hZ rfl Ar69 (j := (0 : Int32)) hin69 (g := (mkF m 40 #[.val (.int p0), .val (.int p1), .val (.int p2), .val (.int p3), .val (.int ((1 : Int32) + (2 : Int32))), .val (.int (((p0.toUInt32 >>> ((2 : Int32) &&& 31).toUInt32).toInt32) &&& (3 : Int32))), .val (.ref b65), .val (.ref b67), .unset, .unset, .unset, .unset, .unset] [(.int (1 : Int32)), (.int (0 : Int32)), (.ref b67)])) rfl rfl (hb hby at_40)
    have V_b67 : Arv Z h69 b67 k67 .int (4 : Int32) [(.int (1 : Int32)), (.int (0 : Int32)), (.int (0 : Int32)), (.int (0 : Int32))] (.int 0) := Arv.set Ar69 q69 S69 N69 H69 G69 rfl W69 0 rfl (Nat.le_of_ble_eq_true rfl)
    have N69 := Fr.snoc X69 (Fr.app (Fr.app (Fr.nil n0) NQ66) NQ68) g_b67
    have Z0 := Nat.le_trans Z0 (Keep.of_wr W69).1
    have OL := OL.wr W69 g_b67
    skip
    have OB_b65 := OB_b65.other W69 ne_b65_b67
    have V_A1 := V_A1.other W69 ne_A1_b67
    have V_A2 := V_A2.other W69 ne_A2_b67
    have AR_R := AR_R.other W69 (Ne.symm ne_b67_R)
    have AR_I := AR_I.other W69 (Ne.symm ne_b67_I)
    have EX_b67 := EX_b67.wr W69
    refine own_via st69 ?_
    show own_Go p e below s _ _ _ (T69.setTop (mkF m 41 #[.val (.int p0), .val (.int p1), .val (.int p2), .val (.int p3), .val (.int ((1 : Int32) + (2 : Int32))), .val (.int (((p0.toUInt32 >>> ((2 : Int32) &&& 31).toUInt32).toInt32) &&& (3 : Int32))), .val (.ref b65), .val (.ref b67), .unset, .unset, .unset, .unset, .unset] []))
    refine own_via (fun _ k => XS.aload X69.here hx rfl (hb hby at_41) rfl rfl k) ?_
    show own_Go p e below s _ _ _ (T69.setTop (mkF m 43 #[.val (.int p0), .val (.int p1), .val (.int p2), .val (.int p3), .val (.int ((1 : Int32) + (2 : Int32))), .val (.int (((p0.toUInt32 >>> ((2 : Int32) &&& 31).toUInt32).toInt32) &&& (3 : Int32))), .val (.ref b65), .val (.ref b67), .unset, .unset, .unset, .unset, .unset] [(.ref b67)]))
    refine own_via (fun _ k => XS.iconst X69.here hx rfl (hb hby at_43) k) ?_
    show own_Go p e below s _ _ _ (T69.setTop (mkF m 44 #[.val (.int p0), .val (.int p1), .val (.int p2), .val (.int p3), .val (.int ((1 : Int32) + (2 : Int32))), .val (.int (((p0.toUInt32 >>> ((2 : Int32) &&& 31).toUInt32).toInt32) &&& (3 : Int32))), .val (.ref b65), .val (.ref b67), .unset, .unset, .unset, .unset, .unset] [(.int (1 : Int32)), (.ref b67)]))
    refine own_via (fun _ k => XS.aload X69.here hx rfl (hb hby at_44) rfl rfl k) ?_
    show own_Go p e below s _ _ _ (T69.setTop (mkF m 46 #[.val (.int p0), .val (.int p1), .val (.int p2), .val (.int p3), .val (.int ((1 : Int32) + (2 : Int32))), .val (.int (((p0.toUInt32 >>> ((2 : Int32) &&& 31).toUInt32).toInt32) &&& (3 : Int32))), .val (.ref b65), .val (.ref b67), .unset, .unset, .unset, .unset, .unset] [(.ref b65), (.int (1 : Int32)), (.ref b67)]))
    obtain ⟨cq70, kq70, q70a, q70b, q70c⟩ := isOf hZ e69 OB_b65.1
    obtain ⟨_, _, ⟨T70, L70, k70, n70⟩, -, X70, ⟨Lc70, hQ70, l70, y70, z70⟩, st70⟩ := X69.virtualBack hx (y := (⟨"com/example/whenever/whenever/internal/engine/Rows", "add", "()I"⟩ : MethodName)) (z := (⟨"com/example/whenever/whenever/internal/engine/Rows", "add", "()I"⟩ : MethodName)) hown (mvT hZ (hw _ (List.mem_of_getElem? (i := 32) rfl))) (mvT hZ (hw _ (List.mem_of_getElem? (i := 33) rfl))) (notFace_of_selects (args := #[]) (mvT hZ (hw _ (List.mem_of_getElem? (i := 35) rfl)))) (mvT hZ (hw _ (List.mem_of_getElem? (i := 35) rfl))) (mvT hZ (hw _ (List.mem_of_getElem? (i := 34) rfl))) (by decide) (backOf (W := 2) (rm3_2 l Z a0 hw [] b65 A1 A2 I R k1 k2 ((1 : Int32) + (2 : Int32)) (((p0.toUInt32 >>> ((2 : Int32) &&& 31).toUInt32).toInt32) &&& (3 : Int32)) w0 w1 mr kw0 kw1 h69 n0 Z0 K0 OL ⟨OB_b65, V_A1, V_A2, OV_A1, OV_A2, ne_b65_A1, ne_b65_A2, ne_A1_A2, g_b65, g_A1, g_A2⟩) hZ (hw _ (List.mem_of_getElem? (i := 36) rfl)) (hw _ (List.mem_of_getElem? (i := 2) rfl)) (by decide) (by decide)) q70a q70c (g := (mkF m 46 #[.val (.int p0), .val (.int p1), .val (.int p2), .val (.int p3), .val (.int ((1 : Int32) + (2 : Int32))), .val (.int (((p0.toUInt32 >>> ((2 : Int32) &&& 31).toUInt32).toInt32) &&& (3 : Int32))), .val (.ref b65), .val (.ref b67), .unset, .unset, .unset, .unset, .unset] [(.ref b65), (.int (1 : Int32)), (.ref b67)])) rfl (by rw [hml]; rfl) (Steps.refl _) (argsL := []) (rest := [(.int (1 : Int32)), (.ref b67)]) (lenOf pd4 rfl) rfl (by show 2 * 0 + _ ≤ _; exact Nat.le_of_eq rfl) (hb hby at_46) (fun _ _ => ⟨rfl, e69, (by decide : 0 + 1 + 2 + 1 + 2 + 0 ≤ _), (by decide : 0 + 10 + 2 + 4 + 64 + 0 ≤ _)⟩)
    dsimp only [Pt.U, Pt.locs, Pt.cells, Pt.slots] at X70 l70 y70 z70 st70 hQ70
    subst l70 y70 z70
    obtain ⟨NQ70, OLq70, Zq70, KQ70, hP70⟩ := hQ70
    obtain ⟨rfl, ⟨OBq70, Vq70a, Vq70b, -, -, -, -, -, -, -, -⟩⟩ := hP70
    have V_A1 := V_A1.keep KQ70 (ninS (Ne.symm ne_b65_A1) nin0)
    have V_A2 := V_A2.keep KQ70 (ninS (Ne.symm ne_b65_A2) nin0)
    have V_b67 := V_b67.keep KQ70 (ninS (Ne.symm ne_b65_b67) nin0)
    have AR_R := own_arrKeep AR_R KQ70 (ninS (Ne.symm ne_b65_R) nin0)
    have AR_I := own_arrKeep AR_I KQ70 (ninS (Ne.symm ne_b65_I) nin0)
    have EX_b67 := EX_b67.keep KQ70
    have OB_b65 := OBq70
    skip
    have OL := OLq70
    have Z0 := Zq70
    refine own_tr st70 ?_
    show own_Go p e below s _ _ _ (T70.setTop (mkF m 49 #[.val (.int p0), .val (.int p1), .val (.int p2), .val (.int p3), .val (.int ((1 : Int32) + (2 : Int32))), .val (.int (((p0.toUInt32 >>> ((2 : Int32) &&& 31).toUInt32).toInt32) &&& (3 : Int32))), .val (.ref b65), .val (.ref b67), .unset, .unset, .unset, .unset, .unset] [(.int ((1 : Int32) + (1 : Int32))), (.int (1 : Int32)), (.ref b67)]))
    have Vx71 := V_b67
    obtain ⟨cl71, Ar71, q71, S71, N71, H71, G71⟩ := Vx71
    have hin71 : ¬ ((1 : Int32) < 0 ∨ cl71.slots.size ≤ ((1 : Int32)).toNatClampNeg) := inb_of S71 ⟨by decide, by decide⟩
    obtain ⟨T71, h71, X71, e71, W71, st71⟩ := stI X70 hx hZ rfl Ar71 (j := (1 : Int32)) hin71 (g := (mkF m 49 #[.val (.int p0), .val (.int p1), .val (.int p2), .val (.int p3), .val (.int ((1 : Int32) + (2 : Int32))), .val (.int (((p0.toUInt32 >>> ((2 : Int32) &&& 31).toUInt32).toInt32) &&& (3 : Int32))), .val (.ref b65), .val (.ref b67), .unset, .unset, .unset, .unset, .unset] [(.int ((1 : Int32) + (1 : Int32))), (.int (1 : Int32)), (.ref b67)])) rfl rfl (hb hby at_49)
    have V_b67 : Arv Z h71 b67 k67 .int (4 : Int32) [(.int (1 : Int32)), (.int ((1 : Int32) + (1 : Int32))), (.int (0 : Int32)), (.int (0 : Int32))] (.int 0) := Arv.set Ar71 q71 S71 N71 H71 G71 rfl W71 1 rfl (Nat.le_of_ble_eq_true rfl)
    have N71 := Fr.snoc X71 (Fr.app N69 NQ70) g_b67
    have Z0 := Nat.le_trans Z0 (Keep.of_wr W71).1
    have OL := OL.wr W71 g_b67
    skip
    have OB_b65 := OB_b65.other W71 ne_b65_b67
    have V_A1 := V_A1.other W71 ne_A1_b67
    have V_A2 := V_A2.other W71 ne_A2_b67
    have AR_R := AR_R.other W71 (Ne.symm ne_b67_R)
    have AR_I := AR_I.other W71 (Ne.symm ne_b67_I)
    have EX_b67 := EX_b67.wr W71
    refine own_via st71 ?_
    show own_Go p e below s _ _ _ (T71.setTop (mkF m 50 #[.val (.int p0), .val (.int p1), .val (.int p2), .val (.int p3), .val (.int ((1 : Int32) + (2 : Int32))), .val (.int (((p0.toUInt32 >>> ((2 : Int32) &&& 31).toUInt32).toInt32) &&& (3 : Int32))), .val (.ref b65), .val (.ref b67), .unset, .unset, .unset, .unset, .unset] []))
    refine own_via (fun _ k => XS.aload X71.here hx rfl (hb hby at_50) rfl rfl k) ?_
    show own_Go p e below s _ _ _ (T71.setTop (mkF m 52 #[.val (.int p0), .val (.int p1), .val (.int p2), .val (.int p3), .val (.int ((1 : Int32) + (2 : Int32))), .val (.int (((p0.toUInt32 >>> ((2 : Int32) &&& 31).toUInt32).toInt32) &&& (3 : Int32))), .val (.ref b65), .val (.ref b67), .unset, .unset, .unset, .unset, .unset] [(.ref b67)]))
    refine own_via (fun _ k => XS.iconst X71.here hx rfl (hb hby at_52) k) ?_
    show own_Go p e below s _ _ _ (T71.setTop (mkF m 53 #[.val (.int p0), .val (.int p1), .val (.int p2), .val (.int p3), .val (.int ((1 : Int32) + (2 : Int32))), .val (.int (((p0.toUInt32 >>> ((2 : Int32) &&& 31).toUInt32).toInt32) &&& (3 : Int32))), .val (.ref b65), .val (.ref b67), .unset, .unset, .unset, .unset, .unset] [(.int (2 : Int32)), (.ref b67)]))
    refine own_via (fun _ k => XS.aload X71.here hx rfl (hb hby at_53) rfl rfl k) ?_
    show own_Go p e below s _ _ _ (T71.setTop (mkF m 55 #[.val (.int p0), .val (.int p1), .val (.int p2), .val (.int p3), .val (.int ((1 : Int32) + (2 : Int32))), .val (.int (((p0.toUInt32 >>> ((2 : Int32) &&& 31).toUInt32).toInt32) &&& (3 : Int32))), .val (.ref b65), .val (.ref b67), .unset, .unset, .unset, .unset, .unset] [(.ref b65), (.int (2 : Int32)), (.ref b67)]))
    obtain ⟨cq72, kq72, q72a, q72b, q72c⟩ := isOf hZ e71 OB_b65.1
    obtain ⟨_, _, ⟨T72, L72, k72, n72⟩, -, X72, ⟨Lc72, hQ72, l72, y72, z72⟩, st72⟩ := X71.virtualBack hx (y := (⟨"com/example/whenever/whenever/internal/engine/Rows", "add", "()I"⟩ : MethodName)) (z := (⟨"com/example/whenever/whenever/internal/engine/Rows", "add", "()I"⟩ : MethodName)) hown (mvT hZ (hw _ (List.mem_of_getElem? (i := 32) rfl))) (mvT hZ (hw _ (List.mem_of_getElem? (i := 33) rfl))) (notFace_of_selects (args := #[]) (mvT hZ (hw _ (List.mem_of_getElem? (i := 35) rfl)))) (mvT hZ (hw _ (List.mem_of_getElem? (i := 35) rfl))) (mvT hZ (hw _ (List.mem_of_getElem? (i := 34) rfl))) (by decide) (backOf (W := 2) (rm3_3 l Z a0 hw [] b65 A1 A2 I R k1 k2 ((1 : Int32) + (2 : Int32)) (((p0.toUInt32 >>> ((2 : Int32) &&& 31).toUInt32).toInt32) &&& (3 : Int32)) w0 w1 mr kw0 kw1 h71 n0 Z0 K0 OL ⟨OB_b65, V_A1, V_A2, OV_A1, OV_A2, ne_b65_A1, ne_b65_A2, ne_A1_A2, g_b65, g_A1, g_A2⟩) hZ (hw _ (List.mem_of_getElem? (i := 36) rfl)) (hw _ (List.mem_of_getElem? (i := 2) rfl)) (by decide) (by decide)) q72a q72c (g := (mkF m 55 #[.val (.int p0), .val (.int p1), .val (.int p2), .val (.int p3), .val (.int ((1 : Int32) + (2 : Int32))), .val (.int (((p0.toUInt32 >>> ((2 : Int32) &&& 31).toUInt32).toInt32) &&& (3 : Int32))), .val (.ref b65), .val (.ref b67), .unset, .unset, .unset, .unset, .unset] [(.ref b65), (.int (2 : Int32)), (.ref b67)])) rfl (by rw [hml]; rfl) (Steps.refl _) (argsL := []) (rest := [(.int (2 : Int32)), (.ref b67)]) (lenOf pd4 rfl) rfl (by show 2 * 0 + _ ≤ _; exact Nat.le_of_eq rfl) (hb hby at_55) (fun _ _ => ⟨rfl, e71, (by decide : 0 + 1 + 2 + 1 + 2 + 0 + 0 ≤ _), (by decide : 0 + 10 + 2 + 4 + 64 + 0 + 0 ≤ _)⟩)
    dsimp only [Pt.U, Pt.locs, Pt.cells, Pt.slots] at X72 l72 y72 z72 st72 hQ72
    subst l72 y72 z72
    obtain ⟨NQ72, OLq72, Zq72, KQ72, hP72⟩ := hQ72
    obtain ⟨rfl, ⟨OBq72, Vq72a, Vq72b, -, -, -, -, -, -, -, -⟩⟩ := hP72
    have V_A1 := V_A1.keep KQ72 (ninS (Ne.symm ne_b65_A1) nin0)
    have V_A2 := V_A2.keep KQ72 (ninS (Ne.symm ne_b65_A2) nin0)
    have V_b67 := V_b67.keep KQ72 (ninS (Ne.symm ne_b65_b67) nin0)
    have AR_R := own_arrKeep AR_R KQ72 (ninS (Ne.symm ne_b65_R) nin0)
    have AR_I := own_arrKeep AR_I KQ72 (ninS (Ne.symm ne_b65_I) nin0)
    have EX_b67 := EX_b67.keep KQ72
    have OB_b65 := OBq72
    skip
    have OL := OLq72
    have Z0 := Zq72
    refine own_tr st72 ?_
    show own_Go p e below s _ _ _ (T72.setTop (mkF m 58 #[.val (.int p0), .val (.int p1), .val (.int p2), .val (.int p3), .val (.int ((1 : Int32) + (2 : Int32))), .val (.int (((p0.toUInt32 >>> ((2 : Int32) &&& 31).toUInt32).toInt32) &&& (3 : Int32))), .val (.ref b65), .val (.ref b67), .unset, .unset, .unset, .unset, .unset] [(.int (((1 : Int32) + (1 : Int32)) + (1 : Int32))), (.int (2 : Int32)), (.ref b67)]))
    have Vx73 := V_b67
    obtain ⟨cl73, Ar73, q73, S73, N73, H73, G73⟩ := Vx73
    have hin73 : ¬ ((2 : Int32) < 0 ∨ cl73.slots.size ≤ ((2 : Int32)).toNatClampNeg) := inb_of S73 ⟨by decide, by decide⟩
    obtain ⟨T73, h73, X73, e73, W73, st73⟩ := stI X72 hx hZ rfl Ar73 (j := (2 : Int32)) hin73 (g := (mkF m 58 #[.val (.int p0), .val (.int p1), .val (.int p2), .val (.int p3), .val (.int ((1 : Int32) + (2 : Int32))), .val (.int (((p0.toUInt32 >>> ((2 : Int32) &&& 31).toUInt32).toInt32) &&& (3 : Int32))), .val (.ref b65), .val (.ref b67), .unset, .unset, .unset, .unset, .unset] [(.int (((1 : Int32) + (1 : Int32)) + (1 : Int32))), (.int (2 : Int32)), (.ref b67)])) rfl rfl (hb hby at_58)
    have V_b67 : Arv Z h73 b67 k67 .int (4 : Int32) [(.int (1 : Int32)), (.int ((1 : Int32) + (1 : Int32))), (.int (((1 : Int32) + (1 : Int32)) + (1 : Int32))), (.int (0 : Int32))] (.int 0) := Arv.set Ar73 q73 S73 N73 H73 G73 rfl W73 2 rfl (Nat.le_of_ble_eq_true rfl)
    have N73 := Fr.snoc X73 (Fr.app N71 NQ72) g_b67
    have Z0 := Nat.le_trans Z0 (Keep.of_wr W73).1
    have OL := OL.wr W73 g_b67
    skip
    have OB_b65 := OB_b65.other W73 ne_b65_b67
    have V_A1 := V_A1.other W73 ne_A1_b67
    have V_A2 := V_A2.other W73 ne_A2_b67
    have AR_R := AR_R.other W73 (Ne.symm ne_b67_R)
    have AR_I := AR_I.other W73 (Ne.symm ne_b67_I)
    have EX_b67 := EX_b67.wr W73
    refine own_via st73 ?_
    show own_Go p e below s _ _ _ (T73.setTop (mkF m 59 #[.val (.int p0), .val (.int p1), .val (.int p2), .val (.int p3), .val (.int ((1 : Int32) + (2 : Int32))), .val (.int (((p0.toUInt32 >>> ((2 : Int32) &&& 31).toUInt32).toInt32) &&& (3 : Int32))), .val (.ref b65), .val (.ref b67), .unset, .unset, .unset, .unset, .unset] []))
    refine own_via (fun _ k => XS.aload X73.here hx rfl (hb hby at_59) rfl rfl k) ?_
    show own_Go p e below s _ _ _ (T73.setTop (mkF m 61 #[.val (.int p0), .val (.int p1), .val (.int p2), .val (.int p3), .val (.int ((1 : Int32) + (2 : Int32))), .val (.int (((p0.toUInt32 >>> ((2 : Int32) &&& 31).toUInt32).toInt32) &&& (3 : Int32))), .val (.ref b65), .val (.ref b67), .unset, .unset, .unset, .unset, .unset] [(.ref b67)]))
    refine own_via (fun _ k => XS.iconst X73.here hx rfl (hb hby at_61) k) ?_
    show own_Go p e below s _ _ _ (T73.setTop (mkF m 62 #[.val (.int p0), .val (.int p1), .val (.int p2), .val (.int p3), .val (.int ((1 : Int32) + (2 : Int32))), .val (.int (((p0.toUInt32 >>> ((2 : Int32) &&& 31).toUInt32).toInt32) &&& (3 : Int32))), .val (.ref b65), .val (.ref b67), .unset, .unset, .unset, .unset, .unset] [(.int (3 : Int32)), (.ref b67)]))
    refine own_via (fun _ k => XS.aload X73.here hx rfl (hb hby at_62) rfl rfl k) ?_
    show own_Go p e below s _ _ _ (T73.setTop (mkF m 64 #[.val (.int p0), .val (.int p1), .val (.int p2), .val (.int p3), .val (.int ((1 : Int32) + (2 : Int32))), .val (.int (((p0.toUInt32 >>> ((2 : Int32) &&& 31).toUInt32).toInt32) &&& (3 : Int32))), .val (.ref b65), .val (.ref b67), .unset, .unset, .unset, .unset, .unset] [(.ref b65), (.int (3 : Int32)), (.ref b67)]))
    obtain ⟨cq74, kq74, q74a, q74b, q74c⟩ := isOf hZ e73 OB_b65.1
    obtain ⟨_, _, ⟨T74, L74, k74, n74⟩, -, X74, ⟨Lc74, hQ74, l74, y74, z74⟩, st74⟩ := X73.virtualBack hx (y := (⟨"com/example/whenever/whenever/internal/engine/Rows", "add", "()I"⟩ : MethodName)) (z := (⟨"com/example/whenever/whenever/internal/engine/Rows", "add", "()I"⟩ : MethodName)) hown (mvT hZ (hw _ (List.mem_of_getElem? (i := 32) rfl))) (mvT hZ (hw _ (List.mem_of_getElem? (i := 33) rfl))) (notFace_of_selects (args := #[]) (mvT hZ (hw _ (List.mem_of_getElem? (i := 35) rfl)))) (mvT hZ (hw _ (List.mem_of_getElem? (i := 35) rfl))) (mvT hZ (hw _ (List.mem_of_getElem? (i := 34) rfl))) (by decide) (backOf (W := 2) (rm3_4 l Z a0 hw [] b65 A1 A2 I R k1 k2 ((1 : Int32) + (2 : Int32)) (((p0.toUInt32 >>> ((2 : Int32) &&& 31).toUInt32).toInt32) &&& (3 : Int32)) w0 w1 mr kw0 kw1 h73 n0 Z0 K0 OL ⟨OB_b65, V_A1, V_A2, OV_A1, OV_A2, ne_b65_A1, ne_b65_A2, ne_A1_A2, g_b65, g_A1, g_A2⟩) hZ (hw _ (List.mem_of_getElem? (i := 36) rfl)) (hw _ (List.mem_of_getElem? (i := 2) rfl)) (by decide) (by decide)) q74a q74c (g := (mkF m 64 #[.val (.int p0), .val (.int p1), .val (.int p2), .val (.int p3), .val (.int ((1 : Int32) + (2 : Int32))), .val (.int (((p0.toUInt32 >>> ((2 : Int32) &&& 31).toUInt32).toInt32) &&& (3 : Int32))), .val (.ref b65), .val (.ref b67), .unset, .unset, .unset, .unset, .unset] [(.ref b65), (.int (3 : Int32)), (.ref b67)])) rfl (by rw [hml]; rfl) (Steps.refl _) (argsL := []) (rest := [(.int (3 : Int32)), (.ref b67)]) (lenOf pd4 rfl) rfl (by show 2 * 0 + _ ≤ _; exact Nat.le_of_eq rfl) (hb hby at_64) (fun _ _ => ⟨rfl, e73, (by decide : 0 + 1 + 2 + 1 + 2 + 0 + 0 + 0 ≤ _), (by decide : 0 + 10 + 2 + 4 + 64 + 0 + 0 + 0 ≤ _)⟩)
    dsimp only [Pt.U, Pt.locs, Pt.cells, Pt.slots] at X74 l74 y74 z74 st74 hQ74
    subst l74 y74 z74
    obtain ⟨NQ74, OLq74, Zq74, KQ74, hP74⟩ := hQ74
    obtain ⟨rfl, ⟨OBq74, Vq74a, Vq74b, -, -, -, -, -, -, -, -⟩⟩ := hP74
    have V_A1 := V_A1.keep KQ74 (ninS (Ne.symm ne_b65_A1) nin0)
    have V_A2 := V_A2.keep KQ74 (ninS (Ne.symm ne_b65_A2) nin0)
    have V_b67 := V_b67.keep KQ74 (ninS (Ne.symm ne_b65_b67) nin0)
    have AR_R := own_arrKeep AR_R KQ74 (ninS (Ne.symm ne_b65_R) nin0)
    have AR_I := own_arrKeep AR_I KQ74 (ninS (Ne.symm ne_b65_I) nin0)
    have EX_b67 := EX_b67.keep KQ74
    have OB_b65 := OBq74
    skip
    have OL := OLq74
    have Z0 := Zq74
    refine own_tr st74 ?_
    show own_Go p e below s _ _ _ (T74.setTop (mkF m 67 #[.val (.int p0), .val (.int p1), .val (.int p2), .val (.int p3), .val (.int ((1 : Int32) + (2 : Int32))), .val (.int (((p0.toUInt32 >>> ((2 : Int32) &&& 31).toUInt32).toInt32) &&& (3 : Int32))), .val (.ref b65), .val (.ref b67), .unset, .unset, .unset, .unset, .unset] [(.int ((((1 : Int32) + (1 : Int32)) + (1 : Int32)) + (1 : Int32))), (.int (3 : Int32)), (.ref b67)]))
    have Vx75 := V_b67
    obtain ⟨cl75, Ar75, q75, S75, N75, H75, G75⟩ := Vx75
    have hin75 : ¬ ((3 : Int32) < 0 ∨ cl75.slots.size ≤ ((3 : Int32)).toNatClampNeg) := inb_of S75 ⟨by decide, by decide⟩
    obtain ⟨T75, h75, X75, e75, W75, st75⟩ := stI X74 hx hZ rfl Ar75 (j := (3 : Int32)) hin75 (g := (mkF m 67 #[.val (.int p0), .val (.int p1), .val (.int p2), .val (.int p3), .val (.int ((1 : Int32) + (2 : Int32))), .val (.int (((p0.toUInt32 >>> ((2 : Int32) &&& 31).toUInt32).toInt32) &&& (3 : Int32))), .val (.ref b65), .val (.ref b67), .unset, .unset, .unset, .unset, .unset] [(.int ((((1 : Int32) + (1 : Int32)) + (1 : Int32)) + (1 : Int32))), (.int (3 : Int32)), (.ref b67)])) rfl rfl (hb hby at_67)
    have V_b67 : Arv Z h75 b67 k67 .int (4 : Int32) [(.int (1 : Int32)), (.int ((1 : Int32) + (1 : Int32))), (.int (((1 : Int32) + (1 : Int32)) + (1 : Int32))), (.int ((((1 : Int32) + (1 : Int32)) + (1 : Int32)) + (1 : Int32)))] (.int 0) := Arv.set Ar75 q75 S75 N75 H75 G75 rfl W75 3 rfl (Nat.le_of_ble_eq_true rfl)
    have N75 := Fr.snoc X75 (Fr.app N73 NQ74) g_b67
    have Z0 := Nat.le_trans Z0 (Keep.of_wr W75).1
    have OL := OL.wr W75 g_b67
    skip
    have OB_b65 := OB_b65.other W75 ne_b65_b67
    have V_A1 := V_A1.other W75 ne_A1_b67
    have V_A2 := V_A2.other W75 ne_A2_b67
    have AR_R := AR_R.other W75 (Ne.symm ne_b67_R)
    have AR_I := AR_I.other W75 (Ne.symm ne_b67_I)
    have EX_b67 := EX_b67.wr W75
    refine own_via st75 ?_
    show own_Go p e below s _ _ _ (T75.setTop (mkF m 68 #[.val (.int p0), .val (.int p1), .val (.int p2), .val (.int p3), .val (.int ((1 : Int32) + (2 : Int32))), .val (.int (((p0.toUInt32 >>> ((2 : Int32) &&& 31).toUInt32).toInt32) &&& (3 : Int32))), .val (.ref b65), .val (.ref b67), .unset, .unset, .unset, .unset, .unset] []))
    refine own_via (fun _ k => XS.aload X75.here hx rfl (hb hby at_68) rfl rfl k) ?_
    show own_Go p e below s _ _ _ (T75.setTop (mkF m 70 #[.val (.int p0), .val (.int p1), .val (.int p2), .val (.int p3), .val (.int ((1 : Int32) + (2 : Int32))), .val (.int (((p0.toUInt32 >>> ((2 : Int32) &&& 31).toUInt32).toInt32) &&& (3 : Int32))), .val (.ref b65), .val (.ref b67), .unset, .unset, .unset, .unset, .unset] [(.ref b67)]))
    refine own_via (fun _ k => XS.iloadN X75.here hx rfl (hb hby at_70) rfl k) ?_
    show own_Go p e below s _ _ _ (T75.setTop (mkF m 71 #[.val (.int p0), .val (.int p1), .val (.int p2), .val (.int p3), .val (.int ((1 : Int32) + (2 : Int32))), .val (.int (((p0.toUInt32 >>> ((2 : Int32) &&& 31).toUInt32).toInt32) &&& (3 : Int32))), .val (.ref b65), .val (.ref b67), .unset, .unset, .unset, .unset, .unset] [(.int p1), (.ref b67)]))
    refine own_via (fun _ k => XS.iconst X75.here hx rfl (hb hby at_71) k) ?_
    show own_Go p e below s _ _ _ (T75.setTop (mkF m 72 #[.val (.int p0), .val (.int p1), .val (.int p2), .val (.int p3), .val (.int ((1 : Int32) + (2 : Int32))), .val (.int (((p0.toUInt32 >>> ((2 : Int32) &&& 31).toUInt32).toInt32) &&& (3 : Int32))), .val (.ref b65), .val (.ref b67), .unset, .unset, .unset, .unset, .unset] [(.int (3 : Int32)), (.int p1), (.ref b67)]))
    refine own_via (fun _ k => XS.iand X75.here hx rfl (hb hby at_72) rfl k) ?_
    show own_Go p e below s _ _ _ (T75.setTop (mkF m 73 #[.val (.int p0), .val (.int p1), .val (.int p2), .val (.int p3), .val (.int ((1 : Int32) + (2 : Int32))), .val (.int (((p0.toUInt32 >>> ((2 : Int32) &&& 31).toUInt32).toInt32) &&& (3 : Int32))), .val (.ref b65), .val (.ref b67), .unset, .unset, .unset, .unset, .unset] [(.int (p1 &&& (3 : Int32))), (.ref b67)]))
    have Vx76 := V_b67
    obtain ⟨cl76, Ar76, q76, S76, N76, H76, G76⟩ := Vx76
    have hin76 : ¬ ((p1 &&& (3 : Int32)) < 0 ∨ cl76.slots.size ≤ ((p1 &&& (3 : Int32))).toNatClampNeg) := own_inb S76 (own_a3 _).1 (own_a3 _).2
    obtain ⟨r76, hat76, hrb76⟩ := own_giv H76 S76 hin76 (by decide) (by decide) (by decide) (by decide)
    refine own_via (fun _ k => X75.iaload hx (j := (p1 &&& (3 : Int32))) (v := (.int r76)) (by rw [e75]; exact Ar76.1) (State.isArrayOf_alike hZ.alike Ar76.2.1) Ar76.2.2 hin76 hat76 (g := (mkF m 73 #[.val (.int p0), .val (.int p1), .val (.int p2), .val (.int p3), .val (.int ((1 : Int32) + (2 : Int32))), .val (.int (((p0.toUInt32 >>> ((2 : Int32) &&& 31).toUInt32).toInt32) &&& (3 : Int32))), .val (.ref b65), .val (.ref b67), .unset, .unset, .unset, .unset, .unset] [(.int (p1 &&& (3 : Int32))), (.ref b67)])) rfl rfl (hb hby at_73) _ k) ?_
    show own_Go p e below s _ _ _ (T75.setTop (mkF m 74 #[.val (.int p0), .val (.int p1), .val (.int p2), .val (.int p3), .val (.int ((1 : Int32) + (2 : Int32))), .val (.int (((p0.toUInt32 >>> ((2 : Int32) &&& 31).toUInt32).toInt32) &&& (3 : Int32))), .val (.ref b65), .val (.ref b67), .unset, .unset, .unset, .unset, .unset] [(.int r76)]))
    refine own_via (fun _ k => XS.istore X75.here hx rfl (hb hby at_74) rfl (l' := #[.val (.int p0), .val (.int p1), .val (.int p2), .val (.int p3), .val (.int ((1 : Int32) + (2 : Int32))), .val (.int (((p0.toUInt32 >>> ((2 : Int32) &&& 31).toUInt32).toInt32) &&& (3 : Int32))), .val (.ref b65), .val (.ref b67), .val (.int r76), .unset, .unset, .unset, .unset]) rfl k) ?_
    show own_Go p e below s _ _ _ (T75.setTop (mkF m 76 #[.val (.int p0), .val (.int p1), .val (.int p2), .val (.int p3), .val (.int ((1 : Int32) + (2 : Int32))), .val (.int (((p0.toUInt32 >>> ((2 : Int32) &&& 31).toUInt32).toInt32) &&& (3 : Int32))), .val (.ref b65), .val (.ref b67), .val (.int r76), .unset, .unset, .unset, .unset] []))
    refine own_via (fun _ k => XS.iloadN X75.here hx rfl (hb hby at_76) rfl k) ?_
    show own_Go p e below s _ _ _ (T75.setTop (mkF m 77 #[.val (.int p0), .val (.int p1), .val (.int p2), .val (.int p3), .val (.int ((1 : Int32) + (2 : Int32))), .val (.int (((p0.toUInt32 >>> ((2 : Int32) &&& 31).toUInt32).toInt32) &&& (3 : Int32))), .val (.ref b65), .val (.ref b67), .val (.int r76), .unset, .unset, .unset, .unset] [(.int p1)]))
    refine own_via (fun _ k => XS.iconst X75.here hx rfl (hb hby at_77) k) ?_
    show own_Go p e below s _ _ _ (T75.setTop (mkF m 78 #[.val (.int p0), .val (.int p1), .val (.int p2), .val (.int p3), .val (.int ((1 : Int32) + (2 : Int32))), .val (.int (((p0.toUInt32 >>> ((2 : Int32) &&& 31).toUInt32).toInt32) &&& (3 : Int32))), .val (.ref b65), .val (.ref b67), .val (.int r76), .unset, .unset, .unset, .unset] [(.int (2 : Int32)), (.int p1)]))
    refine own_via (fun _ k => XS.iushr X75.here hx rfl (hb hby at_78) rfl k) ?_
    show own_Go p e below s _ _ _ (T75.setTop (mkF m 79 #[.val (.int p0), .val (.int p1), .val (.int p2), .val (.int p3), .val (.int ((1 : Int32) + (2 : Int32))), .val (.int (((p0.toUInt32 >>> ((2 : Int32) &&& 31).toUInt32).toInt32) &&& (3 : Int32))), .val (.ref b65), .val (.ref b67), .val (.int r76), .unset, .unset, .unset, .unset] [(.int ((p1.toUInt32 >>> ((2 : Int32) &&& 31).toUInt32).toInt32))]))
    refine own_via (fun _ k => XS.iconst X75.here hx rfl (hb hby at_79) k) ?_
    show own_Go p e below s _ _ _ (T75.setTop (mkF m 80 #[.val (.int p0), .val (.int p1), .val (.int p2), .val (.int p3), .val (.int ((1 : Int32) + (2 : Int32))), .val (.int (((p0.toUInt32 >>> ((2 : Int32) &&& 31).toUInt32).toInt32) &&& (3 : Int32))), .val (.ref b65), .val (.ref b67), .val (.int r76), .unset, .unset, .unset, .unset] [(.int (3 : Int32)), (.int ((p1.toUInt32 >>> ((2 : Int32) &&& 31).toUInt32).toInt32))]))
    refine own_via (fun _ k => XS.iand X75.here hx rfl (hb hby at_80) rfl k) ?_
    show own_Go p e below s _ _ _ (T75.setTop (mkF m 81 #[.val (.int p0), .val (.int p1), .val (.int p2), .val (.int p3), .val (.int ((1 : Int32) + (2 : Int32))), .val (.int (((p0.toUInt32 >>> ((2 : Int32) &&& 31).toUInt32).toInt32) &&& (3 : Int32))), .val (.ref b65), .val (.ref b67), .val (.int r76), .unset, .unset, .unset, .unset] [(.int (((p1.toUInt32 >>> ((2 : Int32) &&& 31).toUInt32).toInt32) &&& (3 : Int32)))]))
    refine own_via (fun _ k => XS.iload X75.here hx rfl (hb hby at_81) rfl k) ?_
    show own_Go p e below s _ _ _ (T75.setTop (mkF m 83 #[.val (.int p0), .val (.int p1), .val (.int p2), .val (.int p3), .val (.int ((1 : Int32) + (2 : Int32))), .val (.int (((p0.toUInt32 >>> ((2 : Int32) &&& 31).toUInt32).toInt32) &&& (3 : Int32))), .val (.ref b65), .val (.ref b67), .val (.int r76), .unset, .unset, .unset, .unset] [(.int ((1 : Int32) + (2 : Int32))), (.int (((p1.toUInt32 >>> ((2 : Int32) &&& 31).toUInt32).toInt32) &&& (3 : Int32)))]))
    refine own_via (fun _ k => iremM X75 hx rfl (hb hby at_83) rfl (by decide : ¬ (((1 : Int32) + (2 : Int32)) = (0 : Int32))) k) ?_
    have hfb77 : 0 ≤ ((((p1.toUInt32 >>> ((2 : Int32) &&& 31).toUInt32).toInt32) &&& (3 : Int32)) % ((1 : Int32) + (2 : Int32))).toInt ∧ ((((p1.toUInt32 >>> ((2 : Int32) &&& 31).toUInt32).toInt32) &&& (3 : Int32)) % ((1 : Int32) + (2 : Int32))).toInt < 3 := own_fb rfl (by decide) (own_a3 _).1
    obtain ⟨f77, hf77⟩ : ∃ z : Int32, z = ((((p1.toUInt32 >>> ((2 : Int32) &&& 31).toUInt32).toInt32) &&& (3 : Int32)) % ((1 : Int32) + (2 : Int32))) := ⟨_, rfl⟩
    rw [← hf77] at hfb77
    rw [← hf77]
    show own_Go p e below s _ _ _ (T75.setTop (mkF m 84 #[.val (.int p0), .val (.int p1), .val (.int p2), .val (.int p3), .val (.int ((1 : Int32) + (2 : Int32))), .val (.int (((p0.toUInt32 >>> ((2 : Int32) &&& 31).toUInt32).toInt32) &&& (3 : Int32))), .val (.ref b65), .val (.ref b67), .val (.int r76), .unset, .unset, .unset, .unset] [(.int f77)]))
    refine own_via (fun _ k => XS.istore X75.here hx rfl (hb hby at_84) rfl (l' := #[.val (.int p0), .val (.int p1), .val (.int p2), .val (.int p3), .val (.int ((1 : Int32) + (2 : Int32))), .val (.int (((p0.toUInt32 >>> ((2 : Int32) &&& 31).toUInt32).toInt32) &&& (3 : Int32))), .val (.ref b65), .val (.ref b67), .val (.int r76), .val (.int f77), .unset, .unset, .unset]) rfl k) ?_
    show own_Go p e below s _ _ _ (T75.setTop (mkF m 86 #[.val (.int p0), .val (.int p1), .val (.int p2), .val (.int p3), .val (.int ((1 : Int32) + (2 : Int32))), .val (.int (((p0.toUInt32 >>> ((2 : Int32) &&& 31).toUInt32).toInt32) &&& (3 : Int32))), .val (.ref b65), .val (.ref b67), .val (.int r76), .val (.int f77), .unset, .unset, .unset] []))
    refine own_via (fun _ k => XS.aload X75.here hx rfl (hb hby at_86) rfl rfl k) ?_
    show own_Go p e below s _ _ _ (T75.setTop (mkF m 88 #[.val (.int p0), .val (.int p1), .val (.int p2), .val (.int p3), .val (.int ((1 : Int32) + (2 : Int32))), .val (.int (((p0.toUInt32 >>> ((2 : Int32) &&& 31).toUInt32).toInt32) &&& (3 : Int32))), .val (.ref b65), .val (.ref b67), .val (.int r76), .val (.int f77), .unset, .unset, .unset] [(.ref b67)]))
    refine own_via (fun _ k => XS.iloadN X75.here hx rfl (hb hby at_88) rfl k) ?_
    show own_Go p e below s _ _ _ (T75.setTop (mkF m 89 #[.val (.int p0), .val (.int p1), .val (.int p2), .val (.int p3), .val (.int ((1 : Int32) + (2 : Int32))), .val (.int (((p0.toUInt32 >>> ((2 : Int32) &&& 31).toUInt32).toInt32) &&& (3 : Int32))), .val (.ref b65), .val (.ref b67), .val (.int r76), .val (.int f77), .unset, .unset, .unset] [(.int p1), (.ref b67)]))
    refine own_via (fun _ k => XS.iconst X75.here hx rfl (hb hby at_89) k) ?_
    show own_Go p e below s _ _ _ (T75.setTop (mkF m 90 #[.val (.int p0), .val (.int p1), .val (.int p2), .val (.int p3), .val (.int ((1 : Int32) + (2 : Int32))), .val (.int (((p0.toUInt32 >>> ((2 : Int32) &&& 31).toUInt32).toInt32) &&& (3 : Int32))), .val (.ref b65), .val (.ref b67), .val (.int r76), .val (.int f77), .unset, .unset, .unset] [(.int (4 : Int32)), (.int p1), (.ref b67)]))
    refine own_via (fun _ k => XS.iushr X75.here hx rfl (hb hby at_90) rfl k) ?_
    show own_Go p e below s _ _ _ (T75.setTop (mkF m 91 #[.val (.int p0), .val (.int p1), .val (.int p2), .val (.int p3), .val (.int ((1 : Int32) + (2 : Int32))), .val (.int (((p0.toUInt32 >>> ((2 : Int32) &&& 31).toUInt32).toInt32) &&& (3 : Int32))), .val (.ref b65), .val (.ref b67), .val (.int r76), .val (.int f77), .unset, .unset, .unset] [(.int ((p1.toUInt32 >>> ((4 : Int32) &&& 31).toUInt32).toInt32)), (.ref b67)]))
    refine own_via (fun _ k => XS.iconst X75.here hx rfl (hb hby at_91) k) ?_
    show own_Go p e below s _ _ _ (T75.setTop (mkF m 92 #[.val (.int p0), .val (.int p1), .val (.int p2), .val (.int p3), .val (.int ((1 : Int32) + (2 : Int32))), .val (.int (((p0.toUInt32 >>> ((2 : Int32) &&& 31).toUInt32).toInt32) &&& (3 : Int32))), .val (.ref b65), .val (.ref b67), .val (.int r76), .val (.int f77), .unset, .unset, .unset] [(.int (3 : Int32)), (.int ((p1.toUInt32 >>> ((4 : Int32) &&& 31).toUInt32).toInt32)), (.ref b67)]))
    refine own_via (fun _ k => XS.iand X75.here hx rfl (hb hby at_92) rfl k) ?_
    show own_Go p e below s _ _ _ (T75.setTop (mkF m 93 #[.val (.int p0), .val (.int p1), .val (.int p2), .val (.int p3), .val (.int ((1 : Int32) + (2 : Int32))), .val (.int (((p0.toUInt32 >>> ((2 : Int32) &&& 31).toUInt32).toInt32) &&& (3 : Int32))), .val (.ref b65), .val (.ref b67), .val (.int r76), .val (.int f77), .unset, .unset, .unset] [(.int (((p1.toUInt32 >>> ((4 : Int32) &&& 31).toUInt32).toInt32) &&& (3 : Int32))), (.ref b67)]))
    have Vx78 := V_b67
    obtain ⟨cl78, Ar78, q78, S78, N78, H78, G78⟩ := Vx78
    have hin78 : ¬ ((((p1.toUInt32 >>> ((4 : Int32) &&& 31).toUInt32).toInt32) &&& (3 : Int32)) < 0 ∨ cl78.slots.size ≤ ((((p1.toUInt32 >>> ((4 : Int32) &&& 31).toUInt32).toInt32) &&& (3 : Int32))).toNatClampNeg) := own_inb S78 (own_a3 _).1 (own_a3 _).2
    obtain ⟨r78, hat78, hrb78⟩ := own_giv H78 S78 hin78 (by decide) (by decide) (by decide) (by decide)
    refine own_via (fun _ k => X75.iaload hx (j := (((p1.toUInt32 >>> ((4 : Int32) &&& 31).toUInt32).toInt32) &&& (3 : Int32))) (v := (.int r78)) (by rw [e75]; exact Ar78.1) (State.isArrayOf_alike hZ.alike Ar78.2.1) Ar78.2.2 hin78 hat78 (g := (mkF m 93 #[.val (.int p0), .val (.int p1), .val (.int p2), .val (.int p3), .val (.int ((1 : Int32) + (2 : Int32))), .val (.int (((p0.toUInt32 >>> ((2 : Int32) &&& 31).toUInt32).toInt32) &&& (3 : Int32))), .val (.ref b65), .val (.ref b67), .val (.int r76), .val (.int f77), .unset, .unset, .unset] [(.int (((p1.toUInt32 >>> ((4 : Int32) &&& 31).toUInt32).toInt32) &&& (3 : Int32))), (.ref b67)])) rfl rfl (hb hby at_93) _ k) ?_
    show own_Go p e below s _ _ _ (T75.setTop (mkF m 94 #[.val (.int p0), .val (.int p1), .val (.int p2), .val (.int p3), .val (.int ((1 : Int32) + (2 : Int32))), .val (.int (((p0.toUInt32 >>> ((2 : Int32) &&& 31).toUInt32).toInt32) &&& (3 : Int32))), .val (.ref b65), .val (.ref b67), .val (.int r76), .val (.int f77), .unset, .unset, .unset] [(.int r78)]))
    refine own_via (fun _ k => XS.istore X75.here hx rfl (hb hby at_94) rfl (l' := #[.val (.int p0), .val (.int p1), .val (.int p2), .val (.int p3), .val (.int ((1 : Int32) + (2 : Int32))), .val (.int (((p0.toUInt32 >>> ((2 : Int32) &&& 31).toUInt32).toInt32) &&& (3 : Int32))), .val (.ref b65), .val (.ref b67), .val (.int r76), .val (.int f77), .val (.int r78), .unset, .unset]) rfl k) ?_
    show own_Go p e below s _ _ _ (T75.setTop (mkF m 96 #[.val (.int p0), .val (.int p1), .val (.int p2), .val (.int p3), .val (.int ((1 : Int32) + (2 : Int32))), .val (.int (((p0.toUInt32 >>> ((2 : Int32) &&& 31).toUInt32).toInt32) &&& (3 : Int32))), .val (.ref b65), .val (.ref b67), .val (.int r76), .val (.int f77), .val (.int r78), .unset, .unset] []))
    refine own_via (fun _ k => XS.iloadN X75.here hx rfl (hb hby at_96) rfl k) ?_
    show own_Go p e below s _ _ _ (T75.setTop (mkF m 97 #[.val (.int p0), .val (.int p1), .val (.int p2), .val (.int p3), .val (.int ((1 : Int32) + (2 : Int32))), .val (.int (((p0.toUInt32 >>> ((2 : Int32) &&& 31).toUInt32).toInt32) &&& (3 : Int32))), .val (.ref b65), .val (.ref b67), .val (.int r76), .val (.int f77), .val (.int r78), .unset, .unset] [(.int p1)]))
    refine own_via (fun _ k => XS.bipush X75.here hx rfl (hb hby at_97) k) ?_
    show own_Go p e below s _ _ _ (T75.setTop (mkF m 99 #[.val (.int p0), .val (.int p1), .val (.int p2), .val (.int p3), .val (.int ((1 : Int32) + (2 : Int32))), .val (.int (((p0.toUInt32 >>> ((2 : Int32) &&& 31).toUInt32).toInt32) &&& (3 : Int32))), .val (.ref b65), .val (.ref b67), .val (.int r76), .val (.int f77), .val (.int r78), .unset, .unset] [(.int (6 : Int32)), (.int p1)]))
    refine own_via (fun _ k => XS.iushr X75.here hx rfl (hb hby at_99) rfl k) ?_
    show own_Go p e below s _ _ _ (T75.setTop (mkF m 100 #[.val (.int p0), .val (.int p1), .val (.int p2), .val (.int p3), .val (.int ((1 : Int32) + (2 : Int32))), .val (.int (((p0.toUInt32 >>> ((2 : Int32) &&& 31).toUInt32).toInt32) &&& (3 : Int32))), .val (.ref b65), .val (.ref b67), .val (.int r76), .val (.int f77), .val (.int r78), .unset, .unset] [(.int ((p1.toUInt32 >>> ((6 : Int32) &&& 31).toUInt32).toInt32))]))
    refine own_via (fun _ k => XS.iconst X75.here hx rfl (hb hby at_100) k) ?_
    show own_Go p e below s _ _ _ (T75.setTop (mkF m 101 #[.val (.int p0), .val (.int p1), .val (.int p2), .val (.int p3), .val (.int ((1 : Int32) + (2 : Int32))), .val (.int (((p0.toUInt32 >>> ((2 : Int32) &&& 31).toUInt32).toInt32) &&& (3 : Int32))), .val (.ref b65), .val (.ref b67), .val (.int r76), .val (.int f77), .val (.int r78), .unset, .unset] [(.int (3 : Int32)), (.int ((p1.toUInt32 >>> ((6 : Int32) &&& 31).toUInt32).toInt32))]))
    refine own_via (fun _ k => XS.iand X75.here hx rfl (hb hby at_101) rfl k) ?_
    show own_Go p e below s _ _ _ (T75.setTop (mkF m 102 #[.val (.int p0), .val (.int p1), .val (.int p2), .val (.int p3), .val (.int ((1 : Int32) + (2 : Int32))), .val (.int (((p0.toUInt32 >>> ((2 : Int32) &&& 31).toUInt32).toInt32) &&& (3 : Int32))), .val (.ref b65), .val (.ref b67), .val (.int r76), .val (.int f77), .val (.int r78), .unset, .unset] [(.int (((p1.toUInt32 >>> ((6 : Int32) &&& 31).toUInt32).toInt32) &&& (3 : Int32)))]))
    refine own_via (fun _ k => XS.iload X75.here hx rfl (hb hby at_102) rfl k) ?_
    show own_Go p e below s _ _ _ (T75.setTop (mkF m 104 #[.val (.int p0), .val (.int p1), .val (.int p2), .val (.int p3), .val (.int ((1 : Int32) + (2 : Int32))), .val (.int (((p0.toUInt32 >>> ((2 : Int32) &&& 31).toUInt32).toInt32) &&& (3 : Int32))), .val (.ref b65), .val (.ref b67), .val (.int r76), .val (.int f77), .val (.int r78), .unset, .unset] [(.int ((1 : Int32) + (2 : Int32))), (.int (((p1.toUInt32 >>> ((6 : Int32) &&& 31).toUInt32).toInt32) &&& (3 : Int32)))]))
    refine own_via (fun _ k => iremM X75 hx rfl (hb hby at_104) rfl (by decide : ¬ (((1 : Int32) + (2 : Int32)) = (0 : Int32))) k) ?_
    have hfb79 : 0 ≤ ((((p1.toUInt32 >>> ((6 : Int32) &&& 31).toUInt32).toInt32) &&& (3 : Int32)) % ((1 : Int32) + (2 : Int32))).toInt ∧ ((((p1.toUInt32 >>> ((6 : Int32) &&& 31).toUInt32).toInt32) &&& (3 : Int32)) % ((1 : Int32) + (2 : Int32))).toInt < 3 := own_fb rfl (by decide) (own_a3 _).1
    obtain ⟨f79, hf79⟩ : ∃ z : Int32, z = ((((p1.toUInt32 >>> ((6 : Int32) &&& 31).toUInt32).toInt32) &&& (3 : Int32)) % ((1 : Int32) + (2 : Int32))) := ⟨_, rfl⟩
    rw [← hf79] at hfb79
    rw [← hf79]
    show own_Go p e below s _ _ _ (T75.setTop (mkF m 105 #[.val (.int p0), .val (.int p1), .val (.int p2), .val (.int p3), .val (.int ((1 : Int32) + (2 : Int32))), .val (.int (((p0.toUInt32 >>> ((2 : Int32) &&& 31).toUInt32).toInt32) &&& (3 : Int32))), .val (.ref b65), .val (.ref b67), .val (.int r76), .val (.int f77), .val (.int r78), .unset, .unset] [(.int f79)]))
    refine own_via (fun _ k => XS.istore X75.here hx rfl (hb hby at_105) rfl (l' := #[.val (.int p0), .val (.int p1), .val (.int p2), .val (.int p3), .val (.int ((1 : Int32) + (2 : Int32))), .val (.int (((p0.toUInt32 >>> ((2 : Int32) &&& 31).toUInt32).toInt32) &&& (3 : Int32))), .val (.ref b65), .val (.ref b67), .val (.int r76), .val (.int f77), .val (.int r78), .val (.int f79), .unset]) rfl k) ?_
    show own_Go p e below s _ _ _ (T75.setTop (mkF m 107 #[.val (.int p0), .val (.int p1), .val (.int p2), .val (.int p3), .val (.int ((1 : Int32) + (2 : Int32))), .val (.int (((p0.toUInt32 >>> ((2 : Int32) &&& 31).toUInt32).toInt32) &&& (3 : Int32))), .val (.ref b65), .val (.ref b67), .val (.int r76), .val (.int f77), .val (.int r78), .val (.int f79), .unset] []))
    refine own_via (fun _ k => XS.aload X75.here hx rfl (hb hby at_107) rfl rfl k) ?_
    show own_Go p e below s _ _ _ (T75.setTop (mkF m 109 #[.val (.int p0), .val (.int p1), .val (.int p2), .val (.int p3), .val (.int ((1 : Int32) + (2 : Int32))), .val (.int (((p0.toUInt32 >>> ((2 : Int32) &&& 31).toUInt32).toInt32) &&& (3 : Int32))), .val (.ref b65), .val (.ref b67), .val (.int r76), .val (.int f77), .val (.int r78), .val (.int f79), .unset] [(.ref b65)]))
    refine own_via (fun _ k => XS.iload X75.here hx rfl (hb hby at_109) rfl k) ?_
    show own_Go p e below s _ _ _ (T75.setTop (mkF m 111 #[.val (.int p0), .val (.int p1), .val (.int p2), .val (.int p3), .val (.int ((1 : Int32) + (2 : Int32))), .val (.int (((p0.toUInt32 >>> ((2 : Int32) &&& 31).toUInt32).toInt32) &&& (3 : Int32))), .val (.ref b65), .val (.ref b67), .val (.int r76), .val (.int f77), .val (.int r78), .val (.int f79), .unset] [(.int r78), (.ref b65)]))
    refine own_via (fun _ k => XS.iload X75.here hx rfl (hb hby at_111) rfl k) ?_
    show own_Go p e below s _ _ _ (T75.setTop (mkF m 113 #[.val (.int p0), .val (.int p1), .val (.int p2), .val (.int p3), .val (.int ((1 : Int32) + (2 : Int32))), .val (.int (((p0.toUInt32 >>> ((2 : Int32) &&& 31).toUInt32).toInt32) &&& (3 : Int32))), .val (.ref b65), .val (.ref b67), .val (.int r76), .val (.int f77), .val (.int r78), .val (.int f79), .unset] [(.int f79), (.int r78), (.ref b65)]))
    refine own_via (fun _ k => XS.iloadN X75.here hx rfl (hb hby at_113) rfl k) ?_
    show own_Go p e below s _ _ _ (T75.setTop (mkF m 114 #[.val (.int p0), .val (.int p1), .val (.int p2), .val (.int p3), .val (.int ((1 : Int32) + (2 : Int32))), .val (.int (((p0.toUInt32 >>> ((2 : Int32) &&& 31).toUInt32).toInt32) &&& (3 : Int32))), .val (.ref b65), .val (.ref b67), .val (.int r76), .val (.int f77), .val (.int r78), .val (.int f79), .unset] [(.int p3), (.int f79), (.int r78), (.ref b65)]))
    have ix81 : (((r78 &&& (4095 : Int32)) * ((1 : Int32) + (2 : Int32))) + f79).toInt = r78.toInt * 3 + f79.toInt := own_ix3 hrb78 hfb79
    obtain ⟨cq80, kq80, q80a, q80b, q80c⟩ := isOf hZ e75 OB_b65.1
    obtain ⟨_, _, ⟨T80, L80, k80, n80⟩, -, X80, ⟨Lc80, hQ80, l80, y80, z80⟩, st80⟩ := X75.virtualBack hx (y := (⟨"com/example/whenever/whenever/internal/engine/Rows", "setInt", "(III)V"⟩ : MethodName)) (z := (⟨"com/example/whenever/whenever/internal/engine/Rows", "setInt", "(III)V"⟩ : MethodName)) hown (mvT hZ (hw _ (List.mem_of_getElem? (i := 76) rfl))) (mvT hZ (hw _ (List.mem_of_getElem? (i := 77) rfl))) (notFace_of_selects (args := #[]) (mvT hZ (hw _ (List.mem_of_getElem? (i := 79) rfl)))) (mvT hZ (hw _ (List.mem_of_getElem? (i := 79) rfl))) (mvT hZ (hw _ (List.mem_of_getElem? (i := 78) rfl))) (by decide) (backOf (W := 0) (rm10_1 l Z a0 hw [] b65 A1 A2 I R k1 k2 (((((1 : Int32) + (1 : Int32)) + (1 : Int32)) + (1 : Int32)) + (1 : Int32)) ((1 : Int32) + (2 : Int32)) (((p0.toUInt32 >>> ((2 : Int32) &&& 31).toUInt32).toInt32) &&& (3 : Int32)) cl r78 f79 p3 w0 w1 mr kw0 kw1 h75 n0 Z0 K0 OL (own_blk hrb78) (own_inx SI ix81 hrb78 hfb79) ⟨OB_b65, V_A1, V_A2, OV_A1, OV_A2, ne_b65_A1, ne_b65_A2, ne_A1_A2, g_b65, g_A1, g_A2⟩ AR_I ne_b65_I ne_A1_I ne_A2_I g_I) hZ (hw _ (List.mem_of_getElem? (i := 80) rfl)) (hw _ (List.mem_of_getElem? (i := 2) rfl)) (by decide) (by decide)) q80a q80c (g := (mkF m 114 #[.val (.int p0), .val (.int p1), .val (.int p2), .val (.int p3), .val (.int ((1 : Int32) + (2 : Int32))), .val (.int (((p0.toUInt32 >>> ((2 : Int32) &&& 31).toUInt32).toInt32) &&& (3 : Int32))), .val (.ref b65), .val (.ref b67), .val (.int r76), .val (.int f77), .val (.int r78), .val (.int f79), .unset] [(.int p3), (.int f79), (.int r78), (.ref b65)])) rfl (by rw [hml]; rfl) (Steps.refl _) (argsL := [(.int r78), (.int f79), (.int p3)]) (rest := []) (lenOf pd5 rfl) rfl (by show 2 * 0 + _ ≤ _; exact Nat.le_of_eq rfl) (hb hby at_114) (fun _ _ => ⟨rfl, e75, (by decide : 0 + 1 + 2 + 1 + 2 + 0 + 0 + 0 + 0 ≤ _), (by decide : 0 + 10 + 2 + 4 + 64 + 0 + 0 + 0 + 0 ≤ _)⟩)
    dsimp only [Pt.U, Pt.locs, Pt.cells, Pt.slots] at X80 l80 y80 z80 st80 hQ80
    subst l80 y80 z80
    obtain ⟨NQ80, OLq80, Zq80, KQ80, hP80⟩ := hQ80
    obtain ⟨rfl, -, ARq80⟩ := hP80
    have OB_b65 := OB_b65.keep KQ80 (ninS ne_b65_I nin0)
    have V_A1 := V_A1.keep KQ80 (ninS ne_A1_I nin0)
    have V_A2 := V_A2.keep KQ80 (ninS ne_A2_I nin0)
    have V_b67 := V_b67.keep KQ80 (ninS ne_b67_I nin0)
    have AR_R := own_arrKeep AR_R KQ80 (ninS (Ne.symm ne_I_R) nin0)
    have EX_b67 := EX_b67.keep KQ80
    have AR_I := ARq80
    skip
    have OL := OLq80
    have Z0 := Zq80
    refine own_tr st80 ?_
    show own_Go p e below s _ _ _ (T80.setTop (mkF m 117 #[.val (.int p0), .val (.int p1), .val (.int p2), .val (.int p3), .val (.int ((1 : Int32) + (2 : Int32))), .val (.int (((p0.toUInt32 >>> ((2 : Int32) &&& 31).toUInt32).toInt32) &&& (3 : Int32))), .val (.ref b65), .val (.ref b67), .val (.int r76), .val (.int f77), .val (.int r78), .val (.int f79), .unset] []))
    refine own_via (fun _ k => XS.aload X80.here hx rfl (hb hby at_117) rfl rfl k) ?_
    show own_Go p e below s _ _ _ (T80.setTop (mkF m 119 #[.val (.int p0), .val (.int p1), .val (.int p2), .val (.int p3), .val (.int ((1 : Int32) + (2 : Int32))), .val (.int (((p0.toUInt32 >>> ((2 : Int32) &&& 31).toUInt32).toInt32) &&& (3 : Int32))), .val (.ref b65), .val (.ref b67), .val (.int r76), .val (.int f77), .val (.int r78), .val (.int f79), .unset] [(.ref b65)]))
    refine own_via (fun _ k => XS.iload X80.here hx rfl (hb hby at_119) rfl k) ?_
    show own_Go p e below s _ _ _ (T80.setTop (mkF m 121 #[.val (.int p0), .val (.int p1), .val (.int p2), .val (.int p3), .val (.int ((1 : Int32) + (2 : Int32))), .val (.int (((p0.toUInt32 >>> ((2 : Int32) &&& 31).toUInt32).toInt32) &&& (3 : Int32))), .val (.ref b65), .val (.ref b67), .val (.int r76), .val (.int f77), .val (.int r78), .val (.int f79), .unset] [(.int r76), (.ref b65)]))
    refine own_via (fun _ k => XS.iload X80.here hx rfl (hb hby at_121) rfl k) ?_
    show own_Go p e below s _ _ _ (T80.setTop (mkF m 123 #[.val (.int p0), .val (.int p1), .val (.int p2), .val (.int p3), .val (.int ((1 : Int32) + (2 : Int32))), .val (.int (((p0.toUInt32 >>> ((2 : Int32) &&& 31).toUInt32).toInt32) &&& (3 : Int32))), .val (.ref b65), .val (.ref b67), .val (.int r76), .val (.int f77), .val (.int r78), .val (.int f79), .unset] [(.int f77), (.int r76), (.ref b65)]))
    refine own_via (fun _ k => XS.iloadN X80.here hx rfl (hb hby at_123) rfl k) ?_
    show own_Go p e below s _ _ _ (T80.setTop (mkF m 124 #[.val (.int p0), .val (.int p1), .val (.int p2), .val (.int p3), .val (.int ((1 : Int32) + (2 : Int32))), .val (.int (((p0.toUInt32 >>> ((2 : Int32) &&& 31).toUInt32).toInt32) &&& (3 : Int32))), .val (.ref b65), .val (.ref b67), .val (.int r76), .val (.int f77), .val (.int r78), .val (.int f79), .unset] [(.int p2), (.int f77), (.int r76), (.ref b65)]))
    have ix83 : (((r76 &&& (4095 : Int32)) * ((1 : Int32) + (2 : Int32))) + f77).toInt = r76.toInt * 3 + f77.toInt := own_ix3 hrb76 hfb77
    obtain ⟨cq82, kq82, q82a, q82b, q82c⟩ := isOf hZ rfl OB_b65.1
    obtain ⟨_, _, ⟨T82, L82, k82, n82⟩, -, X82, ⟨Lc82, hQ82, l82, y82, z82⟩, st82⟩ := X80.virtualBack hx (y := (⟨"com/example/whenever/whenever/internal/engine/Rows", "setInt", "(III)V"⟩ : MethodName)) (z := (⟨"com/example/whenever/whenever/internal/engine/Rows", "setInt", "(III)V"⟩ : MethodName)) hown (mvT hZ (hw _ (List.mem_of_getElem? (i := 76) rfl))) (mvT hZ (hw _ (List.mem_of_getElem? (i := 77) rfl))) (notFace_of_selects (args := #[]) (mvT hZ (hw _ (List.mem_of_getElem? (i := 79) rfl)))) (mvT hZ (hw _ (List.mem_of_getElem? (i := 79) rfl))) (mvT hZ (hw _ (List.mem_of_getElem? (i := 78) rfl))) (by decide) (backOf (W := 0) (rm10_1 l Z a0 hw [] b65 A1 A2 I R k1 k2 (((((1 : Int32) + (1 : Int32)) + (1 : Int32)) + (1 : Int32)) + (1 : Int32)) ((1 : Int32) + (2 : Int32)) (((p0.toUInt32 >>> ((2 : Int32) &&& 31).toUInt32).toInt32) &&& (3 : Int32)) (cl.setSlot ((((r78 &&& (4095 : Int32)) * ((1 : Int32) + (2 : Int32))) + f79)).toNatClampNeg (.int p3)) r76 f77 p2 w0 w1 mr kw0 kw1 T80.heap n0 Z0 K0 OL (own_blk hrb76) (own_inx ((sz_set _ _ _).trans SI) ix83 hrb76 hfb77) ⟨OB_b65, V_A1, V_A2, OV_A1, OV_A2, ne_b65_A1, ne_b65_A2, ne_A1_A2, g_b65, g_A1, g_A2⟩ AR_I ne_b65_I ne_A1_I ne_A2_I g_I) hZ (hw _ (List.mem_of_getElem? (i := 80) rfl)) (hw _ (List.mem_of_getElem? (i := 2) rfl)) (by decide) (by decide)) q82a q82c (g := (mkF m 124 #[.val (.int p0), .val (.int p1), .val (.int p2), .val (.int p3), .val (.int ((1 : Int32) + (2 : Int32))), .val (.int (((p0.toUInt32 >>> ((2 : Int32) &&& 31).toUInt32).toInt32) &&& (3 : Int32))), .val (.ref b65), .val (.ref b67), .val (.int r76), .val (.int f77), .val (.int r78), .val (.int f79), .unset] [(.int p2), (.int f77), (.int r76), (.ref b65)])) rfl (by rw [hml]; rfl) (Steps.refl _) (argsL := [(.int r76), (.int f77), (.int p2)]) (rest := []) (lenOf pd5 rfl) rfl (by show 2 * 0 + _ ≤ _; exact Nat.le_of_eq rfl) (hb hby at_124) (fun _ _ => ⟨rfl, rfl, (by decide : 0 + 1 + 2 + 1 + 2 + 0 + 0 + 0 + 0 + 0 ≤ _), (by decide : 0 + 10 + 2 + 4 + 64 + 0 + 0 + 0 + 0 + 0 ≤ _)⟩)
    dsimp only [Pt.U, Pt.locs, Pt.cells, Pt.slots] at X82 l82 y82 z82 st82 hQ82
    subst l82 y82 z82
    obtain ⟨NQ82, OLq82, Zq82, KQ82, hP82⟩ := hQ82
    obtain ⟨rfl, -, ARq82⟩ := hP82
    have OB_b65 := OB_b65.keep KQ82 (ninS ne_b65_I nin0)
    have V_A1 := V_A1.keep KQ82 (ninS ne_A1_I nin0)
    have V_A2 := V_A2.keep KQ82 (ninS ne_A2_I nin0)
    have V_b67 := V_b67.keep KQ82 (ninS ne_b67_I nin0)
    have AR_R := own_arrKeep AR_R KQ82 (ninS (Ne.symm ne_I_R) nin0)
    have EX_b67 := EX_b67.keep KQ82
    have AR_I := ARq82
    skip
    have OL := OLq82
    have Z0 := Zq82
    refine own_tr st82 ?_
    show own_Go p e below s _ _ _ (T82.setTop (mkF m 127 #[.val (.int p0), .val (.int p1), .val (.int p2), .val (.int p3), .val (.int ((1 : Int32) + (2 : Int32))), .val (.int (((p0.toUInt32 >>> ((2 : Int32) &&& 31).toUInt32).toInt32) &&& (3 : Int32))), .val (.ref b65), .val (.ref b67), .val (.int r76), .val (.int f77), .val (.int r78), .val (.int f79), .unset] []))
    refine own_via (fun _ k => XS.iload X82.here hx rfl (hb hby at_127) rfl k) ?_
    show own_Go p e below s _ _ _ (T82.setTop (mkF m 129 #[.val (.int p0), .val (.int p1), .val (.int p2), .val (.int p3), .val (.int ((1 : Int32) + (2 : Int32))), .val (.int (((p0.toUInt32 >>> ((2 : Int32) &&& 31).toUInt32).toInt32) &&& (3 : Int32))), .val (.ref b65), .val (.ref b67), .val (.int r76), .val (.int f77), .val (.int r78), .val (.int f79), .unset] [(.int r76)]))
    refine own_via (fun _ k => XS.iload X82.here hx rfl (hb hby at_129) rfl k) ?_
    show own_Go p e below s _ _ _ (T82.setTop (mkF m 131 #[.val (.int p0), .val (.int p1), .val (.int p2), .val (.int p3), .val (.int ((1 : Int32) + (2 : Int32))), .val (.int (((p0.toUInt32 >>> ((2 : Int32) &&& 31).toUInt32).toInt32) &&& (3 : Int32))), .val (.ref b65), .val (.ref b67), .val (.int r76), .val (.int f77), .val (.int r78), .val (.int f79), .unset] [(.int r78), (.int r76)]))
    by_cases hc84 : r76 = r78
    · refine own_via (fun _ k => XS.icmpNo X82.here hx rfl (hb hby at_131) rfl (teq hc84).2 k) ?_
      show own_Go p e below s _ _ _ (T82.setTop (mkF m 134 #[.val (.int p0), .val (.int p1), .val (.int p2), .val (.int p3), .val (.int ((1 : Int32) + (2 : Int32))), .val (.int (((p0.toUInt32 >>> ((2 : Int32) &&& 31).toUInt32).toInt32) &&& (3 : Int32))), .val (.ref b65), .val (.ref b67), .val (.int r76), .val (.int f77), .val (.int r78), .val (.int f79), .unset] []))
      refine own_via (fun _ k => XS.iload X82.here hx rfl (hb hby at_134) rfl k) ?_
      show own_Go p e below s _ _ _ (T82.setTop (mkF m 136 #[.val (.int p0), .val (.int p1), .val (.int p2), .val (.int p3), .val (.int ((1 : Int32) + (2 : Int32))), .val (.int (((p0.toUInt32 >>> ((2 : Int32) &&& 31).toUInt32).toInt32) &&& (3 : Int32))), .val (.ref b65), .val (.ref b67), .val (.int r76), .val (.int f77), .val (.int r78), .val (.int f79), .unset] [(.int f77)]))
      refine own_via (fun _ k => XS.iload X82.here hx rfl (hb hby at_136) rfl k) ?_
      show own_Go p e below s _ _ _ (T82.setTop (mkF m 138 #[.val (.int p0), .val (.int p1), .val (.int p2), .val (.int p3), .val (.int ((1 : Int32) + (2 : Int32))), .val (.int (((p0.toUInt32 >>> ((2 : Int32) &&& 31).toUInt32).toInt32) &&& (3 : Int32))), .val (.ref b65), .val (.ref b67), .val (.int r76), .val (.int f77), .val (.int r78), .val (.int f79), .unset] [(.int f79), (.int f77)]))
      by_cases hc85 : f77 = f79
      · refine own_via (fun _ k => XS.icmpNo X82.here hx rfl (hb hby at_138) rfl (teq hc85).2 k) ?_
        show own_Go p e below s _ _ _ (T82.setTop (mkF m 141 #[.val (.int p0), .val (.int p1), .val (.int p2), .val (.int p3), .val (.int ((1 : Int32) + (2 : Int32))), .val (.int (((p0.toUInt32 >>> ((2 : Int32) &&& 31).toUInt32).toInt32) &&& (3 : Int32))), .val (.ref b65), .val (.ref b67), .val (.int r76), .val (.int f77), .val (.int r78), .val (.int f79), .unset] []))
        refine own_via (fun _ k => XS.iloadN X82.here hx rfl (hb hby at_141) rfl k) ?_
        show own_Go p e below s _ _ _ (T82.setTop (mkF m 142 #[.val (.int p0), .val (.int p1), .val (.int p2), .val (.int p3), .val (.int ((1 : Int32) + (2 : Int32))), .val (.int (((p0.toUInt32 >>> ((2 : Int32) &&& 31).toUInt32).toInt32) &&& (3 : Int32))), .val (.ref b65), .val (.ref b67), .val (.int r76), .val (.int f77), .val (.int r78), .val (.int f79), .unset] [(.int p2)]))
        refine own_via (fun _ k => XS.goto X82.here hx rfl (pc0 := 142) (pc' := 146) rfl (hb hby at_142) (by decide) (by decide) k) ?_
        show own_Go p e below s _ _ _ (T82.setTop (mkF m 146 #[.val (.int p0), .val (.int p1), .val (.int p2), .val (.int p3), .val (.int ((1 : Int32) + (2 : Int32))), .val (.int (((p0.toUInt32 >>> ((2 : Int32) &&& 31).toUInt32).toInt32) &&& (3 : Int32))), .val (.ref b65), .val (.ref b67), .val (.int r76), .val (.int f77), .val (.int r78), .val (.int f79), .unset] [(.int p2)]))
        refine own_via (fun _ k => XS.istore X82.here hx rfl (hb hby at_146) rfl (l' := #[.val (.int p0), .val (.int p1), .val (.int p2), .val (.int p3), .val (.int ((1 : Int32) + (2 : Int32))), .val (.int (((p0.toUInt32 >>> ((2 : Int32) &&& 31).toUInt32).toInt32) &&& (3 : Int32))), .val (.ref b65), .val (.ref b67), .val (.int r76), .val (.int f77), .val (.int r78), .val (.int f79), .val (.int p2)]) rfl k) ?_
        show own_Go p e below s _ _ _ (T82.setTop (mkF m 148 #[.val (.int p0), .val (.int p1), .val (.int p2), .val (.int p3), .val (.int ((1 : Int32) + (2 : Int32))), .val (.int (((p0.toUInt32 >>> ((2 : Int32) &&& 31).toUInt32).toInt32) &&& (3 : Int32))), .val (.ref b65), .val (.ref b67), .val (.int r76), .val (.int f77), .val (.int r78), .val (.int f79), .val (.int p2)] []))
        refine own_via (fun _ k => XS.aload X82.here hx rfl (hb hby at_148) rfl rfl k) ?_
        show own_Go p e below s _ _ _ (T82.setTop (mkF m 150 #[.val (.int p0), .val (.int p1), .val (.int p2), .val (.int p3), .val (.int ((1 : Int32) + (2 : Int32))), .val (.int (((p0.toUInt32 >>> ((2 : Int32) &&& 31).toUInt32).toInt32) &&& (3 : Int32))), .val (.ref b65), .val (.ref b67), .val (.int r76), .val (.int f77), .val (.int r78), .val (.int f79), .val (.int p2)] [(.ref b65)]))
        refine own_via (fun _ k => XS.iload X82.here hx rfl (hb hby at_150) rfl k) ?_
        show own_Go p e below s _ _ _ (T82.setTop (mkF m 152 #[.val (.int p0), .val (.int p1), .val (.int p2), .val (.int p3), .val (.int ((1 : Int32) + (2 : Int32))), .val (.int (((p0.toUInt32 >>> ((2 : Int32) &&& 31).toUInt32).toInt32) &&& (3 : Int32))), .val (.ref b65), .val (.ref b67), .val (.int r76), .val (.int f77), .val (.int r78), .val (.int f79), .val (.int p2)] [(.int r76), (.ref b65)]))
        refine own_via (fun _ k => XS.iload X82.here hx rfl (hb hby at_152) rfl k) ?_
        show own_Go p e below s _ _ _ (T82.setTop (mkF m 154 #[.val (.int p0), .val (.int p1), .val (.int p2), .val (.int p3), .val (.int ((1 : Int32) + (2 : Int32))), .val (.int (((p0.toUInt32 >>> ((2 : Int32) &&& 31).toUInt32).toInt32) &&& (3 : Int32))), .val (.ref b65), .val (.ref b67), .val (.int r76), .val (.int f77), .val (.int r78), .val (.int f79), .val (.int p2)] [(.int f77), (.int r76), (.ref b65)]))
        have hat86 : ((cl.setSlot ((((r78 &&& (4095 : Int32)) * ((1 : Int32) + (2 : Int32))) + f79)).toNatClampNeg (.int p3)).setSlot ((((r76 &&& (4095 : Int32)) * ((1 : Int32) + (2 : Int32))) + f77)).toNatClampNeg (.int p2)).slots[((((r76 &&& (4095 : Int32)) * ((1 : Int32) + (2 : Int32))) + f77)).toNatClampNeg]? = some (.int p2) := (get_hit (own_inx ((sz_set _ _ _).trans SI) ix83 hrb76 hfb77) rfl)
        obtain ⟨cq86, kq86, q86a, q86b, q86c⟩ := isOf hZ rfl OB_b65.1
        obtain ⟨_, _, ⟨T86, L86, k86, n86⟩, -, X86, ⟨Lc86, hQ86, l86, y86, z86⟩, st86⟩ := X82.virtualBack hx (y := (⟨"com/example/whenever/whenever/internal/engine/Rows", "getInt", "(II)I"⟩ : MethodName)) (z := (⟨"com/example/whenever/whenever/internal/engine/Rows", "getInt", "(II)I"⟩ : MethodName)) hown (mvT hZ (hw _ (List.mem_of_getElem? (i := 81) rfl))) (mvT hZ (hw _ (List.mem_of_getElem? (i := 82) rfl))) (notFace_of_selects (args := #[]) (mvT hZ (hw _ (List.mem_of_getElem? (i := 84) rfl)))) (mvT hZ (hw _ (List.mem_of_getElem? (i := 84) rfl))) (mvT hZ (hw _ (List.mem_of_getElem? (i := 83) rfl))) (by decide) (backOf (W := 0) (rm11_1 l Z a0 hw [] b65 A1 A2 I R k1 k2 (((((1 : Int32) + (1 : Int32)) + (1 : Int32)) + (1 : Int32)) + (1 : Int32)) ((1 : Int32) + (2 : Int32)) (((p0.toUInt32 >>> ((2 : Int32) &&& 31).toUInt32).toInt32) &&& (3 : Int32)) ((cl.setSlot ((((r78 &&& (4095 : Int32)) * ((1 : Int32) + (2 : Int32))) + f79)).toNatClampNeg (.int p3)).setSlot ((((r76 &&& (4095 : Int32)) * ((1 : Int32) + (2 : Int32))) + f77)).toNatClampNeg (.int p2)) r76 f77 p2 w0 w1 mr kw0 kw1 T82.heap n0 Z0 K0 OL (own_blk hrb76) (own_inx ((sz_set _ _ _).trans ((sz_set _ _ _).trans SI)) ix83 hrb76 hfb77) hat86 ⟨OB_b65, V_A1, V_A2, OV_A1, OV_A2, ne_b65_A1, ne_b65_A2, ne_A1_A2, g_b65, g_A1, g_A2⟩ AR_I) hZ (hw _ (List.mem_of_getElem? (i := 85) rfl)) (hw _ (List.mem_of_getElem? (i := 2) rfl)) (by decide) (by decide)) q86a q86c (g := (mkF m 154 #[.val (.int p0), .val (.int p1), .val (.int p2), .val (.int p3), .val (.int ((1 : Int32) + (2 : Int32))), .val (.int (((p0.toUInt32 >>> ((2 : Int32) &&& 31).toUInt32).toInt32) &&& (3 : Int32))), .val (.ref b65), .val (.ref b67), .val (.int r76), .val (.int f77), .val (.int r78), .val (.int f79), .val (.int p2)] [(.int f77), (.int r76), (.ref b65)])) rfl (by rw [hml]; rfl) (Steps.refl _) (argsL := [(.int r76), (.int f77)]) (rest := []) (lenOf pd1 rfl) rfl (by show 2 * 0 + _ ≤ _; exact Nat.le_of_eq rfl) (hb hby at_154) (fun _ _ => ⟨rfl, rfl, (by decide : 0 + 1 + 2 + 1 + 2 + 0 + 0 + 0 + 0 + 0 + 0 ≤ _), (by decide : 0 + 10 + 2 + 4 + 64 + 0 + 0 + 0 + 0 + 0 + 0 ≤ _)⟩)
        dsimp only [Pt.U, Pt.locs, Pt.cells, Pt.slots] at X86 l86 y86 z86 st86 hQ86
        subst l86 y86 z86
        obtain ⟨NQ86, OLq86, Zq86, KQ86, hP86⟩ := hQ86
        obtain rfl := hP86
        have OB_b65 := OB_b65.keep KQ86 nin0
        have V_A1 := V_A1.keep KQ86 nin0
        have V_A2 := V_A2.keep KQ86 nin0
        have V_b67 := V_b67.keep KQ86 nin0
        have AR_R := own_arrKeep AR_R KQ86 nin0
        have AR_I := own_arrKeep AR_I KQ86 nin0
        have EX_b67 := EX_b67.keep KQ86
        skip
        have OL := OLq86
        have Z0 := Zq86
        refine own_tr st86 ?_
        show own_Go p e below s _ _ _ (T86.setTop (mkF m 157 #[.val (.int p0), .val (.int p1), .val (.int p2), .val (.int p3), .val (.int ((1 : Int32) + (2 : Int32))), .val (.int (((p0.toUInt32 >>> ((2 : Int32) &&& 31).toUInt32).toInt32) &&& (3 : Int32))), .val (.ref b65), .val (.ref b67), .val (.int r76), .val (.int f77), .val (.int r78), .val (.int f79), .val (.int p2)] [(.int p2)]))
        refine own_via (fun _ k => XS.iloadN X86.here hx rfl (hb hby at_157) rfl k) ?_
        show own_Go p e below s _ _ _ (T86.setTop (mkF m 158 #[.val (.int p0), .val (.int p1), .val (.int p2), .val (.int p3), .val (.int ((1 : Int32) + (2 : Int32))), .val (.int (((p0.toUInt32 >>> ((2 : Int32) &&& 31).toUInt32).toInt32) &&& (3 : Int32))), .val (.ref b65), .val (.ref b67), .val (.int r76), .val (.int f77), .val (.int r78), .val (.int f79), .val (.int p2)] [(.int p2), (.int p2)]))
        refine own_via (fun _ k => XS.icmpNo X86.here hx rfl (hb hby at_158) rfl (teq (rfl : p2 = p2)).2 k) ?_
        show own_Go p e below s _ _ _ (T86.setTop (mkF m 161 #[.val (.int p0), .val (.int p1), .val (.int p2), .val (.int p3), .val (.int ((1 : Int32) + (2 : Int32))), .val (.int (((p0.toUInt32 >>> ((2 : Int32) &&& 31).toUInt32).toInt32) &&& (3 : Int32))), .val (.ref b65), .val (.ref b67), .val (.int r76), .val (.int f77), .val (.int r78), .val (.int f79), .val (.int p2)] []))
        refine own_via (fun _ k => XS.aload X86.here hx rfl (hb hby at_161) rfl rfl k) ?_
        show own_Go p e below s _ _ _ (T86.setTop (mkF m 163 #[.val (.int p0), .val (.int p1), .val (.int p2), .val (.int p3), .val (.int ((1 : Int32) + (2 : Int32))), .val (.int (((p0.toUInt32 >>> ((2 : Int32) &&& 31).toUInt32).toInt32) &&& (3 : Int32))), .val (.ref b65), .val (.ref b67), .val (.int r76), .val (.int f77), .val (.int r78), .val (.int f79), .val (.int p2)] [(.ref b65)]))
        refine own_via (fun _ k => XS.iload X86.here hx rfl (hb hby at_163) rfl k) ?_
        show own_Go p e below s _ _ _ (T86.setTop (mkF m 165 #[.val (.int p0), .val (.int p1), .val (.int p2), .val (.int p3), .val (.int ((1 : Int32) + (2 : Int32))), .val (.int (((p0.toUInt32 >>> ((2 : Int32) &&& 31).toUInt32).toInt32) &&& (3 : Int32))), .val (.ref b65), .val (.ref b67), .val (.int r76), .val (.int f77), .val (.int r78), .val (.int f79), .val (.int p2)] [(.int r78), (.ref b65)]))
        refine own_via (fun _ k => XS.iload X86.here hx rfl (hb hby at_165) rfl k) ?_
        show own_Go p e below s _ _ _ (T86.setTop (mkF m 167 #[.val (.int p0), .val (.int p1), .val (.int p2), .val (.int p3), .val (.int ((1 : Int32) + (2 : Int32))), .val (.int (((p0.toUInt32 >>> ((2 : Int32) &&& 31).toUInt32).toInt32) &&& (3 : Int32))), .val (.ref b65), .val (.ref b67), .val (.int r76), .val (.int f77), .val (.int r78), .val (.int f79), .val (.int p2)] [(.int f79), (.int r78), (.ref b65)]))
        have eq88 : (((r78 &&& (4095 : Int32)) * ((1 : Int32) + (2 : Int32))) + f79) = (((r76 &&& (4095 : Int32)) * ((1 : Int32) + (2 : Int32))) + f77) := by rw [show r78 = r76 from (Eq.symm hc84), show f79 = f77 from (Eq.symm hc85)]
        have hat87 : ((cl.setSlot ((((r78 &&& (4095 : Int32)) * ((1 : Int32) + (2 : Int32))) + f79)).toNatClampNeg (.int p3)).setSlot ((((r76 &&& (4095 : Int32)) * ((1 : Int32) + (2 : Int32))) + f77)).toNatClampNeg (.int p2)).slots[((((r78 &&& (4095 : Int32)) * ((1 : Int32) + (2 : Int32))) + f79)).toNatClampNeg]? = some (.int p2) := (get_hit (own_inx ((sz_set _ _ _).trans SI) ix83 hrb76 hfb77) eq88)
        obtain ⟨cq87, kq87, q87a, q87b, q87c⟩ := isOf hZ rfl OB_b65.1
        obtain ⟨_, _, ⟨T87, L87, k87, n87⟩, -, X87, ⟨Lc87, hQ87, l87, y87, z87⟩, st87⟩ := X86.virtualBack hx (y := (⟨"com/example/whenever/whenever/internal/engine/Rows", "getInt", "(II)I"⟩ : MethodName)) (z := (⟨"com/example/whenever/whenever/internal/engine/Rows", "getInt", "(II)I"⟩ : MethodName)) hown (mvT hZ (hw _ (List.mem_of_getElem? (i := 81) rfl))) (mvT hZ (hw _ (List.mem_of_getElem? (i := 82) rfl))) (notFace_of_selects (args := #[]) (mvT hZ (hw _ (List.mem_of_getElem? (i := 84) rfl)))) (mvT hZ (hw _ (List.mem_of_getElem? (i := 84) rfl))) (mvT hZ (hw _ (List.mem_of_getElem? (i := 83) rfl))) (by decide) (backOf (W := 0) (rm11_1 l Z a0 hw [] b65 A1 A2 I R k1 k2 (((((1 : Int32) + (1 : Int32)) + (1 : Int32)) + (1 : Int32)) + (1 : Int32)) ((1 : Int32) + (2 : Int32)) (((p0.toUInt32 >>> ((2 : Int32) &&& 31).toUInt32).toInt32) &&& (3 : Int32)) ((cl.setSlot ((((r78 &&& (4095 : Int32)) * ((1 : Int32) + (2 : Int32))) + f79)).toNatClampNeg (.int p3)).setSlot ((((r76 &&& (4095 : Int32)) * ((1 : Int32) + (2 : Int32))) + f77)).toNatClampNeg (.int p2)) r78 f79 p2 w0 w1 mr kw0 kw1 T86.heap n0 Z0 K0 OL (own_blk hrb78) (own_inx ((sz_set _ _ _).trans ((sz_set _ _ _).trans SI)) ix81 hrb78 hfb79) hat87 ⟨OB_b65, V_A1, V_A2, OV_A1, OV_A2, ne_b65_A1, ne_b65_A2, ne_A1_A2, g_b65, g_A1, g_A2⟩ AR_I) hZ (hw _ (List.mem_of_getElem? (i := 85) rfl)) (hw _ (List.mem_of_getElem? (i := 2) rfl)) (by decide) (by decide)) q87a q87c (g := (mkF m 167 #[.val (.int p0), .val (.int p1), .val (.int p2), .val (.int p3), .val (.int ((1 : Int32) + (2 : Int32))), .val (.int (((p0.toUInt32 >>> ((2 : Int32) &&& 31).toUInt32).toInt32) &&& (3 : Int32))), .val (.ref b65), .val (.ref b67), .val (.int r76), .val (.int f77), .val (.int r78), .val (.int f79), .val (.int p2)] [(.int f79), (.int r78), (.ref b65)])) rfl (by rw [hml]; rfl) (Steps.refl _) (argsL := [(.int r78), (.int f79)]) (rest := []) (lenOf pd1 rfl) rfl (by show 2 * 0 + _ ≤ _; exact Nat.le_of_eq rfl) (hb hby at_167) (fun _ _ => ⟨rfl, rfl, (by decide : 0 + 1 + 2 + 1 + 2 + 0 + 0 + 0 + 0 + 0 + 0 + 0 ≤ _), (by decide : 0 + 10 + 2 + 4 + 64 + 0 + 0 + 0 + 0 + 0 + 0 + 0 ≤ _)⟩)
        dsimp only [Pt.U, Pt.locs, Pt.cells, Pt.slots] at X87 l87 y87 z87 st87 hQ87
        subst l87 y87 z87
        obtain ⟨NQ87, OLq87, Zq87, KQ87, hP87⟩ := hQ87
        obtain rfl := hP87
        have OB_b65 := OB_b65.keep KQ87 nin0
        have V_A1 := V_A1.keep KQ87 nin0
        have V_A2 := V_A2.keep KQ87 nin0
        have V_b67 := V_b67.keep KQ87 nin0
        have AR_R := own_arrKeep AR_R KQ87 nin0
        have AR_I := own_arrKeep AR_I KQ87 nin0
        have EX_b67 := EX_b67.keep KQ87
        skip
        have OL := OLq87
        have Z0 := Zq87
        refine own_tr st87 ?_
        show own_Go p e below s _ _ _ (T87.setTop (mkF m 170 #[.val (.int p0), .val (.int p1), .val (.int p2), .val (.int p3), .val (.int ((1 : Int32) + (2 : Int32))), .val (.int (((p0.toUInt32 >>> ((2 : Int32) &&& 31).toUInt32).toInt32) &&& (3 : Int32))), .val (.ref b65), .val (.ref b67), .val (.int r76), .val (.int f77), .val (.int r78), .val (.int f79), .val (.int p2)] [(.int p2)]))
        refine own_via (fun _ k => XS.iload X87.here hx rfl (hb hby at_170) rfl k) ?_
        show own_Go p e below s _ _ _ (T87.setTop (mkF m 172 #[.val (.int p0), .val (.int p1), .val (.int p2), .val (.int p3), .val (.int ((1 : Int32) + (2 : Int32))), .val (.int (((p0.toUInt32 >>> ((2 : Int32) &&& 31).toUInt32).toInt32) &&& (3 : Int32))), .val (.ref b65), .val (.ref b67), .val (.int r76), .val (.int f77), .val (.int r78), .val (.int f79), .val (.int p2)] [(.int p2), (.int p2)]))
        refine own_via (fun _ k => XS.icmpNo X87.here hx rfl (hb hby at_172) rfl (teq (rfl : p2 = p2)).2 k) ?_
        show own_Go p e below s _ _ _ (T87.setTop (mkF m 175 #[.val (.int p0), .val (.int p1), .val (.int p2), .val (.int p3), .val (.int ((1 : Int32) + (2 : Int32))), .val (.int (((p0.toUInt32 >>> ((2 : Int32) &&& 31).toUInt32).toInt32) &&& (3 : Int32))), .val (.ref b65), .val (.ref b67), .val (.int r76), .val (.int f77), .val (.int r78), .val (.int f79), .val (.int p2)] []))
        refine own_via (fun _ k => XS.iconst X87.here hx rfl (hb hby at_175) k) ?_
        show own_Go p e below s _ _ _ (T87.setTop (mkF m 176 #[.val (.int p0), .val (.int p1), .val (.int p2), .val (.int p3), .val (.int ((1 : Int32) + (2 : Int32))), .val (.int (((p0.toUInt32 >>> ((2 : Int32) &&& 31).toUInt32).toInt32) &&& (3 : Int32))), .val (.ref b65), .val (.ref b67), .val (.int r76), .val (.int f77), .val (.int r78), .val (.int f79), .val (.int p2)] [(.int (1 : Int32))]))
        refine own_via (fun _ k => XS.goto X87.here hx rfl (pc0 := 176) (pc' := 180) rfl (hb hby at_176) (by decide) (by decide) k) ?_
        show own_Go p e below s _ _ _ (T87.setTop (mkF m 180 #[.val (.int p0), .val (.int p1), .val (.int p2), .val (.int p3), .val (.int ((1 : Int32) + (2 : Int32))), .val (.int (((p0.toUInt32 >>> ((2 : Int32) &&& 31).toUInt32).toInt32) &&& (3 : Int32))), .val (.ref b65), .val (.ref b67), .val (.int r76), .val (.int f77), .val (.int r78), .val (.int f79), .val (.int p2)] [(.int (1 : Int32))]))
        exact own_retZ X87 hx hlk (t := .boolean) Bd.returns (by simp) (hb hby at_180) (z' := (1 : Int32)) (by first | rfl | decide) ⟨rfl, (Fr.app (Fr.app (Fr.app (Fr.app N75 NQ80) NQ82) NQ86) NQ87)⟩ (by decide) (by decide)
      · refine own_via (fun _ k => XS.icmpYes X82.here hx rfl (pc0 := 138) (pc' := 145) rfl (hb hby at_138) rfl (feq hc85).2 (by decide) (by decide) k) ?_
        show own_Go p e below s _ _ _ (T82.setTop (mkF m 145 #[.val (.int p0), .val (.int p1), .val (.int p2), .val (.int p3), .val (.int ((1 : Int32) + (2 : Int32))), .val (.int (((p0.toUInt32 >>> ((2 : Int32) &&& 31).toUInt32).toInt32) &&& (3 : Int32))), .val (.ref b65), .val (.ref b67), .val (.int r76), .val (.int f77), .val (.int r78), .val (.int f79), .unset] []))
        refine own_via (fun _ k => XS.iloadN X82.here hx rfl (hb hby at_145) rfl k) ?_
        show own_Go p e below s _ _ _ (T82.setTop (mkF m 146 #[.val (.int p0), .val (.int p1), .val (.int p2), .val (.int p3), .val (.int ((1 : Int32) + (2 : Int32))), .val (.int (((p0.toUInt32 >>> ((2 : Int32) &&& 31).toUInt32).toInt32) &&& (3 : Int32))), .val (.ref b65), .val (.ref b67), .val (.int r76), .val (.int f77), .val (.int r78), .val (.int f79), .unset] [(.int p3)]))
        refine own_via (fun _ k => XS.istore X82.here hx rfl (hb hby at_146) rfl (l' := #[.val (.int p0), .val (.int p1), .val (.int p2), .val (.int p3), .val (.int ((1 : Int32) + (2 : Int32))), .val (.int (((p0.toUInt32 >>> ((2 : Int32) &&& 31).toUInt32).toInt32) &&& (3 : Int32))), .val (.ref b65), .val (.ref b67), .val (.int r76), .val (.int f77), .val (.int r78), .val (.int f79), .val (.int p3)]) rfl k) ?_
        show own_Go p e below s _ _ _ (T82.setTop (mkF m 148 #[.val (.int p0), .val (.int p1), .val (.int p2), .val (.int p3), .val (.int ((1 : Int32) + (2 : Int32))), .val (.int (((p0.toUInt32 >>> ((2 : Int32) &&& 31).toUInt32).toInt32) &&& (3 : Int32))), .val (.ref b65), .val (.ref b67), .val (.int r76), .val (.int f77), .val (.int r78), .val (.int f79), .val (.int p3)] []))
        refine own_via (fun _ k => XS.aload X82.here hx rfl (hb hby at_148) rfl rfl k) ?_
        show own_Go p e below s _ _ _ (T82.setTop (mkF m 150 #[.val (.int p0), .val (.int p1), .val (.int p2), .val (.int p3), .val (.int ((1 : Int32) + (2 : Int32))), .val (.int (((p0.toUInt32 >>> ((2 : Int32) &&& 31).toUInt32).toInt32) &&& (3 : Int32))), .val (.ref b65), .val (.ref b67), .val (.int r76), .val (.int f77), .val (.int r78), .val (.int f79), .val (.int p3)] [(.ref b65)]))
        refine own_via (fun _ k => XS.iload X82.here hx rfl (hb hby at_150) rfl k) ?_
        show own_Go p e below s _ _ _ (T82.setTop (mkF m 152 #[.val (.int p0), .val (.int p1), .val (.int p2), .val (.int p3), .val (.int ((1 : Int32) + (2 : Int32))), .val (.int (((p0.toUInt32 >>> ((2 : Int32) &&& 31).toUInt32).toInt32) &&& (3 : Int32))), .val (.ref b65), .val (.ref b67), .val (.int r76), .val (.int f77), .val (.int r78), .val (.int f79), .val (.int p3)] [(.int r76), (.ref b65)]))
        refine own_via (fun _ k => XS.iload X82.here hx rfl (hb hby at_152) rfl k) ?_
        show own_Go p e below s _ _ _ (T82.setTop (mkF m 154 #[.val (.int p0), .val (.int p1), .val (.int p2), .val (.int p3), .val (.int ((1 : Int32) + (2 : Int32))), .val (.int (((p0.toUInt32 >>> ((2 : Int32) &&& 31).toUInt32).toInt32) &&& (3 : Int32))), .val (.ref b65), .val (.ref b67), .val (.int r76), .val (.int f77), .val (.int r78), .val (.int f79), .val (.int p3)] [(.int f77), (.int r76), (.ref b65)]))
        have hat89 : ((cl.setSlot ((((r78 &&& (4095 : Int32)) * ((1 : Int32) + (2 : Int32))) + f79)).toNatClampNeg (.int p3)).setSlot ((((r76 &&& (4095 : Int32)) * ((1 : Int32) + (2 : Int32))) + f77)).toNatClampNeg (.int p2)).slots[((((r76 &&& (4095 : Int32)) * ((1 : Int32) + (2 : Int32))) + f77)).toNatClampNeg]? = some (.int p2) := (get_hit (own_inx ((sz_set _ _ _).trans SI) ix83 hrb76 hfb77) rfl)
        obtain ⟨cq89, kq89, q89a, q89b, q89c⟩ := isOf hZ rfl OB_b65.1
        obtain ⟨_, _, ⟨T89, L89, k89, n89⟩, -, X89, ⟨Lc89, hQ89, l89, y89, z89⟩, st89⟩ := X82.virtualBack hx (y := (⟨"com/example/whenever/whenever/internal/engine/Rows", "getInt", "(II)I"⟩ : MethodName)) (z := (⟨"com/example/whenever/whenever/internal/engine/Rows", "getInt", "(II)I"⟩ : MethodName)) hown (mvT hZ (hw _ (List.mem_of_getElem? (i := 81) rfl))) (mvT hZ (hw _ (List.mem_of_getElem? (i := 82) rfl))) (notFace_of_selects (args := #[]) (mvT hZ (hw _ (List.mem_of_getElem? (i := 84) rfl)))) (mvT hZ (hw _ (List.mem_of_getElem? (i := 84) rfl))) (mvT hZ (hw _ (List.mem_of_getElem? (i := 83) rfl))) (by decide) (backOf (W := 0) (rm11_1 l Z a0 hw [] b65 A1 A2 I R k1 k2 (((((1 : Int32) + (1 : Int32)) + (1 : Int32)) + (1 : Int32)) + (1 : Int32)) ((1 : Int32) + (2 : Int32)) (((p0.toUInt32 >>> ((2 : Int32) &&& 31).toUInt32).toInt32) &&& (3 : Int32)) ((cl.setSlot ((((r78 &&& (4095 : Int32)) * ((1 : Int32) + (2 : Int32))) + f79)).toNatClampNeg (.int p3)).setSlot ((((r76 &&& (4095 : Int32)) * ((1 : Int32) + (2 : Int32))) + f77)).toNatClampNeg (.int p2)) r76 f77 p2 w0 w1 mr kw0 kw1 T82.heap n0 Z0 K0 OL (own_blk hrb76) (own_inx ((sz_set _ _ _).trans ((sz_set _ _ _).trans SI)) ix83 hrb76 hfb77) hat89 ⟨OB_b65, V_A1, V_A2, OV_A1, OV_A2, ne_b65_A1, ne_b65_A2, ne_A1_A2, g_b65, g_A1, g_A2⟩ AR_I) hZ (hw _ (List.mem_of_getElem? (i := 85) rfl)) (hw _ (List.mem_of_getElem? (i := 2) rfl)) (by decide) (by decide)) q89a q89c (g := (mkF m 154 #[.val (.int p0), .val (.int p1), .val (.int p2), .val (.int p3), .val (.int ((1 : Int32) + (2 : Int32))), .val (.int (((p0.toUInt32 >>> ((2 : Int32) &&& 31).toUInt32).toInt32) &&& (3 : Int32))), .val (.ref b65), .val (.ref b67), .val (.int r76), .val (.int f77), .val (.int r78), .val (.int f79), .val (.int p3)] [(.int f77), (.int r76), (.ref b65)])) rfl (by rw [hml]; rfl) (Steps.refl _) (argsL := [(.int r76), (.int f77)]) (rest := []) (lenOf pd1 rfl) rfl (by show 2 * 0 + _ ≤ _; exact Nat.le_of_eq rfl) (hb hby at_154) (fun _ _ => ⟨rfl, rfl, (by decide : 0 + 1 + 2 + 1 + 2 + 0 + 0 + 0 + 0 + 0 + 0 ≤ _), (by decide : 0 + 10 + 2 + 4 + 64 + 0 + 0 + 0 + 0 + 0 + 0 ≤ _)⟩)
        dsimp only [Pt.U, Pt.locs, Pt.cells, Pt.slots] at X89 l89 y89 z89 st89 hQ89
        subst l89 y89 z89
        obtain ⟨NQ89, OLq89, Zq89, KQ89, hP89⟩ := hQ89
        obtain rfl := hP89
        have OB_b65 := OB_b65.keep KQ89 nin0
        have V_A1 := V_A1.keep KQ89 nin0
        have V_A2 := V_A2.keep KQ89 nin0
        have V_b67 := V_b67.keep KQ89 nin0
        have AR_R := own_arrKeep AR_R KQ89 nin0
        have AR_I := own_arrKeep AR_I KQ89 nin0
        have EX_b67 := EX_b67.keep KQ89
        skip
        have OL := OLq89
        have Z0 := Zq89
        refine own_tr st89 ?_
        show own_Go p e below s _ _ _ (T89.setTop (mkF m 157 #[.val (.int p0), .val (.int p1), .val (.int p2), .val (.int p3), .val (.int ((1 : Int32) + (2 : Int32))), .val (.int (((p0.toUInt32 >>> ((2 : Int32) &&& 31).toUInt32).toInt32) &&& (3 : Int32))), .val (.ref b65), .val (.ref b67), .val (.int r76), .val (.int f77), .val (.int r78), .val (.int f79), .val (.int p3)] [(.int p2)]))
        refine own_via (fun _ k => XS.iloadN X89.here hx rfl (hb hby at_157) rfl k) ?_
        show own_Go p e below s _ _ _ (T89.setTop (mkF m 158 #[.val (.int p0), .val (.int p1), .val (.int p2), .val (.int p3), .val (.int ((1 : Int32) + (2 : Int32))), .val (.int (((p0.toUInt32 >>> ((2 : Int32) &&& 31).toUInt32).toInt32) &&& (3 : Int32))), .val (.ref b65), .val (.ref b67), .val (.int r76), .val (.int f77), .val (.int r78), .val (.int f79), .val (.int p3)] [(.int p2), (.int p2)]))
        refine own_via (fun _ k => XS.icmpNo X89.here hx rfl (hb hby at_158) rfl (teq (rfl : p2 = p2)).2 k) ?_
        show own_Go p e below s _ _ _ (T89.setTop (mkF m 161 #[.val (.int p0), .val (.int p1), .val (.int p2), .val (.int p3), .val (.int ((1 : Int32) + (2 : Int32))), .val (.int (((p0.toUInt32 >>> ((2 : Int32) &&& 31).toUInt32).toInt32) &&& (3 : Int32))), .val (.ref b65), .val (.ref b67), .val (.int r76), .val (.int f77), .val (.int r78), .val (.int f79), .val (.int p3)] []))
        refine own_via (fun _ k => XS.aload X89.here hx rfl (hb hby at_161) rfl rfl k) ?_
        show own_Go p e below s _ _ _ (T89.setTop (mkF m 163 #[.val (.int p0), .val (.int p1), .val (.int p2), .val (.int p3), .val (.int ((1 : Int32) + (2 : Int32))), .val (.int (((p0.toUInt32 >>> ((2 : Int32) &&& 31).toUInt32).toInt32) &&& (3 : Int32))), .val (.ref b65), .val (.ref b67), .val (.int r76), .val (.int f77), .val (.int r78), .val (.int f79), .val (.int p3)] [(.ref b65)]))
        refine own_via (fun _ k => XS.iload X89.here hx rfl (hb hby at_163) rfl k) ?_
        show own_Go p e below s _ _ _ (T89.setTop (mkF m 165 #[.val (.int p0), .val (.int p1), .val (.int p2), .val (.int p3), .val (.int ((1 : Int32) + (2 : Int32))), .val (.int (((p0.toUInt32 >>> ((2 : Int32) &&& 31).toUInt32).toInt32) &&& (3 : Int32))), .val (.ref b65), .val (.ref b67), .val (.int r76), .val (.int f77), .val (.int r78), .val (.int f79), .val (.int p3)] [(.int r78), (.ref b65)]))
        refine own_via (fun _ k => XS.iload X89.here hx rfl (hb hby at_165) rfl k) ?_
        show own_Go p e below s _ _ _ (T89.setTop (mkF m 167 #[.val (.int p0), .val (.int p1), .val (.int p2), .val (.int p3), .val (.int ((1 : Int32) + (2 : Int32))), .val (.int (((p0.toUInt32 >>> ((2 : Int32) &&& 31).toUInt32).toInt32) &&& (3 : Int32))), .val (.ref b65), .val (.ref b67), .val (.int r76), .val (.int f77), .val (.int r78), .val (.int f79), .val (.int p3)] [(.int f79), (.int r78), (.ref b65)]))
        have ne91 : ¬ ((((r78 &&& (4095 : Int32)) * ((1 : Int32) + (2 : Int32))) + f79) = (((r76 &&& (4095 : Int32)) * ((1 : Int32) + (2 : Int32))) + f77)) := own_ne3 ix81 ix83 hfb79 hfb77 (Or.inr (fun q => hc85 (Eq.symm q)))
        have hat90 : ((cl.setSlot ((((r78 &&& (4095 : Int32)) * ((1 : Int32) + (2 : Int32))) + f79)).toNatClampNeg (.int p3)).setSlot ((((r76 &&& (4095 : Int32)) * ((1 : Int32) + (2 : Int32))) + f77)).toNatClampNeg (.int p2)).slots[((((r78 &&& (4095 : Int32)) * ((1 : Int32) + (2 : Int32))) + f79)).toNatClampNeg]? = some (.int p3) := ((get_miss (fun q => (own_inx SI ix83 hrb76 hfb77) (Or.inl q)) (fun q => (own_inx SI ix81 hrb78 hfb79) (Or.inl q)) ne91).trans (get_hit (own_inx SI ix81 hrb78 hfb79) rfl))
        obtain ⟨cq90, kq90, q90a, q90b, q90c⟩ := isOf hZ rfl OB_b65.1
        obtain ⟨_, _, ⟨T90, L90, k90, n90⟩, -, X90, ⟨Lc90, hQ90, l90, y90, z90⟩, st90⟩ := X89.virtualBack hx (y := (⟨"com/example/whenever/whenever/internal/engine/Rows", "getInt", "(II)I"⟩ : MethodName)) (z := (⟨"com/example/whenever/whenever/internal/engine/Rows", "getInt", "(II)I"⟩ : MethodName)) hown (mvT hZ (hw _ (List.mem_of_getElem? (i := 81) rfl))) (mvT hZ (hw _ (List.mem_of_getElem? (i := 82) rfl))) (notFace_of_selects (args := #[]) (mvT hZ (hw _ (List.mem_of_getElem? (i := 84) rfl)))) (mvT hZ (hw _ (List.mem_of_getElem? (i := 84) rfl))) (mvT hZ (hw _ (List.mem_of_getElem? (i := 83) rfl))) (by decide) (backOf (W := 0) (rm11_1 l Z a0 hw [] b65 A1 A2 I R k1 k2 (((((1 : Int32) + (1 : Int32)) + (1 : Int32)) + (1 : Int32)) + (1 : Int32)) ((1 : Int32) + (2 : Int32)) (((p0.toUInt32 >>> ((2 : Int32) &&& 31).toUInt32).toInt32) &&& (3 : Int32)) ((cl.setSlot ((((r78 &&& (4095 : Int32)) * ((1 : Int32) + (2 : Int32))) + f79)).toNatClampNeg (.int p3)).setSlot ((((r76 &&& (4095 : Int32)) * ((1 : Int32) + (2 : Int32))) + f77)).toNatClampNeg (.int p2)) r78 f79 p3 w0 w1 mr kw0 kw1 T89.heap n0 Z0 K0 OL (own_blk hrb78) (own_inx ((sz_set _ _ _).trans ((sz_set _ _ _).trans SI)) ix81 hrb78 hfb79) hat90 ⟨OB_b65, V_A1, V_A2, OV_A1, OV_A2, ne_b65_A1, ne_b65_A2, ne_A1_A2, g_b65, g_A1, g_A2⟩ AR_I) hZ (hw _ (List.mem_of_getElem? (i := 85) rfl)) (hw _ (List.mem_of_getElem? (i := 2) rfl)) (by decide) (by decide)) q90a q90c (g := (mkF m 167 #[.val (.int p0), .val (.int p1), .val (.int p2), .val (.int p3), .val (.int ((1 : Int32) + (2 : Int32))), .val (.int (((p0.toUInt32 >>> ((2 : Int32) &&& 31).toUInt32).toInt32) &&& (3 : Int32))), .val (.ref b65), .val (.ref b67), .val (.int r76), .val (.int f77), .val (.int r78), .val (.int f79), .val (.int p3)] [(.int f79), (.int r78), (.ref b65)])) rfl (by rw [hml]; rfl) (Steps.refl _) (argsL := [(.int r78), (.int f79)]) (rest := []) (lenOf pd1 rfl) rfl (by show 2 * 0 + _ ≤ _; exact Nat.le_of_eq rfl) (hb hby at_167) (fun _ _ => ⟨rfl, rfl, (by decide : 0 + 1 + 2 + 1 + 2 + 0 + 0 + 0 + 0 + 0 + 0 + 0 ≤ _), (by decide : 0 + 10 + 2 + 4 + 64 + 0 + 0 + 0 + 0 + 0 + 0 + 0 ≤ _)⟩)
        dsimp only [Pt.U, Pt.locs, Pt.cells, Pt.slots] at X90 l90 y90 z90 st90 hQ90
        subst l90 y90 z90
        obtain ⟨NQ90, OLq90, Zq90, KQ90, hP90⟩ := hQ90
        obtain rfl := hP90
        have OB_b65 := OB_b65.keep KQ90 nin0
        have V_A1 := V_A1.keep KQ90 nin0
        have V_A2 := V_A2.keep KQ90 nin0
        have V_b67 := V_b67.keep KQ90 nin0
        have AR_R := own_arrKeep AR_R KQ90 nin0
        have AR_I := own_arrKeep AR_I KQ90 nin0
        have EX_b67 := EX_b67.keep KQ90
        skip
        have OL := OLq90
        have Z0 := Zq90
        refine own_tr st90 ?_
        show own_Go p e below s _ _ _ (T90.setTop (mkF m 170 #[.val (.int p0), .val (.int p1), .val (.int p2), .val (.int p3), .val (.int ((1 : Int32) + (2 : Int32))), .val (.int (((p0.toUInt32 >>> ((2 : Int32) &&& 31).toUInt32).toInt32) &&& (3 : Int32))), .val (.ref b65), .val (.ref b67), .val (.int r76), .val (.int f77), .val (.int r78), .val (.int f79), .val (.int p3)] [(.int p3)]))
        refine own_via (fun _ k => XS.iload X90.here hx rfl (hb hby at_170) rfl k) ?_
        show own_Go p e below s _ _ _ (T90.setTop (mkF m 172 #[.val (.int p0), .val (.int p1), .val (.int p2), .val (.int p3), .val (.int ((1 : Int32) + (2 : Int32))), .val (.int (((p0.toUInt32 >>> ((2 : Int32) &&& 31).toUInt32).toInt32) &&& (3 : Int32))), .val (.ref b65), .val (.ref b67), .val (.int r76), .val (.int f77), .val (.int r78), .val (.int f79), .val (.int p3)] [(.int p3), (.int p3)]))
        refine own_via (fun _ k => XS.icmpNo X90.here hx rfl (hb hby at_172) rfl (teq (rfl : p3 = p3)).2 k) ?_
        show own_Go p e below s _ _ _ (T90.setTop (mkF m 175 #[.val (.int p0), .val (.int p1), .val (.int p2), .val (.int p3), .val (.int ((1 : Int32) + (2 : Int32))), .val (.int (((p0.toUInt32 >>> ((2 : Int32) &&& 31).toUInt32).toInt32) &&& (3 : Int32))), .val (.ref b65), .val (.ref b67), .val (.int r76), .val (.int f77), .val (.int r78), .val (.int f79), .val (.int p3)] []))
        refine own_via (fun _ k => XS.iconst X90.here hx rfl (hb hby at_175) k) ?_
        show own_Go p e below s _ _ _ (T90.setTop (mkF m 176 #[.val (.int p0), .val (.int p1), .val (.int p2), .val (.int p3), .val (.int ((1 : Int32) + (2 : Int32))), .val (.int (((p0.toUInt32 >>> ((2 : Int32) &&& 31).toUInt32).toInt32) &&& (3 : Int32))), .val (.ref b65), .val (.ref b67), .val (.int r76), .val (.int f77), .val (.int r78), .val (.int f79), .val (.int p3)] [(.int (1 : Int32))]))
        refine own_via (fun _ k => XS.goto X90.here hx rfl (pc0 := 176) (pc' := 180) rfl (hb hby at_176) (by decide) (by decide) k) ?_
        show own_Go p e below s _ _ _ (T90.setTop (mkF m 180 #[.val (.int p0), .val (.int p1), .val (.int p2), .val (.int p3), .val (.int ((1 : Int32) + (2 : Int32))), .val (.int (((p0.toUInt32 >>> ((2 : Int32) &&& 31).toUInt32).toInt32) &&& (3 : Int32))), .val (.ref b65), .val (.ref b67), .val (.int r76), .val (.int f77), .val (.int r78), .val (.int f79), .val (.int p3)] [(.int (1 : Int32))]))
        exact own_retZ X90 hx hlk (t := .boolean) Bd.returns (by simp) (hb hby at_180) (z' := (1 : Int32)) (by first | rfl | decide) ⟨rfl, (Fr.app (Fr.app (Fr.app (Fr.app N75 NQ80) NQ82) NQ89) NQ90)⟩ (by decide) (by decide)
    · refine own_via (fun _ k => XS.icmpYes X82.here hx rfl (pc0 := 131) (pc' := 145) rfl (hb hby at_131) rfl (feq hc84).2 (by decide) (by decide) k) ?_
      show own_Go p e below s _ _ _ (T82.setTop (mkF m 145 #[.val (.int p0), .val (.int p1), .val (.int p2), .val (.int p3), .val (.int ((1 : Int32) + (2 : Int32))), .val (.int (((p0.toUInt32 >>> ((2 : Int32) &&& 31).toUInt32).toInt32) &&& (3 : Int32))), .val (.ref b65), .val (.ref b67), .val (.int r76), .val (.int f77), .val (.int r78), .val (.int f79), .unset] []))
      refine own_via (fun _ k => XS.iloadN X82.here hx rfl (hb hby at_145) rfl k) ?_
      show own_Go p e below s _ _ _ (T82.setTop (mkF m 146 #[.val (.int p0), .val (.int p1), .val (.int p2), .val (.int p3), .val (.int ((1 : Int32) + (2 : Int32))), .val (.int (((p0.toUInt32 >>> ((2 : Int32) &&& 31).toUInt32).toInt32) &&& (3 : Int32))), .val (.ref b65), .val (.ref b67), .val (.int r76), .val (.int f77), .val (.int r78), .val (.int f79), .unset] [(.int p3)]))
      refine own_via (fun _ k => XS.istore X82.here hx rfl (hb hby at_146) rfl (l' := #[.val (.int p0), .val (.int p1), .val (.int p2), .val (.int p3), .val (.int ((1 : Int32) + (2 : Int32))), .val (.int (((p0.toUInt32 >>> ((2 : Int32) &&& 31).toUInt32).toInt32) &&& (3 : Int32))), .val (.ref b65), .val (.ref b67), .val (.int r76), .val (.int f77), .val (.int r78), .val (.int f79), .val (.int p3)]) rfl k) ?_
      show own_Go p e below s _ _ _ (T82.setTop (mkF m 148 #[.val (.int p0), .val (.int p1), .val (.int p2), .val (.int p3), .val (.int ((1 : Int32) + (2 : Int32))), .val (.int (((p0.toUInt32 >>> ((2 : Int32) &&& 31).toUInt32).toInt32) &&& (3 : Int32))), .val (.ref b65), .val (.ref b67), .val (.int r76), .val (.int f77), .val (.int r78), .val (.int f79), .val (.int p3)] []))
      refine own_via (fun _ k => XS.aload X82.here hx rfl (hb hby at_148) rfl rfl k) ?_
      show own_Go p e below s _ _ _ (T82.setTop (mkF m 150 #[.val (.int p0), .val (.int p1), .val (.int p2), .val (.int p3), .val (.int ((1 : Int32) + (2 : Int32))), .val (.int (((p0.toUInt32 >>> ((2 : Int32) &&& 31).toUInt32).toInt32) &&& (3 : Int32))), .val (.ref b65), .val (.ref b67), .val (.int r76), .val (.int f77), .val (.int r78), .val (.int f79), .val (.int p3)] [(.ref b65)]))
      refine own_via (fun _ k => XS.iload X82.here hx rfl (hb hby at_150) rfl k) ?_
      show own_Go p e below s _ _ _ (T82.setTop (mkF m 152 #[.val (.int p0), .val (.int p1), .val (.int p2), .val (.int p3), .val (.int ((1 : Int32) + (2 : Int32))), .val (.int (((p0.toUInt32 >>> ((2 : Int32) &&& 31).toUInt32).toInt32) &&& (3 : Int32))), .val (.ref b65), .val (.ref b67), .val (.int r76), .val (.int f77), .val (.int r78), .val (.int f79), .val (.int p3)] [(.int r76), (.ref b65)]))
      refine own_via (fun _ k => XS.iload X82.here hx rfl (hb hby at_152) rfl k) ?_
      show own_Go p e below s _ _ _ (T82.setTop (mkF m 154 #[.val (.int p0), .val (.int p1), .val (.int p2), .val (.int p3), .val (.int ((1 : Int32) + (2 : Int32))), .val (.int (((p0.toUInt32 >>> ((2 : Int32) &&& 31).toUInt32).toInt32) &&& (3 : Int32))), .val (.ref b65), .val (.ref b67), .val (.int r76), .val (.int f77), .val (.int r78), .val (.int f79), .val (.int p3)] [(.int f77), (.int r76), (.ref b65)]))
      have hat92 : ((cl.setSlot ((((r78 &&& (4095 : Int32)) * ((1 : Int32) + (2 : Int32))) + f79)).toNatClampNeg (.int p3)).setSlot ((((r76 &&& (4095 : Int32)) * ((1 : Int32) + (2 : Int32))) + f77)).toNatClampNeg (.int p2)).slots[((((r76 &&& (4095 : Int32)) * ((1 : Int32) + (2 : Int32))) + f77)).toNatClampNeg]? = some (.int p2) := (get_hit (own_inx ((sz_set _ _ _).trans SI) ix83 hrb76 hfb77) rfl)
      obtain ⟨cq92, kq92, q92a, q92b, q92c⟩ := isOf hZ rfl OB_b65.1
      obtain ⟨_, _, ⟨T92, L92, k92, n92⟩, -, X92, ⟨Lc92, hQ92, l92, y92, z92⟩, st92⟩ := X82.virtualBack hx (y := (⟨"com/example/whenever/whenever/internal/engine/Rows", "getInt", "(II)I"⟩ : MethodName)) (z := (⟨"com/example/whenever/whenever/internal/engine/Rows", "getInt", "(II)I"⟩ : MethodName)) hown (mvT hZ (hw _ (List.mem_of_getElem? (i := 81) rfl))) (mvT hZ (hw _ (List.mem_of_getElem? (i := 82) rfl))) (notFace_of_selects (args := #[]) (mvT hZ (hw _ (List.mem_of_getElem? (i := 84) rfl)))) (mvT hZ (hw _ (List.mem_of_getElem? (i := 84) rfl))) (mvT hZ (hw _ (List.mem_of_getElem? (i := 83) rfl))) (by decide) (backOf (W := 0) (rm11_1 l Z a0 hw [] b65 A1 A2 I R k1 k2 (((((1 : Int32) + (1 : Int32)) + (1 : Int32)) + (1 : Int32)) + (1 : Int32)) ((1 : Int32) + (2 : Int32)) (((p0.toUInt32 >>> ((2 : Int32) &&& 31).toUInt32).toInt32) &&& (3 : Int32)) ((cl.setSlot ((((r78 &&& (4095 : Int32)) * ((1 : Int32) + (2 : Int32))) + f79)).toNatClampNeg (.int p3)).setSlot ((((r76 &&& (4095 : Int32)) * ((1 : Int32) + (2 : Int32))) + f77)).toNatClampNeg (.int p2)) r76 f77 p2 w0 w1 mr kw0 kw1 T82.heap n0 Z0 K0 OL (own_blk hrb76) (own_inx ((sz_set _ _ _).trans ((sz_set _ _ _).trans SI)) ix83 hrb76 hfb77) hat92 ⟨OB_b65, V_A1, V_A2, OV_A1, OV_A2, ne_b65_A1, ne_b65_A2, ne_A1_A2, g_b65, g_A1, g_A2⟩ AR_I) hZ (hw _ (List.mem_of_getElem? (i := 85) rfl)) (hw _ (List.mem_of_getElem? (i := 2) rfl)) (by decide) (by decide)) q92a q92c (g := (mkF m 154 #[.val (.int p0), .val (.int p1), .val (.int p2), .val (.int p3), .val (.int ((1 : Int32) + (2 : Int32))), .val (.int (((p0.toUInt32 >>> ((2 : Int32) &&& 31).toUInt32).toInt32) &&& (3 : Int32))), .val (.ref b65), .val (.ref b67), .val (.int r76), .val (.int f77), .val (.int r78), .val (.int f79), .val (.int p3)] [(.int f77), (.int r76), (.ref b65)])) rfl (by rw [hml]; rfl) (Steps.refl _) (argsL := [(.int r76), (.int f77)]) (rest := []) (lenOf pd1 rfl) rfl (by show 2 * 0 + _ ≤ _; exact Nat.le_of_eq rfl) (hb hby at_154) (fun _ _ => ⟨rfl, rfl, (by decide : 0 + 1 + 2 + 1 + 2 + 0 + 0 + 0 + 0 + 0 + 0 ≤ _), (by decide : 0 + 10 + 2 + 4 + 64 + 0 + 0 + 0 + 0 + 0 + 0 ≤ _)⟩)
      dsimp only [Pt.U, Pt.locs, Pt.cells, Pt.slots] at X92 l92 y92 z92 st92 hQ92
      subst l92 y92 z92
      obtain ⟨NQ92, OLq92, Zq92, KQ92, hP92⟩ := hQ92
      obtain rfl := hP92
      have OB_b65 := OB_b65.keep KQ92 nin0
      have V_A1 := V_A1.keep KQ92 nin0
      have V_A2 := V_A2.keep KQ92 nin0
      have V_b67 := V_b67.keep KQ92 nin0
      have AR_R := own_arrKeep AR_R KQ92 nin0
      have AR_I := own_arrKeep AR_I KQ92 nin0
      have EX_b67 := EX_b67.keep KQ92
      skip
      have OL := OLq92
      have Z0 := Zq92
      refine own_tr st92 ?_
      show own_Go p e below s _ _ _ (T92.setTop (mkF m 157 #[.val (.int p0), .val (.int p1), .val (.int p2), .val (.int p3), .val (.int ((1 : Int32) + (2 : Int32))), .val (.int (((p0.toUInt32 >>> ((2 : Int32) &&& 31).toUInt32).toInt32) &&& (3 : Int32))), .val (.ref b65), .val (.ref b67), .val (.int r76), .val (.int f77), .val (.int r78), .val (.int f79), .val (.int p3)] [(.int p2)]))
      refine own_via (fun _ k => XS.iloadN X92.here hx rfl (hb hby at_157) rfl k) ?_
      show own_Go p e below s _ _ _ (T92.setTop (mkF m 158 #[.val (.int p0), .val (.int p1), .val (.int p2), .val (.int p3), .val (.int ((1 : Int32) + (2 : Int32))), .val (.int (((p0.toUInt32 >>> ((2 : Int32) &&& 31).toUInt32).toInt32) &&& (3 : Int32))), .val (.ref b65), .val (.ref b67), .val (.int r76), .val (.int f77), .val (.int r78), .val (.int f79), .val (.int p3)] [(.int p2), (.int p2)]))
      refine own_via (fun _ k => XS.icmpNo X92.here hx rfl (hb hby at_158) rfl (teq (rfl : p2 = p2)).2 k) ?_
      show own_Go p e below s _ _ _ (T92.setTop (mkF m 161 #[.val (.int p0), .val (.int p1), .val (.int p2), .val (.int p3), .val (.int ((1 : Int32) + (2 : Int32))), .val (.int (((p0.toUInt32 >>> ((2 : Int32) &&& 31).toUInt32).toInt32) &&& (3 : Int32))), .val (.ref b65), .val (.ref b67), .val (.int r76), .val (.int f77), .val (.int r78), .val (.int f79), .val (.int p3)] []))
      refine own_via (fun _ k => XS.aload X92.here hx rfl (hb hby at_161) rfl rfl k) ?_
      show own_Go p e below s _ _ _ (T92.setTop (mkF m 163 #[.val (.int p0), .val (.int p1), .val (.int p2), .val (.int p3), .val (.int ((1 : Int32) + (2 : Int32))), .val (.int (((p0.toUInt32 >>> ((2 : Int32) &&& 31).toUInt32).toInt32) &&& (3 : Int32))), .val (.ref b65), .val (.ref b67), .val (.int r76), .val (.int f77), .val (.int r78), .val (.int f79), .val (.int p3)] [(.ref b65)]))
      refine own_via (fun _ k => XS.iload X92.here hx rfl (hb hby at_163) rfl k) ?_
      show own_Go p e below s _ _ _ (T92.setTop (mkF m 165 #[.val (.int p0), .val (.int p1), .val (.int p2), .val (.int p3), .val (.int ((1 : Int32) + (2 : Int32))), .val (.int (((p0.toUInt32 >>> ((2 : Int32) &&& 31).toUInt32).toInt32) &&& (3 : Int32))), .val (.ref b65), .val (.ref b67), .val (.int r76), .val (.int f77), .val (.int r78), .val (.int f79), .val (.int p3)] [(.int r78), (.ref b65)]))
      refine own_via (fun _ k => XS.iload X92.here hx rfl (hb hby at_165) rfl k) ?_
      show own_Go p e below s _ _ _ (T92.setTop (mkF m 167 #[.val (.int p0), .val (.int p1), .val (.int p2), .val (.int p3), .val (.int ((1 : Int32) + (2 : Int32))), .val (.int (((p0.toUInt32 >>> ((2 : Int32) &&& 31).toUInt32).toInt32) &&& (3 : Int32))), .val (.ref b65), .val (.ref b67), .val (.int r76), .val (.int f77), .val (.int r78), .val (.int f79), .val (.int p3)] [(.int f79), (.int r78), (.ref b65)]))
      have ne94 : ¬ ((((r78 &&& (4095 : Int32)) * ((1 : Int32) + (2 : Int32))) + f79) = (((r76 &&& (4095 : Int32)) * ((1 : Int32) + (2 : Int32))) + f77)) := own_ne3 ix81 ix83 hfb79 hfb77 (Or.inl (fun q => hc84 (Eq.symm q)))
      have hat93 : ((cl.setSlot ((((r78 &&& (4095 : Int32)) * ((1 : Int32) + (2 : Int32))) + f79)).toNatClampNeg (.int p3)).setSlot ((((r76 &&& (4095 : Int32)) * ((1 : Int32) + (2 : Int32))) + f77)).toNatClampNeg (.int p2)).slots[((((r78 &&& (4095 : Int32)) * ((1 : Int32) + (2 : Int32))) + f79)).toNatClampNeg]? = some (.int p3) := ((get_miss (fun q => (own_inx SI ix83 hrb76 hfb77) (Or.inl q)) (fun q => (own_inx SI ix81 hrb78 hfb79) (Or.inl q)) ne94).trans (get_hit (own_inx SI ix81 hrb78 hfb79) rfl))
      obtain ⟨cq93, kq93, q93a, q93b, q93c⟩ := isOf hZ rfl OB_b65.1
      obtain ⟨_, _, ⟨T93, L93, k93, n93⟩, -, X93, ⟨Lc93, hQ93, l93, y93, z93⟩, st93⟩ := X92.virtualBack hx (y := (⟨"com/example/whenever/whenever/internal/engine/Rows", "getInt", "(II)I"⟩ : MethodName)) (z := (⟨"com/example/whenever/whenever/internal/engine/Rows", "getInt", "(II)I"⟩ : MethodName)) hown (mvT hZ (hw _ (List.mem_of_getElem? (i := 81) rfl))) (mvT hZ (hw _ (List.mem_of_getElem? (i := 82) rfl))) (notFace_of_selects (args := #[]) (mvT hZ (hw _ (List.mem_of_getElem? (i := 84) rfl)))) (mvT hZ (hw _ (List.mem_of_getElem? (i := 84) rfl))) (mvT hZ (hw _ (List.mem_of_getElem? (i := 83) rfl))) (by decide) (backOf (W := 0) (rm11_1 l Z a0 hw [] b65 A1 A2 I R k1 k2 (((((1 : Int32) + (1 : Int32)) + (1 : Int32)) + (1 : Int32)) + (1 : Int32)) ((1 : Int32) + (2 : Int32)) (((p0.toUInt32 >>> ((2 : Int32) &&& 31).toUInt32).toInt32) &&& (3 : Int32)) ((cl.setSlot ((((r78 &&& (4095 : Int32)) * ((1 : Int32) + (2 : Int32))) + f79)).toNatClampNeg (.int p3)).setSlot ((((r76 &&& (4095 : Int32)) * ((1 : Int32) + (2 : Int32))) + f77)).toNatClampNeg (.int p2)) r78 f79 p3 w0 w1 mr kw0 kw1 T92.heap n0 Z0 K0 OL (own_blk hrb78) (own_inx ((sz_set _ _ _).trans ((sz_set _ _ _).trans SI)) ix81 hrb78 hfb79) hat93 ⟨OB_b65, V_A1, V_A2, OV_A1, OV_A2, ne_b65_A1, ne_b65_A2, ne_A1_A2, g_b65, g_A1, g_A2⟩ AR_I) hZ (hw _ (List.mem_of_getElem? (i := 85) rfl)) (hw _ (List.mem_of_getElem? (i := 2) rfl)) (by decide) (by decide)) q93a q93c (g := (mkF m 167 #[.val (.int p0), .val (.int p1), .val (.int p2), .val (.int p3), .val (.int ((1 : Int32) + (2 : Int32))), .val (.int (((p0.toUInt32 >>> ((2 : Int32) &&& 31).toUInt32).toInt32) &&& (3 : Int32))), .val (.ref b65), .val (.ref b67), .val (.int r76), .val (.int f77), .val (.int r78), .val (.int f79), .val (.int p3)] [(.int f79), (.int r78), (.ref b65)])) rfl (by rw [hml]; rfl) (Steps.refl _) (argsL := [(.int r78), (.int f79)]) (rest := []) (lenOf pd1 rfl) rfl (by show 2 * 0 + _ ≤ _; exact Nat.le_of_eq rfl) (hb hby at_167) (fun _ _ => ⟨rfl, rfl, (by decide : 0 + 1 + 2 + 1 + 2 + 0 + 0 + 0 + 0 + 0 + 0 + 0 ≤ _), (by decide : 0 + 10 + 2 + 4 + 64 + 0 + 0 + 0 + 0 + 0 + 0 + 0 ≤ _)⟩)
      dsimp only [Pt.U, Pt.locs, Pt.cells, Pt.slots] at X93 l93 y93 z93 st93 hQ93
      subst l93 y93 z93
      obtain ⟨NQ93, OLq93, Zq93, KQ93, hP93⟩ := hQ93
      obtain rfl := hP93
      have OB_b65 := OB_b65.keep KQ93 nin0
      have V_A1 := V_A1.keep KQ93 nin0
      have V_A2 := V_A2.keep KQ93 nin0
      have V_b67 := V_b67.keep KQ93 nin0
      have AR_R := own_arrKeep AR_R KQ93 nin0
      have AR_I := own_arrKeep AR_I KQ93 nin0
      have EX_b67 := EX_b67.keep KQ93
      skip
      have OL := OLq93
      have Z0 := Zq93
      refine own_tr st93 ?_
      show own_Go p e below s _ _ _ (T93.setTop (mkF m 170 #[.val (.int p0), .val (.int p1), .val (.int p2), .val (.int p3), .val (.int ((1 : Int32) + (2 : Int32))), .val (.int (((p0.toUInt32 >>> ((2 : Int32) &&& 31).toUInt32).toInt32) &&& (3 : Int32))), .val (.ref b65), .val (.ref b67), .val (.int r76), .val (.int f77), .val (.int r78), .val (.int f79), .val (.int p3)] [(.int p3)]))
      refine own_via (fun _ k => XS.iload X93.here hx rfl (hb hby at_170) rfl k) ?_
      show own_Go p e below s _ _ _ (T93.setTop (mkF m 172 #[.val (.int p0), .val (.int p1), .val (.int p2), .val (.int p3), .val (.int ((1 : Int32) + (2 : Int32))), .val (.int (((p0.toUInt32 >>> ((2 : Int32) &&& 31).toUInt32).toInt32) &&& (3 : Int32))), .val (.ref b65), .val (.ref b67), .val (.int r76), .val (.int f77), .val (.int r78), .val (.int f79), .val (.int p3)] [(.int p3), (.int p3)]))
      refine own_via (fun _ k => XS.icmpNo X93.here hx rfl (hb hby at_172) rfl (teq (rfl : p3 = p3)).2 k) ?_
      show own_Go p e below s _ _ _ (T93.setTop (mkF m 175 #[.val (.int p0), .val (.int p1), .val (.int p2), .val (.int p3), .val (.int ((1 : Int32) + (2 : Int32))), .val (.int (((p0.toUInt32 >>> ((2 : Int32) &&& 31).toUInt32).toInt32) &&& (3 : Int32))), .val (.ref b65), .val (.ref b67), .val (.int r76), .val (.int f77), .val (.int r78), .val (.int f79), .val (.int p3)] []))
      refine own_via (fun _ k => XS.iconst X93.here hx rfl (hb hby at_175) k) ?_
      show own_Go p e below s _ _ _ (T93.setTop (mkF m 176 #[.val (.int p0), .val (.int p1), .val (.int p2), .val (.int p3), .val (.int ((1 : Int32) + (2 : Int32))), .val (.int (((p0.toUInt32 >>> ((2 : Int32) &&& 31).toUInt32).toInt32) &&& (3 : Int32))), .val (.ref b65), .val (.ref b67), .val (.int r76), .val (.int f77), .val (.int r78), .val (.int f79), .val (.int p3)] [(.int (1 : Int32))]))
      refine own_via (fun _ k => XS.goto X93.here hx rfl (pc0 := 176) (pc' := 180) rfl (hb hby at_176) (by decide) (by decide) k) ?_
      show own_Go p e below s _ _ _ (T93.setTop (mkF m 180 #[.val (.int p0), .val (.int p1), .val (.int p2), .val (.int p3), .val (.int ((1 : Int32) + (2 : Int32))), .val (.int (((p0.toUInt32 >>> ((2 : Int32) &&& 31).toUInt32).toInt32) &&& (3 : Int32))), .val (.ref b65), .val (.ref b67), .val (.int r76), .val (.int f77), .val (.int r78), .val (.int f79), .val (.int p3)] [(.int (1 : Int32))]))
      exact own_retZ X93 hx hlk (t := .boolean) Bd.returns (by simp) (hb hby at_180) (z' := (1 : Int32)) (by first | rfl | decide) ⟨rfl, (Fr.app (Fr.app (Fr.app (Fr.app N75 NQ80) NQ82) NQ92) NQ93)⟩ (by decide) (by decide)
  · rw [hk4]
    show own_Go p e below s _ _ _ (s₁.setTop (mkF m 4 #[.val (.int p0), .val (.int p1), .val (.int p2), .val (.int p3), .unset, .unset, .unset, .unset, .unset, .unset, .unset, .unset, .unset] [(.int (3 : Int32)), (.int (1 : Int32))]))
    refine own_via (fun _ k => XS.iadd X0.here hx rfl (hb hby at_4) rfl k) ?_
    show own_Go p e below s _ _ _ (s₁.setTop (mkF m 5 #[.val (.int p0), .val (.int p1), .val (.int p2), .val (.int p3), .unset, .unset, .unset, .unset, .unset, .unset, .unset, .unset, .unset] [(.int ((1 : Int32) + (3 : Int32)))]))
    refine own_via (fun _ k => XS.istore X0.here hx rfl (hb hby at_5) rfl (l' := #[.val (.int p0), .val (.int p1), .val (.int p2), .val (.int p3), .val (.int ((1 : Int32) + (3 : Int32))), .unset, .unset, .unset, .unset, .unset, .unset, .unset, .unset]) rfl k) ?_
    show own_Go p e below s _ _ _ (s₁.setTop (mkF m 7 #[.val (.int p0), .val (.int p1), .val (.int p2), .val (.int p3), .val (.int ((1 : Int32) + (3 : Int32))), .unset, .unset, .unset, .unset, .unset, .unset, .unset, .unset] []))
    refine own_via (fun _ k => XS.iloadN X0.here hx rfl (hb hby at_7) rfl k) ?_
    show own_Go p e below s _ _ _ (s₁.setTop (mkF m 8 #[.val (.int p0), .val (.int p1), .val (.int p2), .val (.int p3), .val (.int ((1 : Int32) + (3 : Int32))), .unset, .unset, .unset, .unset, .unset, .unset, .unset, .unset] [(.int p0)]))
    refine own_via (fun _ k => XS.iconst X0.here hx rfl (hb hby at_8) k) ?_
    show own_Go p e below s _ _ _ (s₁.setTop (mkF m 9 #[.val (.int p0), .val (.int p1), .val (.int p2), .val (.int p3), .val (.int ((1 : Int32) + (3 : Int32))), .unset, .unset, .unset, .unset, .unset, .unset, .unset, .unset] [(.int (2 : Int32)), (.int p0)]))
    refine own_via (fun _ k => XS.iushr X0.here hx rfl (hb hby at_9) rfl k) ?_
    show own_Go p e below s _ _ _ (s₁.setTop (mkF m 10 #[.val (.int p0), .val (.int p1), .val (.int p2), .val (.int p3), .val (.int ((1 : Int32) + (3 : Int32))), .unset, .unset, .unset, .unset, .unset, .unset, .unset, .unset] [(.int ((p0.toUInt32 >>> ((2 : Int32) &&& 31).toUInt32).toInt32))]))
    refine own_via (fun _ k => XS.iconst X0.here hx rfl (hb hby at_10) k) ?_
    show own_Go p e below s _ _ _ (s₁.setTop (mkF m 11 #[.val (.int p0), .val (.int p1), .val (.int p2), .val (.int p3), .val (.int ((1 : Int32) + (3 : Int32))), .unset, .unset, .unset, .unset, .unset, .unset, .unset, .unset] [(.int (3 : Int32)), (.int ((p0.toUInt32 >>> ((2 : Int32) &&& 31).toUInt32).toInt32))]))
    refine own_via (fun _ k => XS.iand X0.here hx rfl (hb hby at_11) rfl k) ?_
    show own_Go p e below s _ _ _ (s₁.setTop (mkF m 12 #[.val (.int p0), .val (.int p1), .val (.int p2), .val (.int p3), .val (.int ((1 : Int32) + (3 : Int32))), .unset, .unset, .unset, .unset, .unset, .unset, .unset, .unset] [(.int (((p0.toUInt32 >>> ((2 : Int32) &&& 31).toUInt32).toInt32) &&& (3 : Int32)))]))
    refine own_via (fun _ k => XS.istore X0.here hx rfl (hb hby at_12) rfl (l' := #[.val (.int p0), .val (.int p1), .val (.int p2), .val (.int p3), .val (.int ((1 : Int32) + (3 : Int32))), .val (.int (((p0.toUInt32 >>> ((2 : Int32) &&& 31).toUInt32).toInt32) &&& (3 : Int32))), .unset, .unset, .unset, .unset, .unset, .unset, .unset]) rfl k) ?_
    show own_Go p e below s _ _ _ (s₁.setTop (mkF m 14 #[.val (.int p0), .val (.int p1), .val (.int p2), .val (.int p3), .val (.int ((1 : Int32) + (3 : Int32))), .val (.int (((p0.toUInt32 >>> ((2 : Int32) &&& 31).toUInt32).toInt32) &&& (3 : Int32))), .unset, .unset, .unset, .unset, .unset, .unset, .unset] []))
    obtain ⟨T95, h95, X95, e95, E95, A95, D95, -, st95⟩ := newO X0 hx hZ hown (hw _ (List.mem_of_getElem? (i := 0) rfl)) (hw _ (List.mem_of_getElem? (i := 1) rfl)) (hw _ (List.mem_of_getElem? (i := 2) rfl)) e0 (g := (mkF m 14 #[.val (.int p0), .val (.int p1), .val (.int p2), .val (.int p3), .val (.int ((1 : Int32) + (3 : Int32))), .val (.int (((p0.toUInt32 >>> ((2 : Int32) &&& 31).toUInt32).toInt32) &&& (3 : Int32))), .unset, .unset, .unset, .unset, .unset, .unset, .unset] [])) rfl (hb hby at_14) (by decide) (by decide)
    obtain ⟨b95, g95⟩ : ∃ z, z = h0.size := ⟨_, rfl⟩
    rw [← g95] at A95 D95 st95
    skip
    have g_b95 : n0 ≤ b95 := Nat.le_trans Z0 (Nat.le_of_eq g95.symm)
    have Z0 := Nat.le_trans Z0 E95.1
    have OL := OL.ext E95
    skip
    have OB_b95 : own_Obj0 Z h95 b95 .null .null (0 : Int32) .null (0 : Int32) (0 : Int32) (0 : Int32) .null (0 : Int32) := ⟨A95, D95 (Or.inl (hw _ (List.mem_of_getElem? (i := 15) rfl))) (ty := (.array (.array .int))) (by decide), D95 (Or.inl (hw _ (List.mem_of_getElem? (i := 22) rfl))) (ty := (.array (.array (.object "java/lang/Object")))) (by decide), D95 (Or.inl (hw _ (List.mem_of_getElem? (i := 24) rfl))) (ty := .int) (by decide), D95 (Or.inl (hw _ (List.mem_of_getElem? (i := 26) rfl))) (ty := (.array .int)) (by decide), D95 (Or.inr (hw _ (List.mem_of_getElem? (i := 28) rfl))) (ty := .int) (by decide), D95 (Or.inr (hw _ (List.mem_of_getElem? (i := 30) rfl))) (ty := .int) (by decide), D95 (Or.inl (hw _ (List.mem_of_getElem? (i := 38) rfl))) (ty := .int) (by decide), D95 (Or.inl (hw _ (List.mem_of_getElem? (i := 40) rfl))) (ty := (.object "com/example/whenever/whenever/internal/engine/Rows$LaterBlocks")) (by decide), D95 (Or.inl (hw _ (List.mem_of_getElem? (i := 42) rfl))) (ty := .int) (by decide)⟩
    refine own_via st95 ?_
    show own_Go p e below s _ _ _ (T95.setTop (mkF m 17 #[.val (.int p0), .val (.int p1), .val (.int p2), .val (.int p3), .val (.int ((1 : Int32) + (3 : Int32))), .val (.int (((p0.toUInt32 >>> ((2 : Int32) &&& 31).toUInt32).toInt32) &&& (3 : Int32))), .unset, .unset, .unset, .unset, .unset, .unset, .unset] [(.ref b95)]))
    refine own_via (fun _ k => XS.dup X95.here hx rfl (hb hby at_17) rfl rfl k) ?_
    show own_Go p e below s _ _ _ (T95.setTop (mkF m 18 #[.val (.int p0), .val (.int p1), .val (.int p2), .val (.int p3), .val (.int ((1 : Int32) + (3 : Int32))), .val (.int (((p0.toUInt32 >>> ((2 : Int32) &&& 31).toUInt32).toInt32) &&& (3 : Int32))), .unset, .unset, .unset, .unset, .unset, .unset, .unset] [(.ref b95), (.ref b95)]))
    refine own_via (fun _ k => XS.iload X95.here hx rfl (hb hby at_18) rfl k) ?_
    show own_Go p e below s _ _ _ (T95.setTop (mkF m 20 #[.val (.int p0), .val (.int p1), .val (.int p2), .val (.int p3), .val (.int ((1 : Int32) + (3 : Int32))), .val (.int (((p0.toUInt32 >>> ((2 : Int32) &&& 31).toUInt32).toInt32) &&& (3 : Int32))), .unset, .unset, .unset, .unset, .unset, .unset, .unset] [(.int ((1 : Int32) + (3 : Int32))), (.ref b95), (.ref b95)]))
    refine own_via (fun _ k => XS.iload X95.here hx rfl (hb hby at_20) rfl k) ?_
    show own_Go p e below s _ _ _ (T95.setTop (mkF m 22 #[.val (.int p0), .val (.int p1), .val (.int p2), .val (.int p3), .val (.int ((1 : Int32) + (3 : Int32))), .val (.int (((p0.toUInt32 >>> ((2 : Int32) &&& 31).toUInt32).toInt32) &&& (3 : Int32))), .unset, .unset, .unset, .unset, .unset, .unset, .unset] [(.int (((p0.toUInt32 >>> ((2 : Int32) &&& 31).toUInt32).toInt32) &&& (3 : Int32))), (.int ((1 : Int32) + (3 : Int32))), (.ref b95), (.ref b95)]))
    obtain ⟨_, _, ⟨T96, L96, k96, n96⟩, -, X96, ⟨Lc96, hQ96, l96, y96, z96⟩, st96⟩ := X95.specialBack hx (y := (⟨"com/example/whenever/whenever/internal/engine/Rows", "<init>", "(II)V"⟩ : MethodName)) rfl hown (mvT hZ (hw _ (List.mem_of_getElem? (i := 3) rfl))) (mvT hZ (hw _ (List.mem_of_getElem? (i := 4) rfl))) (mvT hZ (hw _ (List.mem_of_getElem? (i := 5) rfl))) (by decide) (backOf (W := 1) (rm1_1 l Z a0 hw [] b95 ((1 : Int32) + (3 : Int32)) (((p0.toUInt32 >>> ((2 : Int32) &&& 31).toUInt32).toInt32) &&& (3 : Int32)) w0 w1 mr kw0 kw1 h95 n0 Z0 K0 OL (by decide) OB_b95 g_b95) hZ (hw _ (List.mem_of_getElem? (i := 5) rfl)) (hw _ (List.mem_of_getElem? (i := 2) rfl)) (by decide) (by decide)) (g := (mkF m 22 #[.val (.int p0), .val (.int p1), .val (.int p2), .val (.int p3), .val (.int ((1 : Int32) + (3 : Int32))), .val (.int (((p0.toUInt32 >>> ((2 : Int32) &&& 31).toUInt32).toInt32) &&& (3 : Int32))), .unset, .unset, .unset, .unset, .unset, .unset, .unset] [(.int (((p0.toUInt32 >>> ((2 : Int32) &&& 31).toUInt32).toInt32) &&& (3 : Int32))), (.int ((1 : Int32) + (3 : Int32))), (.ref b95), (.ref b95)])) rfl (by rw [hml]; rfl) (Steps.refl _) (a := b95) (argsL := [(.int ((1 : Int32) + (3 : Int32))), (.int (((p0.toUInt32 >>> ((2 : Int32) &&& 31).toUInt32).toInt32) &&& (3 : Int32)))]) (rest := [(.ref b95)]) (lenOf pd0 rfl) rfl (by show 2 * 0 + _ ≤ _; exact Nat.le_of_eq rfl) (hb hby at_22) (fun _ _ => ⟨rfl, e95, (by decide : 0 + 1 + 2 ≤ _), (by decide : 0 + 10 + 2 ≤ _)⟩)
    dsimp only [Pt.U, Pt.locs, Pt.cells, Pt.slots] at X96 l96 y96 z96 st96 hQ96
    subst l96 y96 z96
    obtain ⟨NQ96, OLq96, Zq96, KQ96, hP96⟩ := hQ96
    obtain ⟨rfl, A1, A2, k1, k2, OBq96, V_A1, V_A2, OV_A1, OV_A2, ne_b95_A1, ne_b95_A2, ne_A1_A2, -, g_A1, g_A2⟩ := hP96
    have OB_b95 := OBq96
    skip
    have OL := OLq96
    have Z0 := Zq96
    refine own_tr st96 ?_
    show own_Go p e below s _ _ _ (T96.setTop (mkF m 25 #[.val (.int p0), .val (.int p1), .val (.int p2), .val (.int p3), .val (.int ((1 : Int32) + (3 : Int32))), .val (.int (((p0.toUInt32 >>> ((2 : Int32) &&& 31).toUInt32).toInt32) &&& (3 : Int32))), .unset, .unset, .unset, .unset, .unset, .unset, .unset] [(.ref b95)]))
    refine own_via (fun _ k => XS.astore X96.here hx rfl (hb hby at_25) rfl rfl (l' := #[.val (.int p0), .val (.int p1), .val (.int p2), .val (.int p3), .val (.int ((1 : Int32) + (3 : Int32))), .val (.int (((p0.toUInt32 >>> ((2 : Int32) &&& 31).toUInt32).toInt32) &&& (3 : Int32))), .val (.ref b95), .unset, .unset, .unset, .unset, .unset, .unset]) rfl k) ?_
    show own_Go p e below s _ _ _ (T96.setTop (mkF m 27 #[.val (.int p0), .val (.int p1), .val (.int p2), .val (.int p3), .val (.int ((1 : Int32) + (3 : Int32))), .val (.int (((p0.toUInt32 >>> ((2 : Int32) &&& 31).toUInt32).toInt32) &&& (3 : Int32))), .val (.ref b95), .unset, .unset, .unset, .unset, .unset, .unset] []))
    refine own_via (fun _ k => XS.iconst X96.here hx rfl (hb hby at_27) k) ?_
    show own_Go p e below s _ _ _ (T96.setTop (mkF m 28 #[.val (.int p0), .val (.int p1), .val (.int p2), .val (.int p3), .val (.int ((1 : Int32) + (3 : Int32))), .val (.int (((p0.toUInt32 >>> ((2 : Int32) &&& 31).toUInt32).toInt32) &&& (3 : Int32))), .val (.ref b95), .unset, .unset, .unset, .unset, .unset, .unset] [(.int (4 : Int32))]))
    obtain ⟨T97, h97, k97, X97, e97, E97, A97, EX_b97, st97⟩ := newPE X96 hx hZ (hw _ (List.mem_of_getElem? (i := 31) rfl)) rfl (g := (mkF m 28 #[.val (.int p0), .val (.int p1), .val (.int p2), .val (.int p3), .val (.int ((1 : Int32) + (3 : Int32))), .val (.int (((p0.toUInt32 >>> ((2 : Int32) &&& 31).toUInt32).toInt32) &&& (3 : Int32))), .val (.ref b95), .unset, .unset, .unset, .unset, .unset, .unset] [(.int (4 : Int32))])) rfl (hb hby at_28) rfl (by decide) (cap := 4) (by decide) (by decide) (by decide) (by decide) (ad := "[I") (by decide)
    obtain ⟨b97, g97⟩ : ∃ z, z = T96.heap.size := ⟨_, rfl⟩
    rw [← g97] at A97 EX_b97 st97
    have ne_b95_b97 : b95 ≠ b97 := Nat.ne_of_lt (Nat.lt_of_lt_of_le OB_b95.1.lt (Nat.le_of_eq g97.symm))
    have ne_A1_b97 : A1 ≠ b97 := Nat.ne_of_lt (Nat.lt_of_lt_of_le V_A1.lt (Nat.le_of_eq g97.symm))
    have ne_A2_b97 : A2 ≠ b97 := Nat.ne_of_lt (Nat.lt_of_lt_of_le V_A2.lt (Nat.le_of_eq g97.symm))
    skip
    have g_b97 : n0 ≤ b97 := Nat.le_trans Z0 (Nat.le_of_eq g97.symm)
    have Z0 := Nat.le_trans Z0 E97.1
    have OL := OL.ext E97
    skip
    have OB_b95 := OB_b95.ext E97
    have V_A1 := V_A1.ext E97
    have V_A2 := V_A2.ext E97
    have V_b97 : Arv Z h97 b97 k97 .int (4 : Int32) [(.int (0 : Int32)), (.int (0 : Int32)), (.int (0 : Int32)), (.int (0 : Int32))] (.int 0) := (Arv.new A97 (by decide)).pad (pad_rep [] (.int 0) 4)
    refine own_via st97 ?_
    show own_Go p e below s _ _ _ (T97.setTop (mkF m 30 #[.val (.int p0), .val (.int p1), .val (.int p2), .val (.int p3), .val (.int ((1 : Int32) + (3 : Int32))), .val (.int (((p0.toUInt32 >>> ((2 : Int32) &&& 31).toUInt32).toInt32) &&& (3 : Int32))), .val (.ref b95), .unset, .unset, .unset, .unset, .unset, .unset] [(.ref b97)]))
    refine own_via (fun _ k => XS.astore X97.here hx rfl (hb hby at_30) rfl rfl (l' := #[.val (.int p0), .val (.int p1), .val (.int p2), .val (.int p3), .val (.int ((1 : Int32) + (3 : Int32))), .val (.int (((p0.toUInt32 >>> ((2 : Int32) &&& 31).toUInt32).toInt32) &&& (3 : Int32))), .val (.ref b95), .val (.ref b97), .unset, .unset, .unset, .unset, .unset]) rfl k) ?_
    show own_Go p e below s _ _ _ (T97.setTop (mkF m 32 #[.val (.int p0), .val (.int p1), .val (.int p2), .val (.int p3), .val (.int ((1 : Int32) + (3 : Int32))), .val (.int (((p0.toUInt32 >>> ((2 : Int32) &&& 31).toUInt32).toInt32) &&& (3 : Int32))), .val (.ref b95), .val (.ref b97), .unset, .unset, .unset, .unset, .unset] []))
    refine own_via (fun _ k => XS.aload X97.here hx rfl (hb hby at_32) rfl rfl k) ?_
    show own_Go p e below s _ _ _ (T97.setTop (mkF m 34 #[.val (.int p0), .val (.int p1), .val (.int p2), .val (.int p3), .val (.int ((1 : Int32) + (3 : Int32))), .val (.int (((p0.toUInt32 >>> ((2 : Int32) &&& 31).toUInt32).toInt32) &&& (3 : Int32))), .val (.ref b95), .val (.ref b97), .unset, .unset, .unset, .unset, .unset] [(.ref b97)]))
    refine own_via (fun _ k => XS.iconst X97.here hx rfl (hb hby at_34) k) ?_
    show own_Go p e below s _ _ _ (T97.setTop (mkF m 35 #[.val (.int p0), .val (.int p1), .val (.int p2), .val (.int p3), .val (.int ((1 : Int32) + (3 : Int32))), .val (.int (((p0.toUInt32 >>> ((2 : Int32) &&& 31).toUInt32).toInt32) &&& (3 : Int32))), .val (.ref b95), .val (.ref b97), .unset, .unset, .unset, .unset, .unset] [(.int (0 : Int32)), (.ref b97)]))
    refine own_via (fun _ k => XS.aload X97.here hx rfl (hb hby at_35) rfl rfl k) ?_
    show own_Go p e below s _ _ _ (T97.setTop (mkF m 37 #[.val (.int p0), .val (.int p1), .val (.int p2), .val (.int p3), .val (.int ((1 : Int32) + (3 : Int32))), .val (.int (((p0.toUInt32 >>> ((2 : Int32) &&& 31).toUInt32).toInt32) &&& (3 : Int32))), .val (.ref b95), .val (.ref b97), .unset, .unset, .unset, .unset, .unset] [(.ref b95), (.int (0 : Int32)), (.ref b97)]))
    obtain ⟨cq98, kq98, q98a, q98b, q98c⟩ := isOf hZ e97 OB_b95.1
    obtain ⟨_, _, ⟨T98, L98, k98, n98⟩, -, X98, ⟨Lc98, hQ98, l98, y98, z98⟩, st98⟩ := X97.virtualBack hx (y := (⟨"com/example/whenever/whenever/internal/engine/Rows", "add", "()I"⟩ : MethodName)) (z := (⟨"com/example/whenever/whenever/internal/engine/Rows", "add", "()I"⟩ : MethodName)) hown (mvT hZ (hw _ (List.mem_of_getElem? (i := 32) rfl))) (mvT hZ (hw _ (List.mem_of_getElem? (i := 33) rfl))) (notFace_of_selects (args := #[]) (mvT hZ (hw _ (List.mem_of_getElem? (i := 35) rfl)))) (mvT hZ (hw _ (List.mem_of_getElem? (i := 35) rfl))) (mvT hZ (hw _ (List.mem_of_getElem? (i := 34) rfl))) (by decide) (backOf (W := 2) (rm3_1 l Z a0 hw [] b95 A1 A2 k1 k2 ((1 : Int32) + (3 : Int32)) (((p0.toUInt32 >>> ((2 : Int32) &&& 31).toUInt32).toInt32) &&& (3 : Int32)) w0 w1 mr kw0 kw1 h97 n0 Z0 K0 OL (by decide) (by decide) (own_r4 _).1 (own_r4 _).2 ⟨OB_b95, V_A1, V_A2, OV_A1, OV_A2, ne_b95_A1, ne_b95_A2, ne_A1_A2, g_b95, g_A1, g_A2⟩) hZ (hw _ (List.mem_of_getElem? (i := 36) rfl)) (hw _ (List.mem_of_getElem? (i := 2) rfl)) (by decide) (by decide)) q98a q98c (g := (mkF m 37 #[.val (.int p0), .val (.int p1), .val (.int p2), .val (.int p3), .val (.int ((1 : Int32) + (3 : Int32))), .val (.int (((p0.toUInt32 >>> ((2 : Int32) &&& 31).toUInt32).toInt32) &&& (3 : Int32))), .val (.ref b95), .val (.ref b97), .unset, .unset, .unset, .unset, .unset] [(.ref b95), (.int (0 : Int32)), (.ref b97)])) rfl (by rw [hml]; rfl) (Steps.refl _) (argsL := []) (rest := [(.int (0 : Int32)), (.ref b97)]) (lenOf pd4 rfl) rfl (by show 2 * 0 + _ ≤ _; exact Nat.le_of_eq rfl) (hb hby at_37) (fun _ _ => ⟨rfl, e97, (by decide : 0 + 1 + 2 + 1 + 2 ≤ _), (by decide : 0 + 10 + 2 + 4 + 64 ≤ _)⟩)
    dsimp only [Pt.U, Pt.locs, Pt.cells, Pt.slots] at X98 l98 y98 z98 st98 hQ98
    subst l98 y98 z98
    obtain ⟨NQ98, OLq98, Zq98, KQ98, hP98⟩ := hQ98
    obtain ⟨rfl, I, R, kI, kR, ⟨OBq98, Vq98a, Vq98b, -, -, -, -, -, -, -, -⟩, V_I, AR_R, OVR_R, ne_b95_I, ne_A1_I, ne_A2_I, ne_b95_R, ne_A1_R, ne_A2_R, ne_I_R, szI98, szR98⟩ := hP98
    have ne_b97_I : b97 ≠ I := Nat.ne_of_lt (Nat.lt_of_lt_of_le V_b97.lt szI98)
    have g_I : n0 ≤ I := Nat.le_trans Z0 szI98
    have ne_b97_R : b97 ≠ R := Nat.ne_of_lt (Nat.lt_of_lt_of_le V_b97.lt szR98)
    have g_R : n0 ≤ R := Nat.le_trans Z0 szR98
    have V_b97 := V_b97.keep KQ98 (ninS (Ne.symm ne_b95_b97) (ninS (Ne.symm ne_A1_b97) (ninS (Ne.symm ne_A2_b97) nin0)))
    have EX_b97 := EX_b97.keep KQ98
    have OB_b95 := OBq98
    have V_A1 := Vq98a
    have V_A2 := Vq98b
    skip
    have OL := OLq98
    have Z0 := Zq98
    refine own_tr st98 ?_
    obtain ⟨cl, AR_I, -, SI, -, HI, -⟩ := V_I
    show own_Go p e below s _ _ _ (T98.setTop (mkF m 40 #[.val (.int p0), .val (.int p1), .val (.int p2), .val (.int p3), .val (.int ((1 : Int32) + (3 : Int32))), .val (.int (((p0.toUInt32 >>> ((2 : Int32) &&& 31).toUInt32).toInt32) &&& (3 : Int32))), .val (.ref b95), .val (.ref b97), .unset, .unset, .unset, .unset, .unset] [(.int (1 : Int32)), (.int (0 : Int32)), (.ref b97)]))
    have Vx99 := V_b97
    obtain ⟨cl99, Ar99, q99, S99, N99, H99, G99⟩ := Vx99
    have hin99 : ¬ ((0 : Int32) < 0 ∨ cl99.slots.size ≤ ((0 : Int32)).toNatClampNeg) := inb_of S99 ⟨by decide, by decide⟩
    obtain ⟨T99, h99, X99, e99, W99, st99⟩ := stI X98 hx hZ rfl Ar99 (j := (0 : Int32)) hin99 (g := (mkF m 40 #[.val (.int p0), .val (.int p1), .val (.int p2), .val (.int p3), .val (.int ((1 : Int32) + (3 : Int32))), .val (.int (((p0.toUInt32 >>> ((2 : Int32) &&& 31).toUInt32).toInt32) &&& (3 : Int32))), .val (.ref b95), .val (.ref b97), .unset, .unset, .unset, .unset, .unset] [(.int (1 : Int32)), (.int (0 : Int32)), (.ref b97)])) rfl rfl (hb hby at_40)
    have V_b97 : Arv Z h99 b97 k97 .int (4 : Int32) [(.int (1 : Int32)), (.int (0 : Int32)), (.int (0 : Int32)), (.int (0 : Int32))] (.int 0) := Arv.set Ar99 q99 S99 N99 H99 G99 rfl W99 0 rfl (Nat.le_of_ble_eq_true rfl)
    have N99 := Fr.snoc X99 (Fr.app (Fr.app (Fr.nil n0) NQ96) NQ98) g_b97
    have Z0 := Nat.le_trans Z0 (Keep.of_wr W99).1
    have OL := OL.wr W99 g_b97
    skip
    have OB_b95 := OB_b95.other W99 ne_b95_b97
    have V_A1 := V_A1.other W99 ne_A1_b97
    have V_A2 := V_A2.other W99 ne_A2_b97
    have AR_R := AR_R.other W99 (Ne.symm ne_b97_R)
    have AR_I := AR_I.other W99 (Ne.symm ne_b97_I)
    have EX_b97 := EX_b97.wr W99
    refine own_via st99 ?_
    show own_Go p e below s _ _ _ (T99.setTop (mkF m 41 #[.val (.int p0), .val (.int p1), .val (.int p2), .val (.int p3), .val (.int ((1 : Int32) + (3 : Int32))), .val (.int (((p0.toUInt32 >>> ((2 : Int32) &&& 31).toUInt32).toInt32) &&& (3 : Int32))), .val (.ref b95), .val (.ref b97), .unset, .unset, .unset, .unset, .unset] []))
    refine own_via (fun _ k => XS.aload X99.here hx rfl (hb hby at_41) rfl rfl k) ?_
    show own_Go p e below s _ _ _ (T99.setTop (mkF m 43 #[.val (.int p0), .val (.int p1), .val (.int p2), .val (.int p3), .val (.int ((1 : Int32) + (3 : Int32))), .val (.int (((p0.toUInt32 >>> ((2 : Int32) &&& 31).toUInt32).toInt32) &&& (3 : Int32))), .val (.ref b95), .val (.ref b97), .unset, .unset, .unset, .unset, .unset] [(.ref b97)]))
    refine own_via (fun _ k => XS.iconst X99.here hx rfl (hb hby at_43) k) ?_
    show own_Go p e below s _ _ _ (T99.setTop (mkF m 44 #[.val (.int p0), .val (.int p1), .val (.int p2), .val (.int p3), .val (.int ((1 : Int32) + (3 : Int32))), .val (.int (((p0.toUInt32 >>> ((2 : Int32) &&& 31).toUInt32).toInt32) &&& (3 : Int32))), .val (.ref b95), .val (.ref b97), .unset, .unset, .unset, .unset, .unset] [(.int (1 : Int32)), (.ref b97)]))
    refine own_via (fun _ k => XS.aload X99.here hx rfl (hb hby at_44) rfl rfl k) ?_
    show own_Go p e below s _ _ _ (T99.setTop (mkF m 46 #[.val (.int p0), .val (.int p1), .val (.int p2), .val (.int p3), .val (.int ((1 : Int32) + (3 : Int32))), .val (.int (((p0.toUInt32 >>> ((2 : Int32) &&& 31).toUInt32).toInt32) &&& (3 : Int32))), .val (.ref b95), .val (.ref b97), .unset, .unset, .unset, .unset, .unset] [(.ref b95), (.int (1 : Int32)), (.ref b97)]))
    obtain ⟨cq100, kq100, q100a, q100b, q100c⟩ := isOf hZ e99 OB_b95.1
    obtain ⟨_, _, ⟨T100, L100, k100, n100⟩, -, X100, ⟨Lc100, hQ100, l100, y100, z100⟩, st100⟩ := X99.virtualBack hx (y := (⟨"com/example/whenever/whenever/internal/engine/Rows", "add", "()I"⟩ : MethodName)) (z := (⟨"com/example/whenever/whenever/internal/engine/Rows", "add", "()I"⟩ : MethodName)) hown (mvT hZ (hw _ (List.mem_of_getElem? (i := 32) rfl))) (mvT hZ (hw _ (List.mem_of_getElem? (i := 33) rfl))) (notFace_of_selects (args := #[]) (mvT hZ (hw _ (List.mem_of_getElem? (i := 35) rfl)))) (mvT hZ (hw _ (List.mem_of_getElem? (i := 35) rfl))) (mvT hZ (hw _ (List.mem_of_getElem? (i := 34) rfl))) (by decide) (backOf (W := 2) (rm3_2 l Z a0 hw [] b95 A1 A2 I R k1 k2 ((1 : Int32) + (3 : Int32)) (((p0.toUInt32 >>> ((2 : Int32) &&& 31).toUInt32).toInt32) &&& (3 : Int32)) w0 w1 mr kw0 kw1 h99 n0 Z0 K0 OL ⟨OB_b95, V_A1, V_A2, OV_A1, OV_A2, ne_b95_A1, ne_b95_A2, ne_A1_A2, g_b95, g_A1, g_A2⟩) hZ (hw _ (List.mem_of_getElem? (i := 36) rfl)) (hw _ (List.mem_of_getElem? (i := 2) rfl)) (by decide) (by decide)) q100a q100c (g := (mkF m 46 #[.val (.int p0), .val (.int p1), .val (.int p2), .val (.int p3), .val (.int ((1 : Int32) + (3 : Int32))), .val (.int (((p0.toUInt32 >>> ((2 : Int32) &&& 31).toUInt32).toInt32) &&& (3 : Int32))), .val (.ref b95), .val (.ref b97), .unset, .unset, .unset, .unset, .unset] [(.ref b95), (.int (1 : Int32)), (.ref b97)])) rfl (by rw [hml]; rfl) (Steps.refl _) (argsL := []) (rest := [(.int (1 : Int32)), (.ref b97)]) (lenOf pd4 rfl) rfl (by show 2 * 0 + _ ≤ _; exact Nat.le_of_eq rfl) (hb hby at_46) (fun _ _ => ⟨rfl, e99, (by decide : 0 + 1 + 2 + 1 + 2 + 0 ≤ _), (by decide : 0 + 10 + 2 + 4 + 64 + 0 ≤ _)⟩)
    dsimp only [Pt.U, Pt.locs, Pt.cells, Pt.slots] at X100 l100 y100 z100 st100 hQ100
    subst l100 y100 z100
    obtain ⟨NQ100, OLq100, Zq100, KQ100, hP100⟩ := hQ100
    obtain ⟨rfl, ⟨OBq100, Vq100a, Vq100b, -, -, -, -, -, -, -, -⟩⟩ := hP100
    have V_A1 := V_A1.keep KQ100 (ninS (Ne.symm ne_b95_A1) nin0)
    have V_A2 := V_A2.keep KQ100 (ninS (Ne.symm ne_b95_A2) nin0)
    have V_b97 := V_b97.keep KQ100 (ninS (Ne.symm ne_b95_b97) nin0)
    have AR_R := own_arrKeep AR_R KQ100 (ninS (Ne.symm ne_b95_R) nin0)
    have AR_I := own_arrKeep AR_I KQ100 (ninS (Ne.symm ne_b95_I) nin0)
    have EX_b97 := EX_b97.keep KQ100
    have OB_b95 := OBq100
    skip
    have OL := OLq100
    have Z0 := Zq100
    refine own_tr st100 ?_
    show own_Go p e below s _ _ _ (T100.setTop (mkF m 49 #[.val (.int p0), .val (.int p1), .val (.int p2), .val (.int p3), .val (.int ((1 : Int32) + (3 : Int32))), .val (.int (((p0.toUInt32 >>> ((2 : Int32) &&& 31).toUInt32).toInt32) &&& (3 : Int32))), .val (.ref b95), .val (.ref b97), .unset, .unset, .unset, .unset, .unset] [(.int ((1 : Int32) + (1 : Int32))), (.int (1 : Int32)), (.ref b97)]))
    have Vx101 := V_b97
    obtain ⟨cl101, Ar101, q101, S101, N101, H101, G101⟩ := Vx101
    have hin101 : ¬ ((1 : Int32) < 0 ∨ cl101.slots.size ≤ ((1 : Int32)).toNatClampNeg) := inb_of S101 ⟨by decide, by decide⟩
    obtain ⟨T101, h101, X101, e101, W101, st101⟩ := stI X100 hx hZ rfl Ar101 (j := (1 : Int32)) hin101 (g := (mkF m 49 #[.val (.int p0), .val (.int p1), .val (.int p2), .val (.int p3), .val (.int ((1 : Int32) + (3 : Int32))), .val (.int (((p0.toUInt32 >>> ((2 : Int32) &&& 31).toUInt32).toInt32) &&& (3 : Int32))), .val (.ref b95), .val (.ref b97), .unset, .unset, .unset, .unset, .unset] [(.int ((1 : Int32) + (1 : Int32))), (.int (1 : Int32)), (.ref b97)])) rfl rfl (hb hby at_49)
    have V_b97 : Arv Z h101 b97 k97 .int (4 : Int32) [(.int (1 : Int32)), (.int ((1 : Int32) + (1 : Int32))), (.int (0 : Int32)), (.int (0 : Int32))] (.int 0) := Arv.set Ar101 q101 S101 N101 H101 G101 rfl W101 1 rfl (Nat.le_of_ble_eq_true rfl)
    have N101 := Fr.snoc X101 (Fr.app N99 NQ100) g_b97
    have Z0 := Nat.le_trans Z0 (Keep.of_wr W101).1
    have OL := OL.wr W101 g_b97
    skip
    have OB_b95 := OB_b95.other W101 ne_b95_b97
    have V_A1 := V_A1.other W101 ne_A1_b97
    have V_A2 := V_A2.other W101 ne_A2_b97
    have AR_R := AR_R.other W101 (Ne.symm ne_b97_R)
    have AR_I := AR_I.other W101 (Ne.symm ne_b97_I)
    have EX_b97 := EX_b97.wr W101
    refine own_via st101 ?_
    show own_Go p e below s _ _ _ (T101.setTop (mkF m 50 #[.val (.int p0), .val (.int p1), .val (.int p2), .val (.int p3), .val (.int ((1 : Int32) + (3 : Int32))), .val (.int (((p0.toUInt32 >>> ((2 : Int32) &&& 31).toUInt32).toInt32) &&& (3 : Int32))), .val (.ref b95), .val (.ref b97), .unset, .unset, .unset, .unset, .unset] []))
    refine own_via (fun _ k => XS.aload X101.here hx rfl (hb hby at_50) rfl rfl k) ?_
    show own_Go p e below s _ _ _ (T101.setTop (mkF m 52 #[.val (.int p0), .val (.int p1), .val (.int p2), .val (.int p3), .val (.int ((1 : Int32) + (3 : Int32))), .val (.int (((p0.toUInt32 >>> ((2 : Int32) &&& 31).toUInt32).toInt32) &&& (3 : Int32))), .val (.ref b95), .val (.ref b97), .unset, .unset, .unset, .unset, .unset] [(.ref b97)]))
    refine own_via (fun _ k => XS.iconst X101.here hx rfl (hb hby at_52) k) ?_
    show own_Go p e below s _ _ _ (T101.setTop (mkF m 53 #[.val (.int p0), .val (.int p1), .val (.int p2), .val (.int p3), .val (.int ((1 : Int32) + (3 : Int32))), .val (.int (((p0.toUInt32 >>> ((2 : Int32) &&& 31).toUInt32).toInt32) &&& (3 : Int32))), .val (.ref b95), .val (.ref b97), .unset, .unset, .unset, .unset, .unset] [(.int (2 : Int32)), (.ref b97)]))
    refine own_via (fun _ k => XS.aload X101.here hx rfl (hb hby at_53) rfl rfl k) ?_
    show own_Go p e below s _ _ _ (T101.setTop (mkF m 55 #[.val (.int p0), .val (.int p1), .val (.int p2), .val (.int p3), .val (.int ((1 : Int32) + (3 : Int32))), .val (.int (((p0.toUInt32 >>> ((2 : Int32) &&& 31).toUInt32).toInt32) &&& (3 : Int32))), .val (.ref b95), .val (.ref b97), .unset, .unset, .unset, .unset, .unset] [(.ref b95), (.int (2 : Int32)), (.ref b97)]))
    obtain ⟨cq102, kq102, q102a, q102b, q102c⟩ := isOf hZ e101 OB_b95.1
    obtain ⟨_, _, ⟨T102, L102, k102, n102⟩, -, X102, ⟨Lc102, hQ102, l102, y102, z102⟩, st102⟩ := X101.virtualBack hx (y := (⟨"com/example/whenever/whenever/internal/engine/Rows", "add", "()I"⟩ : MethodName)) (z := (⟨"com/example/whenever/whenever/internal/engine/Rows", "add", "()I"⟩ : MethodName)) hown (mvT hZ (hw _ (List.mem_of_getElem? (i := 32) rfl))) (mvT hZ (hw _ (List.mem_of_getElem? (i := 33) rfl))) (notFace_of_selects (args := #[]) (mvT hZ (hw _ (List.mem_of_getElem? (i := 35) rfl)))) (mvT hZ (hw _ (List.mem_of_getElem? (i := 35) rfl))) (mvT hZ (hw _ (List.mem_of_getElem? (i := 34) rfl))) (by decide) (backOf (W := 2) (rm3_3 l Z a0 hw [] b95 A1 A2 I R k1 k2 ((1 : Int32) + (3 : Int32)) (((p0.toUInt32 >>> ((2 : Int32) &&& 31).toUInt32).toInt32) &&& (3 : Int32)) w0 w1 mr kw0 kw1 h101 n0 Z0 K0 OL ⟨OB_b95, V_A1, V_A2, OV_A1, OV_A2, ne_b95_A1, ne_b95_A2, ne_A1_A2, g_b95, g_A1, g_A2⟩) hZ (hw _ (List.mem_of_getElem? (i := 36) rfl)) (hw _ (List.mem_of_getElem? (i := 2) rfl)) (by decide) (by decide)) q102a q102c (g := (mkF m 55 #[.val (.int p0), .val (.int p1), .val (.int p2), .val (.int p3), .val (.int ((1 : Int32) + (3 : Int32))), .val (.int (((p0.toUInt32 >>> ((2 : Int32) &&& 31).toUInt32).toInt32) &&& (3 : Int32))), .val (.ref b95), .val (.ref b97), .unset, .unset, .unset, .unset, .unset] [(.ref b95), (.int (2 : Int32)), (.ref b97)])) rfl (by rw [hml]; rfl) (Steps.refl _) (argsL := []) (rest := [(.int (2 : Int32)), (.ref b97)]) (lenOf pd4 rfl) rfl (by show 2 * 0 + _ ≤ _; exact Nat.le_of_eq rfl) (hb hby at_55) (fun _ _ => ⟨rfl, e101, (by decide : 0 + 1 + 2 + 1 + 2 + 0 + 0 ≤ _), (by decide : 0 + 10 + 2 + 4 + 64 + 0 + 0 ≤ _)⟩)
    dsimp only [Pt.U, Pt.locs, Pt.cells, Pt.slots] at X102 l102 y102 z102 st102 hQ102
    subst l102 y102 z102
    obtain ⟨NQ102, OLq102, Zq102, KQ102, hP102⟩ := hQ102
    obtain ⟨rfl, ⟨OBq102, Vq102a, Vq102b, -, -, -, -, -, -, -, -⟩⟩ := hP102
    have V_A1 := V_A1.keep KQ102 (ninS (Ne.symm ne_b95_A1) nin0)
    have V_A2 := V_A2.keep KQ102 (ninS (Ne.symm ne_b95_A2) nin0)
    have V_b97 := V_b97.keep KQ102 (ninS (Ne.symm ne_b95_b97) nin0)
    have AR_R := own_arrKeep AR_R KQ102 (ninS (Ne.symm ne_b95_R) nin0)
    have AR_I := own_arrKeep AR_I KQ102 (ninS (Ne.symm ne_b95_I) nin0)
    have EX_b97 := EX_b97.keep KQ102
    have OB_b95 := OBq102
    skip
    have OL := OLq102
    have Z0 := Zq102
    refine own_tr st102 ?_
    show own_Go p e below s _ _ _ (T102.setTop (mkF m 58 #[.val (.int p0), .val (.int p1), .val (.int p2), .val (.int p3), .val (.int ((1 : Int32) + (3 : Int32))), .val (.int (((p0.toUInt32 >>> ((2 : Int32) &&& 31).toUInt32).toInt32) &&& (3 : Int32))), .val (.ref b95), .val (.ref b97), .unset, .unset, .unset, .unset, .unset] [(.int (((1 : Int32) + (1 : Int32)) + (1 : Int32))), (.int (2 : Int32)), (.ref b97)]))
    have Vx103 := V_b97
    obtain ⟨cl103, Ar103, q103, S103, N103, H103, G103⟩ := Vx103
    have hin103 : ¬ ((2 : Int32) < 0 ∨ cl103.slots.size ≤ ((2 : Int32)).toNatClampNeg) := inb_of S103 ⟨by decide, by decide⟩
    obtain ⟨T103, h103, X103, e103, W103, st103⟩ := stI X102 hx hZ rfl Ar103 (j := (2 : Int32)) hin103 (g := (mkF m 58 #[.val (.int p0), .val (.int p1), .val (.int p2), .val (.int p3), .val (.int ((1 : Int32) + (3 : Int32))), .val (.int (((p0.toUInt32 >>> ((2 : Int32) &&& 31).toUInt32).toInt32) &&& (3 : Int32))), .val (.ref b95), .val (.ref b97), .unset, .unset, .unset, .unset, .unset] [(.int (((1 : Int32) + (1 : Int32)) + (1 : Int32))), (.int (2 : Int32)), (.ref b97)])) rfl rfl (hb hby at_58)
    have V_b97 : Arv Z h103 b97 k97 .int (4 : Int32) [(.int (1 : Int32)), (.int ((1 : Int32) + (1 : Int32))), (.int (((1 : Int32) + (1 : Int32)) + (1 : Int32))), (.int (0 : Int32))] (.int 0) := Arv.set Ar103 q103 S103 N103 H103 G103 rfl W103 2 rfl (Nat.le_of_ble_eq_true rfl)
    have N103 := Fr.snoc X103 (Fr.app N101 NQ102) g_b97
    have Z0 := Nat.le_trans Z0 (Keep.of_wr W103).1
    have OL := OL.wr W103 g_b97
    skip
    have OB_b95 := OB_b95.other W103 ne_b95_b97
    have V_A1 := V_A1.other W103 ne_A1_b97
    have V_A2 := V_A2.other W103 ne_A2_b97
    have AR_R := AR_R.other W103 (Ne.symm ne_b97_R)
    have AR_I := AR_I.other W103 (Ne.symm ne_b97_I)
    have EX_b97 := EX_b97.wr W103
    refine own_via st103 ?_
    show own_Go p e below s _ _ _ (T103.setTop (mkF m 59 #[.val (.int p0), .val (.int p1), .val (.int p2), .val (.int p3), .val (.int ((1 : Int32) + (3 : Int32))), .val (.int (((p0.toUInt32 >>> ((2 : Int32) &&& 31).toUInt32).toInt32) &&& (3 : Int32))), .val (.ref b95), .val (.ref b97), .unset, .unset, .unset, .unset, .unset] []))
    refine own_via (fun _ k => XS.aload X103.here hx rfl (hb hby at_59) rfl rfl k) ?_
    show own_Go p e below s _ _ _ (T103.setTop (mkF m 61 #[.val (.int p0), .val (.int p1), .val (.int p2), .val (.int p3), .val (.int ((1 : Int32) + (3 : Int32))), .val (.int (((p0.toUInt32 >>> ((2 : Int32) &&& 31).toUInt32).toInt32) &&& (3 : Int32))), .val (.ref b95), .val (.ref b97), .unset, .unset, .unset, .unset, .unset] [(.ref b97)]))
    refine own_via (fun _ k => XS.iconst X103.here hx rfl (hb hby at_61) k) ?_
    show own_Go p e below s _ _ _ (T103.setTop (mkF m 62 #[.val (.int p0), .val (.int p1), .val (.int p2), .val (.int p3), .val (.int ((1 : Int32) + (3 : Int32))), .val (.int (((p0.toUInt32 >>> ((2 : Int32) &&& 31).toUInt32).toInt32) &&& (3 : Int32))), .val (.ref b95), .val (.ref b97), .unset, .unset, .unset, .unset, .unset] [(.int (3 : Int32)), (.ref b97)]))
    refine own_via (fun _ k => XS.aload X103.here hx rfl (hb hby at_62) rfl rfl k) ?_
    show own_Go p e below s _ _ _ (T103.setTop (mkF m 64 #[.val (.int p0), .val (.int p1), .val (.int p2), .val (.int p3), .val (.int ((1 : Int32) + (3 : Int32))), .val (.int (((p0.toUInt32 >>> ((2 : Int32) &&& 31).toUInt32).toInt32) &&& (3 : Int32))), .val (.ref b95), .val (.ref b97), .unset, .unset, .unset, .unset, .unset] [(.ref b95), (.int (3 : Int32)), (.ref b97)]))
    obtain ⟨cq104, kq104, q104a, q104b, q104c⟩ := isOf hZ e103 OB_b95.1
    obtain ⟨_, _, ⟨T104, L104, k104, n104⟩, -, X104, ⟨Lc104, hQ104, l104, y104, z104⟩, st104⟩ := X103.virtualBack hx (y := (⟨"com/example/whenever/whenever/internal/engine/Rows", "add", "()I"⟩ : MethodName)) (z := (⟨"com/example/whenever/whenever/internal/engine/Rows", "add", "()I"⟩ : MethodName)) hown (mvT hZ (hw _ (List.mem_of_getElem? (i := 32) rfl))) (mvT hZ (hw _ (List.mem_of_getElem? (i := 33) rfl))) (notFace_of_selects (args := #[]) (mvT hZ (hw _ (List.mem_of_getElem? (i := 35) rfl)))) (mvT hZ (hw _ (List.mem_of_getElem? (i := 35) rfl))) (mvT hZ (hw _ (List.mem_of_getElem? (i := 34) rfl))) (by decide) (backOf (W := 2) (rm3_4 l Z a0 hw [] b95 A1 A2 I R k1 k2 ((1 : Int32) + (3 : Int32)) (((p0.toUInt32 >>> ((2 : Int32) &&& 31).toUInt32).toInt32) &&& (3 : Int32)) w0 w1 mr kw0 kw1 h103 n0 Z0 K0 OL ⟨OB_b95, V_A1, V_A2, OV_A1, OV_A2, ne_b95_A1, ne_b95_A2, ne_A1_A2, g_b95, g_A1, g_A2⟩) hZ (hw _ (List.mem_of_getElem? (i := 36) rfl)) (hw _ (List.mem_of_getElem? (i := 2) rfl)) (by decide) (by decide)) q104a q104c (g := (mkF m 64 #[.val (.int p0), .val (.int p1), .val (.int p2), .val (.int p3), .val (.int ((1 : Int32) + (3 : Int32))), .val (.int (((p0.toUInt32 >>> ((2 : Int32) &&& 31).toUInt32).toInt32) &&& (3 : Int32))), .val (.ref b95), .val (.ref b97), .unset, .unset, .unset, .unset, .unset] [(.ref b95), (.int (3 : Int32)), (.ref b97)])) rfl (by rw [hml]; rfl) (Steps.refl _) (argsL := []) (rest := [(.int (3 : Int32)), (.ref b97)]) (lenOf pd4 rfl) rfl (by show 2 * 0 + _ ≤ _; exact Nat.le_of_eq rfl) (hb hby at_64) (fun _ _ => ⟨rfl, e103, (by decide : 0 + 1 + 2 + 1 + 2 + 0 + 0 + 0 ≤ _), (by decide : 0 + 10 + 2 + 4 + 64 + 0 + 0 + 0 ≤ _)⟩)
    dsimp only [Pt.U, Pt.locs, Pt.cells, Pt.slots] at X104 l104 y104 z104 st104 hQ104
    subst l104 y104 z104
    obtain ⟨NQ104, OLq104, Zq104, KQ104, hP104⟩ := hQ104
    obtain ⟨rfl, ⟨OBq104, Vq104a, Vq104b, -, -, -, -, -, -, -, -⟩⟩ := hP104
    have V_A1 := V_A1.keep KQ104 (ninS (Ne.symm ne_b95_A1) nin0)
    have V_A2 := V_A2.keep KQ104 (ninS (Ne.symm ne_b95_A2) nin0)
    have V_b97 := V_b97.keep KQ104 (ninS (Ne.symm ne_b95_b97) nin0)
    have AR_R := own_arrKeep AR_R KQ104 (ninS (Ne.symm ne_b95_R) nin0)
    have AR_I := own_arrKeep AR_I KQ104 (ninS (Ne.symm ne_b95_I) nin0)
    have EX_b97 := EX_b97.keep KQ104
    have OB_b95 := OBq104
    skip
    have OL := OLq104
    have Z0 := Zq104
    refine own_tr st104 ?_
    show own_Go p e below s _ _ _ (T104.setTop (mkF m 67 #[.val (.int p0), .val (.int p1), .val (.int p2), .val (.int p3), .val (.int ((1 : Int32) + (3 : Int32))), .val (.int (((p0.toUInt32 >>> ((2 : Int32) &&& 31).toUInt32).toInt32) &&& (3 : Int32))), .val (.ref b95), .val (.ref b97), .unset, .unset, .unset, .unset, .unset] [(.int ((((1 : Int32) + (1 : Int32)) + (1 : Int32)) + (1 : Int32))), (.int (3 : Int32)), (.ref b97)]))
    have Vx105 := V_b97
    obtain ⟨cl105, Ar105, q105, S105, N105, H105, G105⟩ := Vx105
    have hin105 : ¬ ((3 : Int32) < 0 ∨ cl105.slots.size ≤ ((3 : Int32)).toNatClampNeg) := inb_of S105 ⟨by decide, by decide⟩
    obtain ⟨T105, h105, X105, e105, W105, st105⟩ := stI X104 hx hZ rfl Ar105 (j := (3 : Int32)) hin105 (g := (mkF m 67 #[.val (.int p0), .val (.int p1), .val (.int p2), .val (.int p3), .val (.int ((1 : Int32) + (3 : Int32))), .val (.int (((p0.toUInt32 >>> ((2 : Int32) &&& 31).toUInt32).toInt32) &&& (3 : Int32))), .val (.ref b95), .val (.ref b97), .unset, .unset, .unset, .unset, .unset] [(.int ((((1 : Int32) + (1 : Int32)) + (1 : Int32)) + (1 : Int32))), (.int (3 : Int32)), (.ref b97)])) rfl rfl (hb hby at_67)
    have V_b97 : Arv Z h105 b97 k97 .int (4 : Int32) [(.int (1 : Int32)), (.int ((1 : Int32) + (1 : Int32))), (.int (((1 : Int32) + (1 : Int32)) + (1 : Int32))), (.int ((((1 : Int32) + (1 : Int32)) + (1 : Int32)) + (1 : Int32)))] (.int 0) := Arv.set Ar105 q105 S105 N105 H105 G105 rfl W105 3 rfl (Nat.le_of_ble_eq_true rfl)
    have N105 := Fr.snoc X105 (Fr.app N103 NQ104) g_b97
    have Z0 := Nat.le_trans Z0 (Keep.of_wr W105).1
    have OL := OL.wr W105 g_b97
    skip
    have OB_b95 := OB_b95.other W105 ne_b95_b97
    have V_A1 := V_A1.other W105 ne_A1_b97
    have V_A2 := V_A2.other W105 ne_A2_b97
    have AR_R := AR_R.other W105 (Ne.symm ne_b97_R)
    have AR_I := AR_I.other W105 (Ne.symm ne_b97_I)
    have EX_b97 := EX_b97.wr W105
    refine own_via st105 ?_
    show own_Go p e below s _ _ _ (T105.setTop (mkF m 68 #[.val (.int p0), .val (.int p1), .val (.int p2), .val (.int p3), .val (.int ((1 : Int32) + (3 : Int32))), .val (.int (((p0.toUInt32 >>> ((2 : Int32) &&& 31).toUInt32).toInt32) &&& (3 : Int32))), .val (.ref b95), .val (.ref b97), .unset, .unset, .unset, .unset, .unset] []))
    refine own_via (fun _ k => XS.aload X105.here hx rfl (hb hby at_68) rfl rfl k) ?_
    show own_Go p e below s _ _ _ (T105.setTop (mkF m 70 #[.val (.int p0), .val (.int p1), .val (.int p2), .val (.int p3), .val (.int ((1 : Int32) + (3 : Int32))), .val (.int (((p0.toUInt32 >>> ((2 : Int32) &&& 31).toUInt32).toInt32) &&& (3 : Int32))), .val (.ref b95), .val (.ref b97), .unset, .unset, .unset, .unset, .unset] [(.ref b97)]))
    refine own_via (fun _ k => XS.iloadN X105.here hx rfl (hb hby at_70) rfl k) ?_
    show own_Go p e below s _ _ _ (T105.setTop (mkF m 71 #[.val (.int p0), .val (.int p1), .val (.int p2), .val (.int p3), .val (.int ((1 : Int32) + (3 : Int32))), .val (.int (((p0.toUInt32 >>> ((2 : Int32) &&& 31).toUInt32).toInt32) &&& (3 : Int32))), .val (.ref b95), .val (.ref b97), .unset, .unset, .unset, .unset, .unset] [(.int p1), (.ref b97)]))
    refine own_via (fun _ k => XS.iconst X105.here hx rfl (hb hby at_71) k) ?_
    show own_Go p e below s _ _ _ (T105.setTop (mkF m 72 #[.val (.int p0), .val (.int p1), .val (.int p2), .val (.int p3), .val (.int ((1 : Int32) + (3 : Int32))), .val (.int (((p0.toUInt32 >>> ((2 : Int32) &&& 31).toUInt32).toInt32) &&& (3 : Int32))), .val (.ref b95), .val (.ref b97), .unset, .unset, .unset, .unset, .unset] [(.int (3 : Int32)), (.int p1), (.ref b97)]))
    refine own_via (fun _ k => XS.iand X105.here hx rfl (hb hby at_72) rfl k) ?_
    show own_Go p e below s _ _ _ (T105.setTop (mkF m 73 #[.val (.int p0), .val (.int p1), .val (.int p2), .val (.int p3), .val (.int ((1 : Int32) + (3 : Int32))), .val (.int (((p0.toUInt32 >>> ((2 : Int32) &&& 31).toUInt32).toInt32) &&& (3 : Int32))), .val (.ref b95), .val (.ref b97), .unset, .unset, .unset, .unset, .unset] [(.int (p1 &&& (3 : Int32))), (.ref b97)]))
    have Vx106 := V_b97
    obtain ⟨cl106, Ar106, q106, S106, N106, H106, G106⟩ := Vx106
    have hin106 : ¬ ((p1 &&& (3 : Int32)) < 0 ∨ cl106.slots.size ≤ ((p1 &&& (3 : Int32))).toNatClampNeg) := own_inb S106 (own_a3 _).1 (own_a3 _).2
    obtain ⟨r106, hat106, hrb106⟩ := own_giv H106 S106 hin106 (by decide) (by decide) (by decide) (by decide)
    refine own_via (fun _ k => X105.iaload hx (j := (p1 &&& (3 : Int32))) (v := (.int r106)) (by rw [e105]; exact Ar106.1) (State.isArrayOf_alike hZ.alike Ar106.2.1) Ar106.2.2 hin106 hat106 (g := (mkF m 73 #[.val (.int p0), .val (.int p1), .val (.int p2), .val (.int p3), .val (.int ((1 : Int32) + (3 : Int32))), .val (.int (((p0.toUInt32 >>> ((2 : Int32) &&& 31).toUInt32).toInt32) &&& (3 : Int32))), .val (.ref b95), .val (.ref b97), .unset, .unset, .unset, .unset, .unset] [(.int (p1 &&& (3 : Int32))), (.ref b97)])) rfl rfl (hb hby at_73) _ k) ?_
    show own_Go p e below s _ _ _ (T105.setTop (mkF m 74 #[.val (.int p0), .val (.int p1), .val (.int p2), .val (.int p3), .val (.int ((1 : Int32) + (3 : Int32))), .val (.int (((p0.toUInt32 >>> ((2 : Int32) &&& 31).toUInt32).toInt32) &&& (3 : Int32))), .val (.ref b95), .val (.ref b97), .unset, .unset, .unset, .unset, .unset] [(.int r106)]))
    refine own_via (fun _ k => XS.istore X105.here hx rfl (hb hby at_74) rfl (l' := #[.val (.int p0), .val (.int p1), .val (.int p2), .val (.int p3), .val (.int ((1 : Int32) + (3 : Int32))), .val (.int (((p0.toUInt32 >>> ((2 : Int32) &&& 31).toUInt32).toInt32) &&& (3 : Int32))), .val (.ref b95), .val (.ref b97), .val (.int r106), .unset, .unset, .unset, .unset]) rfl k) ?_
    show own_Go p e below s _ _ _ (T105.setTop (mkF m 76 #[.val (.int p0), .val (.int p1), .val (.int p2), .val (.int p3), .val (.int ((1 : Int32) + (3 : Int32))), .val (.int (((p0.toUInt32 >>> ((2 : Int32) &&& 31).toUInt32).toInt32) &&& (3 : Int32))), .val (.ref b95), .val (.ref b97), .val (.int r106), .unset, .unset, .unset, .unset] []))
    refine own_via (fun _ k => XS.iloadN X105.here hx rfl (hb hby at_76) rfl k) ?_
    show own_Go p e below s _ _ _ (T105.setTop (mkF m 77 #[.val (.int p0), .val (.int p1), .val (.int p2), .val (.int p3), .val (.int ((1 : Int32) + (3 : Int32))), .val (.int (((p0.toUInt32 >>> ((2 : Int32) &&& 31).toUInt32).toInt32) &&& (3 : Int32))), .val (.ref b95), .val (.ref b97), .val (.int r106), .unset, .unset, .unset, .unset] [(.int p1)]))
    refine own_via (fun _ k => XS.iconst X105.here hx rfl (hb hby at_77) k) ?_
    show own_Go p e below s _ _ _ (T105.setTop (mkF m 78 #[.val (.int p0), .val (.int p1), .val (.int p2), .val (.int p3), .val (.int ((1 : Int32) + (3 : Int32))), .val (.int (((p0.toUInt32 >>> ((2 : Int32) &&& 31).toUInt32).toInt32) &&& (3 : Int32))), .val (.ref b95), .val (.ref b97), .val (.int r106), .unset, .unset, .unset, .unset] [(.int (2 : Int32)), (.int p1)]))
    refine own_via (fun _ k => XS.iushr X105.here hx rfl (hb hby at_78) rfl k) ?_
    show own_Go p e below s _ _ _ (T105.setTop (mkF m 79 #[.val (.int p0), .val (.int p1), .val (.int p2), .val (.int p3), .val (.int ((1 : Int32) + (3 : Int32))), .val (.int (((p0.toUInt32 >>> ((2 : Int32) &&& 31).toUInt32).toInt32) &&& (3 : Int32))), .val (.ref b95), .val (.ref b97), .val (.int r106), .unset, .unset, .unset, .unset] [(.int ((p1.toUInt32 >>> ((2 : Int32) &&& 31).toUInt32).toInt32))]))
    refine own_via (fun _ k => XS.iconst X105.here hx rfl (hb hby at_79) k) ?_
    show own_Go p e below s _ _ _ (T105.setTop (mkF m 80 #[.val (.int p0), .val (.int p1), .val (.int p2), .val (.int p3), .val (.int ((1 : Int32) + (3 : Int32))), .val (.int (((p0.toUInt32 >>> ((2 : Int32) &&& 31).toUInt32).toInt32) &&& (3 : Int32))), .val (.ref b95), .val (.ref b97), .val (.int r106), .unset, .unset, .unset, .unset] [(.int (3 : Int32)), (.int ((p1.toUInt32 >>> ((2 : Int32) &&& 31).toUInt32).toInt32))]))
    refine own_via (fun _ k => XS.iand X105.here hx rfl (hb hby at_80) rfl k) ?_
    show own_Go p e below s _ _ _ (T105.setTop (mkF m 81 #[.val (.int p0), .val (.int p1), .val (.int p2), .val (.int p3), .val (.int ((1 : Int32) + (3 : Int32))), .val (.int (((p0.toUInt32 >>> ((2 : Int32) &&& 31).toUInt32).toInt32) &&& (3 : Int32))), .val (.ref b95), .val (.ref b97), .val (.int r106), .unset, .unset, .unset, .unset] [(.int (((p1.toUInt32 >>> ((2 : Int32) &&& 31).toUInt32).toInt32) &&& (3 : Int32)))]))
    refine own_via (fun _ k => XS.iload X105.here hx rfl (hb hby at_81) rfl k) ?_
    show own_Go p e below s _ _ _ (T105.setTop (mkF m 83 #[.val (.int p0), .val (.int p1), .val (.int p2), .val (.int p3), .val (.int ((1 : Int32) + (3 : Int32))), .val (.int (((p0.toUInt32 >>> ((2 : Int32) &&& 31).toUInt32).toInt32) &&& (3 : Int32))), .val (.ref b95), .val (.ref b97), .val (.int r106), .unset, .unset, .unset, .unset] [(.int ((1 : Int32) + (3 : Int32))), (.int (((p1.toUInt32 >>> ((2 : Int32) &&& 31).toUInt32).toInt32) &&& (3 : Int32)))]))
    refine own_via (fun _ k => iremM X105 hx rfl (hb hby at_83) rfl (by decide : ¬ (((1 : Int32) + (3 : Int32)) = (0 : Int32))) k) ?_
    have hfb107 : 0 ≤ ((((p1.toUInt32 >>> ((2 : Int32) &&& 31).toUInt32).toInt32) &&& (3 : Int32)) % ((1 : Int32) + (3 : Int32))).toInt ∧ ((((p1.toUInt32 >>> ((2 : Int32) &&& 31).toUInt32).toInt32) &&& (3 : Int32)) % ((1 : Int32) + (3 : Int32))).toInt < 4 := own_fb rfl (by decide) (own_a3 _).1
    obtain ⟨f107, hf107⟩ : ∃ z : Int32, z = ((((p1.toUInt32 >>> ((2 : Int32) &&& 31).toUInt32).toInt32) &&& (3 : Int32)) % ((1 : Int32) + (3 : Int32))) := ⟨_, rfl⟩
    rw [← hf107] at hfb107
    rw [← hf107]
    show own_Go p e below s _ _ _ (T105.setTop (mkF m 84 #[.val (.int p0), .val (.int p1), .val (.int p2), .val (.int p3), .val (.int ((1 : Int32) + (3 : Int32))), .val (.int (((p0.toUInt32 >>> ((2 : Int32) &&& 31).toUInt32).toInt32) &&& (3 : Int32))), .val (.ref b95), .val (.ref b97), .val (.int r106), .unset, .unset, .unset, .unset] [(.int f107)]))
    refine own_via (fun _ k => XS.istore X105.here hx rfl (hb hby at_84) rfl (l' := #[.val (.int p0), .val (.int p1), .val (.int p2), .val (.int p3), .val (.int ((1 : Int32) + (3 : Int32))), .val (.int (((p0.toUInt32 >>> ((2 : Int32) &&& 31).toUInt32).toInt32) &&& (3 : Int32))), .val (.ref b95), .val (.ref b97), .val (.int r106), .val (.int f107), .unset, .unset, .unset]) rfl k) ?_
    show own_Go p e below s _ _ _ (T105.setTop (mkF m 86 #[.val (.int p0), .val (.int p1), .val (.int p2), .val (.int p3), .val (.int ((1 : Int32) + (3 : Int32))), .val (.int (((p0.toUInt32 >>> ((2 : Int32) &&& 31).toUInt32).toInt32) &&& (3 : Int32))), .val (.ref b95), .val (.ref b97), .val (.int r106), .val (.int f107), .unset, .unset, .unset] []))
    refine own_via (fun _ k => XS.aload X105.here hx rfl (hb hby at_86) rfl rfl k) ?_
    show own_Go p e below s _ _ _ (T105.setTop (mkF m 88 #[.val (.int p0), .val (.int p1), .val (.int p2), .val (.int p3), .val (.int ((1 : Int32) + (3 : Int32))), .val (.int (((p0.toUInt32 >>> ((2 : Int32) &&& 31).toUInt32).toInt32) &&& (3 : Int32))), .val (.ref b95), .val (.ref b97), .val (.int r106), .val (.int f107), .unset, .unset, .unset] [(.ref b97)]))
    refine own_via (fun _ k => XS.iloadN X105.here hx rfl (hb hby at_88) rfl k) ?_
    show own_Go p e below s _ _ _ (T105.setTop (mkF m 89 #[.val (.int p0), .val (.int p1), .val (.int p2), .val (.int p3), .val (.int ((1 : Int32) + (3 : Int32))), .val (.int (((p0.toUInt32 >>> ((2 : Int32) &&& 31).toUInt32).toInt32) &&& (3 : Int32))), .val (.ref b95), .val (.ref b97), .val (.int r106), .val (.int f107), .unset, .unset, .unset] [(.int p1), (.ref b97)]))
    refine own_via (fun _ k => XS.iconst X105.here hx rfl (hb hby at_89) k) ?_
    show own_Go p e below s _ _ _ (T105.setTop (mkF m 90 #[.val (.int p0), .val (.int p1), .val (.int p2), .val (.int p3), .val (.int ((1 : Int32) + (3 : Int32))), .val (.int (((p0.toUInt32 >>> ((2 : Int32) &&& 31).toUInt32).toInt32) &&& (3 : Int32))), .val (.ref b95), .val (.ref b97), .val (.int r106), .val (.int f107), .unset, .unset, .unset] [(.int (4 : Int32)), (.int p1), (.ref b97)]))
    refine own_via (fun _ k => XS.iushr X105.here hx rfl (hb hby at_90) rfl k) ?_
    show own_Go p e below s _ _ _ (T105.setTop (mkF m 91 #[.val (.int p0), .val (.int p1), .val (.int p2), .val (.int p3), .val (.int ((1 : Int32) + (3 : Int32))), .val (.int (((p0.toUInt32 >>> ((2 : Int32) &&& 31).toUInt32).toInt32) &&& (3 : Int32))), .val (.ref b95), .val (.ref b97), .val (.int r106), .val (.int f107), .unset, .unset, .unset] [(.int ((p1.toUInt32 >>> ((4 : Int32) &&& 31).toUInt32).toInt32)), (.ref b97)]))
    refine own_via (fun _ k => XS.iconst X105.here hx rfl (hb hby at_91) k) ?_
    show own_Go p e below s _ _ _ (T105.setTop (mkF m 92 #[.val (.int p0), .val (.int p1), .val (.int p2), .val (.int p3), .val (.int ((1 : Int32) + (3 : Int32))), .val (.int (((p0.toUInt32 >>> ((2 : Int32) &&& 31).toUInt32).toInt32) &&& (3 : Int32))), .val (.ref b95), .val (.ref b97), .val (.int r106), .val (.int f107), .unset, .unset, .unset] [(.int (3 : Int32)), (.int ((p1.toUInt32 >>> ((4 : Int32) &&& 31).toUInt32).toInt32)), (.ref b97)]))
    refine own_via (fun _ k => XS.iand X105.here hx rfl (hb hby at_92) rfl k) ?_
    show own_Go p e below s _ _ _ (T105.setTop (mkF m 93 #[.val (.int p0), .val (.int p1), .val (.int p2), .val (.int p3), .val (.int ((1 : Int32) + (3 : Int32))), .val (.int (((p0.toUInt32 >>> ((2 : Int32) &&& 31).toUInt32).toInt32) &&& (3 : Int32))), .val (.ref b95), .val (.ref b97), .val (.int r106), .val (.int f107), .unset, .unset, .unset] [(.int (((p1.toUInt32 >>> ((4 : Int32) &&& 31).toUInt32).toInt32) &&& (3 : Int32))), (.ref b97)]))
    have Vx108 := V_b97
    obtain ⟨cl108, Ar108, q108, S108, N108, H108, G108⟩ := Vx108
    have hin108 : ¬ ((((p1.toUInt32 >>> ((4 : Int32) &&& 31).toUInt32).toInt32) &&& (3 : Int32)) < 0 ∨ cl108.slots.size ≤ ((((p1.toUInt32 >>> ((4 : Int32) &&& 31).toUInt32).toInt32) &&& (3 : Int32))).toNatClampNeg) := own_inb S108 (own_a3 _).1 (own_a3 _).2
    obtain ⟨r108, hat108, hrb108⟩ := own_giv H108 S108 hin108 (by decide) (by decide) (by decide) (by decide)
    refine own_via (fun _ k => X105.iaload hx (j := (((p1.toUInt32 >>> ((4 : Int32) &&& 31).toUInt32).toInt32) &&& (3 : Int32))) (v := (.int r108)) (by rw [e105]; exact Ar108.1) (State.isArrayOf_alike hZ.alike Ar108.2.1) Ar108.2.2 hin108 hat108 (g := (mkF m 93 #[.val (.int p0), .val (.int p1), .val (.int p2), .val (.int p3), .val (.int ((1 : Int32) + (3 : Int32))), .val (.int (((p0.toUInt32 >>> ((2 : Int32) &&& 31).toUInt32).toInt32) &&& (3 : Int32))), .val (.ref b95), .val (.ref b97), .val (.int r106), .val (.int f107), .unset, .unset, .unset] [(.int (((p1.toUInt32 >>> ((4 : Int32) &&& 31).toUInt32).toInt32) &&& (3 : Int32))), (.ref b97)])) rfl rfl (hb hby at_93) _ k) ?_
    show own_Go p e below s _ _ _ (T105.setTop (mkF m 94 #[.val (.int p0), .val (.int p1), .val (.int p2), .val (.int p3), .val (.int ((1 : Int32) + (3 : Int32))), .val (.int (((p0.toUInt32 >>> ((2 : Int32) &&& 31).toUInt32).toInt32) &&& (3 : Int32))), .val (.ref b95), .val (.ref b97), .val (.int r106), .val (.int f107), .unset, .unset, .unset] [(.int r108)]))
    refine own_via (fun _ k => XS.istore X105.here hx rfl (hb hby at_94) rfl (l' := #[.val (.int p0), .val (.int p1), .val (.int p2), .val (.int p3), .val (.int ((1 : Int32) + (3 : Int32))), .val (.int (((p0.toUInt32 >>> ((2 : Int32) &&& 31).toUInt32).toInt32) &&& (3 : Int32))), .val (.ref b95), .val (.ref b97), .val (.int r106), .val (.int f107), .val (.int r108), .unset, .unset]) rfl k) ?_
    show own_Go p e below s _ _ _ (T105.setTop (mkF m 96 #[.val (.int p0), .val (.int p1), .val (.int p2), .val (.int p3), .val (.int ((1 : Int32) + (3 : Int32))), .val (.int (((p0.toUInt32 >>> ((2 : Int32) &&& 31).toUInt32).toInt32) &&& (3 : Int32))), .val (.ref b95), .val (.ref b97), .val (.int r106), .val (.int f107), .val (.int r108), .unset, .unset] []))
    refine own_via (fun _ k => XS.iloadN X105.here hx rfl (hb hby at_96) rfl k) ?_
    show own_Go p e below s _ _ _ (T105.setTop (mkF m 97 #[.val (.int p0), .val (.int p1), .val (.int p2), .val (.int p3), .val (.int ((1 : Int32) + (3 : Int32))), .val (.int (((p0.toUInt32 >>> ((2 : Int32) &&& 31).toUInt32).toInt32) &&& (3 : Int32))), .val (.ref b95), .val (.ref b97), .val (.int r106), .val (.int f107), .val (.int r108), .unset, .unset] [(.int p1)]))
    refine own_via (fun _ k => XS.bipush X105.here hx rfl (hb hby at_97) k) ?_
    show own_Go p e below s _ _ _ (T105.setTop (mkF m 99 #[.val (.int p0), .val (.int p1), .val (.int p2), .val (.int p3), .val (.int ((1 : Int32) + (3 : Int32))), .val (.int (((p0.toUInt32 >>> ((2 : Int32) &&& 31).toUInt32).toInt32) &&& (3 : Int32))), .val (.ref b95), .val (.ref b97), .val (.int r106), .val (.int f107), .val (.int r108), .unset, .unset] [(.int (6 : Int32)), (.int p1)]))
    refine own_via (fun _ k => XS.iushr X105.here hx rfl (hb hby at_99) rfl k) ?_
    show own_Go p e below s _ _ _ (T105.setTop (mkF m 100 #[.val (.int p0), .val (.int p1), .val (.int p2), .val (.int p3), .val (.int ((1 : Int32) + (3 : Int32))), .val (.int (((p0.toUInt32 >>> ((2 : Int32) &&& 31).toUInt32).toInt32) &&& (3 : Int32))), .val (.ref b95), .val (.ref b97), .val (.int r106), .val (.int f107), .val (.int r108), .unset, .unset] [(.int ((p1.toUInt32 >>> ((6 : Int32) &&& 31).toUInt32).toInt32))]))
    refine own_via (fun _ k => XS.iconst X105.here hx rfl (hb hby at_100) k) ?_
    show own_Go p e below s _ _ _ (T105.setTop (mkF m 101 #[.val (.int p0), .val (.int p1), .val (.int p2), .val (.int p3), .val (.int ((1 : Int32) + (3 : Int32))), .val (.int (((p0.toUInt32 >>> ((2 : Int32) &&& 31).toUInt32).toInt32) &&& (3 : Int32))), .val (.ref b95), .val (.ref b97), .val (.int r106), .val (.int f107), .val (.int r108), .unset, .unset] [(.int (3 : Int32)), (.int ((p1.toUInt32 >>> ((6 : Int32) &&& 31).toUInt32).toInt32))]))
    refine own_via (fun _ k => XS.iand X105.here hx rfl (hb hby at_101) rfl k) ?_
    show own_Go p e below s _ _ _ (T105.setTop (mkF m 102 #[.val (.int p0), .val (.int p1), .val (.int p2), .val (.int p3), .val (.int ((1 : Int32) + (3 : Int32))), .val (.int (((p0.toUInt32 >>> ((2 : Int32) &&& 31).toUInt32).toInt32) &&& (3 : Int32))), .val (.ref b95), .val (.ref b97), .val (.int r106), .val (.int f107), .val (.int r108), .unset, .unset] [(.int (((p1.toUInt32 >>> ((6 : Int32) &&& 31).toUInt32).toInt32) &&& (3 : Int32)))]))
    refine own_via (fun _ k => XS.iload X105.here hx rfl (hb hby at_102) rfl k) ?_
    show own_Go p e below s _ _ _ (T105.setTop (mkF m 104 #[.val (.int p0), .val (.int p1), .val (.int p2), .val (.int p3), .val (.int ((1 : Int32) + (3 : Int32))), .val (.int (((p0.toUInt32 >>> ((2 : Int32) &&& 31).toUInt32).toInt32) &&& (3 : Int32))), .val (.ref b95), .val (.ref b97), .val (.int r106), .val (.int f107), .val (.int r108), .unset, .unset] [(.int ((1 : Int32) + (3 : Int32))), (.int (((p1.toUInt32 >>> ((6 : Int32) &&& 31).toUInt32).toInt32) &&& (3 : Int32)))]))
    refine own_via (fun _ k => iremM X105 hx rfl (hb hby at_104) rfl (by decide : ¬ (((1 : Int32) + (3 : Int32)) = (0 : Int32))) k) ?_
    have hfb109 : 0 ≤ ((((p1.toUInt32 >>> ((6 : Int32) &&& 31).toUInt32).toInt32) &&& (3 : Int32)) % ((1 : Int32) + (3 : Int32))).toInt ∧ ((((p1.toUInt32 >>> ((6 : Int32) &&& 31).toUInt32).toInt32) &&& (3 : Int32)) % ((1 : Int32) + (3 : Int32))).toInt < 4 := own_fb rfl (by decide) (own_a3 _).1
    obtain ⟨f109, hf109⟩ : ∃ z : Int32, z = ((((p1.toUInt32 >>> ((6 : Int32) &&& 31).toUInt32).toInt32) &&& (3 : Int32)) % ((1 : Int32) + (3 : Int32))) := ⟨_, rfl⟩
    rw [← hf109] at hfb109
    rw [← hf109]
    show own_Go p e below s _ _ _ (T105.setTop (mkF m 105 #[.val (.int p0), .val (.int p1), .val (.int p2), .val (.int p3), .val (.int ((1 : Int32) + (3 : Int32))), .val (.int (((p0.toUInt32 >>> ((2 : Int32) &&& 31).toUInt32).toInt32) &&& (3 : Int32))), .val (.ref b95), .val (.ref b97), .val (.int r106), .val (.int f107), .val (.int r108), .unset, .unset] [(.int f109)]))
    refine own_via (fun _ k => XS.istore X105.here hx rfl (hb hby at_105) rfl (l' := #[.val (.int p0), .val (.int p1), .val (.int p2), .val (.int p3), .val (.int ((1 : Int32) + (3 : Int32))), .val (.int (((p0.toUInt32 >>> ((2 : Int32) &&& 31).toUInt32).toInt32) &&& (3 : Int32))), .val (.ref b95), .val (.ref b97), .val (.int r106), .val (.int f107), .val (.int r108), .val (.int f109), .unset]) rfl k) ?_
    show own_Go p e below s _ _ _ (T105.setTop (mkF m 107 #[.val (.int p0), .val (.int p1), .val (.int p2), .val (.int p3), .val (.int ((1 : Int32) + (3 : Int32))), .val (.int (((p0.toUInt32 >>> ((2 : Int32) &&& 31).toUInt32).toInt32) &&& (3 : Int32))), .val (.ref b95), .val (.ref b97), .val (.int r106), .val (.int f107), .val (.int r108), .val (.int f109), .unset] []))
    refine own_via (fun _ k => XS.aload X105.here hx rfl (hb hby at_107) rfl rfl k) ?_
    show own_Go p e below s _ _ _ (T105.setTop (mkF m 109 #[.val (.int p0), .val (.int p1), .val (.int p2), .val (.int p3), .val (.int ((1 : Int32) + (3 : Int32))), .val (.int (((p0.toUInt32 >>> ((2 : Int32) &&& 31).toUInt32).toInt32) &&& (3 : Int32))), .val (.ref b95), .val (.ref b97), .val (.int r106), .val (.int f107), .val (.int r108), .val (.int f109), .unset] [(.ref b95)]))
    refine own_via (fun _ k => XS.iload X105.here hx rfl (hb hby at_109) rfl k) ?_
    show own_Go p e below s _ _ _ (T105.setTop (mkF m 111 #[.val (.int p0), .val (.int p1), .val (.int p2), .val (.int p3), .val (.int ((1 : Int32) + (3 : Int32))), .val (.int (((p0.toUInt32 >>> ((2 : Int32) &&& 31).toUInt32).toInt32) &&& (3 : Int32))), .val (.ref b95), .val (.ref b97), .val (.int r106), .val (.int f107), .val (.int r108), .val (.int f109), .unset] [(.int r108), (.ref b95)]))
    refine own_via (fun _ k => XS.iload X105.here hx rfl (hb hby at_111) rfl k) ?_
    show own_Go p e below s _ _ _ (T105.setTop (mkF m 113 #[.val (.int p0), .val (.int p1), .val (.int p2), .val (.int p3), .val (.int ((1 : Int32) + (3 : Int32))), .val (.int (((p0.toUInt32 >>> ((2 : Int32) &&& 31).toUInt32).toInt32) &&& (3 : Int32))), .val (.ref b95), .val (.ref b97), .val (.int r106), .val (.int f107), .val (.int r108), .val (.int f109), .unset] [(.int f109), (.int r108), (.ref b95)]))
    refine own_via (fun _ k => XS.iloadN X105.here hx rfl (hb hby at_113) rfl k) ?_
    show own_Go p e below s _ _ _ (T105.setTop (mkF m 114 #[.val (.int p0), .val (.int p1), .val (.int p2), .val (.int p3), .val (.int ((1 : Int32) + (3 : Int32))), .val (.int (((p0.toUInt32 >>> ((2 : Int32) &&& 31).toUInt32).toInt32) &&& (3 : Int32))), .val (.ref b95), .val (.ref b97), .val (.int r106), .val (.int f107), .val (.int r108), .val (.int f109), .unset] [(.int p3), (.int f109), (.int r108), (.ref b95)]))
    have ix111 : (((r108 &&& (4095 : Int32)) * ((1 : Int32) + (3 : Int32))) + f109).toInt = r108.toInt * 4 + f109.toInt := own_ix4 hrb108 hfb109
    obtain ⟨cq110, kq110, q110a, q110b, q110c⟩ := isOf hZ e105 OB_b95.1
    obtain ⟨_, _, ⟨T110, L110, k110, n110⟩, -, X110, ⟨Lc110, hQ110, l110, y110, z110⟩, st110⟩ := X105.virtualBack hx (y := (⟨"com/example/whenever/whenever/internal/engine/Rows", "setInt", "(III)V"⟩ : MethodName)) (z := (⟨"com/example/whenever/whenever/internal/engine/Rows", "setInt", "(III)V"⟩ : MethodName)) hown (mvT hZ (hw _ (List.mem_of_getElem? (i := 76) rfl))) (mvT hZ (hw _ (List.mem_of_getElem? (i := 77) rfl))) (notFace_of_selects (args := #[]) (mvT hZ (hw _ (List.mem_of_getElem? (i := 79) rfl)))) (mvT hZ (hw _ (List.mem_of_getElem? (i := 79) rfl))) (mvT hZ (hw _ (List.mem_of_getElem? (i := 78) rfl))) (by decide) (backOf (W := 0) (rm10_1 l Z a0 hw [] b95 A1 A2 I R k1 k2 (((((1 : Int32) + (1 : Int32)) + (1 : Int32)) + (1 : Int32)) + (1 : Int32)) ((1 : Int32) + (3 : Int32)) (((p0.toUInt32 >>> ((2 : Int32) &&& 31).toUInt32).toInt32) &&& (3 : Int32)) cl r108 f109 p3 w0 w1 mr kw0 kw1 h105 n0 Z0 K0 OL (own_blk hrb108) (own_inx SI ix111 hrb108 hfb109) ⟨OB_b95, V_A1, V_A2, OV_A1, OV_A2, ne_b95_A1, ne_b95_A2, ne_A1_A2, g_b95, g_A1, g_A2⟩ AR_I ne_b95_I ne_A1_I ne_A2_I g_I) hZ (hw _ (List.mem_of_getElem? (i := 80) rfl)) (hw _ (List.mem_of_getElem? (i := 2) rfl)) (by decide) (by decide)) q110a q110c (g := (mkF m 114 #[.val (.int p0), .val (.int p1), .val (.int p2), .val (.int p3), .val (.int ((1 : Int32) + (3 : Int32))), .val (.int (((p0.toUInt32 >>> ((2 : Int32) &&& 31).toUInt32).toInt32) &&& (3 : Int32))), .val (.ref b95), .val (.ref b97), .val (.int r106), .val (.int f107), .val (.int r108), .val (.int f109), .unset] [(.int p3), (.int f109), (.int r108), (.ref b95)])) rfl (by rw [hml]; rfl) (Steps.refl _) (argsL := [(.int r108), (.int f109), (.int p3)]) (rest := []) (lenOf pd5 rfl) rfl (by show 2 * 0 + _ ≤ _; exact Nat.le_of_eq rfl) (hb hby at_114) (fun _ _ => ⟨rfl, e105, (by decide : 0 + 1 + 2 + 1 + 2 + 0 + 0 + 0 + 0 ≤ _), (by decide : 0 + 10 + 2 + 4 + 64 + 0 + 0 + 0 + 0 ≤ _)⟩)
    dsimp only [Pt.U, Pt.locs, Pt.cells, Pt.slots] at X110 l110 y110 z110 st110 hQ110
    subst l110 y110 z110
    obtain ⟨NQ110, OLq110, Zq110, KQ110, hP110⟩ := hQ110
    obtain ⟨rfl, -, ARq110⟩ := hP110
    have OB_b95 := OB_b95.keep KQ110 (ninS ne_b95_I nin0)
    have V_A1 := V_A1.keep KQ110 (ninS ne_A1_I nin0)
    have V_A2 := V_A2.keep KQ110 (ninS ne_A2_I nin0)
    have V_b97 := V_b97.keep KQ110 (ninS ne_b97_I nin0)
    have AR_R := own_arrKeep AR_R KQ110 (ninS (Ne.symm ne_I_R) nin0)
    have EX_b97 := EX_b97.keep KQ110
    have AR_I := ARq110
    skip
    have OL := OLq110
    have Z0 := Zq110
    refine own_tr st110 ?_
    show own_Go p e below s _ _ _ (T110.setTop (mkF m 117 #[.val (.int p0), .val (.int p1), .val (.int p2), .val (.int p3), .val (.int ((1 : Int32) + (3 : Int32))), .val (.int (((p0.toUInt32 >>> ((2 : Int32) &&& 31).toUInt32).toInt32) &&& (3 : Int32))), .val (.ref b95), .val (.ref b97), .val (.int r106), .val (.int f107), .val (.int r108), .val (.int f109), .unset] []))
    refine own_via (fun _ k => XS.aload X110.here hx rfl (hb hby at_117) rfl rfl k) ?_
    show own_Go p e below s _ _ _ (T110.setTop (mkF m 119 #[.val (.int p0), .val (.int p1), .val (.int p2), .val (.int p3), .val (.int ((1 : Int32) + (3 : Int32))), .val (.int (((p0.toUInt32 >>> ((2 : Int32) &&& 31).toUInt32).toInt32) &&& (3 : Int32))), .val (.ref b95), .val (.ref b97), .val (.int r106), .val (.int f107), .val (.int r108), .val (.int f109), .unset] [(.ref b95)]))
    refine own_via (fun _ k => XS.iload X110.here hx rfl (hb hby at_119) rfl k) ?_
    show own_Go p e below s _ _ _ (T110.setTop (mkF m 121 #[.val (.int p0), .val (.int p1), .val (.int p2), .val (.int p3), .val (.int ((1 : Int32) + (3 : Int32))), .val (.int (((p0.toUInt32 >>> ((2 : Int32) &&& 31).toUInt32).toInt32) &&& (3 : Int32))), .val (.ref b95), .val (.ref b97), .val (.int r106), .val (.int f107), .val (.int r108), .val (.int f109), .unset] [(.int r106), (.ref b95)]))
    refine own_via (fun _ k => XS.iload X110.here hx rfl (hb hby at_121) rfl k) ?_
    show own_Go p e below s _ _ _ (T110.setTop (mkF m 123 #[.val (.int p0), .val (.int p1), .val (.int p2), .val (.int p3), .val (.int ((1 : Int32) + (3 : Int32))), .val (.int (((p0.toUInt32 >>> ((2 : Int32) &&& 31).toUInt32).toInt32) &&& (3 : Int32))), .val (.ref b95), .val (.ref b97), .val (.int r106), .val (.int f107), .val (.int r108), .val (.int f109), .unset] [(.int f107), (.int r106), (.ref b95)]))
    refine own_via (fun _ k => XS.iloadN X110.here hx rfl (hb hby at_123) rfl k) ?_
    show own_Go p e below s _ _ _ (T110.setTop (mkF m 124 #[.val (.int p0), .val (.int p1), .val (.int p2), .val (.int p3), .val (.int ((1 : Int32) + (3 : Int32))), .val (.int (((p0.toUInt32 >>> ((2 : Int32) &&& 31).toUInt32).toInt32) &&& (3 : Int32))), .val (.ref b95), .val (.ref b97), .val (.int r106), .val (.int f107), .val (.int r108), .val (.int f109), .unset] [(.int p2), (.int f107), (.int r106), (.ref b95)]))
    have ix113 : (((r106 &&& (4095 : Int32)) * ((1 : Int32) + (3 : Int32))) + f107).toInt = r106.toInt * 4 + f107.toInt := own_ix4 hrb106 hfb107
    obtain ⟨cq112, kq112, q112a, q112b, q112c⟩ := isOf hZ rfl OB_b95.1
    obtain ⟨_, _, ⟨T112, L112, k112, n112⟩, -, X112, ⟨Lc112, hQ112, l112, y112, z112⟩, st112⟩ := X110.virtualBack hx (y := (⟨"com/example/whenever/whenever/internal/engine/Rows", "setInt", "(III)V"⟩ : MethodName)) (z := (⟨"com/example/whenever/whenever/internal/engine/Rows", "setInt", "(III)V"⟩ : MethodName)) hown (mvT hZ (hw _ (List.mem_of_getElem? (i := 76) rfl))) (mvT hZ (hw _ (List.mem_of_getElem? (i := 77) rfl))) (notFace_of_selects (args := #[]) (mvT hZ (hw _ (List.mem_of_getElem? (i := 79) rfl)))) (mvT hZ (hw _ (List.mem_of_getElem? (i := 79) rfl))) (mvT hZ (hw _ (List.mem_of_getElem? (i := 78) rfl))) (by decide) (backOf (W := 0) (rm10_1 l Z a0 hw [] b95 A1 A2 I R k1 k2 (((((1 : Int32) + (1 : Int32)) + (1 : Int32)) + (1 : Int32)) + (1 : Int32)) ((1 : Int32) + (3 : Int32)) (((p0.toUInt32 >>> ((2 : Int32) &&& 31).toUInt32).toInt32) &&& (3 : Int32)) (cl.setSlot ((((r108 &&& (4095 : Int32)) * ((1 : Int32) + (3 : Int32))) + f109)).toNatClampNeg (.int p3)) r106 f107 p2 w0 w1 mr kw0 kw1 T110.heap n0 Z0 K0 OL (own_blk hrb106) (own_inx ((sz_set _ _ _).trans SI) ix113 hrb106 hfb107) ⟨OB_b95, V_A1, V_A2, OV_A1, OV_A2, ne_b95_A1, ne_b95_A2, ne_A1_A2, g_b95, g_A1, g_A2⟩ AR_I ne_b95_I ne_A1_I ne_A2_I g_I) hZ (hw _ (List.mem_of_getElem? (i := 80) rfl)) (hw _ (List.mem_of_getElem? (i := 2) rfl)) (by decide) (by decide)) q112a q112c (g := (mkF m 124 #[.val (.int p0), .val (.int p1), .val (.int p2), .val (.int p3), .val (.int ((1 : Int32) + (3 : Int32))), .val (.int (((p0.toUInt32 >>> ((2 : Int32) &&& 31).toUInt32).toInt32) &&& (3 : Int32))), .val (.ref b95), .val (.ref b97), .val (.int r106), .val (.int f107), .val (.int r108), .val (.int f109), .unset] [(.int p2), (.int f107), (.int r106), (.ref b95)])) rfl (by rw [hml]; rfl) (Steps.refl _) (argsL := [(.int r106), (.int f107), (.int p2)]) (rest := []) (lenOf pd5 rfl) rfl (by show 2 * 0 + _ ≤ _; exact Nat.le_of_eq rfl) (hb hby at_124) (fun _ _ => ⟨rfl, rfl, (by decide : 0 + 1 + 2 + 1 + 2 + 0 + 0 + 0 + 0 + 0 ≤ _), (by decide : 0 + 10 + 2 + 4 + 64 + 0 + 0 + 0 + 0 + 0 ≤ _)⟩)
    dsimp only [Pt.U, Pt.locs, Pt.cells, Pt.slots] at X112 l112 y112 z112 st112 hQ112
    subst l112 y112 z112
    obtain ⟨NQ112, OLq112, Zq112, KQ112, hP112⟩ := hQ112
    obtain ⟨rfl, -, ARq112⟩ := hP112
    have OB_b95 := OB_b95.keep KQ112 (ninS ne_b95_I nin0)
    have V_A1 := V_A1.keep KQ112 (ninS ne_A1_I nin0)
    have V_A2 := V_A2.keep KQ112 (ninS ne_A2_I nin0)
    have V_b97 := V_b97.keep KQ112 (ninS ne_b97_I nin0)
    have AR_R := own_arrKeep AR_R KQ112 (ninS (Ne.symm ne_I_R) nin0)
    have EX_b97 := EX_b97.keep KQ112
    have AR_I := ARq112
    skip
    have OL := OLq112
    have Z0 := Zq112
    refine own_tr st112 ?_
    show own_Go p e below s _ _ _ (T112.setTop (mkF m 127 #[.val (.int p0), .val (.int p1), .val (.int p2), .val (.int p3), .val (.int ((1 : Int32) + (3 : Int32))), .val (.int (((p0.toUInt32 >>> ((2 : Int32) &&& 31).toUInt32).toInt32) &&& (3 : Int32))), .val (.ref b95), .val (.ref b97), .val (.int r106), .val (.int f107), .val (.int r108), .val (.int f109), .unset] []))
    refine own_via (fun _ k => XS.iload X112.here hx rfl (hb hby at_127) rfl k) ?_
    show own_Go p e below s _ _ _ (T112.setTop (mkF m 129 #[.val (.int p0), .val (.int p1), .val (.int p2), .val (.int p3), .val (.int ((1 : Int32) + (3 : Int32))), .val (.int (((p0.toUInt32 >>> ((2 : Int32) &&& 31).toUInt32).toInt32) &&& (3 : Int32))), .val (.ref b95), .val (.ref b97), .val (.int r106), .val (.int f107), .val (.int r108), .val (.int f109), .unset] [(.int r106)]))
    refine own_via (fun _ k => XS.iload X112.here hx rfl (hb hby at_129) rfl k) ?_
    show own_Go p e below s _ _ _ (T112.setTop (mkF m 131 #[.val (.int p0), .val (.int p1), .val (.int p2), .val (.int p3), .val (.int ((1 : Int32) + (3 : Int32))), .val (.int (((p0.toUInt32 >>> ((2 : Int32) &&& 31).toUInt32).toInt32) &&& (3 : Int32))), .val (.ref b95), .val (.ref b97), .val (.int r106), .val (.int f107), .val (.int r108), .val (.int f109), .unset] [(.int r108), (.int r106)]))
    by_cases hc114 : r106 = r108
    · refine own_via (fun _ k => XS.icmpNo X112.here hx rfl (hb hby at_131) rfl (teq hc114).2 k) ?_
      show own_Go p e below s _ _ _ (T112.setTop (mkF m 134 #[.val (.int p0), .val (.int p1), .val (.int p2), .val (.int p3), .val (.int ((1 : Int32) + (3 : Int32))), .val (.int (((p0.toUInt32 >>> ((2 : Int32) &&& 31).toUInt32).toInt32) &&& (3 : Int32))), .val (.ref b95), .val (.ref b97), .val (.int r106), .val (.int f107), .val (.int r108), .val (.int f109), .unset] []))
      refine own_via (fun _ k => XS.iload X112.here hx rfl (hb hby at_134) rfl k) ?_
      show own_Go p e below s _ _ _ (T112.setTop (mkF m 136 #[.val (.int p0), .val (.int p1), .val (.int p2), .val (.int p3), .val (.int ((1 : Int32) + (3 : Int32))), .val (.int (((p0.toUInt32 >>> ((2 : Int32) &&& 31).toUInt32).toInt32) &&& (3 : Int32))), .val (.ref b95), .val (.ref b97), .val (.int r106), .val (.int f107), .val (.int r108), .val (.int f109), .unset] [(.int f107)]))
      refine own_via (fun _ k => XS.iload X112.here hx rfl (hb hby at_136) rfl k) ?_
      show own_Go p e below s _ _ _ (T112.setTop (mkF m 138 #[.val (.int p0), .val (.int p1), .val (.int p2), .val (.int p3), .val (.int ((1 : Int32) + (3 : Int32))), .val (.int (((p0.toUInt32 >>> ((2 : Int32) &&& 31).toUInt32).toInt32) &&& (3 : Int32))), .val (.ref b95), .val (.ref b97), .val (.int r106), .val (.int f107), .val (.int r108), .val (.int f109), .unset] [(.int f109), (.int f107)]))
      by_cases hc115 : f107 = f109
      · refine own_via (fun _ k => XS.icmpNo X112.here hx rfl (hb hby at_138) rfl (teq hc115).2 k) ?_
        show own_Go p e below s _ _ _ (T112.setTop (mkF m 141 #[.val (.int p0), .val (.int p1), .val (.int p2), .val (.int p3), .val (.int ((1 : Int32) + (3 : Int32))), .val (.int (((p0.toUInt32 >>> ((2 : Int32) &&& 31).toUInt32).toInt32) &&& (3 : Int32))), .val (.ref b95), .val (.ref b97), .val (.int r106), .val (.int f107), .val (.int r108), .val (.int f109), .unset] []))
        refine own_via (fun _ k => XS.iloadN X112.here hx rfl (hb hby at_141) rfl k) ?_
        show own_Go p e below s _ _ _ (T112.setTop (mkF m 142 #[.val (.int p0), .val (.int p1), .val (.int p2), .val (.int p3), .val (.int ((1 : Int32) + (3 : Int32))), .val (.int (((p0.toUInt32 >>> ((2 : Int32) &&& 31).toUInt32).toInt32) &&& (3 : Int32))), .val (.ref b95), .val (.ref b97), .val (.int r106), .val (.int f107), .val (.int r108), .val (.int f109), .unset] [(.int p2)]))
        refine own_via (fun _ k => XS.goto X112.here hx rfl (pc0 := 142) (pc' := 146) rfl (hb hby at_142) (by decide) (by decide) k) ?_
        show own_Go p e below s _ _ _ (T112.setTop (mkF m 146 #[.val (.int p0), .val (.int p1), .val (.int p2), .val (.int p3), .val (.int ((1 : Int32) + (3 : Int32))), .val (.int (((p0.toUInt32 >>> ((2 : Int32) &&& 31).toUInt32).toInt32) &&& (3 : Int32))), .val (.ref b95), .val (.ref b97), .val (.int r106), .val (.int f107), .val (.int r108), .val (.int f109), .unset] [(.int p2)]))
        refine own_via (fun _ k => XS.istore X112.here hx rfl (hb hby at_146) rfl (l' := #[.val (.int p0), .val (.int p1), .val (.int p2), .val (.int p3), .val (.int ((1 : Int32) + (3 : Int32))), .val (.int (((p0.toUInt32 >>> ((2 : Int32) &&& 31).toUInt32).toInt32) &&& (3 : Int32))), .val (.ref b95), .val (.ref b97), .val (.int r106), .val (.int f107), .val (.int r108), .val (.int f109), .val (.int p2)]) rfl k) ?_
        show own_Go p e below s _ _ _ (T112.setTop (mkF m 148 #[.val (.int p0), .val (.int p1), .val (.int p2), .val (.int p3), .val (.int ((1 : Int32) + (3 : Int32))), .val (.int (((p0.toUInt32 >>> ((2 : Int32) &&& 31).toUInt32).toInt32) &&& (3 : Int32))), .val (.ref b95), .val (.ref b97), .val (.int r106), .val (.int f107), .val (.int r108), .val (.int f109), .val (.int p2)] []))
        refine own_via (fun _ k => XS.aload X112.here hx rfl (hb hby at_148) rfl rfl k) ?_
        show own_Go p e below s _ _ _ (T112.setTop (mkF m 150 #[.val (.int p0), .val (.int p1), .val (.int p2), .val (.int p3), .val (.int ((1 : Int32) + (3 : Int32))), .val (.int (((p0.toUInt32 >>> ((2 : Int32) &&& 31).toUInt32).toInt32) &&& (3 : Int32))), .val (.ref b95), .val (.ref b97), .val (.int r106), .val (.int f107), .val (.int r108), .val (.int f109), .val (.int p2)] [(.ref b95)]))
        refine own_via (fun _ k => XS.iload X112.here hx rfl (hb hby at_150) rfl k) ?_
        show own_Go p e below s _ _ _ (T112.setTop (mkF m 152 #[.val (.int p0), .val (.int p1), .val (.int p2), .val (.int p3), .val (.int ((1 : Int32) + (3 : Int32))), .val (.int (((p0.toUInt32 >>> ((2 : Int32) &&& 31).toUInt32).toInt32) &&& (3 : Int32))), .val (.ref b95), .val (.ref b97), .val (.int r106), .val (.int f107), .val (.int r108), .val (.int f109), .val (.int p2)] [(.int r106), (.ref b95)]))
        refine own_via (fun _ k => XS.iload X112.here hx rfl (hb hby at_152) rfl k) ?_
        show own_Go p e below s _ _ _ (T112.setTop (mkF m 154 #[.val (.int p0), .val (.int p1), .val (.int p2), .val (.int p3), .val (.int ((1 : Int32) + (3 : Int32))), .val (.int (((p0.toUInt32 >>> ((2 : Int32) &&& 31).toUInt32).toInt32) &&& (3 : Int32))), .val (.ref b95), .val (.ref b97), .val (.int r106), .val (.int f107), .val (.int r108), .val (.int f109), .val (.int p2)] [(.int f107), (.int r106), (.ref b95)]))
        have hat116 : ((cl.setSlot ((((r108 &&& (4095 : Int32)) * ((1 : Int32) + (3 : Int32))) + f109)).toNatClampNeg (.int p3)).setSlot ((((r106 &&& (4095 : Int32)) * ((1 : Int32) + (3 : Int32))) + f107)).toNatClampNeg (.int p2)).slots[((((r106 &&& (4095 : Int32)) * ((1 : Int32) + (3 : Int32))) + f107)).toNatClampNeg]? = some (.int p2) := (get_hit (own_inx ((sz_set _ _ _).trans SI) ix113 hrb106 hfb107) rfl)
        obtain ⟨cq116, kq116, q116a, q116b, q116c⟩ := isOf hZ rfl OB_b95.1
        obtain ⟨_, _, ⟨T116, L116, k116, n116⟩, -, X116, ⟨Lc116, hQ116, l116, y116, z116⟩, st116⟩ := X112.virtualBack hx (y := (⟨"com/example/whenever/whenever/internal/engine/Rows", "getInt", "(II)I"⟩ : MethodName)) (z := (⟨"com/example/whenever/whenever/internal/engine/Rows", "getInt", "(II)I"⟩ : MethodName)) hown (mvT hZ (hw _ (List.mem_of_getElem? (i := 81) rfl))) (mvT hZ (hw _ (List.mem_of_getElem? (i := 82) rfl))) (notFace_of_selects (args := #[]) (mvT hZ (hw _ (List.mem_of_getElem? (i := 84) rfl)))) (mvT hZ (hw _ (List.mem_of_getElem? (i := 84) rfl))) (mvT hZ (hw _ (List.mem_of_getElem? (i := 83) rfl))) (by decide) (backOf (W := 0) (rm11_1 l Z a0 hw [] b95 A1 A2 I R k1 k2 (((((1 : Int32) + (1 : Int32)) + (1 : Int32)) + (1 : Int32)) + (1 : Int32)) ((1 : Int32) + (3 : Int32)) (((p0.toUInt32 >>> ((2 : Int32) &&& 31).toUInt32).toInt32) &&& (3 : Int32)) ((cl.setSlot ((((r108 &&& (4095 : Int32)) * ((1 : Int32) + (3 : Int32))) + f109)).toNatClampNeg (.int p3)).setSlot ((((r106 &&& (4095 : Int32)) * ((1 : Int32) + (3 : Int32))) + f107)).toNatClampNeg (.int p2)) r106 f107 p2 w0 w1 mr kw0 kw1 T112.heap n0 Z0 K0 OL (own_blk hrb106) (own_inx ((sz_set _ _ _).trans ((sz_set _ _ _).trans SI)) ix113 hrb106 hfb107) hat116 ⟨OB_b95, V_A1, V_A2, OV_A1, OV_A2, ne_b95_A1, ne_b95_A2, ne_A1_A2, g_b95, g_A1, g_A2⟩ AR_I) hZ (hw _ (List.mem_of_getElem? (i := 85) rfl)) (hw _ (List.mem_of_getElem? (i := 2) rfl)) (by decide) (by decide)) q116a q116c (g := (mkF m 154 #[.val (.int p0), .val (.int p1), .val (.int p2), .val (.int p3), .val (.int ((1 : Int32) + (3 : Int32))), .val (.int (((p0.toUInt32 >>> ((2 : Int32) &&& 31).toUInt32).toInt32) &&& (3 : Int32))), .val (.ref b95), .val (.ref b97), .val (.int r106), .val (.int f107), .val (.int r108), .val (.int f109), .val (.int p2)] [(.int f107), (.int r106), (.ref b95)])) rfl (by rw [hml]; rfl) (Steps.refl _) (argsL := [(.int r106), (.int f107)]) (rest := []) (lenOf pd1 rfl) rfl (by show 2 * 0 + _ ≤ _; exact Nat.le_of_eq rfl) (hb hby at_154) (fun _ _ => ⟨rfl, rfl, (by decide : 0 + 1 + 2 + 1 + 2 + 0 + 0 + 0 + 0 + 0 + 0 ≤ _), (by decide : 0 + 10 + 2 + 4 + 64 + 0 + 0 + 0 + 0 + 0 + 0 ≤ _)⟩)
        dsimp only [Pt.U, Pt.locs, Pt.cells, Pt.slots] at X116 l116 y116 z116 st116 hQ116
        subst l116 y116 z116
        obtain ⟨NQ116, OLq116, Zq116, KQ116, hP116⟩ := hQ116
        obtain rfl := hP116
        have OB_b95 := OB_b95.keep KQ116 nin0
        have V_A1 := V_A1.keep KQ116 nin0
        have V_A2 := V_A2.keep KQ116 nin0
        have V_b97 := V_b97.keep KQ116 nin0
        have AR_R := own_arrKeep AR_R KQ116 nin0
        have AR_I := own_arrKeep AR_I KQ116 nin0
        have EX_b97 := EX_b97.keep KQ116
        skip
        have OL := OLq116
        have Z0 := Zq116
        refine own_tr st116 ?_
        show own_Go p e below s _ _ _ (T116.setTop (mkF m 157 #[.val (.int p0), .val (.int p1), .val (.int p2), .val (.int p3), .val (.int ((1 : Int32) + (3 : Int32))), .val (.int (((p0.toUInt32 >>> ((2 : Int32) &&& 31).toUInt32).toInt32) &&& (3 : Int32))), .val (.ref b95), .val (.ref b97), .val (.int r106), .val (.int f107), .val (.int r108), .val (.int f109), .val (.int p2)] [(.int p2)]))
        refine own_via (fun _ k => XS.iloadN X116.here hx rfl (hb hby at_157) rfl k) ?_
        show own_Go p e below s _ _ _ (T116.setTop (mkF m 158 #[.val (.int p0), .val (.int p1), .val (.int p2), .val (.int p3), .val (.int ((1 : Int32) + (3 : Int32))), .val (.int (((p0.toUInt32 >>> ((2 : Int32) &&& 31).toUInt32).toInt32) &&& (3 : Int32))), .val (.ref b95), .val (.ref b97), .val (.int r106), .val (.int f107), .val (.int r108), .val (.int f109), .val (.int p2)] [(.int p2), (.int p2)]))
        refine own_via (fun _ k => XS.icmpNo X116.here hx rfl (hb hby at_158) rfl (teq (rfl : p2 = p2)).2 k) ?_
        show own_Go p e below s _ _ _ (T116.setTop (mkF m 161 #[.val (.int p0), .val (.int p1), .val (.int p2), .val (.int p3), .val (.int ((1 : Int32) + (3 : Int32))), .val (.int (((p0.toUInt32 >>> ((2 : Int32) &&& 31).toUInt32).toInt32) &&& (3 : Int32))), .val (.ref b95), .val (.ref b97), .val (.int r106), .val (.int f107), .val (.int r108), .val (.int f109), .val (.int p2)] []))
        refine own_via (fun _ k => XS.aload X116.here hx rfl (hb hby at_161) rfl rfl k) ?_
        show own_Go p e below s _ _ _ (T116.setTop (mkF m 163 #[.val (.int p0), .val (.int p1), .val (.int p2), .val (.int p3), .val (.int ((1 : Int32) + (3 : Int32))), .val (.int (((p0.toUInt32 >>> ((2 : Int32) &&& 31).toUInt32).toInt32) &&& (3 : Int32))), .val (.ref b95), .val (.ref b97), .val (.int r106), .val (.int f107), .val (.int r108), .val (.int f109), .val (.int p2)] [(.ref b95)]))
        refine own_via (fun _ k => XS.iload X116.here hx rfl (hb hby at_163) rfl k) ?_
        show own_Go p e below s _ _ _ (T116.setTop (mkF m 165 #[.val (.int p0), .val (.int p1), .val (.int p2), .val (.int p3), .val (.int ((1 : Int32) + (3 : Int32))), .val (.int (((p0.toUInt32 >>> ((2 : Int32) &&& 31).toUInt32).toInt32) &&& (3 : Int32))), .val (.ref b95), .val (.ref b97), .val (.int r106), .val (.int f107), .val (.int r108), .val (.int f109), .val (.int p2)] [(.int r108), (.ref b95)]))
        refine own_via (fun _ k => XS.iload X116.here hx rfl (hb hby at_165) rfl k) ?_
        show own_Go p e below s _ _ _ (T116.setTop (mkF m 167 #[.val (.int p0), .val (.int p1), .val (.int p2), .val (.int p3), .val (.int ((1 : Int32) + (3 : Int32))), .val (.int (((p0.toUInt32 >>> ((2 : Int32) &&& 31).toUInt32).toInt32) &&& (3 : Int32))), .val (.ref b95), .val (.ref b97), .val (.int r106), .val (.int f107), .val (.int r108), .val (.int f109), .val (.int p2)] [(.int f109), (.int r108), (.ref b95)]))
        have eq118 : (((r108 &&& (4095 : Int32)) * ((1 : Int32) + (3 : Int32))) + f109) = (((r106 &&& (4095 : Int32)) * ((1 : Int32) + (3 : Int32))) + f107) := by rw [show r108 = r106 from (Eq.symm hc114), show f109 = f107 from (Eq.symm hc115)]
        have hat117 : ((cl.setSlot ((((r108 &&& (4095 : Int32)) * ((1 : Int32) + (3 : Int32))) + f109)).toNatClampNeg (.int p3)).setSlot ((((r106 &&& (4095 : Int32)) * ((1 : Int32) + (3 : Int32))) + f107)).toNatClampNeg (.int p2)).slots[((((r108 &&& (4095 : Int32)) * ((1 : Int32) + (3 : Int32))) + f109)).toNatClampNeg]? = some (.int p2) := (get_hit (own_inx ((sz_set _ _ _).trans SI) ix113 hrb106 hfb107) eq118)
        obtain ⟨cq117, kq117, q117a, q117b, q117c⟩ := isOf hZ rfl OB_b95.1
        obtain ⟨_, _, ⟨T117, L117, k117, n117⟩, -, X117, ⟨Lc117, hQ117, l117, y117, z117⟩, st117⟩ := X116.virtualBack hx (y := (⟨"com/example/whenever/whenever/internal/engine/Rows", "getInt", "(II)I"⟩ : MethodName)) (z := (⟨"com/example/whenever/whenever/internal/engine/Rows", "getInt", "(II)I"⟩ : MethodName)) hown (mvT hZ (hw _ (List.mem_of_getElem? (i := 81) rfl))) (mvT hZ (hw _ (List.mem_of_getElem? (i := 82) rfl))) (notFace_of_selects (args := #[]) (mvT hZ (hw _ (List.mem_of_getElem? (i := 84) rfl)))) (mvT hZ (hw _ (List.mem_of_getElem? (i := 84) rfl))) (mvT hZ (hw _ (List.mem_of_getElem? (i := 83) rfl))) (by decide) (backOf (W := 0) (rm11_1 l Z a0 hw [] b95 A1 A2 I R k1 k2 (((((1 : Int32) + (1 : Int32)) + (1 : Int32)) + (1 : Int32)) + (1 : Int32)) ((1 : Int32) + (3 : Int32)) (((p0.toUInt32 >>> ((2 : Int32) &&& 31).toUInt32).toInt32) &&& (3 : Int32)) ((cl.setSlot ((((r108 &&& (4095 : Int32)) * ((1 : Int32) + (3 : Int32))) + f109)).toNatClampNeg (.int p3)).setSlot ((((r106 &&& (4095 : Int32)) * ((1 : Int32) + (3 : Int32))) + f107)).toNatClampNeg (.int p2)) r108 f109 p2 w0 w1 mr kw0 kw1 T116.heap n0 Z0 K0 OL (own_blk hrb108) (own_inx ((sz_set _ _ _).trans ((sz_set _ _ _).trans SI)) ix111 hrb108 hfb109) hat117 ⟨OB_b95, V_A1, V_A2, OV_A1, OV_A2, ne_b95_A1, ne_b95_A2, ne_A1_A2, g_b95, g_A1, g_A2⟩ AR_I) hZ (hw _ (List.mem_of_getElem? (i := 85) rfl)) (hw _ (List.mem_of_getElem? (i := 2) rfl)) (by decide) (by decide)) q117a q117c (g := (mkF m 167 #[.val (.int p0), .val (.int p1), .val (.int p2), .val (.int p3), .val (.int ((1 : Int32) + (3 : Int32))), .val (.int (((p0.toUInt32 >>> ((2 : Int32) &&& 31).toUInt32).toInt32) &&& (3 : Int32))), .val (.ref b95), .val (.ref b97), .val (.int r106), .val (.int f107), .val (.int r108), .val (.int f109), .val (.int p2)] [(.int f109), (.int r108), (.ref b95)])) rfl (by rw [hml]; rfl) (Steps.refl _) (argsL := [(.int r108), (.int f109)]) (rest := []) (lenOf pd1 rfl) rfl (by show 2 * 0 + _ ≤ _; exact Nat.le_of_eq rfl) (hb hby at_167) (fun _ _ => ⟨rfl, rfl, (by decide : 0 + 1 + 2 + 1 + 2 + 0 + 0 + 0 + 0 + 0 + 0 + 0 ≤ _), (by decide : 0 + 10 + 2 + 4 + 64 + 0 + 0 + 0 + 0 + 0 + 0 + 0 ≤ _)⟩)
        dsimp only [Pt.U, Pt.locs, Pt.cells, Pt.slots] at X117 l117 y117 z117 st117 hQ117
        subst l117 y117 z117
        obtain ⟨NQ117, OLq117, Zq117, KQ117, hP117⟩ := hQ117
        obtain rfl := hP117
        have OB_b95 := OB_b95.keep KQ117 nin0
        have V_A1 := V_A1.keep KQ117 nin0
        have V_A2 := V_A2.keep KQ117 nin0
        have V_b97 := V_b97.keep KQ117 nin0
        have AR_R := own_arrKeep AR_R KQ117 nin0
        have AR_I := own_arrKeep AR_I KQ117 nin0
        have EX_b97 := EX_b97.keep KQ117
        skip
        have OL := OLq117
        have Z0 := Zq117
        refine own_tr st117 ?_
        show own_Go p e below s _ _ _ (T117.setTop (mkF m 170 #[.val (.int p0), .val (.int p1), .val (.int p2), .val (.int p3), .val (.int ((1 : Int32) + (3 : Int32))), .val (.int (((p0.toUInt32 >>> ((2 : Int32) &&& 31).toUInt32).toInt32) &&& (3 : Int32))), .val (.ref b95), .val (.ref b97), .val (.int r106), .val (.int f107), .val (.int r108), .val (.int f109), .val (.int p2)] [(.int p2)]))
        refine own_via (fun _ k => XS.iload X117.here hx rfl (hb hby at_170) rfl k) ?_
        show own_Go p e below s _ _ _ (T117.setTop (mkF m 172 #[.val (.int p0), .val (.int p1), .val (.int p2), .val (.int p3), .val (.int ((1 : Int32) + (3 : Int32))), .val (.int (((p0.toUInt32 >>> ((2 : Int32) &&& 31).toUInt32).toInt32) &&& (3 : Int32))), .val (.ref b95), .val (.ref b97), .val (.int r106), .val (.int f107), .val (.int r108), .val (.int f109), .val (.int p2)] [(.int p2), (.int p2)]))
        refine own_via (fun _ k => XS.icmpNo X117.here hx rfl (hb hby at_172) rfl (teq (rfl : p2 = p2)).2 k) ?_
        show own_Go p e below s _ _ _ (T117.setTop (mkF m 175 #[.val (.int p0), .val (.int p1), .val (.int p2), .val (.int p3), .val (.int ((1 : Int32) + (3 : Int32))), .val (.int (((p0.toUInt32 >>> ((2 : Int32) &&& 31).toUInt32).toInt32) &&& (3 : Int32))), .val (.ref b95), .val (.ref b97), .val (.int r106), .val (.int f107), .val (.int r108), .val (.int f109), .val (.int p2)] []))
        refine own_via (fun _ k => XS.iconst X117.here hx rfl (hb hby at_175) k) ?_
        show own_Go p e below s _ _ _ (T117.setTop (mkF m 176 #[.val (.int p0), .val (.int p1), .val (.int p2), .val (.int p3), .val (.int ((1 : Int32) + (3 : Int32))), .val (.int (((p0.toUInt32 >>> ((2 : Int32) &&& 31).toUInt32).toInt32) &&& (3 : Int32))), .val (.ref b95), .val (.ref b97), .val (.int r106), .val (.int f107), .val (.int r108), .val (.int f109), .val (.int p2)] [(.int (1 : Int32))]))
        refine own_via (fun _ k => XS.goto X117.here hx rfl (pc0 := 176) (pc' := 180) rfl (hb hby at_176) (by decide) (by decide) k) ?_
        show own_Go p e below s _ _ _ (T117.setTop (mkF m 180 #[.val (.int p0), .val (.int p1), .val (.int p2), .val (.int p3), .val (.int ((1 : Int32) + (3 : Int32))), .val (.int (((p0.toUInt32 >>> ((2 : Int32) &&& 31).toUInt32).toInt32) &&& (3 : Int32))), .val (.ref b95), .val (.ref b97), .val (.int r106), .val (.int f107), .val (.int r108), .val (.int f109), .val (.int p2)] [(.int (1 : Int32))]))
        exact own_retZ X117 hx hlk (t := .boolean) Bd.returns (by simp) (hb hby at_180) (z' := (1 : Int32)) (by first | rfl | decide) ⟨rfl, (Fr.app (Fr.app (Fr.app (Fr.app N105 NQ110) NQ112) NQ116) NQ117)⟩ (by decide) (by decide)
      · refine own_via (fun _ k => XS.icmpYes X112.here hx rfl (pc0 := 138) (pc' := 145) rfl (hb hby at_138) rfl (feq hc115).2 (by decide) (by decide) k) ?_
        show own_Go p e below s _ _ _ (T112.setTop (mkF m 145 #[.val (.int p0), .val (.int p1), .val (.int p2), .val (.int p3), .val (.int ((1 : Int32) + (3 : Int32))), .val (.int (((p0.toUInt32 >>> ((2 : Int32) &&& 31).toUInt32).toInt32) &&& (3 : Int32))), .val (.ref b95), .val (.ref b97), .val (.int r106), .val (.int f107), .val (.int r108), .val (.int f109), .unset] []))
        refine own_via (fun _ k => XS.iloadN X112.here hx rfl (hb hby at_145) rfl k) ?_
        show own_Go p e below s _ _ _ (T112.setTop (mkF m 146 #[.val (.int p0), .val (.int p1), .val (.int p2), .val (.int p3), .val (.int ((1 : Int32) + (3 : Int32))), .val (.int (((p0.toUInt32 >>> ((2 : Int32) &&& 31).toUInt32).toInt32) &&& (3 : Int32))), .val (.ref b95), .val (.ref b97), .val (.int r106), .val (.int f107), .val (.int r108), .val (.int f109), .unset] [(.int p3)]))
        refine own_via (fun _ k => XS.istore X112.here hx rfl (hb hby at_146) rfl (l' := #[.val (.int p0), .val (.int p1), .val (.int p2), .val (.int p3), .val (.int ((1 : Int32) + (3 : Int32))), .val (.int (((p0.toUInt32 >>> ((2 : Int32) &&& 31).toUInt32).toInt32) &&& (3 : Int32))), .val (.ref b95), .val (.ref b97), .val (.int r106), .val (.int f107), .val (.int r108), .val (.int f109), .val (.int p3)]) rfl k) ?_
        show own_Go p e below s _ _ _ (T112.setTop (mkF m 148 #[.val (.int p0), .val (.int p1), .val (.int p2), .val (.int p3), .val (.int ((1 : Int32) + (3 : Int32))), .val (.int (((p0.toUInt32 >>> ((2 : Int32) &&& 31).toUInt32).toInt32) &&& (3 : Int32))), .val (.ref b95), .val (.ref b97), .val (.int r106), .val (.int f107), .val (.int r108), .val (.int f109), .val (.int p3)] []))
        refine own_via (fun _ k => XS.aload X112.here hx rfl (hb hby at_148) rfl rfl k) ?_
        show own_Go p e below s _ _ _ (T112.setTop (mkF m 150 #[.val (.int p0), .val (.int p1), .val (.int p2), .val (.int p3), .val (.int ((1 : Int32) + (3 : Int32))), .val (.int (((p0.toUInt32 >>> ((2 : Int32) &&& 31).toUInt32).toInt32) &&& (3 : Int32))), .val (.ref b95), .val (.ref b97), .val (.int r106), .val (.int f107), .val (.int r108), .val (.int f109), .val (.int p3)] [(.ref b95)]))
        refine own_via (fun _ k => XS.iload X112.here hx rfl (hb hby at_150) rfl k) ?_
        show own_Go p e below s _ _ _ (T112.setTop (mkF m 152 #[.val (.int p0), .val (.int p1), .val (.int p2), .val (.int p3), .val (.int ((1 : Int32) + (3 : Int32))), .val (.int (((p0.toUInt32 >>> ((2 : Int32) &&& 31).toUInt32).toInt32) &&& (3 : Int32))), .val (.ref b95), .val (.ref b97), .val (.int r106), .val (.int f107), .val (.int r108), .val (.int f109), .val (.int p3)] [(.int r106), (.ref b95)]))
        refine own_via (fun _ k => XS.iload X112.here hx rfl (hb hby at_152) rfl k) ?_
        show own_Go p e below s _ _ _ (T112.setTop (mkF m 154 #[.val (.int p0), .val (.int p1), .val (.int p2), .val (.int p3), .val (.int ((1 : Int32) + (3 : Int32))), .val (.int (((p0.toUInt32 >>> ((2 : Int32) &&& 31).toUInt32).toInt32) &&& (3 : Int32))), .val (.ref b95), .val (.ref b97), .val (.int r106), .val (.int f107), .val (.int r108), .val (.int f109), .val (.int p3)] [(.int f107), (.int r106), (.ref b95)]))
        have hat119 : ((cl.setSlot ((((r108 &&& (4095 : Int32)) * ((1 : Int32) + (3 : Int32))) + f109)).toNatClampNeg (.int p3)).setSlot ((((r106 &&& (4095 : Int32)) * ((1 : Int32) + (3 : Int32))) + f107)).toNatClampNeg (.int p2)).slots[((((r106 &&& (4095 : Int32)) * ((1 : Int32) + (3 : Int32))) + f107)).toNatClampNeg]? = some (.int p2) := (get_hit (own_inx ((sz_set _ _ _).trans SI) ix113 hrb106 hfb107) rfl)
        obtain ⟨cq119, kq119, q119a, q119b, q119c⟩ := isOf hZ rfl OB_b95.1
        obtain ⟨_, _, ⟨T119, L119, k119, n119⟩, -, X119, ⟨Lc119, hQ119, l119, y119, z119⟩, st119⟩ := X112.virtualBack hx (y := (⟨"com/example/whenever/whenever/internal/engine/Rows", "getInt", "(II)I"⟩ : MethodName)) (z := (⟨"com/example/whenever/whenever/internal/engine/Rows", "getInt", "(II)I"⟩ : MethodName)) hown (mvT hZ (hw _ (List.mem_of_getElem? (i := 81) rfl))) (mvT hZ (hw _ (List.mem_of_getElem? (i := 82) rfl))) (notFace_of_selects (args := #[]) (mvT hZ (hw _ (List.mem_of_getElem? (i := 84) rfl)))) (mvT hZ (hw _ (List.mem_of_getElem? (i := 84) rfl))) (mvT hZ (hw _ (List.mem_of_getElem? (i := 83) rfl))) (by decide) (backOf (W := 0) (rm11_1 l Z a0 hw [] b95 A1 A2 I R k1 k2 (((((1 : Int32) + (1 : Int32)) + (1 : Int32)) + (1 : Int32)) + (1 : Int32)) ((1 : Int32) + (3 : Int32)) (((p0.toUInt32 >>> ((2 : Int32) &&& 31).toUInt32).toInt32) &&& (3 : Int32)) ((cl.setSlot ((((r108 &&& (4095 : Int32)) * ((1 : Int32) + (3 : Int32))) + f109)).toNatClampNeg (.int p3)).setSlot ((((r106 &&& (4095 : Int32)) * ((1 : Int32) + (3 : Int32))) + f107)).toNatClampNeg (.int p2)) r106 f107 p2 w0 w1 mr kw0 kw1 T112.heap n0 Z0 K0 OL (own_blk hrb106) (own_inx ((sz_set _ _ _).trans ((sz_set _ _ _).trans SI)) ix113 hrb106 hfb107) hat119 ⟨OB_b95, V_A1, V_A2, OV_A1, OV_A2, ne_b95_A1, ne_b95_A2, ne_A1_A2, g_b95, g_A1, g_A2⟩ AR_I) hZ (hw _ (List.mem_of_getElem? (i := 85) rfl)) (hw _ (List.mem_of_getElem? (i := 2) rfl)) (by decide) (by decide)) q119a q119c (g := (mkF m 154 #[.val (.int p0), .val (.int p1), .val (.int p2), .val (.int p3), .val (.int ((1 : Int32) + (3 : Int32))), .val (.int (((p0.toUInt32 >>> ((2 : Int32) &&& 31).toUInt32).toInt32) &&& (3 : Int32))), .val (.ref b95), .val (.ref b97), .val (.int r106), .val (.int f107), .val (.int r108), .val (.int f109), .val (.int p3)] [(.int f107), (.int r106), (.ref b95)])) rfl (by rw [hml]; rfl) (Steps.refl _) (argsL := [(.int r106), (.int f107)]) (rest := []) (lenOf pd1 rfl) rfl (by show 2 * 0 + _ ≤ _; exact Nat.le_of_eq rfl) (hb hby at_154) (fun _ _ => ⟨rfl, rfl, (by decide : 0 + 1 + 2 + 1 + 2 + 0 + 0 + 0 + 0 + 0 + 0 ≤ _), (by decide : 0 + 10 + 2 + 4 + 64 + 0 + 0 + 0 + 0 + 0 + 0 ≤ _)⟩)
        dsimp only [Pt.U, Pt.locs, Pt.cells, Pt.slots] at X119 l119 y119 z119 st119 hQ119
        subst l119 y119 z119
        obtain ⟨NQ119, OLq119, Zq119, KQ119, hP119⟩ := hQ119
        obtain rfl := hP119
        have OB_b95 := OB_b95.keep KQ119 nin0
        have V_A1 := V_A1.keep KQ119 nin0
        have V_A2 := V_A2.keep KQ119 nin0
        have V_b97 := V_b97.keep KQ119 nin0
        have AR_R := own_arrKeep AR_R KQ119 nin0
        have AR_I := own_arrKeep AR_I KQ119 nin0
        have EX_b97 := EX_b97.keep KQ119
        skip
        have OL := OLq119
        have Z0 := Zq119
        refine own_tr st119 ?_
        show own_Go p e below s _ _ _ (T119.setTop (mkF m 157 #[.val (.int p0), .val (.int p1), .val (.int p2), .val (.int p3), .val (.int ((1 : Int32) + (3 : Int32))), .val (.int (((p0.toUInt32 >>> ((2 : Int32) &&& 31).toUInt32).toInt32) &&& (3 : Int32))), .val (.ref b95), .val (.ref b97), .val (.int r106), .val (.int f107), .val (.int r108), .val (.int f109), .val (.int p3)] [(.int p2)]))
        refine own_via (fun _ k => XS.iloadN X119.here hx rfl (hb hby at_157) rfl k) ?_
        show own_Go p e below s _ _ _ (T119.setTop (mkF m 158 #[.val (.int p0), .val (.int p1), .val (.int p2), .val (.int p3), .val (.int ((1 : Int32) + (3 : Int32))), .val (.int (((p0.toUInt32 >>> ((2 : Int32) &&& 31).toUInt32).toInt32) &&& (3 : Int32))), .val (.ref b95), .val (.ref b97), .val (.int r106), .val (.int f107), .val (.int r108), .val (.int f109), .val (.int p3)] [(.int p2), (.int p2)]))
        refine own_via (fun _ k => XS.icmpNo X119.here hx rfl (hb hby at_158) rfl (teq (rfl : p2 = p2)).2 k) ?_
        show own_Go p e below s _ _ _ (T119.setTop (mkF m 161 #[.val (.int p0), .val (.int p1), .val (.int p2), .val (.int p3), .val (.int ((1 : Int32) + (3 : Int32))), .val (.int (((p0.toUInt32 >>> ((2 : Int32) &&& 31).toUInt32).toInt32) &&& (3 : Int32))), .val (.ref b95), .val (.ref b97), .val (.int r106), .val (.int f107), .val (.int r108), .val (.int f109), .val (.int p3)] []))
        refine own_via (fun _ k => XS.aload X119.here hx rfl (hb hby at_161) rfl rfl k) ?_
        show own_Go p e below s _ _ _ (T119.setTop (mkF m 163 #[.val (.int p0), .val (.int p1), .val (.int p2), .val (.int p3), .val (.int ((1 : Int32) + (3 : Int32))), .val (.int (((p0.toUInt32 >>> ((2 : Int32) &&& 31).toUInt32).toInt32) &&& (3 : Int32))), .val (.ref b95), .val (.ref b97), .val (.int r106), .val (.int f107), .val (.int r108), .val (.int f109), .val (.int p3)] [(.ref b95)]))
        refine own_via (fun _ k => XS.iload X119.here hx rfl (hb hby at_163) rfl k) ?_
        show own_Go p e below s _ _ _ (T119.setTop (mkF m 165 #[.val (.int p0), .val (.int p1), .val (.int p2), .val (.int p3), .val (.int ((1 : Int32) + (3 : Int32))), .val (.int (((p0.toUInt32 >>> ((2 : Int32) &&& 31).toUInt32).toInt32) &&& (3 : Int32))), .val (.ref b95), .val (.ref b97), .val (.int r106), .val (.int f107), .val (.int r108), .val (.int f109), .val (.int p3)] [(.int r108), (.ref b95)]))
        refine own_via (fun _ k => XS.iload X119.here hx rfl (hb hby at_165) rfl k) ?_
        show own_Go p e below s _ _ _ (T119.setTop (mkF m 167 #[.val (.int p0), .val (.int p1), .val (.int p2), .val (.int p3), .val (.int ((1 : Int32) + (3 : Int32))), .val (.int (((p0.toUInt32 >>> ((2 : Int32) &&& 31).toUInt32).toInt32) &&& (3 : Int32))), .val (.ref b95), .val (.ref b97), .val (.int r106), .val (.int f107), .val (.int r108), .val (.int f109), .val (.int p3)] [(.int f109), (.int r108), (.ref b95)]))
        have ne121 : ¬ ((((r108 &&& (4095 : Int32)) * ((1 : Int32) + (3 : Int32))) + f109) = (((r106 &&& (4095 : Int32)) * ((1 : Int32) + (3 : Int32))) + f107)) := own_ne4 ix111 ix113 hfb109 hfb107 (Or.inr (fun q => hc115 (Eq.symm q)))
        have hat120 : ((cl.setSlot ((((r108 &&& (4095 : Int32)) * ((1 : Int32) + (3 : Int32))) + f109)).toNatClampNeg (.int p3)).setSlot ((((r106 &&& (4095 : Int32)) * ((1 : Int32) + (3 : Int32))) + f107)).toNatClampNeg (.int p2)).slots[((((r108 &&& (4095 : Int32)) * ((1 : Int32) + (3 : Int32))) + f109)).toNatClampNeg]? = some (.int p3) := ((get_miss (fun q => (own_inx SI ix113 hrb106 hfb107) (Or.inl q)) (fun q => (own_inx SI ix111 hrb108 hfb109) (Or.inl q)) ne121).trans (get_hit (own_inx SI ix111 hrb108 hfb109) rfl))
        obtain ⟨cq120, kq120, q120a, q120b, q120c⟩ := isOf hZ rfl OB_b95.1
        obtain ⟨_, _, ⟨T120, L120, k120, n120⟩, -, X120, ⟨Lc120, hQ120, l120, y120, z120⟩, st120⟩ := X119.virtualBack hx (y := (⟨"com/example/whenever/whenever/internal/engine/Rows", "getInt", "(II)I"⟩ : MethodName)) (z := (⟨"com/example/whenever/whenever/internal/engine/Rows", "getInt", "(II)I"⟩ : MethodName)) hown (mvT hZ (hw _ (List.mem_of_getElem? (i := 81) rfl))) (mvT hZ (hw _ (List.mem_of_getElem? (i := 82) rfl))) (notFace_of_selects (args := #[]) (mvT hZ (hw _ (List.mem_of_getElem? (i := 84) rfl)))) (mvT hZ (hw _ (List.mem_of_getElem? (i := 84) rfl))) (mvT hZ (hw _ (List.mem_of_getElem? (i := 83) rfl))) (by decide) (backOf (W := 0) (rm11_1 l Z a0 hw [] b95 A1 A2 I R k1 k2 (((((1 : Int32) + (1 : Int32)) + (1 : Int32)) + (1 : Int32)) + (1 : Int32)) ((1 : Int32) + (3 : Int32)) (((p0.toUInt32 >>> ((2 : Int32) &&& 31).toUInt32).toInt32) &&& (3 : Int32)) ((cl.setSlot ((((r108 &&& (4095 : Int32)) * ((1 : Int32) + (3 : Int32))) + f109)).toNatClampNeg (.int p3)).setSlot ((((r106 &&& (4095 : Int32)) * ((1 : Int32) + (3 : Int32))) + f107)).toNatClampNeg (.int p2)) r108 f109 p3 w0 w1 mr kw0 kw1 T119.heap n0 Z0 K0 OL (own_blk hrb108) (own_inx ((sz_set _ _ _).trans ((sz_set _ _ _).trans SI)) ix111 hrb108 hfb109) hat120 ⟨OB_b95, V_A1, V_A2, OV_A1, OV_A2, ne_b95_A1, ne_b95_A2, ne_A1_A2, g_b95, g_A1, g_A2⟩ AR_I) hZ (hw _ (List.mem_of_getElem? (i := 85) rfl)) (hw _ (List.mem_of_getElem? (i := 2) rfl)) (by decide) (by decide)) q120a q120c (g := (mkF m 167 #[.val (.int p0), .val (.int p1), .val (.int p2), .val (.int p3), .val (.int ((1 : Int32) + (3 : Int32))), .val (.int (((p0.toUInt32 >>> ((2 : Int32) &&& 31).toUInt32).toInt32) &&& (3 : Int32))), .val (.ref b95), .val (.ref b97), .val (.int r106), .val (.int f107), .val (.int r108), .val (.int f109), .val (.int p3)] [(.int f109), (.int r108), (.ref b95)])) rfl (by rw [hml]; rfl) (Steps.refl _) (argsL := [(.int r108), (.int f109)]) (rest := []) (lenOf pd1 rfl) rfl (by show 2 * 0 + _ ≤ _; exact Nat.le_of_eq rfl) (hb hby at_167) (fun _ _ => ⟨rfl, rfl, (by decide : 0 + 1 + 2 + 1 + 2 + 0 + 0 + 0 + 0 + 0 + 0 + 0 ≤ _), (by decide : 0 + 10 + 2 + 4 + 64 + 0 + 0 + 0 + 0 + 0 + 0 + 0 ≤ _)⟩)
        dsimp only [Pt.U, Pt.locs, Pt.cells, Pt.slots] at X120 l120 y120 z120 st120 hQ120
        subst l120 y120 z120
        obtain ⟨NQ120, OLq120, Zq120, KQ120, hP120⟩ := hQ120
        obtain rfl := hP120
        have OB_b95 := OB_b95.keep KQ120 nin0
        have V_A1 := V_A1.keep KQ120 nin0
        have V_A2 := V_A2.keep KQ120 nin0
        have V_b97 := V_b97.keep KQ120 nin0
        have AR_R := own_arrKeep AR_R KQ120 nin0
        have AR_I := own_arrKeep AR_I KQ120 nin0
        have EX_b97 := EX_b97.keep KQ120
        skip
        have OL := OLq120
        have Z0 := Zq120
        refine own_tr st120 ?_
        show own_Go p e below s _ _ _ (T120.setTop (mkF m 170 #[.val (.int p0), .val (.int p1), .val (.int p2), .val (.int p3), .val (.int ((1 : Int32) + (3 : Int32))), .val (.int (((p0.toUInt32 >>> ((2 : Int32) &&& 31).toUInt32).toInt32) &&& (3 : Int32))), .val (.ref b95), .val (.ref b97), .val (.int r106), .val (.int f107), .val (.int r108), .val (.int f109), .val (.int p3)] [(.int p3)]))
        refine own_via (fun _ k => XS.iload X120.here hx rfl (hb hby at_170) rfl k) ?_
        show own_Go p e below s _ _ _ (T120.setTop (mkF m 172 #[.val (.int p0), .val (.int p1), .val (.int p2), .val (.int p3), .val (.int ((1 : Int32) + (3 : Int32))), .val (.int (((p0.toUInt32 >>> ((2 : Int32) &&& 31).toUInt32).toInt32) &&& (3 : Int32))), .val (.ref b95), .val (.ref b97), .val (.int r106), .val (.int f107), .val (.int r108), .val (.int f109), .val (.int p3)] [(.int p3), (.int p3)]))
        refine own_via (fun _ k => XS.icmpNo X120.here hx rfl (hb hby at_172) rfl (teq (rfl : p3 = p3)).2 k) ?_
        show own_Go p e below s _ _ _ (T120.setTop (mkF m 175 #[.val (.int p0), .val (.int p1), .val (.int p2), .val (.int p3), .val (.int ((1 : Int32) + (3 : Int32))), .val (.int (((p0.toUInt32 >>> ((2 : Int32) &&& 31).toUInt32).toInt32) &&& (3 : Int32))), .val (.ref b95), .val (.ref b97), .val (.int r106), .val (.int f107), .val (.int r108), .val (.int f109), .val (.int p3)] []))
        refine own_via (fun _ k => XS.iconst X120.here hx rfl (hb hby at_175) k) ?_
        show own_Go p e below s _ _ _ (T120.setTop (mkF m 176 #[.val (.int p0), .val (.int p1), .val (.int p2), .val (.int p3), .val (.int ((1 : Int32) + (3 : Int32))), .val (.int (((p0.toUInt32 >>> ((2 : Int32) &&& 31).toUInt32).toInt32) &&& (3 : Int32))), .val (.ref b95), .val (.ref b97), .val (.int r106), .val (.int f107), .val (.int r108), .val (.int f109), .val (.int p3)] [(.int (1 : Int32))]))
        refine own_via (fun _ k => XS.goto X120.here hx rfl (pc0 := 176) (pc' := 180) rfl (hb hby at_176) (by decide) (by decide) k) ?_
        show own_Go p e below s _ _ _ (T120.setTop (mkF m 180 #[.val (.int p0), .val (.int p1), .val (.int p2), .val (.int p3), .val (.int ((1 : Int32) + (3 : Int32))), .val (.int (((p0.toUInt32 >>> ((2 : Int32) &&& 31).toUInt32).toInt32) &&& (3 : Int32))), .val (.ref b95), .val (.ref b97), .val (.int r106), .val (.int f107), .val (.int r108), .val (.int f109), .val (.int p3)] [(.int (1 : Int32))]))
        exact own_retZ X120 hx hlk (t := .boolean) Bd.returns (by simp) (hb hby at_180) (z' := (1 : Int32)) (by first | rfl | decide) ⟨rfl, (Fr.app (Fr.app (Fr.app (Fr.app N105 NQ110) NQ112) NQ119) NQ120)⟩ (by decide) (by decide)
    · refine own_via (fun _ k => XS.icmpYes X112.here hx rfl (pc0 := 131) (pc' := 145) rfl (hb hby at_131) rfl (feq hc114).2 (by decide) (by decide) k) ?_
      show own_Go p e below s _ _ _ (T112.setTop (mkF m 145 #[.val (.int p0), .val (.int p1), .val (.int p2), .val (.int p3), .val (.int ((1 : Int32) + (3 : Int32))), .val (.int (((p0.toUInt32 >>> ((2 : Int32) &&& 31).toUInt32).toInt32) &&& (3 : Int32))), .val (.ref b95), .val (.ref b97), .val (.int r106), .val (.int f107), .val (.int r108), .val (.int f109), .unset] []))
      refine own_via (fun _ k => XS.iloadN X112.here hx rfl (hb hby at_145) rfl k) ?_
      show own_Go p e below s _ _ _ (T112.setTop (mkF m 146 #[.val (.int p0), .val (.int p1), .val (.int p2), .val (.int p3), .val (.int ((1 : Int32) + (3 : Int32))), .val (.int (((p0.toUInt32 >>> ((2 : Int32) &&& 31).toUInt32).toInt32) &&& (3 : Int32))), .val (.ref b95), .val (.ref b97), .val (.int r106), .val (.int f107), .val (.int r108), .val (.int f109), .unset] [(.int p3)]))
      refine own_via (fun _ k => XS.istore X112.here hx rfl (hb hby at_146) rfl (l' := #[.val (.int p0), .val (.int p1), .val (.int p2), .val (.int p3), .val (.int ((1 : Int32) + (3 : Int32))), .val (.int (((p0.toUInt32 >>> ((2 : Int32) &&& 31).toUInt32).toInt32) &&& (3 : Int32))), .val (.ref b95), .val (.ref b97), .val (.int r106), .val (.int f107), .val (.int r108), .val (.int f109), .val (.int p3)]) rfl k) ?_
      show own_Go p e below s _ _ _ (T112.setTop (mkF m 148 #[.val (.int p0), .val (.int p1), .val (.int p2), .val (.int p3), .val (.int ((1 : Int32) + (3 : Int32))), .val (.int (((p0.toUInt32 >>> ((2 : Int32) &&& 31).toUInt32).toInt32) &&& (3 : Int32))), .val (.ref b95), .val (.ref b97), .val (.int r106), .val (.int f107), .val (.int r108), .val (.int f109), .val (.int p3)] []))
      refine own_via (fun _ k => XS.aload X112.here hx rfl (hb hby at_148) rfl rfl k) ?_
      show own_Go p e below s _ _ _ (T112.setTop (mkF m 150 #[.val (.int p0), .val (.int p1), .val (.int p2), .val (.int p3), .val (.int ((1 : Int32) + (3 : Int32))), .val (.int (((p0.toUInt32 >>> ((2 : Int32) &&& 31).toUInt32).toInt32) &&& (3 : Int32))), .val (.ref b95), .val (.ref b97), .val (.int r106), .val (.int f107), .val (.int r108), .val (.int f109), .val (.int p3)] [(.ref b95)]))
      refine own_via (fun _ k => XS.iload X112.here hx rfl (hb hby at_150) rfl k) ?_
      show own_Go p e below s _ _ _ (T112.setTop (mkF m 152 #[.val (.int p0), .val (.int p1), .val (.int p2), .val (.int p3), .val (.int ((1 : Int32) + (3 : Int32))), .val (.int (((p0.toUInt32 >>> ((2 : Int32) &&& 31).toUInt32).toInt32) &&& (3 : Int32))), .val (.ref b95), .val (.ref b97), .val (.int r106), .val (.int f107), .val (.int r108), .val (.int f109), .val (.int p3)] [(.int r106), (.ref b95)]))
      refine own_via (fun _ k => XS.iload X112.here hx rfl (hb hby at_152) rfl k) ?_
      show own_Go p e below s _ _ _ (T112.setTop (mkF m 154 #[.val (.int p0), .val (.int p1), .val (.int p2), .val (.int p3), .val (.int ((1 : Int32) + (3 : Int32))), .val (.int (((p0.toUInt32 >>> ((2 : Int32) &&& 31).toUInt32).toInt32) &&& (3 : Int32))), .val (.ref b95), .val (.ref b97), .val (.int r106), .val (.int f107), .val (.int r108), .val (.int f109), .val (.int p3)] [(.int f107), (.int r106), (.ref b95)]))
      have hat122 : ((cl.setSlot ((((r108 &&& (4095 : Int32)) * ((1 : Int32) + (3 : Int32))) + f109)).toNatClampNeg (.int p3)).setSlot ((((r106 &&& (4095 : Int32)) * ((1 : Int32) + (3 : Int32))) + f107)).toNatClampNeg (.int p2)).slots[((((r106 &&& (4095 : Int32)) * ((1 : Int32) + (3 : Int32))) + f107)).toNatClampNeg]? = some (.int p2) := (get_hit (own_inx ((sz_set _ _ _).trans SI) ix113 hrb106 hfb107) rfl)
      obtain ⟨cq122, kq122, q122a, q122b, q122c⟩ := isOf hZ rfl OB_b95.1
      obtain ⟨_, _, ⟨T122, L122, k122, n122⟩, -, X122, ⟨Lc122, hQ122, l122, y122, z122⟩, st122⟩ := X112.virtualBack hx (y := (⟨"com/example/whenever/whenever/internal/engine/Rows", "getInt", "(II)I"⟩ : MethodName)) (z := (⟨"com/example/whenever/whenever/internal/engine/Rows", "getInt", "(II)I"⟩ : MethodName)) hown (mvT hZ (hw _ (List.mem_of_getElem? (i := 81) rfl))) (mvT hZ (hw _ (List.mem_of_getElem? (i := 82) rfl))) (notFace_of_selects (args := #[]) (mvT hZ (hw _ (List.mem_of_getElem? (i := 84) rfl)))) (mvT hZ (hw _ (List.mem_of_getElem? (i := 84) rfl))) (mvT hZ (hw _ (List.mem_of_getElem? (i := 83) rfl))) (by decide) (backOf (W := 0) (rm11_1 l Z a0 hw [] b95 A1 A2 I R k1 k2 (((((1 : Int32) + (1 : Int32)) + (1 : Int32)) + (1 : Int32)) + (1 : Int32)) ((1 : Int32) + (3 : Int32)) (((p0.toUInt32 >>> ((2 : Int32) &&& 31).toUInt32).toInt32) &&& (3 : Int32)) ((cl.setSlot ((((r108 &&& (4095 : Int32)) * ((1 : Int32) + (3 : Int32))) + f109)).toNatClampNeg (.int p3)).setSlot ((((r106 &&& (4095 : Int32)) * ((1 : Int32) + (3 : Int32))) + f107)).toNatClampNeg (.int p2)) r106 f107 p2 w0 w1 mr kw0 kw1 T112.heap n0 Z0 K0 OL (own_blk hrb106) (own_inx ((sz_set _ _ _).trans ((sz_set _ _ _).trans SI)) ix113 hrb106 hfb107) hat122 ⟨OB_b95, V_A1, V_A2, OV_A1, OV_A2, ne_b95_A1, ne_b95_A2, ne_A1_A2, g_b95, g_A1, g_A2⟩ AR_I) hZ (hw _ (List.mem_of_getElem? (i := 85) rfl)) (hw _ (List.mem_of_getElem? (i := 2) rfl)) (by decide) (by decide)) q122a q122c (g := (mkF m 154 #[.val (.int p0), .val (.int p1), .val (.int p2), .val (.int p3), .val (.int ((1 : Int32) + (3 : Int32))), .val (.int (((p0.toUInt32 >>> ((2 : Int32) &&& 31).toUInt32).toInt32) &&& (3 : Int32))), .val (.ref b95), .val (.ref b97), .val (.int r106), .val (.int f107), .val (.int r108), .val (.int f109), .val (.int p3)] [(.int f107), (.int r106), (.ref b95)])) rfl (by rw [hml]; rfl) (Steps.refl _) (argsL := [(.int r106), (.int f107)]) (rest := []) (lenOf pd1 rfl) rfl (by show 2 * 0 + _ ≤ _; exact Nat.le_of_eq rfl) (hb hby at_154) (fun _ _ => ⟨rfl, rfl, (by decide : 0 + 1 + 2 + 1 + 2 + 0 + 0 + 0 + 0 + 0 + 0 ≤ _), (by decide : 0 + 10 + 2 + 4 + 64 + 0 + 0 + 0 + 0 + 0 + 0 ≤ _)⟩)
      dsimp only [Pt.U, Pt.locs, Pt.cells, Pt.slots] at X122 l122 y122 z122 st122 hQ122
      subst l122 y122 z122
      obtain ⟨NQ122, OLq122, Zq122, KQ122, hP122⟩ := hQ122
      obtain rfl := hP122
      have OB_b95 := OB_b95.keep KQ122 nin0
      have V_A1 := V_A1.keep KQ122 nin0
      have V_A2 := V_A2.keep KQ122 nin0
      have V_b97 := V_b97.keep KQ122 nin0
      have AR_R := own_arrKeep AR_R KQ122 nin0
      have AR_I := own_arrKeep AR_I KQ122 nin0
      have EX_b97 := EX_b97.keep KQ122
      skip
      have OL := OLq122
      have Z0 := Zq122
      refine own_tr st122 ?_
      show own_Go p e below s _ _ _ (T122.setTop (mkF m 157 #[.val (.int p0), .val (.int p1), .val (.int p2), .val (.int p3), .val (.int ((1 : Int32) + (3 : Int32))), .val (.int (((p0.toUInt32 >>> ((2 : Int32) &&& 31).toUInt32).toInt32) &&& (3 : Int32))), .val (.ref b95), .val (.ref b97), .val (.int r106), .val (.int f107), .val (.int r108), .val (.int f109), .val (.int p3)] [(.int p2)]))
      refine own_via (fun _ k => XS.iloadN X122.here hx rfl (hb hby at_157) rfl k) ?_
      show own_Go p e below s _ _ _ (T122.setTop (mkF m 158 #[.val (.int p0), .val (.int p1), .val (.int p2), .val (.int p3), .val (.int ((1 : Int32) + (3 : Int32))), .val (.int (((p0.toUInt32 >>> ((2 : Int32) &&& 31).toUInt32).toInt32) &&& (3 : Int32))), .val (.ref b95), .val (.ref b97), .val (.int r106), .val (.int f107), .val (.int r108), .val (.int f109), .val (.int p3)] [(.int p2), (.int p2)]))
      refine own_via (fun _ k => XS.icmpNo X122.here hx rfl (hb hby at_158) rfl (teq (rfl : p2 = p2)).2 k) ?_
      show own_Go p e below s _ _ _ (T122.setTop (mkF m 161 #[.val (.int p0), .val (.int p1), .val (.int p2), .val (.int p3), .val (.int ((1 : Int32) + (3 : Int32))), .val (.int (((p0.toUInt32 >>> ((2 : Int32) &&& 31).toUInt32).toInt32) &&& (3 : Int32))), .val (.ref b95), .val (.ref b97), .val (.int r106), .val (.int f107), .val (.int r108), .val (.int f109), .val (.int p3)] []))
      refine own_via (fun _ k => XS.aload X122.here hx rfl (hb hby at_161) rfl rfl k) ?_
      show own_Go p e below s _ _ _ (T122.setTop (mkF m 163 #[.val (.int p0), .val (.int p1), .val (.int p2), .val (.int p3), .val (.int ((1 : Int32) + (3 : Int32))), .val (.int (((p0.toUInt32 >>> ((2 : Int32) &&& 31).toUInt32).toInt32) &&& (3 : Int32))), .val (.ref b95), .val (.ref b97), .val (.int r106), .val (.int f107), .val (.int r108), .val (.int f109), .val (.int p3)] [(.ref b95)]))
      refine own_via (fun _ k => XS.iload X122.here hx rfl (hb hby at_163) rfl k) ?_
      show own_Go p e below s _ _ _ (T122.setTop (mkF m 165 #[.val (.int p0), .val (.int p1), .val (.int p2), .val (.int p3), .val (.int ((1 : Int32) + (3 : Int32))), .val (.int (((p0.toUInt32 >>> ((2 : Int32) &&& 31).toUInt32).toInt32) &&& (3 : Int32))), .val (.ref b95), .val (.ref b97), .val (.int r106), .val (.int f107), .val (.int r108), .val (.int f109), .val (.int p3)] [(.int r108), (.ref b95)]))
      refine own_via (fun _ k => XS.iload X122.here hx rfl (hb hby at_165) rfl k) ?_
      show own_Go p e below s _ _ _ (T122.setTop (mkF m 167 #[.val (.int p0), .val (.int p1), .val (.int p2), .val (.int p3), .val (.int ((1 : Int32) + (3 : Int32))), .val (.int (((p0.toUInt32 >>> ((2 : Int32) &&& 31).toUInt32).toInt32) &&& (3 : Int32))), .val (.ref b95), .val (.ref b97), .val (.int r106), .val (.int f107), .val (.int r108), .val (.int f109), .val (.int p3)] [(.int f109), (.int r108), (.ref b95)]))
      have ne124 : ¬ ((((r108 &&& (4095 : Int32)) * ((1 : Int32) + (3 : Int32))) + f109) = (((r106 &&& (4095 : Int32)) * ((1 : Int32) + (3 : Int32))) + f107)) := own_ne4 ix111 ix113 hfb109 hfb107 (Or.inl (fun q => hc114 (Eq.symm q)))
      have hat123 : ((cl.setSlot ((((r108 &&& (4095 : Int32)) * ((1 : Int32) + (3 : Int32))) + f109)).toNatClampNeg (.int p3)).setSlot ((((r106 &&& (4095 : Int32)) * ((1 : Int32) + (3 : Int32))) + f107)).toNatClampNeg (.int p2)).slots[((((r108 &&& (4095 : Int32)) * ((1 : Int32) + (3 : Int32))) + f109)).toNatClampNeg]? = some (.int p3) := ((get_miss (fun q => (own_inx SI ix113 hrb106 hfb107) (Or.inl q)) (fun q => (own_inx SI ix111 hrb108 hfb109) (Or.inl q)) ne124).trans (get_hit (own_inx SI ix111 hrb108 hfb109) rfl))
      obtain ⟨cq123, kq123, q123a, q123b, q123c⟩ := isOf hZ rfl OB_b95.1
      obtain ⟨_, _, ⟨T123, L123, k123, n123⟩, -, X123, ⟨Lc123, hQ123, l123, y123, z123⟩, st123⟩ := X122.virtualBack hx (y := (⟨"com/example/whenever/whenever/internal/engine/Rows", "getInt", "(II)I"⟩ : MethodName)) (z := (⟨"com/example/whenever/whenever/internal/engine/Rows", "getInt", "(II)I"⟩ : MethodName)) hown (mvT hZ (hw _ (List.mem_of_getElem? (i := 81) rfl))) (mvT hZ (hw _ (List.mem_of_getElem? (i := 82) rfl))) (notFace_of_selects (args := #[]) (mvT hZ (hw _ (List.mem_of_getElem? (i := 84) rfl)))) (mvT hZ (hw _ (List.mem_of_getElem? (i := 84) rfl))) (mvT hZ (hw _ (List.mem_of_getElem? (i := 83) rfl))) (by decide) (backOf (W := 0) (rm11_1 l Z a0 hw [] b95 A1 A2 I R k1 k2 (((((1 : Int32) + (1 : Int32)) + (1 : Int32)) + (1 : Int32)) + (1 : Int32)) ((1 : Int32) + (3 : Int32)) (((p0.toUInt32 >>> ((2 : Int32) &&& 31).toUInt32).toInt32) &&& (3 : Int32)) ((cl.setSlot ((((r108 &&& (4095 : Int32)) * ((1 : Int32) + (3 : Int32))) + f109)).toNatClampNeg (.int p3)).setSlot ((((r106 &&& (4095 : Int32)) * ((1 : Int32) + (3 : Int32))) + f107)).toNatClampNeg (.int p2)) r108 f109 p3 w0 w1 mr kw0 kw1 T122.heap n0 Z0 K0 OL (own_blk hrb108) (own_inx ((sz_set _ _ _).trans ((sz_set _ _ _).trans SI)) ix111 hrb108 hfb109) hat123 ⟨OB_b95, V_A1, V_A2, OV_A1, OV_A2, ne_b95_A1, ne_b95_A2, ne_A1_A2, g_b95, g_A1, g_A2⟩ AR_I) hZ (hw _ (List.mem_of_getElem? (i := 85) rfl)) (hw _ (List.mem_of_getElem? (i := 2) rfl)) (by decide) (by decide)) q123a q123c (g := (mkF m 167 #[.val (.int p0), .val (.int p1), .val (.int p2), .val (.int p3), .val (.int ((1 : Int32) + (3 : Int32))), .val (.int (((p0.toUInt32 >>> ((2 : Int32) &&& 31).toUInt32).toInt32) &&& (3 : Int32))), .val (.ref b95), .val (.ref b97), .val (.int r106), .val (.int f107), .val (.int r108), .val (.int f109), .val (.int p3)] [(.int f109), (.int r108), (.ref b95)])) rfl (by rw [hml]; rfl) (Steps.refl _) (argsL := [(.int r108), (.int f109)]) (rest := []) (lenOf pd1 rfl) rfl (by show 2 * 0 + _ ≤ _; exact Nat.le_of_eq rfl) (hb hby at_167) (fun _ _ => ⟨rfl, rfl, (by decide : 0 + 1 + 2 + 1 + 2 + 0 + 0 + 0 + 0 + 0 + 0 + 0 ≤ _), (by decide : 0 + 10 + 2 + 4 + 64 + 0 + 0 + 0 + 0 + 0 + 0 + 0 ≤ _)⟩)
      dsimp only [Pt.U, Pt.locs, Pt.cells, Pt.slots] at X123 l123 y123 z123 st123 hQ123
      subst l123 y123 z123
      obtain ⟨NQ123, OLq123, Zq123, KQ123, hP123⟩ := hQ123
      obtain rfl := hP123
      have OB_b95 := OB_b95.keep KQ123 nin0
      have V_A1 := V_A1.keep KQ123 nin0
      have V_A2 := V_A2.keep KQ123 nin0
      have V_b97 := V_b97.keep KQ123 nin0
      have AR_R := own_arrKeep AR_R KQ123 nin0
      have AR_I := own_arrKeep AR_I KQ123 nin0
      have EX_b97 := EX_b97.keep KQ123
      skip
      have OL := OLq123
      have Z0 := Zq123
      refine own_tr st123 ?_
      show own_Go p e below s _ _ _ (T123.setTop (mkF m 170 #[.val (.int p0), .val (.int p1), .val (.int p2), .val (.int p3), .val (.int ((1 : Int32) + (3 : Int32))), .val (.int (((p0.toUInt32 >>> ((2 : Int32) &&& 31).toUInt32).toInt32) &&& (3 : Int32))), .val (.ref b95), .val (.ref b97), .val (.int r106), .val (.int f107), .val (.int r108), .val (.int f109), .val (.int p3)] [(.int p3)]))
      refine own_via (fun _ k => XS.iload X123.here hx rfl (hb hby at_170) rfl k) ?_
      show own_Go p e below s _ _ _ (T123.setTop (mkF m 172 #[.val (.int p0), .val (.int p1), .val (.int p2), .val (.int p3), .val (.int ((1 : Int32) + (3 : Int32))), .val (.int (((p0.toUInt32 >>> ((2 : Int32) &&& 31).toUInt32).toInt32) &&& (3 : Int32))), .val (.ref b95), .val (.ref b97), .val (.int r106), .val (.int f107), .val (.int r108), .val (.int f109), .val (.int p3)] [(.int p3), (.int p3)]))
      refine own_via (fun _ k => XS.icmpNo X123.here hx rfl (hb hby at_172) rfl (teq (rfl : p3 = p3)).2 k) ?_
      show own_Go p e below s _ _ _ (T123.setTop (mkF m 175 #[.val (.int p0), .val (.int p1), .val (.int p2), .val (.int p3), .val (.int ((1 : Int32) + (3 : Int32))), .val (.int (((p0.toUInt32 >>> ((2 : Int32) &&& 31).toUInt32).toInt32) &&& (3 : Int32))), .val (.ref b95), .val (.ref b97), .val (.int r106), .val (.int f107), .val (.int r108), .val (.int f109), .val (.int p3)] []))
      refine own_via (fun _ k => XS.iconst X123.here hx rfl (hb hby at_175) k) ?_
      show own_Go p e below s _ _ _ (T123.setTop (mkF m 176 #[.val (.int p0), .val (.int p1), .val (.int p2), .val (.int p3), .val (.int ((1 : Int32) + (3 : Int32))), .val (.int (((p0.toUInt32 >>> ((2 : Int32) &&& 31).toUInt32).toInt32) &&& (3 : Int32))), .val (.ref b95), .val (.ref b97), .val (.int r106), .val (.int f107), .val (.int r108), .val (.int f109), .val (.int p3)] [(.int (1 : Int32))]))
      refine own_via (fun _ k => XS.goto X123.here hx rfl (pc0 := 176) (pc' := 180) rfl (hb hby at_176) (by decide) (by decide) k) ?_
      show own_Go p e below s _ _ _ (T123.setTop (mkF m 180 #[.val (.int p0), .val (.int p1), .val (.int p2), .val (.int p3), .val (.int ((1 : Int32) + (3 : Int32))), .val (.int (((p0.toUInt32 >>> ((2 : Int32) &&& 31).toUInt32).toInt32) &&& (3 : Int32))), .val (.ref b95), .val (.ref b97), .val (.int r106), .val (.int f107), .val (.int r108), .val (.int f109), .val (.int p3)] [(.int (1 : Int32))]))
      exact own_retZ X123 hx hlk (t := .boolean) Bd.returns (by simp) (hb hby at_180) (z' := (1 : Int32)) (by first | rfl | decide) ⟨rfl, (Fr.app (Fr.app (Fr.app (Fr.app N105 NQ110) NQ112) NQ122) NQ123)⟩ (by decide) (by decide)
set_option maxRecDepth 65536 in
set_option maxHeartbeats 40000000 in
theorem comes_1 {Post : Tables → Env → Array Value → State → Outcome → State → Prop} (hpost : ∀ tb e args s v u, (limb_1_1.after args s (.returned v) u = true ∧ limb_1_2.after args s (.returned v) u = true ∧ True) → FrameEnd s (.returned v) u (Jvm.fieldLocs frame_1_writes args s ++ Jvm.arrayLocs frame_1_arrays args s ++ Jvm.staticLocs frame_1_statics s) 24 256 → Post tb e args s (.returned v) u) :
    ArmFor flags0 classFile x code maxLocals ret World_1 tables_1 room_1 Calls_1 rest_1 Pre_1 Post := by
  intro l hfl _ _ p e ha hc hk s m args below hf hA hF happ hP
  obtain ⟨hcalls, hrest, hpre⟩ := hP
  obtain ⟨-, -, -, hnamed, -, -, -, hat⟩ := (Spec.applies_iff hf).mp happ
  obtain ⟨hg, hn⟩ := and_e (Cond.before_iff.mp (show (Jvm.Cond.and given_1 narrow_1).before args s = true from hpre))
  obtain ⟨g0, hg0⟩ := and_e hg
  obtain ⟨g1, hg1⟩ := and_e hg0
  obtain ⟨g2, hg2⟩ := and_e hg1
  obtain ⟨g3, hg3⟩ := and_e hg2
  obtain ⟨u0, u1, u2, u3, rfl⟩ : ∃ u0 u1 u2 u3 : Value, args = #[u0, u1, u2, u3] := by
    have hs : args.size = 4 := by simpa [Cond.value, given_1] using g0
    obtain ⟨L⟩ := args
    match L, hs with
    | [u0, u1, u2, u3], _ => exact ⟨u0, u1, u2, u3, rfl⟩
  have hw := fun d (hd : d ∈ tables_1) => atoms_spec (ws := Jvm.Cond.code x code maxLocals ret :: tables_1) hat d (List.mem_cons_of_mem _ hd)
  have hfit : Fit s := fun {y c} hc i hi => by
    obtain ⟨ha, rfl⟩ := Array.getElem?_eq_some_iff.mp hc
    have q := List.all_eq_true.mp ((Array.all_eq_true_iff_forall_mem.mp hF) _ (Array.getElem_mem ha)) i (List.mem_range.mpr hi)
    simpa [Array.getElem?_eq_getElem hi] using q
  obtain ⟨i0, ei0⟩ := is_v g1
  obtain rfl : u0 = (.int i0) := Option.some.inj ei0
  obtain ⟨i1, ei1⟩ := is_v g2
  obtain rfl : u1 = (.int i1) := Option.some.inj ei1
  obtain ⟨i2, ei2⟩ := is_v g3
  obtain rfl : u2 = (.int i2) := Option.some.inj ei2
  obtain ⟨i3, ei3⟩ := is_v hg3
  obtain rfl : u3 = (.int i3) := Option.some.inj ei3
  obtain ⟨t0, hn0⟩ := and_e hn
  obtain ⟨t1, hn1⟩ := and_e hn0
  obtain ⟨t2, hn2⟩ := and_e hn1
  obtain ⟨t3, hn3⟩ := and_e hn2
  obtain ⟨t4, hn4⟩ := and_e hn3
  obtain ⟨w0, v_w0⟩ := exa_v t1
  have E_w0 := Exa.start v_w0 t1
  have S_w0 := Sta.start v_w0 (Or.inr ⟨(hw _ (List.mem_of_getElem? (i := 2) rfl)), (hw _ (List.mem_of_getElem? (i := 12) rfl))⟩)
  obtain ⟨c_w0, A_w0⟩ := Arr.start v_w0 t0
  have V_w0 := own_empty (dv := (.int 0)) hfit A_w0 v_w0 t2
  obtain ⟨w1, v_w1⟩ := exa_v t4
  have E_w1 := Exa.start v_w1 t4
  have S_w1 := Sta.start v_w1 (Or.inr ⟨(hw _ (List.mem_of_getElem? (i := 2) rfl)), (hw _ (List.mem_of_getElem? (i := 19) rfl))⟩)
  obtain ⟨c_w1, A_w1⟩ := Arr.start v_w1 t3
  have V_w1 := own_empty (dv := .null) hfit A_w1 v_w1 hn4
  obtain ⟨mc, mk, mr, m1, m2, m3, m4⟩ := hcalls.1
  obtain ⟨n, o, h1, h2, h3, _, L, rfl, ⟨rfl, N⟩, hq⟩ := rm0 l s _ hw tables_1 i0 i1 i2 i3 w0 w1 mr c_w0.cls c_w1.cls s.heap s.heap.size (Nat.le_refl _) ⟨S_w0, S_w1, E_w0, E_w1, V_w0, V_w1, ⟨mc, mk, m1, m2, m3, m4⟩⟩ (Old.start s) p e ha hc hk s m _ below hf ((Spec.applies_iff_loose hf).mp happ).1 ⟨rfl, State.Warmed39.refl s, rfl⟩ trivial
  refine ⟨n, _, h1, h2, h3, hpost _ _ _ _ _ _ ⟨Cond.after_iff.mpr rfl, Cond.after_iff.mpr (eq_i res_at (Term.int_eval (1)) rfl), trivial⟩ ⟨hq.1, hq.2.1, (hq.2.2.sift fun y hy => Or.inr (N y hy)).mono (by decide) (by decide)⟩⟩
theorem main_1_1 : Claimed_1_1 := comes_1 fun _ _ _ _ _ _ h hF => ⟨h.1, hF⟩
theorem main_1_2 : Claimed_1_2 := comes_1 fun _ _ _ _ _ _ h hF => ⟨h.2.1, hF⟩
end Jvm.Pilot.@@N@@
namespace Jvm.Pilot.@@N@@
open Jvm Jvm.ClassFile Sem Op Lib Jvm.Free Jvm.Stand Jvm.Pilot.@@N@@.Jvm.D
/-! MADE BY PROGRAM (witnessworld.py) out of the Statement's table words and the real class files: 14 classes; the members and pool entries that the words name. The judged class is class 1, her method 1. -/
namespace start1
open Jvm.ClassFile
def u (s : String) : CpInfo := .utf8 (stringToUtf16 s)
/-- a pool by its gaps: so many unusable entries, then the entry; so many at the end -/
def gap : Nat → List CpInfo → List CpInfo
  | 0, r => r
  | n + 1, r => .unusable :: gap n r
def poolList (es : List (Nat × CpInfo)) (last : Nat) : List CpInfo := es.foldr (fun e r => gap e.1 (e.2 :: r)) (gap last [])
def pool (es : List (Nat × CpInfo)) (last : Nat) : Array CpInfo := ⟨poolList es last⟩
def fileOf (pool : Array CpInfo) (this : Nat) (attrs : Array Attribute := #[]) (ms : Array MethodInfo := #[]) (fl : Nat := 33) (sup : Nat := 0) (ifs : Array Nat := #[]) (fds : Array FieldInfo := #[]) : ClassFile where
  minorVersion := 0
  majorVersion := 65
  constantPool := pool
  accessFlags := fl
  thisClass := this
  superClass := sup
  interfaces := ifs
  fields := fds
  methods := ms
  attributes := attrs
def plain (name : String) (sup : Option ClassId) : Class where
  name := name
  kind := .ordinary
  loader := none
  accessFlags := 33
  super := sup
  interfaces := #[]
  cf := none
  fields := #[]
  methods := #[]
  instanceTypes := #[]
  staticTypes := #[]
  resolved := #[]
  callSites := []
  init := .initialized
  statics := none
  mirror := none

def pool0 : Array CpInfo := pool [(5, u "<init>"), (0, u "()V"), (1, .class_ 10), (1, u "java/lang/Object"), (0, u "getClass"), (0, u "()Ljava/lang/Class;")] 111

def k0c0 : Code := { maxStack := 0, maxLocals := 1, code := object_method_1_code, exceptionTable := #[], attributes := #[] }
def k0m0 : Method := { name := "<init>", desc := "()V", sig := { parameters := [], returnType := none }, accessFlags := 1, code := some k0c0 }
def k0m1 : Method := { name := "getClass", desc := "()Ljava/lang/Class;", sig := { parameters := [], returnType := some (.object "java/lang/Class") }, accessFlags := 273, code := none }
/-- java/lang/Object -/
def k0 : Class := { plain "java/lang/Object" none with
  accessFlags := 33
  interfaces := #[]
  cf := some (fileOf pool0 8 #[] #[{ accessFlags := 1, nameIndex := 5, descriptorIndex := 6, attributes := #[] }, { accessFlags := 273, nameIndex := 11, descriptorIndex := 12, attributes := #[] }] 33 0 #[] #[])
  fields := #[]
  methods := #[k0m0, k0m1]
  instanceTypes := #[]
  staticTypes := #[]
  resolved := Array.replicate 124 none
  statics := none }

def pool1 : Array CpInfo := pool [(2, .class_ 4), (1, u "java/lang/Object"), (0, u "<init>"), (0, u "()V"), (0, .class_ 8), (0, u "com/example/whenever/whenever/internal/engine/Rows"), (0, .methodref 7 10), (0, .nameAndType 5 11), (0, u "(II)V"), (0, .methodref 7 13), (0, .nameAndType 14 15), (0, u "add"), (0, u "()I"), (0, .methodref 7 17), (0, .nameAndType 18 19), (0, u "setInt"), (0, u "(III)V"), (0, .methodref 7 21), (0, .nameAndType 22 23), (0, u "getInt"), (0, u "(II)I"), (0, .class_ 25), (0, u "com/example/whenever/whenever/internal/engine/RowsSetIntPinLaw"), (2, u "law"), (0, u "(IIII)Z")] 5

def k1m0 : Method := { name := "<init>", desc := "()V", sig := { parameters := [], returnType := none }, accessFlags := 1, code := none }
def k1c1 : Code := { maxStack := 4, maxLocals := 13, code := code, exceptionTable := #[], attributes := #[] }
def k1m1 : Method := { name := "law", desc := "(IIII)Z", sig := { parameters := [.int, .int, .int, .int], returnType := some .boolean }, accessFlags := 9, code := some k1c1 }
/-- com/example/whenever/whenever/internal/engine/RowsSetIntPinLaw -/
def k1 : Class := { plain "com/example/whenever/whenever/internal/engine/RowsSetIntPinLaw" (some 0) with
  accessFlags := 49
  interfaces := #[]
  cf := some (fileOf pool1 24 #[] #[{ accessFlags := 1, nameIndex := 5, descriptorIndex := 6, attributes := #[] }, { accessFlags := 9, nameIndex := 28, descriptorIndex := 29, attributes := #[] }] 49 2 #[] #[])
  fields := #[]
  methods := #[k1m0, k1m1]
  instanceTypes := #[]
  staticTypes := #[]
  resolved := Array.replicate 35 none
  statics := none }

def pool2 : Array CpInfo := pool [(1, .class_ 2), (0, u "com/example/whenever/whenever/internal/engine/Rows"), (0, .methodref 4 5), (0, .class_ 6), (0, .nameAndType 7 8), (0, u "java/lang/Object"), (0, u "<init>"), (0, u "()V"), (0, .class_ 10), (0, u "[I"), (0, .fieldref 1 12), (0, .nameAndType 13 10), (0, u "NO_INTS"), (0, .fieldref 1 15), (0, .nameAndType 16 17), (0, u "ints"), (0, u "[[I"), (0, .class_ 19), (0, u "[Ljava/lang/Object;"), (0, .fieldref 1 21), (0, .nameAndType 22 19), (0, u "NO_REFS"), (0, .fieldref 1 24), (0, .nameAndType 25 26), (0, u "refs"), (0, u "[[Ljava/lang/Object;"), (0, .fieldref 1 28), (0, .nameAndType 29 30), (0, u "end"), (0, u "I"), (0, .fieldref 1 32), (0, .nameAndType 33 10), (0, u "removed"), (7, .fieldref 1 42), (0, .nameAndType 43 30), (0, u "intFields"), (0, .fieldref 1 45), (0, .nameAndType 46 30), (0, u "refFields"), (0, .fieldref 1 48), (0, .nameAndType 49 30), (0, u "firstFreeOfFirst"), (0, .methodref 1 51), (0, .nameAndType 52 53), (0, u "getInt"), (0, u "(II)I"), (0, .fieldref 1 55), (0, .nameAndType 56 57), (0, u "later"), (0, u "Lcom/example/whenever/whenever/internal/engine/Rows$LaterBlocks;"), (1, .class_ 61), (1, u "com/example/whenever/whenever/internal/engine/Rows$LaterBlocks"), (0, u "add"), (0, u "()I"), (0, .fieldref 1 65), (0, .nameAndType 66 30), (0, u "capacity"), (0, .methodref 1 68), (0, .nameAndType 69 8), (0, u "grow"), (3, .methodref 74 75), (0, .class_ 76), (0, .nameAndType 77 53), (0, u "java/lang/Math"), (0, u "max"), (0, .methodref 79 80), (0, .class_ 81), (0, .nameAndType 82 83), (0, u "java/util/Arrays"), (0, u "copyOf"), (0, u "([II)[I"), (0, .methodref 79 85), (0, .nameAndType 82 86), (0, u "([Ljava/lang/Object;I)[Ljava/lang/Object;"), (10, u "removedCount"), (6, u "setInt"), (0, u "(III)V"), (3, u "(II)V"), (0, u "NONE"), (2, u "BLOCK_BITS"), (1, u "BLOCK"), (1, u "FIRST_ROWS"), (1, u "FIRST_BLOCKS"), (1, u "NEXT_FREE")] 15

def k2c0 : Code := { maxStack := 5, maxLocals := 3, code := prog_105_method_1_code, exceptionTable := #[], attributes := #[] }
def k2m0 : Method := { name := "<init>", desc := "(II)V", sig := { parameters := [.int, .int], returnType := none }, accessFlags := 0, code := some k2c0 }
def k2c1 : Code := { maxStack := 4, maxLocals := 2, code := prog_105_method_2_code, exceptionTable := #[], attributes := #[] }
def k2m1 : Method := { name := "add", desc := "()I", sig := { parameters := [], returnType := some .int }, accessFlags := 0, code := some k2c1 }
def k2c2 : Code := { maxStack := 5, maxLocals := 2, code := prog_105_method_3_code, exceptionTable := #[], attributes := #[] }
def k2m2 : Method := { name := "grow", desc := "()V", sig := { parameters := [], returnType := none }, accessFlags := 2, code := some k2c2 }
def k2c3 : Code := { maxStack := 3, maxLocals := 3, code := prog_105_method_7_code, exceptionTable := #[], attributes := #[] }
def k2m3 : Method := { name := "getInt", desc := "(II)I", sig := { parameters := [.int, .int], returnType := some .int }, accessFlags := 0, code := some k2c3 }
def k2c4 : Code := { maxStack := 3, maxLocals := 4, code := prog_105_method_8_code, exceptionTable := #[], attributes := #[] }
def k2m4 : Method := { name := "setInt", desc := "(III)V", sig := { parameters := [.int, .int, .int], returnType := none }, accessFlags := 0, code := some k2c4 }
/-- com/example/whenever/whenever/internal/engine/Rows -/
def k2 : Class := { plain "com/example/whenever/whenever/internal/engine/Rows" (some 0) with
  accessFlags := 48
  interfaces := #[]
  cf := some (fileOf pool2 1 #[.nestMembers #[59]] #[{ accessFlags := 0, nameIndex := 7, descriptorIndex := 109, attributes := #[] }, { accessFlags := 0, nameIndex := 62, descriptorIndex := 63, attributes := #[] }, { accessFlags := 2, nameIndex := 69, descriptorIndex := 8, attributes := #[] }, { accessFlags := 0, nameIndex := 52, descriptorIndex := 53, attributes := #[] }, { accessFlags := 0, nameIndex := 104, descriptorIndex := 105, attributes := #[] }] 48 4 #[] #[{ accessFlags := 24, nameIndex := 110, descriptorIndex := 30, attributes := #[] }, { accessFlags := 26, nameIndex := 113, descriptorIndex := 30, attributes := #[] }, { accessFlags := 26, nameIndex := 115, descriptorIndex := 30, attributes := #[] }, { accessFlags := 26, nameIndex := 117, descriptorIndex := 30, attributes := #[] }, { accessFlags := 26, nameIndex := 119, descriptorIndex := 30, attributes := #[] }, { accessFlags := 26, nameIndex := 13, descriptorIndex := 10, attributes := #[] }, { accessFlags := 26, nameIndex := 22, descriptorIndex := 19, attributes := #[] }, { accessFlags := 26, nameIndex := 121, descriptorIndex := 30, attributes := #[] }, { accessFlags := 18, nameIndex := 43, descriptorIndex := 30, attributes := #[] }, { accessFlags := 18, nameIndex := 46, descriptorIndex := 30, attributes := #[] }, { accessFlags := 2, nameIndex := 16, descriptorIndex := 17, attributes := #[] }, { accessFlags := 2, nameIndex := 25, descriptorIndex := 26, attributes := #[] }, { accessFlags := 2, nameIndex := 66, descriptorIndex := 30, attributes := #[] }, { accessFlags := 2, nameIndex := 29, descriptorIndex := 30, attributes := #[] }, { accessFlags := 2, nameIndex := 49, descriptorIndex := 30, attributes := #[] }, { accessFlags := 2, nameIndex := 56, descriptorIndex := 57, attributes := #[] }, { accessFlags := 2, nameIndex := 33, descriptorIndex := 10, attributes := #[] }, { accessFlags := 2, nameIndex := 97, descriptorIndex := 30, attributes := #[] }])
  fields := #[{ name := "NONE", type := .int, accessFlags := 24, slot := 0, constantValue := 0 }, { name := "BLOCK_BITS", type := .int, accessFlags := 26, slot := 1, constantValue := 0 }, { name := "BLOCK", type := .int, accessFlags := 26, slot := 2, constantValue := 0 }, { name := "FIRST_ROWS", type := .int, accessFlags := 26, slot := 3, constantValue := 0 }, { name := "FIRST_BLOCKS", type := .int, accessFlags := 26, slot := 4, constantValue := 0 }, { name := "NO_INTS", type := (.array .int), accessFlags := 26, slot := 5, constantValue := 0 }, { name := "NO_REFS", type := (.array (.object "java/lang/Object")), accessFlags := 26, slot := 6, constantValue := 0 }, { name := "NEXT_FREE", type := .int, accessFlags := 26, slot := 7, constantValue := 0 }, { name := "intFields", type := .int, accessFlags := 18, slot := 0, constantValue := 0 }, { name := "refFields", type := .int, accessFlags := 18, slot := 1, constantValue := 0 }, { name := "ints", type := (.array (.array .int)), accessFlags := 2, slot := 2, constantValue := 0 }, { name := "refs", type := (.array (.array (.object "java/lang/Object"))), accessFlags := 2, slot := 3, constantValue := 0 }, { name := "capacity", type := .int, accessFlags := 2, slot := 4, constantValue := 0 }, { name := "end", type := .int, accessFlags := 2, slot := 5, constantValue := 0 }, { name := "firstFreeOfFirst", type := .int, accessFlags := 2, slot := 6, constantValue := 0 }, { name := "later", type := (.object "com/example/whenever/whenever/internal/engine/Rows$LaterBlocks"), accessFlags := 2, slot := 7, constantValue := 0 }, { name := "removed", type := (.array .int), accessFlags := 2, slot := 8, constantValue := 0 }, { name := "removedCount", type := .int, accessFlags := 2, slot := 9, constantValue := 0 }]
  methods := #[k2m0, k2m1, k2m2, k2m3, k2m4]
  instanceTypes := #[.int, .int, (.array (.array .int)), (.array (.array (.object "java/lang/Object"))), .int, .int, .int, (.object "com/example/whenever/whenever/internal/engine/Rows$LaterBlocks"), (.array .int), .int]
  staticTypes := #[.int, .int, .int, .int, .int, (.array .int), (.array (.object "java/lang/Object")), .int]
  resolved := Array.replicate 137 none
  statics := some 0 }

def pool3 : Array CpInfo := pool [(1, .class_ 2), (0, u "java/lang/Math"), (1, .class_ 6), (1, u "java/lang/Object"), (0, u "<init>"), (0, u "()V"), (89, .class_ 100), (1, u "java/lang/Math$RandomNumberGeneratorHolder"), (71, u "negativeZeroFloatBits"), (0, u "J"), (2, u "negativeZeroDoubleBits"), (21, u "max"), (2, u "min"), (43, u "$assertionsDisabled"), (0, u "Z"), (88, u "(II)I"), (2, u "twoToTheDoubleScaleDown"), (0, u "D"), (4, u "twoToTheDoubleScaleUp"), (9, u "E"), (3, u "PI"), (2, u "TAU"), (2, u "DEGREES_TO_RADIANS"), (0, u "RADIANS_TO_DEGREES")] 94

def k3m0 : Method := { name := "<init>", desc := "()V", sig := { parameters := [], returnType := none }, accessFlags := 2, code := none }
def k3c1 : Code := { maxStack := 2, maxLocals := 2, code := jdk_29_method_65_code, exceptionTable := #[], attributes := #[] }
def k3m1 : Method := { name := "max", desc := "(II)I", sig := { parameters := [.int, .int], returnType := some .int }, accessFlags := 9, code := some k3c1 }
def k3c2 : Code := { maxStack := 2, maxLocals := 2, code := jdk_29_method_69_code, exceptionTable := #[], attributes := #[] }
def k3m2 : Method := { name := "min", desc := "(II)I", sig := { parameters := [.int, .int], returnType := some .int }, accessFlags := 9, code := some k3c2 }
/-- java/lang/Math -/
def k3 : Class := { plain "java/lang/Math" (some 0) with
  accessFlags := 49
  interfaces := #[]
  cf := some (fileOf pool3 1 #[.nestMembers #[98]] #[{ accessFlags := 2, nameIndex := 7, descriptorIndex := 8, attributes := #[] }, { accessFlags := 9, nameIndex := 198, descriptorIndex := 335, attributes := #[] }, { accessFlags := 9, nameIndex := 201, descriptorIndex := 335, attributes := #[] }] 49 4 #[] #[{ accessFlags := 25, nameIndex := 354, descriptorIndex := 339, attributes := #[] }, { accessFlags := 25, nameIndex := 358, descriptorIndex := 339, attributes := #[] }, { accessFlags := 25, nameIndex := 361, descriptorIndex := 339, attributes := #[] }, { accessFlags := 26, nameIndex := 364, descriptorIndex := 339, attributes := #[] }, { accessFlags := 26, nameIndex := 365, descriptorIndex := 339, attributes := #[] }, { accessFlags := 26, nameIndex := 172, descriptorIndex := 173, attributes := #[] }, { accessFlags := 26, nameIndex := 176, descriptorIndex := 173, attributes := #[] }, { accessFlags := 8, nameIndex := 344, descriptorIndex := 339, attributes := #[] }, { accessFlags := 8, nameIndex := 338, descriptorIndex := 339, attributes := #[] }, { accessFlags := 4120, nameIndex := 245, descriptorIndex := 246, attributes := #[] }])
  fields := #[{ name := "E", type := .double, accessFlags := 25, slot := 0, constantValue := 0 }, { name := "PI", type := .double, accessFlags := 25, slot := 1, constantValue := 0 }, { name := "TAU", type := .double, accessFlags := 25, slot := 2, constantValue := 0 }, { name := "DEGREES_TO_RADIANS", type := .double, accessFlags := 26, slot := 3, constantValue := 0 }, { name := "RADIANS_TO_DEGREES", type := .double, accessFlags := 26, slot := 4, constantValue := 0 }, { name := "negativeZeroFloatBits", type := .long, accessFlags := 26, slot := 5, constantValue := 0 }, { name := "negativeZeroDoubleBits", type := .long, accessFlags := 26, slot := 6, constantValue := 0 }, { name := "twoToTheDoubleScaleUp", type := .double, accessFlags := 8, slot := 7, constantValue := 0 }, { name := "twoToTheDoubleScaleDown", type := .double, accessFlags := 8, slot := 8, constantValue := 0 }, { name := "$assertionsDisabled", type := .boolean, accessFlags := 4120, slot := 9, constantValue := 0 }]
  methods := #[k3m0, k3m1, k3m2]
  instanceTypes := #[]
  staticTypes := #[.double, .double, .double, .double, .double, .long, .long, .double, .double, .boolean]
  resolved := Array.replicate 460 none
  statics := none }

def pool4 : Array CpInfo := pool [(2, .class_ 4), (1, u "java/lang/Object"), (0, u "<init>"), (0, u "()V"), (7, .class_ 16), (1, u "java/util/Arrays"), (57, .class_ 76), (1, u "java/util/Arrays$NaturalOrder"), (9, .methodref 2 87), (0, .nameAndType 88 89), (0, u "getClass"), (0, u "()Ljava/lang/Class;"), (20, .class_ 111), (0, u "[Ljava/lang/Object;"), (1, .class_ 115), (1, u "java/util/Arrays$LegacyMergeSort"), (1, u "Z"), (32, .methodref 151 152), (0, .class_ 153), (0, .nameAndType 154 155), (0, u "java/lang/System"), (0, u "arraycopy"), (0, u "(Ljava/lang/Object;ILjava/lang/Object;II)V"), (144, .methodref 14 301), (0, .nameAndType 302 303), (0, u "copyOf"), (0, u "([Ljava/lang/Object;ILjava/lang/Class;)[Ljava/lang/Object;"), (0, .methodref 305 306), (0, .class_ 307), (0, .nameAndType 308 309), (0, u "java/lang/Math"), (0, u "min"), (0, u "(II)I"), (65, .class_ 376), (0, u "java/util/Arrays$ArrayList"), (68, u "$assertionsDisabled"), (269, u "MIN_ARRAY_SORT_GRAN"), (0, u "I"), (2, u "INSERTIONSORT_THRESHOLD"), (140, u "([Ljava/lang/Object;I)[Ljava/lang/Object;"), (10, u "([II)[I"), (103, .class_ 976), (0, u "java/util/Arrays$ArrayItr")] 52

def k4m0 : Method := { name := "<init>", desc := "()V", sig := { parameters := [], returnType := none }, accessFlags := 2, code := none }
def k4c1 : Code := { maxStack := 3, maxLocals := 2, code := jdk_65_method_119_code, exceptionTable := #[], attributes := #[] }
def k4m1 : Method := { name := "copyOf", desc := "([Ljava/lang/Object;I)[Ljava/lang/Object;", sig := { parameters := [(.array (.object "java/lang/Object")), .int], returnType := some (.array (.object "java/lang/Object")) }, accessFlags := 9, code := some k4c1 }
def k4c2 : Code := { maxStack := 6, maxLocals := 4, code := jdk_65_method_120_code, exceptionTable := #[], attributes := #[] }
def k4m2 : Method := { name := "copyOf", desc := "([Ljava/lang/Object;ILjava/lang/Class;)[Ljava/lang/Object;", sig := { parameters := [(.array (.object "java/lang/Object")), .int, (.object "java/lang/Class")], returnType := some (.array (.object "java/lang/Object")) }, accessFlags := 9, code := some k4c2 }
def k4c3 : Code := { maxStack := 6, maxLocals := 3, code := jdk_65_method_123_code, exceptionTable := #[], attributes := #[] }
def k4m3 : Method := { name := "copyOf", desc := "([II)[I", sig := { parameters := [(.array .int), .int], returnType := some (.array .int) }, accessFlags := 9, code := some k4c3 }
/-- java/util/Arrays -/
def k4 : Class := { plain "java/util/Arrays" (some 0) with
  accessFlags := 49
  interfaces := #[]
  cf := some (fileOf pool4 14 #[.nestMembers #[975, 375, 113, 74]] #[{ accessFlags := 2, nameIndex := 5, descriptorIndex := 6, attributes := #[] }, { accessFlags := 9, nameIndex := 302, descriptorIndex := 860, attributes := #[] }, { accessFlags := 9, nameIndex := 302, descriptorIndex := 303, attributes := #[] }, { accessFlags := 9, nameIndex := 302, descriptorIndex := 871, attributes := #[] }] 49 2 #[] #[{ accessFlags := 26, nameIndex := 715, descriptorIndex := 716, attributes := #[] }, { accessFlags := 26, nameIndex := 719, descriptorIndex := 716, attributes := #[] }, { accessFlags := 4120, nameIndex := 445, descriptorIndex := 117, attributes := #[] }])
  fields := #[{ name := "MIN_ARRAY_SORT_GRAN", type := .int, accessFlags := 26, slot := 0, constantValue := 0 }, { name := "INSERTIONSORT_THRESHOLD", type := .int, accessFlags := 26, slot := 1, constantValue := 0 }, { name := "$assertionsDisabled", type := .boolean, accessFlags := 4120, slot := 2, constantValue := 0 }]
  methods := #[k4m0, k4m1, k4m2, k4m3]
  instanceTypes := #[]
  staticTypes := #[.int, .int, .boolean]
  resolved := Array.replicate 1029 none
  statics := none }

def pool5 : Array CpInfo := pool [(2, .class_ 4), (1, u "java/lang/Object"), (0, u "<init>"), (0, u "()V"), (1, .class_ 10), (1, u "java/lang/System"), (0, u "allowSecurityManager"), (0, u "I"), (16, u "cons"), (0, u "Ljava/io/Console;"), (77, .class_ 110), (1, u "java/lang/System$CallersHolder"), (43, u "initialErrStream"), (0, u "Ljava/io/PrintStream;"), (19, u "security"), (0, u "Ljava/lang/SecurityManager;"), (31, .class_ 209), (0, u "java/lang/System$1"), (7, u "props"), (0, u "Ljava/util/Properties;"), (2, u "lineSeparator"), (0, u "Ljava/lang/String;"), (96, .class_ 321), (1, u "java/lang/System$LoggerFinder"), (5, .class_ 328), (0, u "java/lang/System$Logger"), (67, u "err"), (2, u "out"), (91, u "notSupportedJnuEncoding"), (15, u "in"), (17, u "initialIn"), (0, u "Ljava/io/InputStream;"), (35, u "bootLayer"), (0, u "Ljava/lang/ModuleLayer;"), (99, .class_ 664), (0, u "java/lang/System$2"), (9, u "NEVER"), (2, u "MAYBE"), (49, u "arraycopy"), (0, u "(Ljava/lang/Object;ILjava/lang/Object;II)V"), (72, .class_ 802), (0, u "java/lang/System$Logger$Level")] 31

def k5m0 : Method := { name := "<init>", desc := "()V", sig := { parameters := [], returnType := none }, accessFlags := 2, code := none }
def k5m1 : Method := { name := "arraycopy", desc := "(Ljava/lang/Object;ILjava/lang/Object;II)V", sig := { parameters := [(.object "java/lang/Object"), .int, (.object "java/lang/Object"), .int, .int], returnType := none }, accessFlags := 265, code := none }
/-- java/lang/System -/
def k5 : Class := { plain "java/lang/System" (some 0) with
  accessFlags := 49
  interfaces := #[]
  cf := some (fileOf pool5 8 #[.nestMembers #[319, 327, 801, 108, 663, 208]] #[{ accessFlags := 2, nameIndex := 5, descriptorIndex := 6, attributes := #[] }, { accessFlags := 265, nameIndex := 727, descriptorIndex := 728, attributes := #[] }] 49 2 #[] #[{ accessFlags := 25, nameIndex := 507, descriptorIndex := 526, attributes := #[] }, { accessFlags := 25, nameIndex := 399, descriptorIndex := 155, attributes := #[] }, { accessFlags := 25, nameIndex := 396, descriptorIndex := 155, attributes := #[] }, { accessFlags := 10, nameIndex := 525, descriptorIndex := 526, attributes := #[] }, { accessFlags := 26, nameIndex := 674, descriptorIndex := 12, attributes := #[] }, { accessFlags := 26, nameIndex := 677, descriptorIndex := 12, attributes := #[] }, { accessFlags := 10, nameIndex := 11, descriptorIndex := 12, attributes := #[] }, { accessFlags := 74, nameIndex := 175, descriptorIndex := 176, attributes := #[] }, { accessFlags := 10, nameIndex := 491, descriptorIndex := 222, attributes := #[] }, { accessFlags := 74, nameIndex := 29, descriptorIndex := 30, attributes := #[] }, { accessFlags := 74, nameIndex := 154, descriptorIndex := 155, attributes := #[] }, { accessFlags := 10, nameIndex := 217, descriptorIndex := 218, attributes := #[] }, { accessFlags := 10, nameIndex := 221, descriptorIndex := 222, attributes := #[] }, { accessFlags := 8, nameIndex := 562, descriptorIndex := 563, attributes := #[] }])
  fields := #[{ name := "in", type := (.object "java/io/InputStream"), accessFlags := 25, slot := 0, constantValue := 0 }, { name := "out", type := (.object "java/io/PrintStream"), accessFlags := 25, slot := 1, constantValue := 0 }, { name := "err", type := (.object "java/io/PrintStream"), accessFlags := 25, slot := 2, constantValue := 0 }, { name := "initialIn", type := (.object "java/io/InputStream"), accessFlags := 10, slot := 3, constantValue := 0 }, { name := "NEVER", type := .int, accessFlags := 26, slot := 4, constantValue := 0 }, { name := "MAYBE", type := .int, accessFlags := 26, slot := 5, constantValue := 0 }, { name := "allowSecurityManager", type := .int, accessFlags := 10, slot := 6, constantValue := 0 }, { name := "security", type := (.object "java/lang/SecurityManager"), accessFlags := 74, slot := 7, constantValue := 0 }, { name := "notSupportedJnuEncoding", type := (.object "java/lang/String"), accessFlags := 10, slot := 8, constantValue := 0 }, { name := "cons", type := (.object "java/io/Console"), accessFlags := 74, slot := 9, constantValue := 0 }, { name := "initialErrStream", type := (.object "java/io/PrintStream"), accessFlags := 74, slot := 10, constantValue := 0 }, { name := "props", type := (.object "java/util/Properties"), accessFlags := 10, slot := 11, constantValue := 0 }, { name := "lineSeparator", type := (.object "java/lang/String"), accessFlags := 10, slot := 12, constantValue := 0 }, { name := "bootLayer", type := (.object "java/lang/ModuleLayer"), accessFlags := 8, slot := 13, constantValue := 0 }]
  methods := #[k5m0, k5m1]
  instanceTypes := #[]
  staticTypes := #[(.object "java/io/InputStream"), (.object "java/io/PrintStream"), (.object "java/io/PrintStream"), (.object "java/io/InputStream"), .int, .int, .int, (.object "java/lang/SecurityManager"), (.object "java/lang/String"), (.object "java/io/Console"), (.object "java/io/PrintStream"), (.object "java/util/Properties"), (.object "java/lang/String"), (.object "java/lang/ModuleLayer")]
  resolved := Array.replicate 834 none
  statics := none }

def pool6 : Array CpInfo := pool [(1, .class_ 2), (0, u "java/lang/Class"), (0, .class_ 4), (0, u "java/lang/Object")] 0

/-- java/lang/Class -/
def k6 : Class := { plain "java/lang/Class" (some 0) with
  accessFlags := 49
  interfaces := #[]
  cf := some (fileOf pool6 1 #[] #[] 49 3 #[] #[])
  fields := #[]
  methods := #[]
  instanceTypes := #[]
  staticTypes := #[]
  resolved := Array.replicate 5 none
  statics := none }

def pool7 : Array CpInfo := pool [(1, u "java/lang/Cloneable"), (0, .class_ 1), (0, u "java/lang/Object"), (0, .class_ 3)] 3

/-- java/lang/Cloneable -/
def k7 : Class := { plain "java/lang/Cloneable" (some 0) with
  accessFlags := 1537
  interfaces := #[]
  cf := some (fileOf pool7 2 #[] #[] 1537 4 #[] #[])
  fields := #[]
  methods := #[]
  instanceTypes := #[]
  staticTypes := #[]
  resolved := Array.replicate 8 none
  statics := none }

def pool8 : Array CpInfo := pool [(1, u "java/io/Serializable"), (0, .class_ 1), (0, u "java/lang/Object"), (0, .class_ 3)] 3

/-- java/io/Serializable -/
def k8 : Class := { plain "java/io/Serializable" (some 0) with
  accessFlags := 1537
  interfaces := #[]
  cf := some (fileOf pool8 2 #[] #[] 1537 4 #[] #[])
  fields := #[]
  methods := #[]
  instanceTypes := #[]
  staticTypes := #[]
  resolved := Array.replicate 8 none
  statics := none }

/-- the primitive byte -/
def k9 : Class := { plain "byte" none with kind := .primitive 'B', accessFlags := 0x411 }
/-- [B -/
def k10 : Class := { plain "[B" (some 0) with kind := .array 9 .byte, interfaces := #[7, 8], accessFlags := 1041 }

/-- the primitive int -/
def k11 : Class := { plain "int" none with kind := .primitive 'I', accessFlags := 0x411 }
/-- [I -/
def k12 : Class := { plain "[I" (some 0) with kind := .array 11 .int, interfaces := #[7, 8], accessFlags := 1041 }

/-- [Ljava/lang/Object; -/
def k13 : Class := { plain "[Ljava/lang/Object;" (some 0) with mirror := some 1, kind := .array 0 (.object "java/lang/Object"), interfaces := #[7, 8], accessFlags := 1041 }

/-- [[I -/
def k14 : Class := { plain "[[I" (some 0) with kind := .array 12 (.array .int), interfaces := #[7, 8], accessFlags := 1041 }
/-- [[Ljava/lang/Object; -/
def k15 : Class := { plain "[[Ljava/lang/Object;" (some 0) with kind := .array 13 (.array (.object "java/lang/Object")), interfaces := #[7, 8], accessFlags := 1041 }
def heap : Heap := #[{ cls := 2, slots := #[.int 0, .int 0, .int 0, .int 0, .int 0, .ref 2, .ref 3, .int 0], vm := .statics 2 },
  { cls := 6, slots := #[], vm := .mirror 13 },
  { cls := 12, slots := #[], vm := .none },
  { cls := 13, slots := #[], vm := .none }]
def classes : Array Class := #[k0, k1, k2, k3, k4, k5, k6, k7, k8, k9, k10, k11, k12, k13, k14, k15]
def interned : List (Array UInt16 × Addr) := []
def slotsUsed : Nat := 8
def theMethod : MethodId := ⟨1, 1⟩
def args0 : Array Value := #[.int 5, .int 5, .int 5, .int 5]
def aboutOver (below : List Frame) : State where
  vm := { classes := classes, interned := interned.toArray }
  heap := heap
  slotsUsed := slotsUsed
  threads := #[{ frames := .invoking theMethod args0 :: below }]
def below0 : List Frame := [.native { method := ⟨0, 0⟩, args := #[] }]
def about1 : State := aboutOver below0
def p0 : Program := .bare "" "" ""
def e0 : Env := launch0.env 0 0 0
theorem w_frames : about1.frames = Frame.invoking theMethod args0 :: below0 := rfl
set_option maxRecDepth 65536 in
theorem w_args : argsFit about1.vm theMethod args0 = true := by decide +kernel
set_option maxRecDepth 65536 in
theorem w_heap : heapFits about1 = true := by decide +kernel
set_option maxRecDepth 65536 in
theorem w_runnable : about1.curStatus? = some .runnable := by decide +kernel
set_option maxRecDepth 65536 in
theorem w_alone : about1.alone = true := by decide +kernel
set_option maxRecDepth 65536 in
theorem w_named : about1.methodNamed? x = some theMethod := by decide +kernel
set_option maxRecDepth 65536 in
theorem w_hears : about1.hears theMethod below0 = true := by decide +kernel
set_option maxRecDepth 65536 in
theorem w_ripe : about1.ripe theMethod args0 below0 = true := by decide +kernel
theorem w_running : about1.status = .running := rfl
set_option maxRecDepth 65536 in
theorem w_room : about1.hasRoom e0.platform room_1 = true :=
  launch0.hasRoom_least _ room_1 (by decide +kernel) (by decide +kernel) (by decide +kernel) (by decide +kernel) (by decide +kernel) (by decide +kernel)
theorem allAtoms_all (ts : List Jvm.Cond) (a : Array Jvm.Value) (st : Jvm.State) : (allAtoms ts).before a st = ts.all (fun c => c.before a st) := by
  induction ts with
  | nil => rfl
  | cons c t ih =>
    show (Jvm.Cond.and c (allAtoms t)).before a st = _
    rw [Jvm.Cond.before_and, ih, List.all_cons]
def words1 : List Jvm.Cond := Jvm.Cond.code x code maxLocals ret :: tables_1
/-- a 'code' word, met by the world's own term for the bytes: nothing is compared byte by byte -/
theorem code_word {y : MethodName} {bytes : ByteArray} {mx : Nat} {rt : Option FieldType} {a : Array Value} {s : State} {m : MethodId} {meth : Method} {c : Code} (h1 : s.methodNamed? y = some m) (h2 : s.vm.method? m = some meth) (h3 : meth.code = some c) (h4 : c.code = bytes)
    (h5 : (c.maxLocals == mx && c.exceptionTable.isEmpty && decide (c.maxStack ≤ mostOperands) && decide (meth.sig.returnType = rt) && !meth.locks && decide (parseMethodDescriptor y.desc = some meth.sig)) = true) : (Jvm.Cond.code y bytes mx rt).before a s = true := by
  simp only [Bool.and_eq_true, beq_iff_eq, Bool.not_eq_true', decide_eq_true_eq] at h5
  obtain ⟨⟨⟨⟨⟨g1, g2⟩, g3⟩, g4⟩, g5⟩, g6⟩ := h5
  simp [Cond.before, Cond.holds, Cond.value, h1, h2, h3, h4, g1, g2, g3, g4, g5, g6]
def isCode : Jvm.Cond → Bool
  | .code _ _ _ _ => true
  | _ => false
theorem all_split {L : List Jvm.Cond} {P : Jvm.Cond → Bool} (h1 : L.all (fun c => isCode c || P c) = true) (h2 : ∀ c ∈ L.filter isCode, P c = true) : L.all P = true := by
  refine List.all_eq_true.mpr fun c hc => ?_
  have h := List.all_eq_true.mp h1 c hc
  rcases Bool.eq_false_or_eq_true (isCode c) with hi | hi
  · exact h2 c (List.mem_filter.mpr ⟨hc, hi⟩)
  · simpa [hi] using h
set_option maxRecDepth 65536 in
theorem w_c0 : (Jvm.Cond.code x code maxLocals ret).before args0 about1 = true := code_word (m := ⟨1, 1⟩) (meth := k1m1) (c := k1c1) (by decide +kernel) rfl rfl rfl (by decide +kernel)
set_option maxRecDepth 65536 in
theorem w_c1 : (Jvm.Cond.code ({ cls := "com/example/whenever/whenever/internal/engine/Rows", name := "<init>", desc := "(II)V" } : Jvm.MethodName) prog_105_method_1_code (3 : Nat) (Option.none : Option Jvm.ClassFile.FieldType)).before args0 about1 = true := code_word (m := ⟨2, 0⟩) (meth := k2m0) (c := k2c0) (by decide +kernel) rfl rfl rfl (by decide +kernel)
set_option maxRecDepth 65536 in
theorem w_c2 : (Jvm.Cond.code ({ cls := "java/lang/Object", name := "<init>", desc := "()V" } : Jvm.MethodName) object_method_1_code (1 : Nat) (Option.none : Option Jvm.ClassFile.FieldType)).before args0 about1 = true := code_word (m := ⟨0, 0⟩) (meth := k0m0) (c := k0c0) (by decide +kernel) rfl rfl rfl (by decide +kernel)
set_option maxRecDepth 65536 in
theorem w_c3 : (Jvm.Cond.code ({ cls := "com/example/whenever/whenever/internal/engine/Rows", name := "add", desc := "()I" } : Jvm.MethodName) prog_105_method_2_code (2 : Nat) (Option.some Jvm.ClassFile.FieldType.int)).before args0 about1 = true := code_word (m := ⟨2, 1⟩) (meth := k2m1) (c := k2c1) (by decide +kernel) rfl rfl rfl (by decide +kernel)
set_option maxRecDepth 65536 in
theorem w_c4 : (Jvm.Cond.code ({ cls := "com/example/whenever/whenever/internal/engine/Rows", name := "grow", desc := "()V" } : Jvm.MethodName) prog_105_method_3_code (2 : Nat) (Option.none : Option Jvm.ClassFile.FieldType)).before args0 about1 = true := code_word (m := ⟨2, 2⟩) (meth := k2m2) (c := k2c2) (by decide +kernel) rfl rfl rfl (by decide +kernel)
set_option maxRecDepth 65536 in
theorem w_c5 : (Jvm.Cond.code ({ cls := "java/lang/Math", name := "max", desc := "(II)I" } : Jvm.MethodName) jdk_29_method_65_code (2 : Nat) (Option.some Jvm.ClassFile.FieldType.int)).before args0 about1 = true := code_word (m := ⟨3, 1⟩) (meth := k3m1) (c := k3c1) (by decide +kernel) rfl rfl rfl (by decide +kernel)
set_option maxRecDepth 65536 in
theorem w_c6 : (Jvm.Cond.code ({ cls := "java/util/Arrays", name := "copyOf", desc := "([II)[I" } : Jvm.MethodName) jdk_65_method_123_code (3 : Nat) (Option.some (Jvm.ClassFile.FieldType.array Jvm.ClassFile.FieldType.int))).before args0 about1 = true := code_word (m := ⟨4, 3⟩) (meth := k4m3) (c := k4c3) (by decide +kernel) rfl rfl rfl (by decide +kernel)
set_option maxRecDepth 65536 in
theorem w_c7 : (Jvm.Cond.code ({ cls := "java/lang/Math", name := "min", desc := "(II)I" } : Jvm.MethodName) jdk_29_method_69_code (2 : Nat) (Option.some Jvm.ClassFile.FieldType.int)).before args0 about1 = true := code_word (m := ⟨3, 2⟩) (meth := k3m2) (c := k3c2) (by decide +kernel) rfl rfl rfl (by decide +kernel)
set_option maxRecDepth 65536 in
theorem w_c8 : (Jvm.Cond.code ({ cls := "java/util/Arrays", name := "copyOf", desc := "([Ljava/lang/Object;I)[Ljava/lang/Object;" } : Jvm.MethodName) jdk_65_method_119_code (2 : Nat) (Option.some (Jvm.ClassFile.FieldType.array (Jvm.ClassFile.FieldType.object "java/lang/Object")))).before args0 about1 = true := code_word (m := ⟨4, 1⟩) (meth := k4m1) (c := k4c1) (by decide +kernel) rfl rfl rfl (by decide +kernel)
set_option maxRecDepth 65536 in
theorem w_c9 : (Jvm.Cond.code ({ cls := "java/util/Arrays", name := "copyOf", desc := "([Ljava/lang/Object;ILjava/lang/Class;)[Ljava/lang/Object;" } : Jvm.MethodName) jdk_65_method_120_code (4 : Nat) (Option.some (Jvm.ClassFile.FieldType.array (Jvm.ClassFile.FieldType.object "java/lang/Object")))).before args0 about1 = true := code_word (m := ⟨4, 2⟩) (meth := k4m2) (c := k4c2) (by decide +kernel) rfl rfl rfl (by decide +kernel)
set_option maxRecDepth 65536 in
theorem w_c10 : (Jvm.Cond.code ({ cls := "com/example/whenever/whenever/internal/engine/Rows", name := "setInt", desc := "(III)V" } : Jvm.MethodName) prog_105_method_8_code (4 : Nat) (Option.none : Option Jvm.ClassFile.FieldType)).before args0 about1 = true := code_word (m := ⟨2, 4⟩) (meth := k2m4) (c := k2c4) (by decide +kernel) rfl rfl rfl (by decide +kernel)
set_option maxRecDepth 65536 in
theorem w_c11 : (Jvm.Cond.code ({ cls := "com/example/whenever/whenever/internal/engine/Rows", name := "getInt", desc := "(II)I" } : Jvm.MethodName) prog_105_method_7_code (3 : Nat) (Option.some Jvm.ClassFile.FieldType.int)).before args0 about1 = true := code_word (m := ⟨2, 3⟩) (meth := k2m3) (c := k2c3) (by decide +kernel) rfl rfl rfl (by decide +kernel)
def codes1 : List Jvm.Cond := [Jvm.Cond.code x code maxLocals ret, Jvm.Cond.code ({ cls := "com/example/whenever/whenever/internal/engine/Rows", name := "<init>", desc := "(II)V" } : Jvm.MethodName) prog_105_method_1_code (3 : Nat) (Option.none : Option Jvm.ClassFile.FieldType), Jvm.Cond.code ({ cls := "java/lang/Object", name := "<init>", desc := "()V" } : Jvm.MethodName) object_method_1_code (1 : Nat) (Option.none : Option Jvm.ClassFile.FieldType), Jvm.Cond.code ({ cls := "com/example/whenever/whenever/internal/engine/Rows", name := "add", desc := "()I" } : Jvm.MethodName) prog_105_method_2_code (2 : Nat) (Option.some Jvm.ClassFile.FieldType.int), Jvm.Cond.code ({ cls := "com/example/whenever/whenever/internal/engine/Rows", name := "grow", desc := "()V" } : Jvm.MethodName) prog_105_method_3_code (2 : Nat) (Option.none : Option Jvm.ClassFile.FieldType), Jvm.Cond.code ({ cls := "java/lang/Math", name := "max", desc := "(II)I" } : Jvm.MethodName) jdk_29_method_65_code (2 : Nat) (Option.some Jvm.ClassFile.FieldType.int), Jvm.Cond.code ({ cls := "java/util/Arrays", name := "copyOf", desc := "([II)[I" } : Jvm.MethodName) jdk_65_method_123_code (3 : Nat) (Option.some (Jvm.ClassFile.FieldType.array Jvm.ClassFile.FieldType.int)), Jvm.Cond.code ({ cls := "java/lang/Math", name := "min", desc := "(II)I" } : Jvm.MethodName) jdk_29_method_69_code (2 : Nat) (Option.some Jvm.ClassFile.FieldType.int), Jvm.Cond.code ({ cls := "java/util/Arrays", name := "copyOf", desc := "([Ljava/lang/Object;I)[Ljava/lang/Object;" } : Jvm.MethodName) jdk_65_method_119_code (2 : Nat) (Option.some (Jvm.ClassFile.FieldType.array (Jvm.ClassFile.FieldType.object "java/lang/Object"))), Jvm.Cond.code ({ cls := "java/util/Arrays", name := "copyOf", desc := "([Ljava/lang/Object;ILjava/lang/Class;)[Ljava/lang/Object;" } : Jvm.MethodName) jdk_65_method_120_code (4 : Nat) (Option.some (Jvm.ClassFile.FieldType.array (Jvm.ClassFile.FieldType.object "java/lang/Object"))), Jvm.Cond.code ({ cls := "com/example/whenever/whenever/internal/engine/Rows", name := "setInt", desc := "(III)V" } : Jvm.MethodName) prog_105_method_8_code (4 : Nat) (Option.none : Option Jvm.ClassFile.FieldType), Jvm.Cond.code ({ cls := "com/example/whenever/whenever/internal/engine/Rows", name := "getInt", desc := "(II)I" } : Jvm.MethodName) prog_105_method_7_code (3 : Nat) (Option.some Jvm.ClassFile.FieldType.int)]
set_option maxRecDepth 65536 in
theorem codes_eq : words1.filter isCode = codes1 := rfl
theorem w_codes : ∀ c ∈ words1.filter isCode, c.before args0 about1 = true := by
  rw [codes_eq]
  intro c hc
  simp only [codes1, List.mem_cons, List.not_mem_nil, or_false] at hc
  rcases hc with rfl | rfl | rfl | rfl | rfl | rfl | rfl | rfl | rfl | rfl | rfl | rfl
  · exact w_c0
  · exact w_c1
  · exact w_c2
  · exact w_c3
  · exact w_c4
  · exact w_c5
  · exact w_c6
  · exact w_c7
  · exact w_c8
  · exact w_c9
  · exact w_c10
  · exact w_c11
set_option maxRecDepth 65536 in
theorem w_t1 : (words1.take 24).all (fun c => isCode c || c.before args0 about1) = true := by decide +kernel
set_option maxRecDepth 65536 in
theorem w_t2 : ((words1.drop 24).take 24).all (fun c => isCode c || c.before args0 about1) = true := by decide +kernel
set_option maxRecDepth 65536 in
theorem w_t3 : (((words1.drop 24).drop 24).take 24).all (fun c => isCode c || c.before args0 about1) = true := by decide +kernel
set_option maxRecDepth 65536 in
theorem w_t4 : (((words1.drop 24).drop 24).drop 24).all (fun c => isCode c || c.before args0 about1) = true := by decide +kernel
theorem w_tables : (allAtoms (Jvm.Cond.code x code maxLocals ret :: tables_1)).before args0 about1 = true := by
  rw [allAtoms_all]
  show words1.all (fun c => c.before args0 about1) = true
  refine all_split ?_ w_codes
  rw [← List.take_append_drop 24 words1, List.all_append, w_t1, ← List.take_append_drop 24 (words1.drop 24), List.all_append, w_t2, ← List.take_append_drop 24 ((words1.drop 24).drop 24), List.all_append, w_t3, w_t4]
  rfl
set_option maxRecDepth 65536 in
theorem w_case : (Jvm.Cond.and given_1 narrow_1).before args0 about1 = true := by decide +kernel
theorem w_applies : (headSpec (Jvm.Cond.code x code maxLocals ret :: tables_1) room_1).applies x e0.platform about1 = true :=
  (Spec.applies_iff w_frames).mpr ⟨w_running, w_runnable, w_alone, w_named, w_hears, w_ripe, w_room, w_tables⟩
theorem atStart : AtStart classFile x code maxLocals ret World_1 tables_1 room_1 Calls_1 rest_1 Pre_1 launch0 p0 e0 about1 theMethod args0 below0 :=
  ⟨lists_1, trivial, launch0.admits_env _ _ _, launch0.least_env, fairChoices_fair.cas, fairChoices_fair.clock, w_frames, w_args, w_heap, w_applies, ⟨⟨13, k13, 1, by decide +kernel, rfl, rfl, _, rfl, rfl⟩, trivial⟩, trivial, w_case⟩
end start1
theorem witness_1 : WitnessClaimed_1 := ⟨start1.p0, start1.e0, start1.about1, start1.theMethod, start1.args0, start1.below0, start1.atStart⟩
end Jvm.Pilot.@@N@@
