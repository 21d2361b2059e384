import JvmDerived
import JvmDerived.Pilot.@@N@@Statement
import JvmDerived.Pilot.@@N@@Code
set_option linter.unusedVariables false
set_option linter.unusedSimpArgs false
namespace Jvm.Pilot.@@N@@
open Jvm Jvm.ClassFile Sem Op Lib Jvm.Free Jvm.Stand Jvm.LawKit Jvm.RoadKit Bundle Jvm.Pilot.@@N@@.Jvm.D
def own_Go (p : Program) (e : Env) (below : List Frame) (s : State) (Q : Option Value → Heap → List Loc → Prop) (kc ks : Nat) (A : State) : Prop :=
  ∃ s₂ o, Steps p.tables e below A s₂ ∧ s₂.status = .running ∧ Ended s₂ below o ∧ ∃ v L, o = .returned v ∧ Q v s₂.heap L ∧ FrameEnd s o s₂ L kc ks
section OwnLayer
variable {p : Program} {l : Launch} {e : Env} {R : Room} {s : State} {m : MethodId} {args : Array Value} {below : List Frame} {meth : Method} {c : Code} {T : State} {locs : List Loc} {cells slots : Nat}
variable {Q : Option Value → Heap → List Loc → Prop} {kc ks : Nat} {A B : State}
theorem own_via (h : ∀ t, Steps p.tables e below B t → Steps p.tables e below A t) (g : own_Go p e below s Q kc ks B) : own_Go p e below s Q kc ks A := by
  obtain ⟨t, o, h1, r⟩ := g
  exact ⟨t, o, h _ h1, r⟩
theorem own_tr (h : Steps p.tables e below A B) (g : own_Go p e below s Q kc ks B) : own_Go p e below s Q kc ks A := by
  obtain ⟨t, o, h1, r⟩ := g
  exact ⟨t, o, h.trans h1, r⟩
theorem own_end (X : Stand p l e R s m args below meth c T locs cells slots) (hlk : meth.locks = false) {v : Option Value} (hv : meth.sig.returnType = none → v = none) {A : State}
    (hstep : ∀ fs, (∀ (f : JFrame) (acts : List Action), f.method = m → f.locked = none → f.entered = [] → (doReturn e (T.setTop f) acts v).1 = T.setFrames fs) → Steps p.tables e below A (T.setFrames fs))
    (hQ : Q v T.heap locs) (hc : cells ≤ kc) (hs : slots ≤ ks) : own_Go p e below s Q kc ks A := by
  obtain ⟨fs, hr, hrun, hended, hW, hsame⟩ := X.leave (v := v) hv hlk
  exact ⟨_, _, hstep fs hr, hrun, hended, _, _, rfl, hQ, ⟨_, rfl⟩, hW, hsame.mono hc hs⟩
theorem own_retZ (X : Stand p l e R s m args below meth c T locs cells slots) (hx : p.tables.exec = Jvm.exec) (hlk : meth.locks = false) {pc : Nat} {Ls : Array Slot} {z z' : Int32} {t : FieldType} {rest : List Value} (hret : meth.sig.returnType = some t) (ht : t = .boolean ∨ t = .byte ∨ t = .char ∨ t = .short)
    (hd : decode c.code pc = .ok (.ireturn, 1)) (hz : nar t z = z') (hQ : Q (some (.int z')) T.heap locs) (hc : cells ≤ kc) (hs : slots ≤ ks) : own_Go p e below s Q kc ks (T.setTop (mkF m pc Ls (.int z :: rest))) := by
  subst hz
  exact own_end X hlk (fun h => by rw [hret] at h; cases h) (fun fs hr => retN X hx hret ht hd hr) hQ hc hs
theorem own_retO (X : Stand p l e R s m args below meth c T locs cells slots) (hx : p.tables.exec = Jvm.exec) (hlk : meth.locks = false) {pc : Nat} {Ls : Array Slot} {w : Value} {t : FieldType} {i : Instr} {rest : List Value} (hret : meth.sig.returnType = some t) (hn : narrow t w = w)
    (hi : (i = .ireturn ∧ (t = .int ∨ t = .boolean ∨ t = .byte ∨ t = .char ∨ t = .short) ∧ ∃ z, w = .int z) ∨ (i = .lreturn ∧ t = .long ∧ ∃ z, w = .long z) ∨ (i = .dreturn ∧ t = .double ∧ ∃ z, w = .double z) ∨ (i = .freturn ∧ t = .float ∧ ∃ z, w = .float z) ∨ (i = .areturn ∧ t.isReference = true ∧ w.isRef = true))
    (hd : decode c.code pc = .ok (i, 1)) (hQ : Q (some w) T.heap locs) (hc : cells ≤ kc) (hs : slots ≤ ks) : own_Go p e below s Q kc ks (T.setTop (mkF m pc Ls (w :: rest))) :=
  own_end X hlk (fun h => by rw [hret] at h; cases h) (fun fs hr => retOut X hx hret hn hi hd hr) hQ hc hs
theorem own_retI (X : Stand p l e R s m args below meth c T locs cells slots) (hx : p.tables.exec = Jvm.exec) (hlk : meth.locks = false) {pc : Nat} {Ls : Array Slot} {z : Int32} {rest : List Value} (hret : meth.sig.returnType = some .int)
    (hd : decode c.code pc = .ok (.ireturn, 1)) (hQ : Q (some (.int z)) T.heap locs) (hc : cells ≤ kc) (hs : slots ≤ ks) : own_Go p e below s Q kc ks (T.setTop (mkF m pc Ls (.int z :: rest))) :=
  own_retO X hx hlk hret rfl (Or.inl ⟨rfl, Or.inl rfl, _, rfl⟩) hd hQ hc hs
theorem own_retJ (X : Stand p l e R s m args below meth c T locs cells slots) (hx : p.tables.exec = Jvm.exec) (hlk : meth.locks = false) {pc : Nat} {Ls : Array Slot} {z : Int64} {rest : List Value} (hret : meth.sig.returnType = some .long)
    (hd : decode c.code pc = .ok (.lreturn, 1)) (hQ : Q (some (.long z)) T.heap locs) (hc : cells ≤ kc) (hs : slots ≤ ks) : own_Go p e below s Q kc ks (T.setTop (mkF m pc Ls (.long z :: rest))) :=
  own_retO X hx hlk hret rfl (Or.inr (Or.inl ⟨rfl, rfl, _, rfl⟩)) hd hQ hc hs
theorem own_retR (X : Stand p l e R s m args below meth c T locs cells slots) (hx : p.tables.exec = Jvm.exec) (hlk : meth.locks = false) {pc : Nat} {Ls : Array Slot} {w : Value} {t : FieldType} {rest : List Value} (hret : meth.sig.returnType = some t) (ht : t.isReference = true) (hw : w.isRef = true)
    (hd : decode c.code pc = .ok (.areturn, 1)) (hQ : Q (some w) T.heap locs) (hc : cells ≤ kc) (hs : slots ≤ ks) : own_Go p e below s Q kc ks (T.setTop (mkF m pc Ls (w :: rest))) :=
  own_retO X hx hlk hret (by cases t <;> first | (cases ht; done) | rfl) (Or.inr (Or.inr (Or.inr (Or.inr ⟨rfl, ht, hw⟩)))) hd hQ hc hs
theorem own_retV (X : Stand p l e R s m args below meth c T locs cells slots) (hx : p.tables.exec = Jvm.exec) (hlk : meth.locks = false) {pc : Nat} {Ls : Array Slot} (hret : meth.sig.returnType = none)
    (hd : decode c.code pc = .ok (.return_, 1)) (hQ : Q none T.heap locs) (hc : cells ≤ kc) (hs : slots ≤ ks) : own_Go p e below s Q kc ks (T.setTop (mkF m pc Ls [])) :=
  own_end X hlk (fun _ => rfl) (fun fs hr => X.returnOut hx hret hd hr) hQ hc hs
end OwnLayer
theorem own_eqv {args : Array Value} {Z : State} {t : Term} {k : Int32} (h : (Jvm.Cond.eq t (Term.int k)).value args Z none Z [] = some true) : t.eval args Z none [] Z = some (.int k) := by
  simp only [Jvm.Cond.value, Term.eval] at h
  cases ht : t.eval args Z none [] Z with
  | none => simp [ht] at h
  | some x => cases x <;> simp [ht] at h ⊢; exact h
theorem own_eqvL {args : Array Value} {Z : State} {t : Term} {k : Int64} (h : (Jvm.Cond.eq t (Term.long k)).value args Z none Z [] = some true) : t.eval args Z none [] Z = some (.long k) := by
  simp only [Jvm.Cond.value, Term.eval] at h
  cases ht : t.eval args Z none [] Z with
  | none => simp [ht] at h
  | some x => cases x <;> simp [ht] at h ⊢; exact h
theorem own_fld {args : Array Value} {Z : State} {t : Term} {C n d : String} {a : Addr} {k : Int32} (ev : t.eval args Z none [] Z = some (.ref a)) (h : (Jvm.Cond.eq (Term.field t C n d) (Term.int k)).value args Z none Z [] = some true) : Fld Z Z.heap a C n d (.int k) :=
  Fld.start ((fld_at ev).symm.trans (own_eqv h))
theorem own_fldL {args : Array Value} {Z : State} {t : Term} {C n d : String} {a : Addr} {k : Int64} (ev : t.eval args Z none [] Z = some (.ref a)) (h : (Jvm.Cond.eq (Term.field t C n d) (Term.long k)).value args Z none Z [] = some true) : Fld Z Z.heap a C n d (.long k) :=
  Fld.start ((fld_at ev).symm.trans (own_eqvL h))
theorem own_mod (x : Int32) (n : Int32) (k : Int) (hn : n.toInt = k) (hk : 0 < k) : 0 ≤ ((x &&& 2147483647) % n).toInt ∧ ((x &&& 2147483647) % n).toInt < k := by
  have h := (c_and x 2147483647 (by decide)).1
  rw [Int32.toInt_mod, hn, Int.tmod_eq_emod_of_nonneg h]
  exact ⟨Int.emod_nonneg _ (by omega), Int.emod_lt_of_pos _ hk⟩
theorem own_z {x y : Int32} (h : x.toInt = y.toInt) : x = y := Int32.toInt_inj.mp h
theorem own_mod3 (x : Int32) : (x &&& 2147483647) % 3 = 0 ∨ (x &&& 2147483647) % 3 = 1 ∨ (x &&& 2147483647) % 3 = 2 := by
  have h := own_mod x 3 3 rfl (by decide)
  simp only [← Int32.toInt_inj, show (0 : Int32).toInt = 0 from rfl, show (1 : Int32).toInt = 1 from rfl, show (2 : Int32).toInt = 2 from rfl]
  omega
theorem own_mod5 (x : Int32) : (x &&& 2147483647) % 5 = 0 ∨ (x &&& 2147483647) % 5 = 1 ∨ (x &&& 2147483647) % 5 = 2 ∨ (x &&& 2147483647) % 5 = 3 ∨ (x &&& 2147483647) % 5 = 4 := by
  have h := own_mod x 5 5 rfl (by decide)
  simp only [← Int32.toInt_inj, show (0 : Int32).toInt = 0 from rfl, show (1 : Int32).toInt = 1 from rfl, show (2 : Int32).toInt = 2 from rfl, show (3 : Int32).toInt = 3 from rfl, show (4 : Int32).toInt = 4 from rfl]
  omega
theorem own_mod6 (x : Int32) : (x &&& 2147483647) % 6 = 0 ∨ (x &&& 2147483647) % 6 = 1 ∨ (x &&& 2147483647) % 6 = 2 ∨ (x &&& 2147483647) % 6 = 3 ∨ (x &&& 2147483647) % 6 = 4 ∨ (x &&& 2147483647) % 6 = 5 := by
  have h := own_mod x 6 6 rfl (by decide)
  simp only [← Int32.toInt_inj, show (0 : Int32).toInt = 0 from rfl, show (1 : Int32).toInt = 1 from rfl, show (2 : Int32).toInt = 2 from rfl, show (3 : Int32).toInt = 3 from rfl, show (4 : Int32).toInt = 4 from rfl, show (5 : Int32).toInt = 5 from rfl]
  omega
theorem own_and1 (x : Int32) : x &&& 1 = 0 ∨ x &&& 1 = 1 := by
  have h := c_and x 1 (by decide)
  simp only [← Int32.toInt_inj, show (0 : Int32).toInt = 0 from rfl, show (1 : Int32).toInt = 1 from rfl] at *
  omega
theorem own_and3 (x : Int32) : x &&& 3 = 0 ∨ x &&& 3 = 1 ∨ x &&& 3 = 2 ∨ x &&& 3 = 3 := by
  have h := c_and x 3 (by decide)
  simp only [← Int32.toInt_inj, show (0 : Int32).toInt = 0 from rfl, show (1 : Int32).toInt = 1 from rfl, show (2 : Int32).toInt = 2 from rfl, show (3 : Int32).toInt = 3 from rfl] at *
  omega
theorem own_n0 {x : Int32} (h : 1 ≤ x.toInt) : ¬ (x = (0 : Int32)) := fun e => by rw [e] at h; exact absurd h (by decide)
theorem own_nneg {x : Int32} (h : 1 ≤ x.toInt) : ¬ (x < (0 : Int32)) := by
  rw [Int32.lt_iff_toInt_lt]; have : (0 : Int32).toInt = 0 := rfl
  omega
theorem own_cap {x : Int32} (h : x.toInt ≤ 32) : x.toNatClampNeg ≤ 32 := by simp only [Int32.toNatClampNeg]; omega
theorem own_m8 {x : Int32} (h1 : 0 ≤ x.toInt) (h2 : x.toInt ≤ 4) : ((8 : Int32) * x).toInt = 8 * x.toInt := by
  have h := c_imul 8 x
  have e : (8 : Int32).toInt = 8 := rfl
  rw [e] at h
  have r := rng32 ((8 : Int32) * x)
  omega
theorem own_m8a {x : Int32} (h1 : 0 ≤ x.toInt) (h2 : x.toInt ≤ 4) : 0 ≤ ((8 : Int32) * x).toInt := by rw [own_m8 h1 h2]; omega
theorem own_m8b {x : Int32} (h1 : 0 ≤ x.toInt) (h2 : x.toInt ≤ 4) : ((8 : Int32) * x).toInt ≤ 32 := by rw [own_m8 h1 h2]; omega
theorem own_m8c {x : Int32} (h1 : 1 ≤ x.toInt) (h2 : x.toInt ≤ 4) : 1 ≤ ((8 : Int32) * x).toInt := by rw [own_m8 (by omega) h2]; omega
theorem own_m8d {x : Int32} (h1 : 1 ≤ x.toInt) (h2 : x.toInt ≤ 4) : ((8 : Int32) * x).toInt ≤ 32 := by rw [own_m8 (by omega) h2]; omega
theorem own_r4 (x : Int32) : 0 ≤ (x &&& 3).toInt ∧ (x &&& 3).toInt ≤ 4 := by
  have h := c_and x 3 (by decide)
  have e : (3 : Int32).toInt = 3 := rfl
  rw [e] at h; omega
theorem own_a3 (x : Int32) : 0 ≤ (x &&& 3).toInt ∧ (x &&& 3).toInt < ((4 : Int32).toNatClampNeg : Nat) := by
  have h := c_and x 3 (by decide)
  have e : (3 : Int32).toInt = 3 := rfl
  have e2 : (4 : Int32).toNatClampNeg = 4 := rfl
  rw [e] at h; rw [e2]; omega
theorem own_inb {c : Cell} {j : Int32} {n : Nat} (S : c.slots.size = n) (h0 : 0 ≤ j.toInt) (h1 : j.toInt < n) : ¬ (j < 0 ∨ c.slots.size ≤ j.toNatClampNeg) := by
  rw [S, Int32.lt_iff_toInt_lt]; have e : (0 : Int32).toInt = 0 := rfl
  simp only [Int32.toNatClampNeg]; omega
theorem own_giv {c : Cell} {a b d e : Int32} (H : Has c [.int a, .int b, .int d, .int e] (.int 0)) (S : c.slots.size = (4 : Int32).toNatClampNeg) {j : Int32} (hj : ¬ (j < 0 ∨ c.slots.size ≤ j.toNatClampNeg))
    (ha : 1 ≤ a.toInt ∧ a.toInt ≤ 4) (hb : 1 ≤ b.toInt ∧ b.toInt ≤ 4) (hd : 1 ≤ d.toInt ∧ d.toInt ≤ 4) (he : 1 ≤ e.toInt ∧ e.toInt ≤ 4) : ∃ r : Int32, c.slots[j.toNatClampNeg]? = some (.int r) ∧ 1 ≤ r.toInt ∧ r.toInt ≤ 4 := by
  have hlt : j.toNatClampNeg < c.slots.size := Nat.lt_of_not_le fun q => hj (Or.inr q)
  have h := H _ hlt
  have h4 : j.toNatClampNeg < 4 := by rw [S] at hlt; exact hlt
  generalize j.toNatClampNeg = n at h h4 ⊢
  match n, h4 with
  | 0, _ => exact ⟨a, h, ha⟩
  | 1, _ => exact ⟨b, h, hb⟩
  | 2, _ => exact ⟨d, h, hd⟩
  | 3, _ => exact ⟨e, h, he⟩
theorem own_blk {r : Int32} (h : 1 ≤ r.toInt ∧ r.toInt ≤ 4) : ((r.toUInt32 >>> ((12 : Int32) &&& 31).toUInt32).toInt32) = (0 : Int32) := by
  have q := c_iushr r 12 12 (by decide) (by decide)
  rw [← Int32.toInt_inj, q]
  have e : (0 : Int32).toInt = 0 := rfl
  rw [e]; omega
theorem own_ixG {r f kk : Int32} {K : Int} (hK : kk.toInt = K) (h1 : 1 ≤ K) (h4 : K ≤ 4) (hr : 1 ≤ r.toInt ∧ r.toInt ≤ 4) (hf : 0 ≤ f.toInt ∧ f.toInt < K) (hm : 0 ≤ r.toInt * K ∧ r.toInt * K ≤ 16) : (((r &&& (4095 : Int32)) * kk) + f).toInt = r.toInt * K + f.toInt := by
  have a := c_mask r 4095 12 (by decide) (by decide)
  have b := c_imul (r &&& 4095) kk
  have c := c_iadd ((r &&& 4095) * kk) f
  have rb := rng32 ((r &&& 4095) * kk)
  have rc := rng32 (((r &&& 4095) * kk) + f)
  have a' : (r &&& 4095).toInt = r.toInt := by rw [a]; omega
  rw [a', hK] at b
  omega
theorem own_ix1 {r f : Int32} (hr : 1 ≤ r.toInt ∧ r.toInt ≤ 4) (hf : 0 ≤ f.toInt ∧ f.toInt < 1) : (((r &&& (4095 : Int32)) * ((1 : Int32) + (0 : Int32))) + f).toInt = r.toInt * 1 + f.toInt := own_ixG rfl (by decide) (by decide) hr hf (by omega)
theorem own_ix2 {r f : Int32} (hr : 1 ≤ r.toInt ∧ r.toInt ≤ 4) (hf : 0 ≤ f.toInt ∧ f.toInt < 2) : (((r &&& (4095 : Int32)) * ((1 : Int32) + (1 : Int32))) + f).toInt = r.toInt * 2 + f.toInt := own_ixG rfl (by decide) (by decide) hr hf (by omega)
theorem own_ix3 {r f : Int32} (hr : 1 ≤ r.toInt ∧ r.toInt ≤ 4) (hf : 0 ≤ f.toInt ∧ f.toInt < 3) : (((r &&& (4095 : Int32)) * ((1 : Int32) + (2 : Int32))) + f).toInt = r.toInt * 3 + f.toInt := own_ixG rfl (by decide) (by decide) hr hf (by omega)
theorem own_ix4 {r f : Int32} (hr : 1 ≤ r.toInt ∧ r.toInt ≤ 4) (hf : 0 ≤ f.toInt ∧ f.toInt < 4) : (((r &&& (4095 : Int32)) * ((1 : Int32) + (3 : Int32))) + f).toInt = r.toInt * 4 + f.toInt := own_ixG rfl (by decide) (by decide) hr hf (by omega)
theorem own_inx {c : Cell} {j r f : Int32} {K : Int} {n : Nat} (S : c.slots.size = n) (ix : j.toInt = r.toInt * K + f.toInt) (hr : 1 ≤ r.toInt ∧ r.toInt ≤ 4) (hf : 0 ≤ f.toInt ∧ f.toInt < K) (hn : (n : Int) = 8 * K := by rfl) : ¬ (j < 0 ∨ c.slots.size ≤ j.toNatClampNeg) := by
  have h1 : r.toInt * K ≤ 4 * K := Int.mul_le_mul_of_nonneg_right hr.2 (by omega)
  have h2 : 0 ≤ r.toInt * K := Int.mul_nonneg (by omega) (by omega)
  refine own_inb S (by omega) (by omega)
theorem own_neG {i j r f r' f' : Int32} {K : Int} (h1 : i.toInt = r.toInt * K + f.toInt) (h2 : j.toInt = r'.toInt * K + f'.toInt) (hf : 0 ≤ f.toInt ∧ f.toInt < K) (hf' : 0 ≤ f'.toInt ∧ f'.toInt < K) (ne : ¬ (r = r') ∨ ¬ (f = f')) : ¬ (i = j) := fun e => by
  subst e
  have q : (r.toInt - r'.toInt) * K = f'.toInt - f.toInt := by rw [Int.sub_mul]; omega
  have rr : r.toInt = r'.toInt := by
    rcases Int.lt_trichotomy (r.toInt) (r'.toInt) with h | h | h
    · have : (r.toInt - r'.toInt) * K ≤ (-1) * K := Int.mul_le_mul_of_nonneg_right (by omega) (by omega)
      omega
    · exact h
    · have : 1 * K ≤ (r.toInt - r'.toInt) * K := Int.mul_le_mul_of_nonneg_right (by omega) (by omega)
      omega
  rcases ne with h | h
  · exact h (Int32.toInt_inj.mp rr)
  · refine h (Int32.toInt_inj.mp ?_)
    rw [rr, Int.sub_self, Int.zero_mul] at q; omega
theorem own_ne1 {i j r f r' f' : Int32} (h1 : i.toInt = r.toInt * 1 + f.toInt) (h2 : j.toInt = r'.toInt * 1 + f'.toInt) (hf : 0 ≤ f.toInt ∧ f.toInt < 1) (hf' : 0 ≤ f'.toInt ∧ f'.toInt < 1) (ne : ¬ (r = r') ∨ ¬ (f = f')) : ¬ (i = j) := own_neG h1 h2 hf hf' ne
theorem own_ne2 {i j r f r' f' : Int32} (h1 : i.toInt = r.toInt * 2 + f.toInt) (h2 : j.toInt = r'.toInt * 2 + f'.toInt) (hf : 0 ≤ f.toInt ∧ f.toInt < 2) (hf' : 0 ≤ f'.toInt ∧ f'.toInt < 2) (ne : ¬ (r = r') ∨ ¬ (f = f')) : ¬ (i = j) := own_neG h1 h2 hf hf' ne
theorem own_ne3 {i j r f r' f' : Int32} (h1 : i.toInt = r.toInt * 3 + f.toInt) (h2 : j.toInt = r'.toInt * 3 + f'.toInt) (hf : 0 ≤ f.toInt ∧ f.toInt < 3) (hf' : 0 ≤ f'.toInt ∧ f'.toInt < 3) (ne : ¬ (r = r') ∨ ¬ (f = f')) : ¬ (i = j) := own_neG h1 h2 hf hf' ne
theorem own_ne4 {i j r f r' f' : Int32} (h1 : i.toInt = r.toInt * 4 + f.toInt) (h2 : j.toInt = r'.toInt * 4 + f'.toInt) (hf : 0 ≤ f.toInt ∧ f.toInt < 4) (hf' : 0 ≤ f'.toInt ∧ f'.toInt < 4) (ne : ¬ (r = r') ∨ ¬ (f = f')) : ¬ (i = j) := own_neG h1 h2 hf hf' ne
theorem own_fb {x kk : Int32} {K : Int} (hK : kk.toInt = K) (h1 : 0 < K) (hx : 0 ≤ x.toInt) : 0 ≤ (x % kk).toInt ∧ (x % kk).toInt < K := by
  have q := (c_irem x kk K hK).1 hx
  rw [q]; exact ⟨Int.emod_nonneg _ (by omega), Int.emod_lt_of_pos _ h1⟩
theorem own_empty {Z : State} {args : Array Value} {t : Term} {a : Addr} {cl : Cell} {ty : FieldType} {dv : Value} (hf : Fit Z) (A : Arr Z Z.heap a cl ty) (ev : t.eval args Z none [] Z = some (.ref a)) (h : (Jvm.Cond.eq (Term.length t) (Term.int 0)).value args Z none Z [] = some true) : Arv Z Z.heap a cl.cls ty 0 [] dv := by
  have e := own_eqv h
  have ha : Z.arrayAt? a = some cl := A.fin (Vm.Alike.refl _)
  simp [Term.eval, ev, ha] at e
  exact Arv.start hf A (by simpa using e.1) e.2 (by decide) rfl trivial
theorem own_r1 (x : Int32) : 0 ≤ (x &&& 1).toInt ∧ (x &&& 1).toInt ≤ 4 := by
  have h := c_and x 1 (by decide)
  have e : (1 : Int32).toInt = 1 := rfl
  rw [e] at h; omega
theorem own_p31 (x : Int32) : 0 ≤ (x &&& 2147483647).toInt := (c_and x 2147483647 (by decide)).1
theorem own_f1 {f : Int32} {K : Int} (hK : K ≤ 4) (h : 0 ≤ f.toInt ∧ f.toInt < K) : 0 ≤ (f + (1 : Int32)).toInt := by
  have q := c_iadd f 1
  have e : (1 : Int32).toInt = 1 := rfl
  have r := rng32 (f + 1)
  rw [e] at q; omega
theorem own_cat {v : Value} (h : v.isRef = true) : v.category = 1 := by rcases ref_cases h with rfl | ⟨a, rfl⟩ <;> rfl
theorem own_store1 {l l' : Array Slot} {i : Nat} {v : Value} (h : l[i]? = some .unset) (hv : v.isRef = true) (e : l.setIfInBounds i (.val v) = l') : storeLocals l i v = some l' := by
  rw [← e]
  exact XS.store1 h (Or.inl rfl) (by rcases ref_cases hv with rfl | ⟨a, rfl⟩ <;> rfl)
theorem own_ci {x : Int32} (h1 : ¬ (x < (-128 : Int32))) (h2 : ¬ ((127 : Int32) < x)) : 0 ≤ (x + (128 : Int32)).toInt ∧ (x + (128 : Int32)).toInt < (256 : Nat) := by
  rw [Int32.lt_iff_toInt_lt] at h1 h2
  have e1 : (-128 : Int32).toInt = -128 := rfl
  have e2 : (127 : Int32).toInt = 127 := rfl
  have e3 : (128 : Int32).toInt = 128 := rfl
  have q := c_iadd x 128
  have r := rng32 (x + 128)
  rw [e3] at q; omega
def own_exp (row field rA fA : Int32) (va : Value) (rB fB : Int32) (vb : Value) : Value := if row = rB ∧ field = fB then vb else if row = rA ∧ field = fA then va else .null
theorem own_expB {x0 x1 x2 x3 x5 x6 : Int32} {va vb : Value} (h1 : x0 = x5) (h2 : x1 = x6) : own_exp x0 x1 x2 x3 va x5 x6 vb = vb := if_pos ⟨h1, h2⟩
theorem own_expA {x0 x1 x2 x3 x5 x6 : Int32} {va vb : Value} (h : ¬ (x0 = x5 ∧ x1 = x6)) (h1 : x0 = x2) (h2 : x1 = x3) : own_exp x0 x1 x2 x3 va x5 x6 vb = va := (if_neg h).trans (if_pos ⟨h1, h2⟩)
theorem own_expN {x0 x1 x2 x3 x5 x6 : Int32} {va vb : Value} (h : ¬ (x0 = x5 ∧ x1 = x6)) (h1 : ¬ (x0 = x2 ∧ x1 = x3)) : own_exp x0 x1 x2 x3 va x5 x6 vb = .null := (if_neg h).trans (if_neg h1)
theorem own_lt1 {x : Int32} (h : 1 ≤ x.toInt) : ¬ (x < (1 : Int32)) := by
  rw [Int32.lt_iff_toInt_lt]
  have e : (1 : Int32).toInt = 1 := rfl
  omega
theorem own_k4 (x : Int32) : 1 ≤ ((1 : Int32) + (x &&& 3)).toInt ∧ ((1 : Int32) + (x &&& 3)).toInt ≤ 4 := by
  have q := own_a3 x
  have e : (1 : Int32).toInt = 1 := rfl
  have e4 : (4 : Int32).toNatClampNeg = 4 := rfl
  have r := c_iadd 1 (x &&& 3)
  have t := rng32 ((1 : Int32) + (x &&& 3))
  rw [e] at r; rw [e4] at q; omega
theorem own_hm {r K : Int} (hr : 1 ≤ r ∧ r ≤ 4) (h1 : 1 ≤ K) (h4 : K ≤ 4) : 0 ≤ r * K ∧ r * K ≤ 16 := by
  have : K = 1 ∨ K = 2 ∨ K = 3 ∨ K = 4 := by omega
  rcases this with rfl | rfl | rfl | rfl <;> omega
theorem own_ixR {r f rf : Int32} (hK : 1 ≤ rf.toInt ∧ rf.toInt ≤ 4) (hr : 1 ≤ r.toInt ∧ r.toInt ≤ 4) (hf : 0 ≤ f.toInt ∧ f.toInt < rf.toInt) : (((r &&& (4095 : Int32)) * rf) + f).toInt = r.toInt * rf.toInt + f.toInt := own_ixG rfl hK.1 hK.2 hr hf (own_hm hr hK.1 hK.2)
theorem own_n8 {rf : Int32} (hK : 1 ≤ rf.toInt ∧ rf.toInt ≤ 4) : ((((8 : Int32) * rf).toNatClampNeg : Nat) : Int) = 8 * rf.toInt := by
  have q := own_m8 (x := rf) (by omega) hK.2
  simp only [Int32.toNatClampNeg]; omega
theorem own_p255 (x : Int32) : 0 ≤ (x &&& 255).toInt := (c_and x 255 (by decide)).1
theorem own_or {p q : Prop} (h : ¬ (p ∧ q)) : ¬ p ∨ ¬ q := by
  by_cases a : p
  · exact Or.inr fun b => h ⟨a, b⟩
  · exact Or.inl a
theorem own_exp_ref {x0 x1 x2 x3 x5 x6 : Int32} {va vb : Value} (ha : va.isRef = true) (hb : vb.isRef = true) : (own_exp x0 x1 x2 x3 va x5 x6 vb).isRef = true := by
  unfold own_exp; split
  · exact hb
  · split
    · exact ha
    · rfl
theorem own_at {c : Cell} {n : Nat} {K : Int} {r f rA fA rB fB jr jA jB : Int32} {va vb : Value} (S : c.slots.size = n) (hn : (n : Int) = 8 * K)
    (N : ∀ j : Int32, ¬ (j < 0 ∨ c.slots.size ≤ j.toNatClampNeg) → c.slots[j.toNatClampNeg]? = some .null)
    (ir : jr.toInt = r.toInt * K + f.toInt) (iA : jA.toInt = rA.toInt * K + fA.toInt) (iB : jB.toInt = rB.toInt * K + fB.toInt) (hr : 1 ≤ r.toInt ∧ r.toInt ≤ 4) (hf : 0 ≤ f.toInt ∧ f.toInt < K) (hrA : 1 ≤ rA.toInt ∧ rA.toInt ≤ 4) (hfA : 0 ≤ fA.toInt ∧ fA.toInt < K) (hrB : 1 ≤ rB.toInt ∧ rB.toInt ≤ 4) (hfB : 0 ≤ fB.toInt ∧ fB.toInt < K) :
    ((c.setSlot jA.toNatClampNeg va).setSlot jB.toNatClampNeg vb).slots[jr.toNatClampNeg]? = some (own_exp r f rA fA va rB fB vb) := by
  have b := own_inx S ir hr hf hn
  have bA := own_inx S iA hrA hfA hn
  have bB := own_inx S iB hrB hfB hn
  by_cases q : r = rB ∧ f = fB
  · rw [own_expB q.1 q.2]
    exact get_hit (own_inx ((sz_set _ _ _).trans S) iB hrB hfB hn) (Int32.toInt_inj.mp (by rw [ir, iB, q.1, q.2]))
  · rw [get_miss (fun t => bB (Or.inl t)) (fun t => b (Or.inl t)) (own_neG ir iB hf hfB (own_or q))]
    by_cases w : r = rA ∧ f = fA
    · rw [own_expA q w.1 w.2]; exact get_hit bA (Int32.toInt_inj.mp (by rw [ir, iA, w.1, w.2]))
    · rw [get_miss (fun t => bA (Or.inl t)) (fun t => b (Or.inl t)) (own_neG ir iA hf hfA (own_or w)), own_expN q w]; exact N _ b
def own_Cache (Z : State) (h : Heap) (wc : Addr) : Prop := ∃ cc : Cell, Arr Z h wc cc (.object "java/lang/Integer") ∧ cc.slots.size = 256 ∧ ∀ i, i < 256 → ∃ z, cc.slots[i]? = some (.ref z) ∧ Exa Z h z "java/lang/Integer"
theorem own_Cache.ext {Z : State} {h h' : Heap} {wc : Addr} (q : own_Cache Z h wc) (E : Ext h h') : own_Cache Z h' wc := by
  obtain ⟨cc, A, S, H⟩ := q
  exact ⟨cc, A.ext E, S, fun i hi => by obtain ⟨z, h1, h2⟩ := H i hi; exact ⟨z, h1, h2.ext E⟩⟩
theorem own_len {Z : State} {args : Array Value} {t : Term} {a : Addr} {cl : Cell} {k : Int32} (ev : t.eval args Z none [] Z = some (.ref a)) (ha : Z.arrayAt? a = some cl) (h : (Jvm.Cond.eq (Term.length t) (Term.int k)).value args Z none Z [] = some true) : (cl.slots.size : Int) = k.toInt := by
  have e := own_eqv h
  simp [Term.eval, ev, ha] at e
  have q := congrArg Int32.toInt e.2
  rw [len_toInt e.1] at q
  exact q
theorem own_cache {Z : State} {args : Array Value} (hr : ∀ d ∈ jdkStatics_1, d.before args Z = true) (hi : (Jvm.Cond.initialized "java/lang/Integer$IntegerCache").before args Z = true) :
    ∃ wc, Sta Z Z.heap "java/lang/Integer$IntegerCache" "cache" "[Ljava/lang/Integer;" (.ref wc) ∧ Sta Z Z.heap "java/lang/Integer$IntegerCache" "high" "I" (.int (127 : Int32)) ∧ own_Cache Z Z.heap wc := by
  have h1 := hr _ (List.mem_of_getElem? (i := 1) rfl)
  have h2 := hr _ (List.mem_of_getElem? (i := 2) rfl)
  have h3 := Cond.before_iff.mp (hr _ (List.mem_of_getElem? (i := 3) rfl))
  have h4 := Cond.before_iff.mp (hr _ (List.mem_of_getElem? (i := 4) rfl))
  have h5 := Cond.before_iff.mp (hr _ (List.mem_of_getElem? (i := 5) rfl))
  have h6 := Cond.before_iff.mp (hr _ (List.mem_of_getElem? (i := 6) rfl))
  have h7 := Cond.before_iff.mp (hr _ (List.mem_of_getElem? (i := 7) rfl))
  obtain ⟨wc, ev⟩ := exa_v h5
  obtain ⟨cc, A⟩ := Arr.start ev h4
  have ha : Z.arrayAt? wc = some cc := A.fin (Vm.Alike.refl _)
  have S : cc.slots.size = 256 := by
    have q := own_len ev ha h6
    have u : (256 : Int32).toInt = 256 := rfl
    rw [u] at q; omega
  refine ⟨wc, Sta.start ev (Or.inr ⟨hi, h2⟩), Sta.start (own_eqv h3) (Or.inl h1), cc, A, S, fun i hi => ?_⟩
  have hx := (and_e (Cond.all_elim ev ha h7 i (by omega))).1
  obtain ⟨z, c', cell, k, e1, e2, e3, e4, e5, rfl, e7⟩ := Cond.exactly_spec (beq_iff_eq.mpr hx)
  refine ⟨z, ?_, cell, k, e3, e2, e4, e5, e7⟩
  have ev' : (Term.static "java/lang/Integer$IntegerCache" "cache" "[Ljava/lang/Integer;").eval args Z none [i] Z = some (.ref wc) := ev
  have t : i.toInt32.toInt = (i : Int) := len_toInt (by omega)
  have n0 : ¬ (i.toInt32 < 0) := by
    have z : (0 : Int32).toInt = 0 := rfl
    rw [Int32.lt_iff_toInt_lt, t, z]; omega
  have n1 : i.toInt32.toNatClampNeg = i := by simp only [Int32.toNatClampNeg, t]; omega
  rw [show (Term.elem (Term.static "java/lang/Integer$IntegerCache" "cache" "[Ljava/lang/Integer;") (Term.index 0)).eval args Z none [i] Z = cc.slots[i]? from by
    have ei : (Term.index 0).eval args Z none [i] Z = some (.int i.toInt32) := rfl
    rw [Term.eval]
    simp only [ev', ei, ha, Option.bind_eq_bind, Option.bind_some, n0, if_false, n1]] at e1
  exact e1
def own_K (Z : State) (h0 : Heap) (w0 w1 mr wc : Addr) (kw0 kw1 : ClassId) : Prop :=
  Sta Z h0 "com/example/whenever/whenever/internal/engine/Rows" "NO_INTS" "[I" (.ref w0) ∧
  Sta Z h0 "com/example/whenever/whenever/internal/engine/Rows" "NO_REFS" "[Ljava/lang/Object;" (.ref w1) ∧
  Exa Z h0 w0 "[I" ∧
  Exa Z h0 w1 "[Ljava/lang/Object;" ∧
  Arv Z h0 w0 kw0 .int 0 [] (.int 0) ∧
  Arv Z h0 w1 kw1 (.object "java/lang/Object") 0 [] .null ∧
  Mir Z "[Ljava/lang/Object;" mr ∧
  Sta Z h0 "java/lang/Integer$IntegerCache" "cache" "[Ljava/lang/Integer;" (.ref wc) ∧
  Sta Z h0 "java/lang/Integer$IntegerCache" "high" "I" (.int (127 : Int32)) ∧
  own_Cache Z h0 wc
def own_Obj0 (Z : State) (h : Heap) (a : Addr) (v0 : Value) (v1 : Value) (v2 : Int32) (v3 : Value) (v4 : Int32) (v5 : Int32) (v6 : Int32) (v7 : Value) (v8 : Int32) : Prop :=
  Exa Z h a "com/example/whenever/whenever/internal/engine/Rows" ∧
  Fld Z h a "com/example/whenever/whenever/internal/engine/Rows" "ints" "[[I" v0 ∧
  Fld Z h a "com/example/whenever/whenever/internal/engine/Rows" "refs" "[[Ljava/lang/Object;" v1 ∧
  Fld Z h a "com/example/whenever/whenever/internal/engine/Rows" "end" "I" (.int v2) ∧
  Fld Z h a "com/example/whenever/whenever/internal/engine/Rows" "removed" "[I" v3 ∧
  Fld Z h a "com/example/whenever/whenever/internal/engine/Rows" "intFields" "I" (.int v4) ∧
  Fld Z h a "com/example/whenever/whenever/internal/engine/Rows" "refFields" "I" (.int v5) ∧
  Fld Z h a "com/example/whenever/whenever/internal/engine/Rows" "firstFreeOfFirst" "I" (.int v6) ∧
  Fld Z h a "com/example/whenever/whenever/internal/engine/Rows" "later" "Lcom/example/whenever/whenever/internal/engine/Rows$LaterBlocks;" v7 ∧
  Fld Z h a "com/example/whenever/whenever/internal/engine/Rows" "capacity" "I" (.int v8)
theorem own_put0_0 {Z : State} {a0 : Array Value} (hw : ∀ d ∈ tables_1, d.before a0 Z = true) {h h' : Heap} {a : Addr} {v0 : Value} {v1 : Value} {v2 : Int32} {v3 : Value} {v4 : Int32} {v5 : Int32} {v6 : Int32} {v7 : Value} {v8 : Int32} {v : Value} (q : own_Obj0 Z h a v0 v1 v2 v3 v4 v5 v6 v7 v8) (W : Wr h h' a (Jvm.RoadKit.slotOf Z "com/example/whenever/whenever/internal/engine/Rows" "ints" "[[I") v) : own_Obj0 Z h' a v v1 v2 v3 v4 v5 v6 v7 v8 :=
  ⟨q.1.wr W,
   (q.2.1).same W,
   (q.2.2.1).other W (Or.inr (slot_ne (C := "com/example/whenever/whenever/internal/engine/Rows") (t := (.array (.array (.object "java/lang/Object")))) (t' := (.array (.array .int))) (Or.inl (hw _ (List.mem_of_getElem? (i := 22) rfl))) (Or.inl (hw _ (List.mem_of_getElem? (i := 15) rfl))) (by decide) (by decide) (by decide))),
   (q.2.2.2.1).other W (Or.inr (slot_ne (C := "com/example/whenever/whenever/internal/engine/Rows") (t := .int) (t' := (.array (.array .int))) (Or.inl (hw _ (List.mem_of_getElem? (i := 24) rfl))) (Or.inl (hw _ (List.mem_of_getElem? (i := 15) rfl))) (by decide) (by decide) (by decide))),
   (q.2.2.2.2.1).other W (Or.inr (slot_ne (C := "com/example/whenever/whenever/internal/engine/Rows") (t := (.array .int)) (t' := (.array (.array .int))) (Or.inl (hw _ (List.mem_of_getElem? (i := 26) rfl))) (Or.inl (hw _ (List.mem_of_getElem? (i := 15) rfl))) (by decide) (by decide) (by decide))),
   (q.2.2.2.2.2.1).other W (Or.inr (slot_ne (C := "com/example/whenever/whenever/internal/engine/Rows") (t := .int) (t' := (.array (.array .int))) (Or.inr (hw _ (List.mem_of_getElem? (i := 28) rfl))) (Or.inl (hw _ (List.mem_of_getElem? (i := 15) rfl))) (by decide) (by decide) (by decide))),
   (q.2.2.2.2.2.2.1).other W (Or.inr (slot_ne (C := "com/example/whenever/whenever/internal/engine/Rows") (t := .int) (t' := (.array (.array .int))) (Or.inr (hw _ (List.mem_of_getElem? (i := 30) rfl))) (Or.inl (hw _ (List.mem_of_getElem? (i := 15) rfl))) (by decide) (by decide) (by decide))),
   (q.2.2.2.2.2.2.2.1).other W (Or.inr (slot_ne (C := "com/example/whenever/whenever/internal/engine/Rows") (t := .int) (t' := (.array (.array .int))) (Or.inl (hw _ (List.mem_of_getElem? (i := 37) rfl))) (Or.inl (hw _ (List.mem_of_getElem? (i := 15) rfl))) (by decide) (by decide) (by decide))),
   (q.2.2.2.2.2.2.2.2.1).other W (Or.inr (slot_ne (C := "com/example/whenever/whenever/internal/engine/Rows") (t := (.object "com/example/whenever/whenever/internal/engine/Rows$LaterBlocks")) (t' := (.array (.array .int))) (Or.inl (hw _ (List.mem_of_getElem? (i := 39) rfl))) (Or.inl (hw _ (List.mem_of_getElem? (i := 15) rfl))) (by decide) (by decide) (by decide))),
   (q.2.2.2.2.2.2.2.2.2).other W (Or.inr (slot_ne (C := "com/example/whenever/whenever/internal/engine/Rows") (t := .int) (t' := (.array (.array .int))) (Or.inl (hw _ (List.mem_of_getElem? (i := 41) rfl))) (Or.inl (hw _ (List.mem_of_getElem? (i := 15) rfl))) (by decide) (by decide) (by decide)))⟩
theorem own_put0_1 {Z : State} {a0 : Array Value} (hw : ∀ d ∈ tables_1, d.before a0 Z = true) {h h' : Heap} {a : Addr} {v0 : Value} {v1 : Value} {v2 : Int32} {v3 : Value} {v4 : Int32} {v5 : Int32} {v6 : Int32} {v7 : Value} {v8 : Int32} {v : Value} (q : own_Obj0 Z h a v0 v1 v2 v3 v4 v5 v6 v7 v8) (W : Wr h h' a (Jvm.RoadKit.slotOf Z "com/example/whenever/whenever/internal/engine/Rows" "refs" "[[Ljava/lang/Object;") v) : own_Obj0 Z h' a v0 v v2 v3 v4 v5 v6 v7 v8 :=
  ⟨q.1.wr W,
   (q.2.1).other W (Or.inr (slot_ne (C := "com/example/whenever/whenever/internal/engine/Rows") (t := (.array (.array .int))) (t' := (.array (.array (.object "java/lang/Object")))) (Or.inl (hw _ (List.mem_of_getElem? (i := 15) rfl))) (Or.inl (hw _ (List.mem_of_getElem? (i := 22) rfl))) (by decide) (by decide) (by decide))),
   (q.2.2.1).same W,
   (q.2.2.2.1).other W (Or.inr (slot_ne (C := "com/example/whenever/whenever/internal/engine/Rows") (t := .int) (t' := (.array (.array (.object "java/lang/Object")))) (Or.inl (hw _ (List.mem_of_getElem? (i := 24) rfl))) (Or.inl (hw _ (List.mem_of_getElem? (i := 22) rfl))) (by decide) (by decide) (by decide))),
   (q.2.2.2.2.1).other W (Or.inr (slot_ne (C := "com/example/whenever/whenever/internal/engine/Rows") (t := (.array .int)) (t' := (.array (.array (.object "java/lang/Object")))) (Or.inl (hw _ (List.mem_of_getElem? (i := 26) rfl))) (Or.inl (hw _ (List.mem_of_getElem? (i := 22) rfl))) (by decide) (by decide) (by decide))),
   (q.2.2.2.2.2.1).other W (Or.inr (slot_ne (C := "com/example/whenever/whenever/internal/engine/Rows") (t := .int) (t' := (.array (.array (.object "java/lang/Object")))) (Or.inr (hw _ (List.mem_of_getElem? (i := 28) rfl))) (Or.inl (hw _ (List.mem_of_getElem? (i := 22) rfl))) (by decide) (by decide) (by decide))),
   (q.2.2.2.2.2.2.1).other W (Or.inr (slot_ne (C := "com/example/whenever/whenever/internal/engine/Rows") (t := .int) (t' := (.array (.array (.object "java/lang/Object")))) (Or.inr (hw _ (List.mem_of_getElem? (i := 30) rfl))) (Or.inl (hw _ (List.mem_of_getElem? (i := 22) rfl))) (by decide) (by decide) (by decide))),
   (q.2.2.2.2.2.2.2.1).other W (Or.inr (slot_ne (C := "com/example/whenever/whenever/internal/engine/Rows") (t := .int) (t' := (.array (.array (.object "java/lang/Object")))) (Or.inl (hw _ (List.mem_of_getElem? (i := 37) rfl))) (Or.inl (hw _ (List.mem_of_getElem? (i := 22) rfl))) (by decide) (by decide) (by decide))),
   (q.2.2.2.2.2.2.2.2.1).other W (Or.inr (slot_ne (C := "com/example/whenever/whenever/internal/engine/Rows") (t := (.object "com/example/whenever/whenever/internal/engine/Rows$LaterBlocks")) (t' := (.array (.array (.object "java/lang/Object")))) (Or.inl (hw _ (List.mem_of_getElem? (i := 39) rfl))) (Or.inl (hw _ (List.mem_of_getElem? (i := 22) rfl))) (by decide) (by decide) (by decide))),
   (q.2.2.2.2.2.2.2.2.2).other W (Or.inr (slot_ne (C := "com/example/whenever/whenever/internal/engine/Rows") (t := .int) (t' := (.array (.array (.object "java/lang/Object")))) (Or.inl (hw _ (List.mem_of_getElem? (i := 41) rfl))) (Or.inl (hw _ (List.mem_of_getElem? (i := 22) rfl))) (by decide) (by decide) (by decide)))⟩
theorem own_put0_2 {Z : State} {a0 : Array Value} (hw : ∀ d ∈ tables_1, d.before a0 Z = true) {h h' : Heap} {a : Addr} {v0 : Value} {v1 : Value} {v2 : Int32} {v3 : Value} {v4 : Int32} {v5 : Int32} {v6 : Int32} {v7 : Value} {v8 : Int32} {v : Int32} (q : own_Obj0 Z h a v0 v1 v2 v3 v4 v5 v6 v7 v8) (W : Wr h h' a (Jvm.RoadKit.slotOf Z "com/example/whenever/whenever/internal/engine/Rows" "end" "I") (.int v)) : own_Obj0 Z h' a v0 v1 v v3 v4 v5 v6 v7 v8 :=
  ⟨q.1.wr W,
   (q.2.1).other W (Or.inr (slot_ne (C := "com/example/whenever/whenever/internal/engine/Rows") (t := (.array (.array .int))) (t' := .int) (Or.inl (hw _ (List.mem_of_getElem? (i := 15) rfl))) (Or.inl (hw _ (List.mem_of_getElem? (i := 24) rfl))) (by decide) (by decide) (by decide))),
   (q.2.2.1).other W (Or.inr (slot_ne (C := "com/example/whenever/whenever/internal/engine/Rows") (t := (.array (.array (.object "java/lang/Object")))) (t' := .int) (Or.inl (hw _ (List.mem_of_getElem? (i := 22) rfl))) (Or.inl (hw _ (List.mem_of_getElem? (i := 24) rfl))) (by decide) (by decide) (by decide))),
   (q.2.2.2.1).same W,
   (q.2.2.2.2.1).other W (Or.inr (slot_ne (C := "com/example/whenever/whenever/internal/engine/Rows") (t := (.array .int)) (t' := .int) (Or.inl (hw _ (List.mem_of_getElem? (i := 26) rfl))) (Or.inl (hw _ (List.mem_of_getElem? (i := 24) rfl))) (by decide) (by decide) (by decide))),
   (q.2.2.2.2.2.1).other W (Or.inr (slot_ne (C := "com/example/whenever/whenever/internal/engine/Rows") (t := .int) (t' := .int) (Or.inr (hw _ (List.mem_of_getElem? (i := 28) rfl))) (Or.inl (hw _ (List.mem_of_getElem? (i := 24) rfl))) (by decide) (by decide) (by decide))),
   (q.2.2.2.2.2.2.1).other W (Or.inr (slot_ne (C := "com/example/whenever/whenever/internal/engine/Rows") (t := .int) (t' := .int) (Or.inr (hw _ (List.mem_of_getElem? (i := 30) rfl))) (Or.inl (hw _ (List.mem_of_getElem? (i := 24) rfl))) (by decide) (by decide) (by decide))),
   (q.2.2.2.2.2.2.2.1).other W (Or.inr (slot_ne (C := "com/example/whenever/whenever/internal/engine/Rows") (t := .int) (t' := .int) (Or.inl (hw _ (List.mem_of_getElem? (i := 37) rfl))) (Or.inl (hw _ (List.mem_of_getElem? (i := 24) rfl))) (by decide) (by decide) (by decide))),
   (q.2.2.2.2.2.2.2.2.1).other W (Or.inr (slot_ne (C := "com/example/whenever/whenever/internal/engine/Rows") (t := (.object "com/example/whenever/whenever/internal/engine/Rows$LaterBlocks")) (t' := .int) (Or.inl (hw _ (List.mem_of_getElem? (i := 39) rfl))) (Or.inl (hw _ (List.mem_of_getElem? (i := 24) rfl))) (by decide) (by decide) (by decide))),
   (q.2.2.2.2.2.2.2.2.2).other W (Or.inr (slot_ne (C := "com/example/whenever/whenever/internal/engine/Rows") (t := .int) (t' := .int) (Or.inl (hw _ (List.mem_of_getElem? (i := 41) rfl))) (Or.inl (hw _ (List.mem_of_getElem? (i := 24) rfl))) (by decide) (by decide) (by decide)))⟩
theorem own_put0_3 {Z : State} {a0 : Array Value} (hw : ∀ d ∈ tables_1, d.before a0 Z = true) {h h' : Heap} {a : Addr} {v0 : Value} {v1 : Value} {v2 : Int32} {v3 : Value} {v4 : Int32} {v5 : Int32} {v6 : Int32} {v7 : Value} {v8 : Int32} {v : Value} (q : own_Obj0 Z h a v0 v1 v2 v3 v4 v5 v6 v7 v8) (W : Wr h h' a (Jvm.RoadKit.slotOf Z "com/example/whenever/whenever/internal/engine/Rows" "removed" "[I") v) : own_Obj0 Z h' a v0 v1 v2 v v4 v5 v6 v7 v8 :=
  ⟨q.1.wr W,
   (q.2.1).other W (Or.inr (slot_ne (C := "com/example/whenever/whenever/internal/engine/Rows") (t := (.array (.array .int))) (t' := (.array .int)) (Or.inl (hw _ (List.mem_of_getElem? (i := 15) rfl))) (Or.inl (hw _ (List.mem_of_getElem? (i := 26) rfl))) (by decide) (by decide) (by decide))),
   (q.2.2.1).other W (Or.inr (slot_ne (C := "com/example/whenever/whenever/internal/engine/Rows") (t := (.array (.array (.object "java/lang/Object")))) (t' := (.array .int)) (Or.inl (hw _ (List.mem_of_getElem? (i := 22) rfl))) (Or.inl (hw _ (List.mem_of_getElem? (i := 26) rfl))) (by decide) (by decide) (by decide))),
   (q.2.2.2.1).other W (Or.inr (slot_ne (C := "com/example/whenever/whenever/internal/engine/Rows") (t := .int) (t' := (.array .int)) (Or.inl (hw _ (List.mem_of_getElem? (i := 24) rfl))) (Or.inl (hw _ (List.mem_of_getElem? (i := 26) rfl))) (by decide) (by decide) (by decide))),
   (q.2.2.2.2.1).same W,
   (q.2.2.2.2.2.1).other W (Or.inr (slot_ne (C := "com/example/whenever/whenever/internal/engine/Rows") (t := .int) (t' := (.array .int)) (Or.inr (hw _ (List.mem_of_getElem? (i := 28) rfl))) (Or.inl (hw _ (List.mem_of_getElem? (i := 26) rfl))) (by decide) (by decide) (by decide))),
   (q.2.2.2.2.2.2.1).other W (Or.inr (slot_ne (C := "com/example/whenever/whenever/internal/engine/Rows") (t := .int) (t' := (.array .int)) (Or.inr (hw _ (List.mem_of_getElem? (i := 30) rfl))) (Or.inl (hw _ (List.mem_of_getElem? (i := 26) rfl))) (by decide) (by decide) (by decide))),
   (q.2.2.2.2.2.2.2.1).other W (Or.inr (slot_ne (C := "com/example/whenever/whenever/internal/engine/Rows") (t := .int) (t' := (.array .int)) (Or.inl (hw _ (List.mem_of_getElem? (i := 37) rfl))) (Or.inl (hw _ (List.mem_of_getElem? (i := 26) rfl))) (by decide) (by decide) (by decide))),
   (q.2.2.2.2.2.2.2.2.1).other W (Or.inr (slot_ne (C := "com/example/whenever/whenever/internal/engine/Rows") (t := (.object "com/example/whenever/whenever/internal/engine/Rows$LaterBlocks")) (t' := (.array .int)) (Or.inl (hw _ (List.mem_of_getElem? (i := 39) rfl))) (Or.inl (hw _ (List.mem_of_getElem? (i := 26) rfl))) (by decide) (by decide) (by decide))),
   (q.2.2.2.2.2.2.2.2.2).other W (Or.inr (slot_ne (C := "com/example/whenever/whenever/internal/engine/Rows") (t := .int) (t' := (.array .int)) (Or.inl (hw _ (List.mem_of_getElem? (i := 41) rfl))) (Or.inl (hw _ (List.mem_of_getElem? (i := 26) rfl))) (by decide) (by decide) (by decide)))⟩
theorem own_put0_4 {Z : State} {a0 : Array Value} (hw : ∀ d ∈ tables_1, d.before a0 Z = true) {h h' : Heap} {a : Addr} {v0 : Value} {v1 : Value} {v2 : Int32} {v3 : Value} {v4 : Int32} {v5 : Int32} {v6 : Int32} {v7 : Value} {v8 : Int32} {v : Int32} (q : own_Obj0 Z h a v0 v1 v2 v3 v4 v5 v6 v7 v8) (W : Wr h h' a (Jvm.RoadKit.slotOf Z "com/example/whenever/whenever/internal/engine/Rows" "intFields" "I") (.int v)) : own_Obj0 Z h' a v0 v1 v2 v3 v v5 v6 v7 v8 :=
  ⟨q.1.wr W,
   (q.2.1).other W (Or.inr (slot_ne (C := "com/example/whenever/whenever/internal/engine/Rows") (t := (.array (.array .int))) (t' := .int) (Or.inl (hw _ (List.mem_of_getElem? (i := 15) rfl))) (Or.inr (hw _ (List.mem_of_getElem? (i := 28) rfl))) (by decide) (by decide) (by decide))),
   (q.2.2.1).other W (Or.inr (slot_ne (C := "com/example/whenever/whenever/internal/engine/Rows") (t := (.array (.array (.object "java/lang/Object")))) (t' := .int) (Or.inl (hw _ (List.mem_of_getElem? (i := 22) rfl))) (Or.inr (hw _ (List.mem_of_getElem? (i := 28) rfl))) (by decide) (by decide) (by decide))),
   (q.2.2.2.1).other W (Or.inr (slot_ne (C := "com/example/whenever/whenever/internal/engine/Rows") (t := .int) (t' := .int) (Or.inl (hw _ (List.mem_of_getElem? (i := 24) rfl))) (Or.inr (hw _ (List.mem_of_getElem? (i := 28) rfl))) (by decide) (by decide) (by decide))),
   (q.2.2.2.2.1).other W (Or.inr (slot_ne (C := "com/example/whenever/whenever/internal/engine/Rows") (t := (.array .int)) (t' := .int) (Or.inl (hw _ (List.mem_of_getElem? (i := 26) rfl))) (Or.inr (hw _ (List.mem_of_getElem? (i := 28) rfl))) (by decide) (by decide) (by decide))),
   (q.2.2.2.2.2.1).same W,
   (q.2.2.2.2.2.2.1).other W (Or.inr (slot_ne (C := "com/example/whenever/whenever/internal/engine/Rows") (t := .int) (t' := .int) (Or.inr (hw _ (List.mem_of_getElem? (i := 30) rfl))) (Or.inr (hw _ (List.mem_of_getElem? (i := 28) rfl))) (by decide) (by decide) (by decide))),
   (q.2.2.2.2.2.2.2.1).other W (Or.inr (slot_ne (C := "com/example/whenever/whenever/internal/engine/Rows") (t := .int) (t' := .int) (Or.inl (hw _ (List.mem_of_getElem? (i := 37) rfl))) (Or.inr (hw _ (List.mem_of_getElem? (i := 28) rfl))) (by decide) (by decide) (by decide))),
   (q.2.2.2.2.2.2.2.2.1).other W (Or.inr (slot_ne (C := "com/example/whenever/whenever/internal/engine/Rows") (t := (.object "com/example/whenever/whenever/internal/engine/Rows$LaterBlocks")) (t' := .int) (Or.inl (hw _ (List.mem_of_getElem? (i := 39) rfl))) (Or.inr (hw _ (List.mem_of_getElem? (i := 28) rfl))) (by decide) (by decide) (by decide))),
   (q.2.2.2.2.2.2.2.2.2).other W (Or.inr (slot_ne (C := "com/example/whenever/whenever/internal/engine/Rows") (t := .int) (t' := .int) (Or.inl (hw _ (List.mem_of_getElem? (i := 41) rfl))) (Or.inr (hw _ (List.mem_of_getElem? (i := 28) rfl))) (by decide) (by decide) (by decide)))⟩
theorem own_put0_5 {Z : State} {a0 : Array Value} (hw : ∀ d ∈ tables_1, d.before a0 Z = true) {h h' : Heap} {a : Addr} {v0 : Value} {v1 : Value} {v2 : Int32} {v3 : Value} {v4 : Int32} {v5 : Int32} {v6 : Int32} {v7 : Value} {v8 : Int32} {v : Int32} (q : own_Obj0 Z h a v0 v1 v2 v3 v4 v5 v6 v7 v8) (W : Wr h h' a (Jvm.RoadKit.slotOf Z "com/example/whenever/whenever/internal/engine/Rows" "refFields" "I") (.int v)) : own_Obj0 Z h' a v0 v1 v2 v3 v4 v v6 v7 v8 :=
  ⟨q.1.wr W,
   (q.2.1).other W (Or.inr (slot_ne (C := "com/example/whenever/whenever/internal/engine/Rows") (t := (.array (.array .int))) (t' := .int) (Or.inl (hw _ (List.mem_of_getElem? (i := 15) rfl))) (Or.inr (hw _ (List.mem_of_getElem? (i := 30) rfl))) (by decide) (by decide) (by decide))),
   (q.2.2.1).other W (Or.inr (slot_ne (C := "com/example/whenever/whenever/internal/engine/Rows") (t := (.array (.array (.object "java/lang/Object")))) (t' := .int) (Or.inl (hw _ (List.mem_of_getElem? (i := 22) rfl))) (Or.inr (hw _ (List.mem_of_getElem? (i := 30) rfl))) (by decide) (by decide) (by decide))),
   (q.2.2.2.1).other W (Or.inr (slot_ne (C := "com/example/whenever/whenever/internal/engine/Rows") (t := .int) (t' := .int) (Or.inl (hw _ (List.mem_of_getElem? (i := 24) rfl))) (Or.inr (hw _ (List.mem_of_getElem? (i := 30) rfl))) (by decide) (by decide) (by decide))),
   (q.2.2.2.2.1).other W (Or.inr (slot_ne (C := "com/example/whenever/whenever/internal/engine/Rows") (t := (.array .int)) (t' := .int) (Or.inl (hw _ (List.mem_of_getElem? (i := 26) rfl))) (Or.inr (hw _ (List.mem_of_getElem? (i := 30) rfl))) (by decide) (by decide) (by decide))),
   (q.2.2.2.2.2.1).other W (Or.inr (slot_ne (C := "com/example/whenever/whenever/internal/engine/Rows") (t := .int) (t' := .int) (Or.inr (hw _ (List.mem_of_getElem? (i := 28) rfl))) (Or.inr (hw _ (List.mem_of_getElem? (i := 30) rfl))) (by decide) (by decide) (by decide))),
   (q.2.2.2.2.2.2.1).same W,
   (q.2.2.2.2.2.2.2.1).other W (Or.inr (slot_ne (C := "com/example/whenever/whenever/internal/engine/Rows") (t := .int) (t' := .int) (Or.inl (hw _ (List.mem_of_getElem? (i := 37) rfl))) (Or.inr (hw _ (List.mem_of_getElem? (i := 30) rfl))) (by decide) (by decide) (by decide))),
   (q.2.2.2.2.2.2.2.2.1).other W (Or.inr (slot_ne (C := "com/example/whenever/whenever/internal/engine/Rows") (t := (.object "com/example/whenever/whenever/internal/engine/Rows$LaterBlocks")) (t' := .int) (Or.inl (hw _ (List.mem_of_getElem? (i := 39) rfl))) (Or.inr (hw _ (List.mem_of_getElem? (i := 30) rfl))) (by decide) (by decide) (by decide))),
   (q.2.2.2.2.2.2.2.2.2).other W (Or.inr (slot_ne (C := "com/example/whenever/whenever/internal/engine/Rows") (t := .int) (t' := .int) (Or.inl (hw _ (List.mem_of_getElem? (i := 41) rfl))) (Or.inr (hw _ (List.mem_of_getElem? (i := 30) rfl))) (by decide) (by decide) (by decide)))⟩
theorem own_put0_6 {Z : State} {a0 : Array Value} (hw : ∀ d ∈ tables_1, d.before a0 Z = true) {h h' : Heap} {a : Addr} {v0 : Value} {v1 : Value} {v2 : Int32} {v3 : Value} {v4 : Int32} {v5 : Int32} {v6 : Int32} {v7 : Value} {v8 : Int32} {v : Int32} (q : own_Obj0 Z h a v0 v1 v2 v3 v4 v5 v6 v7 v8) (W : Wr h h' a (Jvm.RoadKit.slotOf Z "com/example/whenever/whenever/internal/engine/Rows" "firstFreeOfFirst" "I") (.int v)) : own_Obj0 Z h' a v0 v1 v2 v3 v4 v5 v v7 v8 :=
  ⟨q.1.wr W,
   (q.2.1).other W (Or.inr (slot_ne (C := "com/example/whenever/whenever/internal/engine/Rows") (t := (.array (.array .int))) (t' := .int) (Or.inl (hw _ (List.mem_of_getElem? (i := 15) rfl))) (Or.inl (hw _ (List.mem_of_getElem? (i := 37) rfl))) (by decide) (by decide) (by decide))),
   (q.2.2.1).other W (Or.inr (slot_ne (C := "com/example/whenever/whenever/internal/engine/Rows") (t := (.array (.array (.object "java/lang/Object")))) (t' := .int) (Or.inl (hw _ (List.mem_of_getElem? (i := 22) rfl))) (Or.inl (hw _ (List.mem_of_getElem? (i := 37) rfl))) (by decide) (by decide) (by decide))),
   (q.2.2.2.1).other W (Or.inr (slot_ne (C := "com/example/whenever/whenever/internal/engine/Rows") (t := .int) (t' := .int) (Or.inl (hw _ (List.mem_of_getElem? (i := 24) rfl))) (Or.inl (hw _ (List.mem_of_getElem? (i := 37) rfl))) (by decide) (by decide) (by decide))),
   (q.2.2.2.2.1).other W (Or.inr (slot_ne (C := "com/example/whenever/whenever/internal/engine/Rows") (t := (.array .int)) (t' := .int) (Or.inl (hw _ (List.mem_of_getElem? (i := 26) rfl))) (Or.inl (hw _ (List.mem_of_getElem? (i := 37) rfl))) (by decide) (by decide) (by decide))),
   (q.2.2.2.2.2.1).other W (Or.inr (slot_ne (C := "com/example/whenever/whenever/internal/engine/Rows") (t := .int) (t' := .int) (Or.inr (hw _ (List.mem_of_getElem? (i := 28) rfl))) (Or.inl (hw _ (List.mem_of_getElem? (i := 37) rfl))) (by decide) (by decide) (by decide))),
   (q.2.2.2.2.2.2.1).other W (Or.inr (slot_ne (C := "com/example/whenever/whenever/internal/engine/Rows") (t := .int) (t' := .int) (Or.inr (hw _ (List.mem_of_getElem? (i := 30) rfl))) (Or.inl (hw _ (List.mem_of_getElem? (i := 37) rfl))) (by decide) (by decide) (by decide))),
   (q.2.2.2.2.2.2.2.1).same W,
   (q.2.2.2.2.2.2.2.2.1).other W (Or.inr (slot_ne (C := "com/example/whenever/whenever/internal/engine/Rows") (t := (.object "com/example/whenever/whenever/internal/engine/Rows$LaterBlocks")) (t' := .int) (Or.inl (hw _ (List.mem_of_getElem? (i := 39) rfl))) (Or.inl (hw _ (List.mem_of_getElem? (i := 37) rfl))) (by decide) (by decide) (by decide))),
   (q.2.2.2.2.2.2.2.2.2).other W (Or.inr (slot_ne (C := "com/example/whenever/whenever/internal/engine/Rows") (t := .int) (t' := .int) (Or.inl (hw _ (List.mem_of_getElem? (i := 41) rfl))) (Or.inl (hw _ (List.mem_of_getElem? (i := 37) rfl))) (by decide) (by decide) (by decide)))⟩
theorem own_put0_7 {Z : State} {a0 : Array Value} (hw : ∀ d ∈ tables_1, d.before a0 Z = true) {h h' : Heap} {a : Addr} {v0 : Value} {v1 : Value} {v2 : Int32} {v3 : Value} {v4 : Int32} {v5 : Int32} {v6 : Int32} {v7 : Value} {v8 : Int32} {v : Value} (q : own_Obj0 Z h a v0 v1 v2 v3 v4 v5 v6 v7 v8) (W : Wr h h' a (Jvm.RoadKit.slotOf Z "com/example/whenever/whenever/internal/engine/Rows" "later" "Lcom/example/whenever/whenever/internal/engine/Rows$LaterBlocks;") v) : own_Obj0 Z h' a v0 v1 v2 v3 v4 v5 v6 v v8 :=
  ⟨q.1.wr W,
   (q.2.1).other W (Or.inr (slot_ne (C := "com/example/whenever/whenever/internal/engine/Rows") (t := (.array (.array .int))) (t' := (.object "com/example/whenever/whenever/internal/engine/Rows$LaterBlocks")) (Or.inl (hw _ (List.mem_of_getElem? (i := 15) rfl))) (Or.inl (hw _ (List.mem_of_getElem? (i := 39) rfl))) (by decide) (by decide) (by decide))),
   (q.2.2.1).other W (Or.inr (slot_ne (C := "com/example/whenever/whenever/internal/engine/Rows") (t := (.array (.array (.object "java/lang/Object")))) (t' := (.object "com/example/whenever/whenever/internal/engine/Rows$LaterBlocks")) (Or.inl (hw _ (List.mem_of_getElem? (i := 22) rfl))) (Or.inl (hw _ (List.mem_of_getElem? (i := 39) rfl))) (by decide) (by decide) (by decide))),
   (q.2.2.2.1).other W (Or.inr (slot_ne (C := "com/example/whenever/whenever/internal/engine/Rows") (t := .int) (t' := (.object "com/example/whenever/whenever/internal/engine/Rows$LaterBlocks")) (Or.inl (hw _ (List.mem_of_getElem? (i := 24) rfl))) (Or.inl (hw _ (List.mem_of_getElem? (i := 39) rfl))) (by decide) (by decide) (by decide))),
   (q.2.2.2.2.1).other W (Or.inr (slot_ne (C := "com/example/whenever/whenever/internal/engine/Rows") (t := (.array .int)) (t' := (.object "com/example/whenever/whenever/internal/engine/Rows$LaterBlocks")) (Or.inl (hw _ (List.mem_of_getElem? (i := 26) rfl))) (Or.inl (hw _ (List.mem_of_getElem? (i := 39) rfl))) (by decide) (by decide) (by decide))),
   (q.2.2.2.2.2.1).other W (Or.inr (slot_ne (C := "com/example/whenever/whenever/internal/engine/Rows") (t := .int) (t' := (.object "com/example/whenever/whenever/internal/engine/Rows$LaterBlocks")) (Or.inr (hw _ (List.mem_of_getElem? (i := 28) rfl))) (Or.inl (hw _ (List.mem_of_getElem? (i := 39) rfl))) (by decide) (by decide) (by decide))),
   (q.2.2.2.2.2.2.1).other W (Or.inr (slot_ne (C := "com/example/whenever/whenever/internal/engine/Rows") (t := .int) (t' := (.object "com/example/whenever/whenever/internal/engine/Rows$LaterBlocks")) (Or.inr (hw _ (List.mem_of_getElem? (i := 30) rfl))) (Or.inl (hw _ (List.mem_of_getElem? (i := 39) rfl))) (by decide) (by decide) (by decide))),
   (q.2.2.2.2.2.2.2.1).other W (Or.inr (slot_ne (C := "com/example/whenever/whenever/internal/engine/Rows") (t := .int) (t' := (.object "com/example/whenever/whenever/internal/engine/Rows$LaterBlocks")) (Or.inl (hw _ (List.mem_of_getElem? (i := 37) rfl))) (Or.inl (hw _ (List.mem_of_getElem? (i := 39) rfl))) (by decide) (by decide) (by decide))),
   (q.2.2.2.2.2.2.2.2.1).same W,
   (q.2.2.2.2.2.2.2.2.2).other W (Or.inr (slot_ne (C := "com/example/whenever/whenever/internal/engine/Rows") (t := .int) (t' := (.object "com/example/whenever/whenever/internal/engine/Rows$LaterBlocks")) (Or.inl (hw _ (List.mem_of_getElem? (i := 41) rfl))) (Or.inl (hw _ (List.mem_of_getElem? (i := 39) rfl))) (by decide) (by decide) (by decide)))⟩
theorem own_put0_8 {Z : State} {a0 : Array Value} (hw : ∀ d ∈ tables_1, d.before a0 Z = true) {h h' : Heap} {a : Addr} {v0 : Value} {v1 : Value} {v2 : Int32} {v3 : Value} {v4 : Int32} {v5 : Int32} {v6 : Int32} {v7 : Value} {v8 : Int32} {v : Int32} (q : own_Obj0 Z h a v0 v1 v2 v3 v4 v5 v6 v7 v8) (W : Wr h h' a (Jvm.RoadKit.slotOf Z "com/example/whenever/whenever/internal/engine/Rows" "capacity" "I") (.int v)) : own_Obj0 Z h' a v0 v1 v2 v3 v4 v5 v6 v7 v :=
  ⟨q.1.wr W,
   (q.2.1).other W (Or.inr (slot_ne (C := "com/example/whenever/whenever/internal/engine/Rows") (t := (.array (.array .int))) (t' := .int) (Or.inl (hw _ (List.mem_of_getElem? (i := 15) rfl))) (Or.inl (hw _ (List.mem_of_getElem? (i := 41) rfl))) (by decide) (by decide) (by decide))),
   (q.2.2.1).other W (Or.inr (slot_ne (C := "com/example/whenever/whenever/internal/engine/Rows") (t := (.array (.array (.object "java/lang/Object")))) (t' := .int) (Or.inl (hw _ (List.mem_of_getElem? (i := 22) rfl))) (Or.inl (hw _ (List.mem_of_getElem? (i := 41) rfl))) (by decide) (by decide) (by decide))),
   (q.2.2.2.1).other W (Or.inr (slot_ne (C := "com/example/whenever/whenever/internal/engine/Rows") (t := .int) (t' := .int) (Or.inl (hw _ (List.mem_of_getElem? (i := 24) rfl))) (Or.inl (hw _ (List.mem_of_getElem? (i := 41) rfl))) (by decide) (by decide) (by decide))),
   (q.2.2.2.2.1).other W (Or.inr (slot_ne (C := "com/example/whenever/whenever/internal/engine/Rows") (t := (.array .int)) (t' := .int) (Or.inl (hw _ (List.mem_of_getElem? (i := 26) rfl))) (Or.inl (hw _ (List.mem_of_getElem? (i := 41) rfl))) (by decide) (by decide) (by decide))),
   (q.2.2.2.2.2.1).other W (Or.inr (slot_ne (C := "com/example/whenever/whenever/internal/engine/Rows") (t := .int) (t' := .int) (Or.inr (hw _ (List.mem_of_getElem? (i := 28) rfl))) (Or.inl (hw _ (List.mem_of_getElem? (i := 41) rfl))) (by decide) (by decide) (by decide))),
   (q.2.2.2.2.2.2.1).other W (Or.inr (slot_ne (C := "com/example/whenever/whenever/internal/engine/Rows") (t := .int) (t' := .int) (Or.inr (hw _ (List.mem_of_getElem? (i := 30) rfl))) (Or.inl (hw _ (List.mem_of_getElem? (i := 41) rfl))) (by decide) (by decide) (by decide))),
   (q.2.2.2.2.2.2.2.1).other W (Or.inr (slot_ne (C := "com/example/whenever/whenever/internal/engine/Rows") (t := .int) (t' := .int) (Or.inl (hw _ (List.mem_of_getElem? (i := 37) rfl))) (Or.inl (hw _ (List.mem_of_getElem? (i := 41) rfl))) (by decide) (by decide) (by decide))),
   (q.2.2.2.2.2.2.2.2.1).other W (Or.inr (slot_ne (C := "com/example/whenever/whenever/internal/engine/Rows") (t := (.object "com/example/whenever/whenever/internal/engine/Rows$LaterBlocks")) (t' := .int) (Or.inl (hw _ (List.mem_of_getElem? (i := 39) rfl))) (Or.inl (hw _ (List.mem_of_getElem? (i := 41) rfl))) (by decide) (by decide) (by decide))),
   (q.2.2.2.2.2.2.2.2.2).same W⟩
theorem own_Obj0.ext {Z : State} {h h' : Heap} {a : Addr} {v0 : Value} {v1 : Value} {v2 : Int32} {v3 : Value} {v4 : Int32} {v5 : Int32} {v6 : Int32} {v7 : Value} {v8 : Int32} (q : own_Obj0 Z h a v0 v1 v2 v3 v4 v5 v6 v7 v8) (E : Ext h h') : own_Obj0 Z h' a v0 v1 v2 v3 v4 v5 v6 v7 v8 :=
  ⟨q.1.ext E, (q.2.1).ext E, (q.2.2.1).ext E, (q.2.2.2.1).ext E, (q.2.2.2.2.1).ext E, (q.2.2.2.2.2.1).ext E, (q.2.2.2.2.2.2.1).ext E, (q.2.2.2.2.2.2.2.1).ext E, (q.2.2.2.2.2.2.2.2.1).ext E, (q.2.2.2.2.2.2.2.2.2).ext E⟩
def own_Obj1 (Z : State) (h : Heap) (a : Addr) (v0 : Int32) : Prop :=
  Exa Z h a "java/lang/Integer" ∧
  Fld Z h a "java/lang/Integer" "value" "I" (.int v0)
theorem own_put1_0 {Z : State} {a0 : Array Value} (hw : ∀ d ∈ tables_1, d.before a0 Z = true) {h h' : Heap} {a : Addr} {v0 : Int32} {v : Int32} (q : own_Obj1 Z h a v0) (W : Wr h h' a (Jvm.RoadKit.slotOf Z "java/lang/Integer" "value" "I") (.int v)) : own_Obj1 Z h' a v :=
  ⟨q.1.wr W,
   (q.2).same W⟩
theorem own_Obj1.ext {Z : State} {h h' : Heap} {a : Addr} {v0 : Int32} (q : own_Obj1 Z h a v0) (E : Ext h h') : own_Obj1 Z h' a v0 :=
  ⟨q.1.ext E, (q.2).ext E⟩
theorem own_Obj1.keep {Z : State} {h h' : Heap} {a : Addr} {xs : List Addr} {v0 : Int32} (q : own_Obj1 Z h a v0) (K : Keep h h' xs) (ne : a ∉ xs) : own_Obj1 Z h' a v0 := ⟨q.1.keep K, q.2.keep K ne⟩
theorem own_Obj0.other {Z : State} {h h' : Heap} {a b : Addr} {sl : Nat} {w : Value} {v0 : Value} {v1 : Value} {v2 : Int32} {v3 : Value} {v4 : Int32} {v5 : Int32} {v6 : Int32} {v7 : Value} {v8 : Int32} (q : own_Obj0 Z h a v0 v1 v2 v3 v4 v5 v6 v7 v8) (W : Wr h h' b sl w) (ne : a ≠ b) : own_Obj0 Z h' a v0 v1 v2 v3 v4 v5 v6 v7 v8 :=
  ⟨q.1.wr W, (q.2.1).other W (Or.inl ne), (q.2.2.1).other W (Or.inl ne), (q.2.2.2.1).other W (Or.inl ne), (q.2.2.2.2.1).other W (Or.inl ne), (q.2.2.2.2.2.1).other W (Or.inl ne), (q.2.2.2.2.2.2.1).other W (Or.inl ne), (q.2.2.2.2.2.2.2.1).other W (Or.inl ne), (q.2.2.2.2.2.2.2.2.1).other W (Or.inl ne), (q.2.2.2.2.2.2.2.2.2).other W (Or.inl ne)⟩
theorem own_Obj0.keep {Z : State} {h h' : Heap} {a : Addr} {xs : List Addr} {v0 : Value} {v1 : Value} {v2 : Int32} {v3 : Value} {v4 : Int32} {v5 : Int32} {v6 : Int32} {v7 : Value} {v8 : Int32} (q : own_Obj0 Z h a v0 v1 v2 v3 v4 v5 v6 v7 v8) (K : Keep h h' xs) (ne : a ∉ xs) : own_Obj0 Z h' a v0 v1 v2 v3 v4 v5 v6 v7 v8 :=
  ⟨q.1.keep K, (q.2.1).keep K ne, (q.2.2.1).keep K ne, (q.2.2.2.1).keep K ne, (q.2.2.2.2.1).keep K ne, (q.2.2.2.2.2.1).keep K ne, (q.2.2.2.2.2.2.1).keep K ne, (q.2.2.2.2.2.2.2.1).keep K ne, (q.2.2.2.2.2.2.2.2.1).keep K ne, (q.2.2.2.2.2.2.2.2.2).keep K ne⟩
theorem own_arrKeep {Z : State} {h h' : Heap} {a : Addr} {xs : List Addr} {cl : Cell} {ty : FieldType} (q : Arr Z h a cl ty) (K : Keep h h' xs) (ne : a ∉ xs) : Arr Z h' a cl ty := ⟨K.2.1 a cl q.1 ne, q.2⟩
def own_Rows (Z : State) (h : Heap) (n0 : Nat) (w0 b A1 A2 x1 x2 : Addr) (k1 k2 : ClassId) (en kk rf cap : Int32) : Prop :=
  own_Obj0 Z h b (.ref A1) (.ref A2) en (.ref w0) kk rf (0 : Int32) .null cap ∧ Arv Z h A1 k1 (.array .int) 1 [.ref x1] .null ∧ Arv Z h A2 k2 (.array (.object "java/lang/Object")) 1 [.ref x2] .null ∧ OvrA Z k1 .int "[I" ∧ OvrA Z k2 (.object "java/lang/Object") "[Ljava/lang/Object;" ∧ b ≠ A1 ∧ b ≠ A2 ∧ A1 ≠ A2 ∧ n0 ≤ b ∧ n0 ≤ A1 ∧ n0 ≤ A2
theorem own_tab3 {Z s : State} {a0 a1 : Array Value} (hw : ∀ d ∈ tables_1, d.before a0 Z = true) (hZ : Z.Warmed39 s.vm) : Jvm.Free.CopyOfC.Copy3.tab.before a1 s = true := by
  unfold Jvm.Free.CopyOfC.Copy3.tab
  refine (conj_holds (args := a1) (first := s) (o := none) (s := s) (idx := []) _ _).mpr ⟨mvT hZ (hw _ (List.mem_of_getElem? (i := 72) rfl)), fun d hd => ?_⟩
  simp only [List.mem_cons, List.not_mem_nil, or_false] at hd
  rcases hd with rfl | rfl | rfl | rfl | rfl | rfl | rfl | rfl | rfl | rfl | rfl
  · exact mvT hZ (hw _ (List.mem_of_getElem? (i := 74) rfl))
  · exact Cond.arrayOver_alike hZ.alike (hw _ (List.mem_of_getElem? (i := 75) rfl))
  · exact mvT hZ (hw _ (List.mem_of_getElem? (i := 55) rfl))
  · exact mvT hZ (hw _ (List.mem_of_getElem? (i := 56) rfl))
  · exact mvT hZ (hw _ (List.mem_of_getElem? (i := 48) rfl))
  · exact mvT hZ (hw _ (List.mem_of_getElem? (i := 57) rfl))
  · exact mvT hZ (hw _ (List.mem_of_getElem? (i := 58) rfl))
  · exact mvT hZ (hw _ (List.mem_of_getElem? (i := 61) rfl))
  · exact mvT hZ (hw _ (List.mem_of_getElem? (i := 59) rfl))
  · exact mvT hZ (hw _ (List.mem_of_getElem? (i := 60) rfl))
  · exact mvT hZ (hw _ (List.mem_of_getElem? (i := 73) rfl))
theorem own_tab2 {Z s : State} {a0 a1 : Array Value} (hw : ∀ d ∈ tables_1, d.before a0 Z = true) (hZ : Z.Warmed39 s.vm) : Jvm.Free.CopyOfC.Copy2.tab.before a1 s = true := by
  unfold Jvm.Free.CopyOfC.Copy2.tab
  refine (conj_holds (args := a1) (first := s) (o := none) (s := s) (idx := []) _ _).mpr ⟨mvT hZ (hw _ (List.mem_of_getElem? (i := 64) rfl)), fun d hd => ?_⟩
  simp only [Jvm.Free.CopyOfC.Copy2.siteAtoms, List.mem_append, List.mem_cons, List.not_mem_nil, or_false] at hd
  rcases hd with (rfl | rfl | rfl | rfl | rfl | rfl | rfl | rfl) | rfl
  · exact mvT hZ (hw _ (List.mem_of_getElem? (i := 65) rfl))
  · exact mvT hZ (hw _ (List.mem_of_getElem? (i := 66) rfl))
  · exact mvT hZ (hw _ (List.mem_of_getElem? (i := 68) rfl))
  · exact mvT hZ (hw _ (List.mem_of_getElem? (i := 67) rfl))
  · exact mvT hZ (hw _ (List.mem_of_getElem? (i := 69) rfl))
  · exact mvT hZ (hw _ (List.mem_of_getElem? (i := 70) rfl))
  · exact mvT hZ (hw _ (List.mem_of_getElem? (i := 71) rfl))
  · exact mvT hZ (hw _ (List.mem_of_getElem? (i := 52) rfl))
  · exact own_tab3 hw hZ
theorem own_pdC2 : parseMethodDescriptor "([Ljava/lang/Object;I)[Ljava/lang/Object;" = some ⟨[.array (.object "java/lang/Object"), .int], some (.array (.object "java/lang/Object"))⟩ := by decide +kernel
section OwnCp
variable {p : Program} {l : Launch} {e : Env} {R : Room} {s : State} {m : MethodId} {args : Array Value} {below : List Frame} {meth : Method} {c : Code} {T : State} {locs : List Loc} {cells slots : Nat} {Z : State} {a0 : Array Value} {h : Heap}
/-- Arrays.copyOf(Object[], int) of an empty Object[]: a new Object[n] -/
theorem own_cpR (X : Stand p l e R s m args below meth c T locs cells slots) (hx : p.tables.exec = Jvm.exec) (hZ : Z.Warmed39 s.vm) (hw : ∀ d ∈ tables_1, d.before a0 Z = true) (hown : s.vm.findClass "com/example/whenever/whenever/internal/engine/Rows" = some m.cls) (eT : T.heap = h) {w mr : Addr} {kw : ClassId} {n : Int32}
    (Ew : Exa Z h w "[Ljava/lang/Object;") (Vw : Arv Z h w kw (.object "java/lang/Object") 0 [] .null) (M : Mir Z "[Ljava/lang/Object;" mr) (hn : 0 ≤ n.toInt) (hn2 : n.toInt ≤ 32) {g : JFrame} (hg : g.method = m) (hsize : g.locals.size = c.maxLocals) {rest : List Value} (hs : g.stack = .int n :: .ref w :: rest) (hd : decode c.code g.pc = .ok (.invokestatic 84, 3))
    (hf : 4 ≤ R.frames) {W : Nat} (hW : 2 * g.monitorRoom + (rest.map fun v => v.category).sum ≤ W) (hlo : W + 77 ≤ R.locals) (hc : cells + 1 ≤ R.cells) (hl : slots + 32 ≤ R.slots) :
    ∃ T' h' cA, Stand p l e R s m args below meth c T' locs (cells + 1) (slots + 32) ∧ T'.heap = h' ∧ Ext h h' ∧ Arr Z h' h.size (newA cA (.object "java/lang/Object") n) (.object "java/lang/Object") ∧ Exa Z h' h.size "[Ljava/lang/Object;" ∧ Ovr Z cA "java/lang/Object" ∧
      ∀ target, Steps p.tables e below (T'.setTop { g with pc := g.pc + 3, stack := .ref h.size :: rest }) target → Steps p.tables e below (T.setTop g) target := by
  obtain ⟨cs, As, -, Ss, -, -, -⟩ := Vw
  obtain ⟨c1, k1, i1, i2, i3, i4, -⟩ := Ew
  cases i1.symm.trans As.1
  have size0 : cs.slots.size = 0 := by rw [Ss]; rfl
  obtain ⟨cObj, oa, kk, o1, -, j2, o3, j1⟩ := Cond.arrayOver_spec (hw _ (List.mem_of_getElem? (i := 75) rfl))
  have j1' : Z.vm.findClass "[Ljava/lang/Object;" = some oa := j1
  cases i2.symm.trans j1'
  obtain ⟨mc, mk, m1, m2, m3, -⟩ := M
  cases i2.symm.trans m1
  cases j2.symm.trans m2
  obtain ⟨kObj, o2, -⟩ := Vm.findClass_spec o1
  have n31 : n.toNatClampNeg ≤ 32 := by simp only [Int32.toNatClampNeg]; omega
  have vmn : ∀ q, cs.vm ≠ .statics q := fun q hq => by rw [hq] at i4; cases i4
  obtain ⟨mAR, nAR⟩ := Cond.code_named (mvT (args := #[]) hZ (hw _ (List.mem_of_getElem? (i := 64) rfl)))
  have fAR : s.vm.findClass "java/util/Arrays" = some mAR.cls := findClass_of_methodNamed nAR
  let G : Jvm.Free.CopyOfC.Copy3.G := { orig := w, cs := cs, n := n, mir := mr, cOA := cs.cls, cObj := cObj, cAR := mAR.cls }
  obtain ⟨v, vm₁, ⟨T', L', k', n'⟩, hW1, X', ⟨hv', hcell, hl', hk', hn', keep⟩, st⟩ := Jvm.LawKit.callS X hx (y := (⟨"java/util/Arrays", "copyOf", "([Ljava/lang/Object;I)[Ljava/lang/Object;"⟩ : MethodName)) hown (mvT hZ (hw _ (List.mem_of_getElem? (i := 62) rfl))) (mvT hZ (hw _ (List.mem_of_getElem? (i := 63) rfl))) (mvT hZ (hw _ (List.mem_of_getElem? (i := 52) rfl))) (mvT hZ (hw _ (List.mem_of_getElem? (i := 64) rfl))) (by decide)
    (Jvm.Free.CopyOfC.Copy2.pays (K := 32) G (own_tab2 hw hZ) hf hlo) (g := g) hg hsize (argsL := [.ref w, .int n]) (rest := rest) (lenOf own_pdC2 rfl) hs hW hd (fun vm₁ hwm => by
      have al := hwm.alike
      have fc : ∀ {C : String} {cc : ClassId}, Z.vm.findClass C = some cc → vm₁.findClass C = some cc := fun {C cc} q => by rw [al.findClass, hZ.alike.findClass]; exact q
      obtain ⟨kA, a1, a2⟩ := (hZ.alike.trans al).2.2 _ _ j2
      obtain ⟨kO, b1, b2⟩ := (hZ.alike.trans al).2.2 _ _ o2
      refine ⟨hc, hl, rfl, ⟨rfl, by show T.heap[w]? = _; rw [eT]; exact i1, As.2.2, vmn, ⟨kA, cObj, .object "java/lang/Object", a1, by rw [a2]; exact o3, rfl⟩, fc i2, ⟨kA, a1, by rw [a2]; exact o3, by rw [a2]; exact m3⟩, fc o1, ⟨kO, b1⟩, by show vm₁.findClass _ = _; rw [al.findClass]; exact fAR, hn, n31, ?_, ?_, ?_⟩, ?_, rfl⟩
      · show n.toNatClampNeg * 4 ≤ 536870912; omega
      · show cs.slots.size < 2 ^ 31; rw [size0]; decide
      · intro i hi; exact absurd hi (by show ¬ i < cs.slots.size; rw [size0]; exact Nat.not_lt_zero _)
      · exact notFace_of_selects (args := #[]) (mvT (s := T.setVm vm₁) (wtrans hZ hwm) (hw _ (List.mem_of_getElem? (i := 68) rfl))))
  dsimp only [Pt.U, Pt.locs, Pt.cells, Pt.slots] at X' hv' hcell hl' hk' hn' keep st
  subst hv' hl' hk' hn'
  have hsz : (T.setVm vm₁).heap.size = h.size := by show T.heap.size = _; rw [eT]
  rw [hsz] at hcell st
  have mn0 : Jvm.Free.CopyOfC.Copy3.mn G = 0 := by
    show (if n < cs.slots.size.toInt32 then n else cs.slots.size.toInt32) = 0
    rw [size0]
    have e0 : (0 : Nat).toInt32 = 0 := rfl
    rw [e0, if_neg]
    rw [Int32.lt_iff_toInt_lt]; have : (0 : Int32).toInt = 0 := rfl
    omega
  rw [mn0] at hcell
  have hcell' : T'.heap[h.size]? = some (newA cs.cls (.object "java/lang/Object") n) := hcell
  refine ⟨T', T'.heap, cs.cls, X'.mono (Nat.le_refl _) (Nat.add_le_add_left n31 _), rfl, ⟨Nat.le_of_lt (Array.getElem?_eq_some_iff.mp hcell').1, fun a c q => keep a c (by show T.heap[a]? = _; rw [eT]; exact q)⟩, ⟨hcell', ⟨by simp [newA], kk, j2, cObj, o3⟩, by simp [newA]⟩, ⟨_, kk, hcell', i2, j2, rfl, fun q => by rw [o3] at q; cases q⟩, ⟨kk, cObj, j2, o3, o1⟩, st⟩
end OwnCp
theorem own_selG {Z s : State} {a0 a1 : Array Value} (hw : ∀ d ∈ tables_1, d.before a0 Z = true) (hZ : Z.Warmed39 s.vm) : (Jvm.Cond.selects "com/example/whenever/whenever/internal/engine/Rows" (⟨"com/example/whenever/whenever/internal/engine/Rows", "grow", "()V"⟩ : MethodName) (⟨"com/example/whenever/whenever/internal/engine/Rows", "grow", "()V"⟩ : MethodName)).before a1 s = true := by
  have w := mvT (args := a1) hZ (hw _ (List.mem_of_getElem? (i := 34) rfl))
  obtain ⟨cc, r, mm, f1, -, f3, -, mk, f5, f6⟩ := Cond.selects_spec w
  have e : mm.cls = cc := Option.some.inj ((findClass_of_methodNamed f3).symm.trans f1)
  subst e
  exact Jvm.Stand.selects_self_of_private (y := (⟨"com/example/whenever/whenever/internal/engine/Rows", "grow", "()V"⟩ : MethodName)) f1 f5 f6 (Cond.privateMethod_at (mvP hZ (hw _ (List.mem_of_getElem? (i := 44) rfl)) (args := #[]))) (mvT hZ (hw _ (List.mem_of_getElem? (i := 43) rfl))) (by decide)
theorem pn0 : plainName "com/example/whenever/whenever/internal/engine/Rows" = true := by first | (simp [plainName, overriddenIn]; done) | decide +kernel
theorem pn1 : plainFor (⟨"java/lang/Math", "max", "(II)I"⟩ : MethodName) = true := by decide +kernel
theorem pn2 : plainFor (⟨"java/lang/Math", "min", "(II)I"⟩ : MethodName) = true := by decide +kernel
theorem pn3 : plainName "java/util/Arrays" = true := by first | (simp [plainName, overriddenIn]; done) | decide +kernel
theorem pn4 : plainName "com/example/whenever/whenever/internal/engine/RowsSetRefPinLaw" = true := by first | (simp [plainName, overriddenIn]; done) | decide +kernel
theorem pn5 : plainName "java/lang/Number" = true := by first | (simp [plainName, overriddenIn]; done) | decide +kernel
theorem pn6 : plainName "java/lang/Integer" = true := by first | (simp [plainName, overriddenIn]; done) | decide +kernel
theorem pd0 : parseMethodDescriptor "(II)V" = some ⟨[.int, .int], none⟩ := by decide +kernel
theorem pd1 : parseMethodDescriptor "(II)I" = some ⟨[.int, .int], some .int⟩ := by decide +kernel
theorem pd2 : parseMethodDescriptor "([II)[I" = some ⟨[(.array .int), .int], some (.array .int)⟩ := by decide +kernel
theorem pd3 : parseMethodDescriptor "()V" = some ⟨[], none⟩ := by decide +kernel
theorem pd4 : parseMethodDescriptor "()I" = some ⟨[], some .int⟩ := by decide +kernel
theorem pd5 : parseMethodDescriptor "(IIII)I" = some ⟨[.int, .int, .int, .int], some .int⟩ := by decide +kernel
theorem pd6 : parseMethodDescriptor "(I)V" = some ⟨[.int], none⟩ := by decide +kernel
theorem pd7 : parseMethodDescriptor "(I)Ljava/lang/Integer;" = some ⟨[.int], some (.object "java/lang/Integer")⟩ := by decide +kernel
theorem pd8 : parseMethodDescriptor "(IILjava/lang/Object;)V" = some ⟨[.int, .int, (.object "java/lang/Object")], none⟩ := by decide +kernel
theorem pd9 : parseMethodDescriptor "(II)Ljava/lang/Object;" = some ⟨[.int, .int], some (.object "java/lang/Object")⟩ := by decide +kernel
theorem pd10 : parseMethodDescriptor "(IIIILjava/lang/Object;IILjava/lang/Object;)Ljava/lang/Object;" = some ⟨[.int, .int, .int, .int, (.object "java/lang/Object"), .int, .int, (.object "java/lang/Object")], some (.object "java/lang/Object")⟩ := by decide +kernel
theorem d1_0 : decode prog_105_method_1_code 0 = .ok (.aload_n 0, 1) := by decide +kernel
theorem d1_1 : decode prog_105_method_1_code 1 = .ok (.invokespecial 3, 3) := by decide +kernel
theorem d1_4 : decode prog_105_method_1_code 4 = .ok (.aload_n 0, 1) := by decide +kernel
theorem d1_5 : decode prog_105_method_1_code 5 = .ok (.iconst 1, 1) := by decide +kernel
theorem d1_6 : decode prog_105_method_1_code 6 = .ok (.anewarray 9, 3) := by decide +kernel
theorem d1_9 : decode prog_105_method_1_code 9 = .ok (.dup, 1) := by decide +kernel
theorem d1_10 : decode prog_105_method_1_code 10 = .ok (.iconst 0, 1) := by decide +kernel
theorem d1_11 : decode prog_105_method_1_code 11 = .ok (.getstatic 11, 3) := by decide +kernel
theorem d1_14 : decode prog_105_method_1_code 14 = .ok (.aastore, 1) := by decide +kernel
theorem d1_15 : decode prog_105_method_1_code 15 = .ok (.putfield 14, 3) := by decide +kernel
theorem d1_18 : decode prog_105_method_1_code 18 = .ok (.aload_n 0, 1) := by decide +kernel
theorem d1_19 : decode prog_105_method_1_code 19 = .ok (.iconst 1, 1) := by decide +kernel
theorem d1_20 : decode prog_105_method_1_code 20 = .ok (.anewarray 18, 3) := by decide +kernel
theorem d1_23 : decode prog_105_method_1_code 23 = .ok (.dup, 1) := by decide +kernel
theorem d1_24 : decode prog_105_method_1_code 24 = .ok (.iconst 0, 1) := by decide +kernel
theorem d1_25 : decode prog_105_method_1_code 25 = .ok (.getstatic 20, 3) := by decide +kernel
theorem d1_28 : decode prog_105_method_1_code 28 = .ok (.aastore, 1) := by decide +kernel
theorem d1_29 : decode prog_105_method_1_code 29 = .ok (.putfield 23, 3) := by decide +kernel
theorem d1_32 : decode prog_105_method_1_code 32 = .ok (.aload_n 0, 1) := by decide +kernel
theorem d1_33 : decode prog_105_method_1_code 33 = .ok (.iconst 1, 1) := by decide +kernel
theorem d1_34 : decode prog_105_method_1_code 34 = .ok (.putfield 27, 3) := by decide +kernel
theorem d1_37 : decode prog_105_method_1_code 37 = .ok (.aload_n 0, 1) := by decide +kernel
theorem d1_38 : decode prog_105_method_1_code 38 = .ok (.getstatic 11, 3) := by decide +kernel
theorem d1_41 : decode prog_105_method_1_code 41 = .ok (.putfield 31, 3) := by decide +kernel
theorem d1_44 : decode prog_105_method_1_code 44 = .ok (.iload_n 1, 1) := by decide +kernel
theorem d1_45 : decode prog_105_method_1_code 45 = .ok (.iconst 1, 1) := by decide +kernel
theorem d1_46 : decode prog_105_method_1_code 46 = .ok (.if_icmp .ge 13, 3) := by decide +kernel
theorem d1_59 : decode prog_105_method_1_code 59 = .ok (.aload_n 0, 1) := by decide +kernel
theorem d1_60 : decode prog_105_method_1_code 60 = .ok (.iload_n 1, 1) := by decide +kernel
theorem d1_61 : decode prog_105_method_1_code 61 = .ok (.putfield 41, 3) := by decide +kernel
theorem d1_64 : decode prog_105_method_1_code 64 = .ok (.aload_n 0, 1) := by decide +kernel
theorem d1_65 : decode prog_105_method_1_code 65 = .ok (.iload_n 2, 1) := by decide +kernel
theorem d1_66 : decode prog_105_method_1_code 66 = .ok (.putfield 44, 3) := by decide +kernel
theorem d1_69 : decode prog_105_method_1_code 69 = .ok (.return_, 1) := by decide +kernel
theorem d3_0 : decode prog_105_method_2_code 0 = .ok (.aload_n 0, 1) := by decide +kernel
theorem d3_1 : decode prog_105_method_2_code 1 = .ok (.getfield 47, 3) := by decide +kernel
theorem d3_4 : decode prog_105_method_2_code 4 = .ok (.ifCond .eq 20, 3) := by decide +kernel
theorem d3_24 : decode prog_105_method_2_code 24 = .ok (.aload_n 0, 1) := by decide +kernel
theorem d3_25 : decode prog_105_method_2_code 25 = .ok (.getfield 54, 3) := by decide +kernel
theorem d3_28 : decode prog_105_method_2_code 28 = .ok (.ifnull 17, 3) := by decide +kernel
theorem d3_45 : decode prog_105_method_2_code 45 = .ok (.aload_n 0, 1) := by decide +kernel
theorem d3_46 : decode prog_105_method_2_code 46 = .ok (.getfield 27, 3) := by decide +kernel
theorem d3_49 : decode prog_105_method_2_code 49 = .ok (.aload_n 0, 1) := by decide +kernel
theorem d3_50 : decode prog_105_method_2_code 50 = .ok (.getfield 64, 3) := by decide +kernel
theorem d3_53 : decode prog_105_method_2_code 53 = .ok (.if_icmp .lt 7, 3) := by decide +kernel
theorem d3_56 : decode prog_105_method_2_code 56 = .ok (.aload_n 0, 1) := by decide +kernel
theorem d3_57 : decode prog_105_method_2_code 57 = .ok (.invokevirtual 67, 3) := by decide +kernel
theorem d3_60 : decode prog_105_method_2_code 60 = .ok (.aload_n 0, 1) := by decide +kernel
theorem d3_61 : decode prog_105_method_2_code 61 = .ok (.getfield 27, 3) := by decide +kernel
theorem d3_64 : decode prog_105_method_2_code 64 = .ok (.istore_n 1, 1) := by decide +kernel
theorem d3_65 : decode prog_105_method_2_code 65 = .ok (.aload_n 0, 1) := by decide +kernel
theorem d3_66 : decode prog_105_method_2_code 66 = .ok (.dup, 1) := by decide +kernel
theorem d3_67 : decode prog_105_method_2_code 67 = .ok (.getfield 27, 3) := by decide +kernel
theorem d3_70 : decode prog_105_method_2_code 70 = .ok (.iconst 1, 1) := by decide +kernel
theorem d3_71 : decode prog_105_method_2_code 71 = .ok (.iadd, 1) := by decide +kernel
theorem d3_72 : decode prog_105_method_2_code 72 = .ok (.putfield 27, 3) := by decide +kernel
theorem d3_75 : decode prog_105_method_2_code 75 = .ok (.aload_n 0, 1) := by decide +kernel
theorem d3_76 : decode prog_105_method_2_code 76 = .ok (.getfield 54, 3) := by decide +kernel
theorem d3_79 : decode prog_105_method_2_code 79 = .ok (.ifnull 19, 3) := by decide +kernel
theorem d3_98 : decode prog_105_method_2_code 98 = .ok (.iload_n 1, 1) := by decide +kernel
theorem d3_99 : decode prog_105_method_2_code 99 = .ok (.ireturn, 1) := by decide +kernel
theorem d4_0 : decode prog_105_method_3_code 0 = .ok (.aload_n 0, 1) := by decide +kernel
theorem d4_1 : decode prog_105_method_3_code 1 = .ok (.getfield 64, 3) := by decide +kernel
theorem d4_4 : decode prog_105_method_3_code 4 = .ok (.sipush 4096, 3) := by decide +kernel
theorem d4_7 : decode prog_105_method_3_code 7 = .ok (.if_icmp .ge 67, 3) := by decide +kernel
theorem d4_10 : decode prog_105_method_3_code 10 = .ok (.aload_n 0, 1) := by decide +kernel
theorem d4_11 : decode prog_105_method_3_code 11 = .ok (.bipush 8, 2) := by decide +kernel
theorem d4_13 : decode prog_105_method_3_code 13 = .ok (.iconst 2, 1) := by decide +kernel
theorem d4_14 : decode prog_105_method_3_code 14 = .ok (.aload_n 0, 1) := by decide +kernel
theorem d4_15 : decode prog_105_method_3_code 15 = .ok (.getfield 64, 3) := by decide +kernel
theorem d4_18 : decode prog_105_method_3_code 18 = .ok (.imul, 1) := by decide +kernel
theorem d4_19 : decode prog_105_method_3_code 19 = .ok (.invokestatic 73, 3) := by decide +kernel
theorem d4_22 : decode prog_105_method_3_code 22 = .ok (.putfield 64, 3) := by decide +kernel
theorem d4_25 : decode prog_105_method_3_code 25 = .ok (.aload_n 0, 1) := by decide +kernel
theorem d4_26 : decode prog_105_method_3_code 26 = .ok (.getfield 14, 3) := by decide +kernel
theorem d4_29 : decode prog_105_method_3_code 29 = .ok (.iconst 0, 1) := by decide +kernel
theorem d4_30 : decode prog_105_method_3_code 30 = .ok (.aload_n 0, 1) := by decide +kernel
theorem d4_31 : decode prog_105_method_3_code 31 = .ok (.getfield 14, 3) := by decide +kernel
theorem d4_34 : decode prog_105_method_3_code 34 = .ok (.iconst 0, 1) := by decide +kernel
theorem d4_35 : decode prog_105_method_3_code 35 = .ok (.aaload, 1) := by decide +kernel
theorem d4_36 : decode prog_105_method_3_code 36 = .ok (.aload_n 0, 1) := by decide +kernel
theorem d4_37 : decode prog_105_method_3_code 37 = .ok (.getfield 64, 3) := by decide +kernel
theorem d4_40 : decode prog_105_method_3_code 40 = .ok (.aload_n 0, 1) := by decide +kernel
theorem d4_41 : decode prog_105_method_3_code 41 = .ok (.getfield 41, 3) := by decide +kernel
theorem d4_44 : decode prog_105_method_3_code 44 = .ok (.imul, 1) := by decide +kernel
theorem d4_45 : decode prog_105_method_3_code 45 = .ok (.invokestatic 78, 3) := by decide +kernel
theorem d4_48 : decode prog_105_method_3_code 48 = .ok (.aastore, 1) := by decide +kernel
theorem d4_49 : decode prog_105_method_3_code 49 = .ok (.aload_n 0, 1) := by decide +kernel
theorem d4_50 : decode prog_105_method_3_code 50 = .ok (.getfield 23, 3) := by decide +kernel
theorem d4_53 : decode prog_105_method_3_code 53 = .ok (.iconst 0, 1) := by decide +kernel
theorem d4_54 : decode prog_105_method_3_code 54 = .ok (.aload_n 0, 1) := by decide +kernel
theorem d4_55 : decode prog_105_method_3_code 55 = .ok (.getfield 23, 3) := by decide +kernel
theorem d4_58 : decode prog_105_method_3_code 58 = .ok (.iconst 0, 1) := by decide +kernel
theorem d4_59 : decode prog_105_method_3_code 59 = .ok (.aaload, 1) := by decide +kernel
theorem d4_60 : decode prog_105_method_3_code 60 = .ok (.aload_n 0, 1) := by decide +kernel
theorem d4_61 : decode prog_105_method_3_code 61 = .ok (.getfield 64, 3) := by decide +kernel
theorem d4_64 : decode prog_105_method_3_code 64 = .ok (.aload_n 0, 1) := by decide +kernel
theorem d4_65 : decode prog_105_method_3_code 65 = .ok (.getfield 44, 3) := by decide +kernel
theorem d4_68 : decode prog_105_method_3_code 68 = .ok (.imul, 1) := by decide +kernel
theorem d4_69 : decode prog_105_method_3_code 69 = .ok (.invokestatic 84, 3) := by decide +kernel
theorem d4_72 : decode prog_105_method_3_code 72 = .ok (.aastore, 1) := by decide +kernel
theorem d4_73 : decode prog_105_method_3_code 73 = .ok (.return_, 1) := by decide +kernel
theorem d5_0 : decode jdk_29_method_65_code 0 = .ok (.iload_n 0, 1) := by decide +kernel
theorem d5_1 : decode jdk_29_method_65_code 1 = .ok (.iload_n 1, 1) := by decide +kernel
theorem d5_2 : decode jdk_29_method_65_code 2 = .ok (.if_icmp .lt 7, 3) := by decide +kernel
theorem d5_5 : decode jdk_29_method_65_code 5 = .ok (.iload_n 0, 1) := by decide +kernel
theorem d5_6 : decode jdk_29_method_65_code 6 = .ok (.goto 4, 3) := by decide +kernel
theorem d5_10 : decode jdk_29_method_65_code 10 = .ok (.ireturn, 1) := by decide +kernel
theorem d6_0 : decode jdk_65_method_123_code 0 = .ok (.iload_n 1, 1) := by decide +kernel
theorem d6_1 : decode jdk_65_method_123_code 1 = .ok (.aload_n 0, 1) := by decide +kernel
theorem d6_2 : decode jdk_65_method_123_code 2 = .ok (.arraylength, 1) := by decide +kernel
theorem d6_3 : decode jdk_65_method_123_code 3 = .ok (.if_icmp .ne 11, 3) := by decide +kernel
theorem d6_14 : decode jdk_65_method_123_code 14 = .ok (.iload_n 1, 1) := by decide +kernel
theorem d6_15 : decode jdk_65_method_123_code 15 = .ok (.newarray .int, 2) := by decide +kernel
theorem d6_17 : decode jdk_65_method_123_code 17 = .ok (.astore_n 2, 1) := by decide +kernel
theorem d6_18 : decode jdk_65_method_123_code 18 = .ok (.aload_n 0, 1) := by decide +kernel
theorem d6_19 : decode jdk_65_method_123_code 19 = .ok (.iconst 0, 1) := by decide +kernel
theorem d6_20 : decode jdk_65_method_123_code 20 = .ok (.aload_n 2, 1) := by decide +kernel
theorem d6_21 : decode jdk_65_method_123_code 21 = .ok (.iconst 0, 1) := by decide +kernel
theorem d6_22 : decode jdk_65_method_123_code 22 = .ok (.aload_n 0, 1) := by decide +kernel
theorem d6_23 : decode jdk_65_method_123_code 23 = .ok (.arraylength, 1) := by decide +kernel
theorem d6_24 : decode jdk_65_method_123_code 24 = .ok (.iload_n 1, 1) := by decide +kernel
theorem d6_25 : decode jdk_65_method_123_code 25 = .ok (.invokestatic 304, 3) := by decide +kernel
theorem d6_28 : decode jdk_65_method_123_code 28 = .ok (.invokestatic 150, 3) := by decide +kernel
theorem d6_31 : decode jdk_65_method_123_code 31 = .ok (.aload_n 2, 1) := by decide +kernel
theorem d6_32 : decode jdk_65_method_123_code 32 = .ok (.areturn, 1) := by decide +kernel
theorem d7_0 : decode jdk_29_method_69_code 0 = .ok (.iload_n 0, 1) := by decide +kernel
theorem d7_1 : decode jdk_29_method_69_code 1 = .ok (.iload_n 1, 1) := by decide +kernel
theorem d7_2 : decode jdk_29_method_69_code 2 = .ok (.if_icmp .gt 7, 3) := by decide +kernel
theorem d7_5 : decode jdk_29_method_69_code 5 = .ok (.iload_n 0, 1) := by decide +kernel
theorem d7_6 : decode jdk_29_method_69_code 6 = .ok (.goto 4, 3) := by decide +kernel
theorem d7_9 : decode jdk_29_method_69_code 9 = .ok (.iload_n 1, 1) := by decide +kernel
theorem d7_10 : decode jdk_29_method_69_code 10 = .ok (.ireturn, 1) := by decide +kernel
theorem d10_0 : decode method_3_code 0 = .ok (.iload_n 0, 1) := by decide +kernel
theorem d10_1 : decode method_3_code 1 = .ok (.iconst 3, 1) := by decide +kernel
theorem d10_2 : decode method_3_code 2 = .ok (.irem, 1) := by decide +kernel
theorem d10_3 : decode method_3_code 3 = .ok (.istore 4, 2) := by decide +kernel
theorem d10_5 : decode method_3_code 5 = .ok (.iload 4, 2) := by decide +kernel
theorem d10_7 : decode method_3_code 7 = .ok (.ifCond .ne 5, 3) := by decide +kernel
theorem d10_10 : decode method_3_code 10 = .ok (.iload_n 1, 1) := by decide +kernel
theorem d10_11 : decode method_3_code 11 = .ok (.ireturn, 1) := by decide +kernel
theorem d10_12 : decode method_3_code 12 = .ok (.iload 4, 2) := by decide +kernel
theorem d10_14 : decode method_3_code 14 = .ok (.iconst 1, 1) := by decide +kernel
theorem d10_15 : decode method_3_code 15 = .ok (.if_icmp .ne 5, 3) := by decide +kernel
theorem d10_18 : decode method_3_code 18 = .ok (.iload_n 2, 1) := by decide +kernel
theorem d10_19 : decode method_3_code 19 = .ok (.ireturn, 1) := by decide +kernel
theorem d10_20 : decode method_3_code 20 = .ok (.iload_n 3, 1) := by decide +kernel
theorem d10_21 : decode method_3_code 21 = .ok (.ireturn, 1) := by decide +kernel
theorem d11_0 : decode jdk_33_method_22_code 0 = .ok (.iload_n 0, 1) := by decide +kernel
theorem d11_1 : decode jdk_33_method_22_code 1 = .ok (.bipush (-128), 2) := by decide +kernel
theorem d11_3 : decode jdk_33_method_22_code 3 = .ok (.if_icmp .lt 20, 3) := by decide +kernel
theorem d11_6 : decode jdk_33_method_22_code 6 = .ok (.iload_n 0, 1) := by decide +kernel
theorem d11_7 : decode jdk_33_method_22_code 7 = .ok (.getstatic 191, 3) := by decide +kernel
theorem d11_10 : decode jdk_33_method_22_code 10 = .ok (.if_icmp .gt 13, 3) := by decide +kernel
theorem d11_13 : decode jdk_33_method_22_code 13 = .ok (.getstatic 195, 3) := by decide +kernel
theorem d11_16 : decode jdk_33_method_22_code 16 = .ok (.iload_n 0, 1) := by decide +kernel
theorem d11_17 : decode jdk_33_method_22_code 17 = .ok (.sipush 128, 3) := by decide +kernel
theorem d11_20 : decode jdk_33_method_22_code 20 = .ok (.iadd, 1) := by decide +kernel
theorem d11_21 : decode jdk_33_method_22_code 21 = .ok (.aaload, 1) := by decide +kernel
theorem d11_22 : decode jdk_33_method_22_code 22 = .ok (.areturn, 1) := by decide +kernel
theorem d11_23 : decode jdk_33_method_22_code 23 = .ok (.new 1, 3) := by decide +kernel
theorem d11_26 : decode jdk_33_method_22_code 26 = .ok (.dup, 1) := by decide +kernel
theorem d11_27 : decode jdk_33_method_22_code 27 = .ok (.iload_n 0, 1) := by decide +kernel
theorem d11_28 : decode jdk_33_method_22_code 28 = .ok (.invokespecial 199, 3) := by decide +kernel
theorem d11_31 : decode jdk_33_method_22_code 31 = .ok (.areturn, 1) := by decide +kernel
theorem d12_0 : decode prog_105_method_10_code 0 = .ok (.aload_n 0, 1) := by decide +kernel
theorem d12_1 : decode prog_105_method_10_code 1 = .ok (.getfield 23, 3) := by decide +kernel
theorem d12_4 : decode prog_105_method_10_code 4 = .ok (.iload_n 1, 1) := by decide +kernel
theorem d12_5 : decode prog_105_method_10_code 5 = .ok (.bipush 12, 2) := by decide +kernel
theorem d12_7 : decode prog_105_method_10_code 7 = .ok (.iushr, 1) := by decide +kernel
theorem d12_8 : decode prog_105_method_10_code 8 = .ok (.aaload, 1) := by decide +kernel
theorem d12_9 : decode prog_105_method_10_code 9 = .ok (.iload_n 1, 1) := by decide +kernel
theorem d12_10 : decode prog_105_method_10_code 10 = .ok (.sipush 4095, 3) := by decide +kernel
theorem d12_13 : decode prog_105_method_10_code 13 = .ok (.iand, 1) := by decide +kernel
theorem d12_14 : decode prog_105_method_10_code 14 = .ok (.aload_n 0, 1) := by decide +kernel
theorem d12_15 : decode prog_105_method_10_code 15 = .ok (.getfield 44, 3) := by decide +kernel
theorem d12_18 : decode prog_105_method_10_code 18 = .ok (.imul, 1) := by decide +kernel
theorem d12_19 : decode prog_105_method_10_code 19 = .ok (.iload_n 2, 1) := by decide +kernel
theorem d12_20 : decode prog_105_method_10_code 20 = .ok (.iadd, 1) := by decide +kernel
theorem d12_21 : decode prog_105_method_10_code 21 = .ok (.aload_n 3, 1) := by decide +kernel
theorem d12_22 : decode prog_105_method_10_code 22 = .ok (.aastore, 1) := by decide +kernel
theorem d12_23 : decode prog_105_method_10_code 23 = .ok (.return_, 1) := by decide +kernel
theorem d13_0 : decode prog_105_method_9_code 0 = .ok (.aload_n 0, 1) := by decide +kernel
theorem d13_1 : decode prog_105_method_9_code 1 = .ok (.getfield 23, 3) := by decide +kernel
theorem d13_4 : decode prog_105_method_9_code 4 = .ok (.iload_n 1, 1) := by decide +kernel
theorem d13_5 : decode prog_105_method_9_code 5 = .ok (.bipush 12, 2) := by decide +kernel
theorem d13_7 : decode prog_105_method_9_code 7 = .ok (.iushr, 1) := by decide +kernel
theorem d13_8 : decode prog_105_method_9_code 8 = .ok (.aaload, 1) := by decide +kernel
theorem d13_9 : decode prog_105_method_9_code 9 = .ok (.iload_n 1, 1) := by decide +kernel
theorem d13_10 : decode prog_105_method_9_code 10 = .ok (.sipush 4095, 3) := by decide +kernel
theorem d13_13 : decode prog_105_method_9_code 13 = .ok (.iand, 1) := by decide +kernel
theorem d13_14 : decode prog_105_method_9_code 14 = .ok (.aload_n 0, 1) := by decide +kernel
theorem d13_15 : decode prog_105_method_9_code 15 = .ok (.getfield 44, 3) := by decide +kernel
theorem d13_18 : decode prog_105_method_9_code 18 = .ok (.imul, 1) := by decide +kernel
theorem d13_19 : decode prog_105_method_9_code 19 = .ok (.iload_n 2, 1) := by decide +kernel
theorem d13_20 : decode prog_105_method_9_code 20 = .ok (.iadd, 1) := by decide +kernel
theorem d13_21 : decode prog_105_method_9_code 21 = .ok (.aaload, 1) := by decide +kernel
theorem d13_22 : decode prog_105_method_9_code 22 = .ok (.areturn, 1) := by decide +kernel
theorem d14_0 : decode method_4_code 0 = .ok (.iload_n 0, 1) := by decide +kernel
theorem d14_1 : decode method_4_code 1 = .ok (.iload 5, 2) := by decide +kernel
theorem d14_3 : decode method_4_code 3 = .ok (.if_icmp .ne 12, 3) := by decide +kernel
theorem d14_6 : decode method_4_code 6 = .ok (.iload_n 1, 1) := by decide +kernel
theorem d14_7 : decode method_4_code 7 = .ok (.iload 6, 2) := by decide +kernel
theorem d14_9 : decode method_4_code 9 = .ok (.if_icmp .ne 6, 3) := by decide +kernel
theorem d14_12 : decode method_4_code 12 = .ok (.aload 7, 2) := by decide +kernel
theorem d14_14 : decode method_4_code 14 = .ok (.areturn, 1) := by decide +kernel
theorem d14_15 : decode method_4_code 15 = .ok (.iload_n 0, 1) := by decide +kernel
theorem d14_16 : decode method_4_code 16 = .ok (.iload_n 2, 1) := by decide +kernel
theorem d14_17 : decode method_4_code 17 = .ok (.if_icmp .ne 11, 3) := by decide +kernel
theorem d14_20 : decode method_4_code 20 = .ok (.iload_n 1, 1) := by decide +kernel
theorem d14_21 : decode method_4_code 21 = .ok (.iload_n 3, 1) := by decide +kernel
theorem d14_22 : decode method_4_code 22 = .ok (.if_icmp .ne 6, 3) := by decide +kernel
theorem d14_25 : decode method_4_code 25 = .ok (.aload 4, 2) := by decide +kernel
theorem d14_27 : decode method_4_code 27 = .ok (.areturn, 1) := by decide +kernel
theorem d14_28 : decode method_4_code 28 = .ok (.aconst_null, 1) := by decide +kernel
theorem d14_29 : decode method_4_code 29 = .ok (.areturn, 1) := by decide +kernel
theorem d15_0 : decode jdk_33_method_23_code 0 = .ok (.aload_n 0, 1) := by decide +kernel
theorem d15_1 : decode jdk_33_method_23_code 1 = .ok (.invokespecial 202, 3) := by decide +kernel
theorem d15_4 : decode jdk_33_method_23_code 4 = .ok (.aload_n 0, 1) := by decide +kernel
theorem d15_5 : decode jdk_33_method_23_code 5 = .ok (.iload_n 1, 1) := by decide +kernel
theorem d15_6 : decode jdk_33_method_23_code 6 = .ok (.putfield 205, 3) := by decide +kernel
theorem d15_9 : decode jdk_33_method_23_code 9 = .ok (.return_, 1) := by decide +kernel
theorem d16_0 : decode jdk_18_method_1_code 0 = .ok (.aload_n 0, 1) := by decide +kernel
theorem d16_1 : decode jdk_18_method_1_code 1 = .ok (.invokespecial 1, 3) := by decide +kernel
theorem d16_4 : decode jdk_18_method_1_code 4 = .ok (.return_, 1) := by decide +kernel
def Q1_1 (Z : State) (b : Addr) (kk rf : Int32) (w0 w1 mr wc : Addr) (kw0 kw1 : ClassId) (h0 : Heap) (n0 : Nat) (v : Option Value) (h : Heap) (L : List Loc) : Prop := Fr n0 L ∧ Old Z n0 h ∧ n0 ≤ h.size ∧ Keep h0 h [b] ∧ v = none ∧ ∃ (A1 A2 : Addr) (k1 k2 : ClassId), own_Rows Z h n0 w0 b A1 A2 w0 w1 k1 k2 (1 : Int32) kk rf (0 : Int32)
set_option maxRecDepth 65536 in
set_option maxHeartbeats 40000000 in
theorem rm1_1 (l : Launch) (Z : State) (a0 : Array Value) (hw : ∀ d ∈ tables_1, d.before a0 Z = true) (ws : List Jvm.Cond) (b : Addr) (kk rf : Int32) (w0 w1 mr wc : Addr) (kw0 kw1 : ClassId) (h0 : Heap) (n0 : Nat) (Z0 : n0 ≤ h0.size) (K : own_K Z Z.heap w0 w1 mr wc kw0 kw1) (OL : Old Z n0 h0) (hk1 : ¬ (kk < (1 : Int32))) (OB_b : own_Obj0 Z h0 b .null .null (0 : Int32) .null (0 : Int32) (0 : Int32) (0 : Int32) .null (0 : Int32)) (g_b : n0 ≤ b) :
    MetFree l (⟨"com/example/whenever/whenever/internal/engine/Rows", "<init>", "(II)V"⟩ : MethodName) (head1 (Jvm.Cond.code (⟨"com/example/whenever/whenever/internal/engine/Rows", "<init>", "(II)V"⟩ : MethodName) prog_105_method_1_code 3 none :: ws) ({ frames := 1, cells := 2, slots := 2, locals := 12 } : Room)) (fun a U => a = #[(.ref b), (.int kk), (.int rf)] ∧ Z.Warmed39 U.vm ∧ U.heap = h0) (fun _ _ _ _ _ => True) (fun _ U o U' => ∃ v L, o = .returned v ∧ Q1_1 Z b kk rf w0 w1 mr wc kw0 kw1 h0 n0 v U'.heap L ∧ FrameEnd U o U' L ({ frames := 1, cells := 2, slots := 2, locals := 12 } : Room).cells ({ frames := 1, cells := 2, slots := 2, locals := 12 } : Room).slots) := by
  refine MetFree.of_bodySF (plainFor_of_name pn0) hisR ?_
  intro p e s m args below meth c s₁ Bd hml0 hP hK
  obtain ⟨rfl, hZ, hh⟩ := hP
  have hx := Bd.exec
  have hby := Bd.bytes
  have hml : c.maxLocals = 3 := hml0
  have hown : s.vm.findClass "com/example/whenever/whenever/internal/engine/Rows" = some m.cls := findClass_of_methodNamed Bd.named
  have hnm := (name_of_methodNamed Bd.named Bd.method).1
  have hlk := Bd.notSynchronized
  have X0 : Stand p l e ({ frames := 1, cells := 2, slots := 2, locals := 12 } : Room) s m #[(.ref b), (.int kk), (.int rf)] below meth c s₁ [] 0 0 := Stand.of_body Bd
  have e0 : s₁.heap = h0 := by rw [← hh, Bd.state]; rfl
  have K0 := K
  obtain ⟨S_w0, S_w1, E_w0, E_w1, V_w0, V_w1, MR, S_wc, S_high, CA⟩ := K
  show own_Go p e below s (Q1_1 Z b kk rf w0 w1 mr wc kw0 kw1 h0 n0) 2 2 (s₁.setTop (entryFrame m #[(.ref b), (.int kk), (.int rf)] 3))
  rw [show entryFrame m #[(.ref b), (.int kk), (.int rf)] 3 = mkF m 0 #[.val (.ref b), .val (.int kk), .val (.int rf)] [] from by first | (simp [entryFrame, mkF, argsToLocals, Value.category]; done) | rfl]
  have KP := Keep.refl h0 [b]
  show own_Go p e below s _ _ _ (s₁.setTop (mkF m 0 #[.val (.ref b), .val (.int kk), .val (.int rf)] []))
  refine own_via (fun _ k => XS.aloadN X0.here hx rfl (hb hby d1_0) rfl rfl k) ?_
  show own_Go p e below s _ _ _ (s₁.setTop (mkF m 1 #[.val (.ref b), .val (.int kk), .val (.int rf)] [(.ref b)]))
  obtain ⟨T1, X1, e1, st1⟩ := initO X0 hx hZ hown (hw _ (List.mem_of_getElem? (i := 6) rfl)) (hw _ (List.mem_of_getElem? (i := 7) rfl)) (hw _ (List.mem_of_getElem? (i := 8) rfl)) e0 (g := (mkF m 1 #[.val (.ref b), .val (.int kk), .val (.int rf)] [(.ref b)])) rfl (by rw [hml]; rfl) rfl (hb hby d1_1) (by decide) (W := 0) (by show 2 * 0 + _ ≤ _; exact Nat.le_of_eq rfl) (by decide)
  refine own_via st1 ?_
  show own_Go p e below s _ _ _ (T1.setTop (mkF m 4 #[.val (.ref b), .val (.int kk), .val (.int rf)] []))
  refine own_via (fun _ k => XS.aloadN X1.here hx rfl (hb hby d1_4) rfl rfl k) ?_
  show own_Go p e below s _ _ _ (T1.setTop (mkF m 5 #[.val (.ref b), .val (.int kk), .val (.int rf)] [(.ref b)]))
  refine own_via (fun _ k => XS.iconst X1.here hx rfl (hb hby d1_5) k) ?_
  show own_Go p e below s _ _ _ (T1.setTop (mkF m 6 #[.val (.ref b), .val (.int kk), .val (.int rf)] [(.int (1 : Int32)), (.ref b)]))
  obtain ⟨T2, h2, k2, X2, e2, E2, A2, -, OV_b2, st2⟩ := newRA X1 hx hZ hown (ty := .int) (C := "[I") (by decide) (hw _ (List.mem_of_getElem? (i := 9) rfl)) (hw _ (List.mem_of_getElem? (i := 10) rfl)) e1 (g := (mkF m 6 #[.val (.ref b), .val (.int kk), .val (.int rf)] [(.int (1 : Int32)), (.ref b)])) rfl (hb hby d1_6) rfl (by decide) (cap := 1) (by decide) (by decide) (by decide) (by decide) (ad := "[[I") (by decide)
  obtain ⟨b2, g2⟩ : ∃ z, z = h0.size := ⟨_, rfl⟩
  rw [← g2] at A2 st2
  have ne_b_b2 : b ≠ b2 := Nat.ne_of_lt (Nat.lt_of_lt_of_le OB_b.1.lt (Nat.le_of_eq g2.symm))
  have sz_b2 : h0.size ≤ b2 := Nat.le_trans KP.1 (Nat.le_of_eq g2.symm)
  have g_b2 : n0 ≤ b2 := Nat.le_trans Z0 (Nat.le_of_eq g2.symm)
  have Z0 := Nat.le_trans Z0 E2.1
  have OL := OL.ext E2
  have KP := KP.ext E2
  have OB_b := OB_b.ext E2
  have V_b2 : Arv Z h2 b2 k2 (.array .int) (1 : Int32) [.null] .null := (Arv.new A2 (by decide)).pad (pad_rep [] .null 1)
  refine own_via st2 ?_
  show own_Go p e below s _ _ _ (T2.setTop (mkF m 9 #[.val (.ref b), .val (.int kk), .val (.int rf)] [(.ref b2), (.ref b)]))
  refine own_via (fun _ k => XS.dup X2.here hx rfl (hb hby d1_9) rfl rfl k) ?_
  show own_Go p e below s _ _ _ (T2.setTop (mkF m 10 #[.val (.ref b), .val (.int kk), .val (.int rf)] [(.ref b2), (.ref b2), (.ref b)]))
  refine own_via (fun _ k => XS.iconst X2.here hx rfl (hb hby d1_10) k) ?_
  show own_Go p e below s _ _ _ (T2.setTop (mkF m 11 #[.val (.ref b), .val (.int kk), .val (.int rf)] [(.int (0 : Int32)), (.ref b2), (.ref b2), (.ref b)]))
  obtain ⟨T3, X3, e3, st3⟩ := getS2 X2 hx hZ hown (host := "") (Or.inl (hw _ (List.mem_of_getElem? (i := 11) rfl))) Via.refl e2 (S_w0.ext OL.2) (g := (mkF m 11 #[.val (.ref b), .val (.int kk), .val (.int rf)] [(.int (0 : Int32)), (.ref b2), (.ref b2), (.ref b)])) rfl (hb hby d1_11)
  refine own_via st3 ?_
  show own_Go p e below s _ _ _ (T3.setTop (mkF m 14 #[.val (.ref b), .val (.int kk), .val (.int rf)] [(.ref w0), (.int (0 : Int32)), (.ref b2), (.ref b2), (.ref b)]))
  have Vx4 := V_b2
  obtain ⟨cl4, Ar4, q4, S4, N4, H4, G4⟩ := Vx4
  have hin4 : ¬ ((0 : Int32) < 0 ∨ cl4.slots.size ≤ ((0 : Int32)).toNatClampNeg) := inb_of S4 ⟨by decide, by decide⟩
  have Sto4 : Sto Z h2 b2 (.ref w0) := Sto.ofVA Ar4 q4 OV_b2 (Ins.self (E_w0.ext OL.2))
  obtain ⟨T4, h4, X4, e4, W4, st4⟩ := stR X3 hx hZ e3 Ar4 (j := (0 : Int32)) hin4 rfl Sto4 (g := (mkF m 14 #[.val (.ref b), .val (.int kk), .val (.int rf)] [(.ref w0), (.int (0 : Int32)), (.ref b2), (.ref b2), (.ref b)])) rfl rfl (hb hby d1_14)
  have V_b2 : Arv Z h4 b2 k2 (.array .int) (1 : Int32) [(.ref w0)] .null := Arv.set Ar4 q4 S4 N4 H4 G4 rfl W4 0 rfl (Nat.le_of_ble_eq_true rfl)
  have N4 := Fr.snoc X4 (Fr.nil n0) g_b2
  have Z0 := Nat.le_trans Z0 (Keep.of_wr W4).1
  have OL := OL.wr W4 g_b2
  have KP := KP.wr W4 (Or.inr sz_b2)
  have OB_b := OB_b.other W4 ne_b_b2
  refine own_via st4 ?_
  show own_Go p e below s _ _ _ (T4.setTop (mkF m 15 #[.val (.ref b), .val (.int kk), .val (.int rf)] [(.ref b2), (.ref b)]))
  obtain ⟨T5, h5, X5, e5, W5, st5⟩ := putF X4 hx hZ hown (host := "") (Or.inl (hw _ (List.mem_of_getElem? (i := 14) rfl))) Via.refl e4 (OB_b.2.1) OB_b.1 (Or.inl (hw _ (List.mem_of_getElem? (i := 15) rfl))) (hw _ (List.mem_of_getElem? (i := 1) rfl)) (ty := (.array (.array .int))) (by decide) rfl rfl (g := (mkF m 15 #[.val (.ref b), .val (.int kk), .val (.int rf)] [(.ref b2), (.ref b)])) rfl rfl (hb hby d1_15)
  have OB_b := own_put0_0 hw OB_b W5
  have N5 := Fr.snoc X5 N4 g_b
  have Z0 := Nat.le_trans Z0 (Keep.of_wr W5).1
  have OL := OL.wr W5 g_b
  have KP := KP.wr W5 (Or.inl (List.mem_of_getElem? (i := 0) rfl))
  have V_b2 := V_b2.other W5 (Ne.symm ne_b_b2)
  refine own_via st5 ?_
  show own_Go p e below s _ _ _ (T5.setTop (mkF m 18 #[.val (.ref b), .val (.int kk), .val (.int rf)] []))
  refine own_via (fun _ k => XS.aloadN X5.here hx rfl (hb hby d1_18) rfl rfl k) ?_
  show own_Go p e below s _ _ _ (T5.setTop (mkF m 19 #[.val (.ref b), .val (.int kk), .val (.int rf)] [(.ref b)]))
  refine own_via (fun _ k => XS.iconst X5.here hx rfl (hb hby d1_19) k) ?_
  show own_Go p e below s _ _ _ (T5.setTop (mkF m 20 #[.val (.ref b), .val (.int kk), .val (.int rf)] [(.int (1 : Int32)), (.ref b)]))
  obtain ⟨T6, h6, k6, X6, e6, E6, A6, -, OV_b6, st6⟩ := newRA X5 hx hZ hown (ty := (.object "java/lang/Object")) (C := "[Ljava/lang/Object;") (by decide) (hw _ (List.mem_of_getElem? (i := 16) rfl)) (hw _ (List.mem_of_getElem? (i := 17) rfl)) e5 (g := (mkF m 20 #[.val (.ref b), .val (.int kk), .val (.int rf)] [(.int (1 : Int32)), (.ref b)])) rfl (hb hby d1_20) rfl (by decide) (cap := 1) (by decide) (by decide) (by decide) (by decide) (ad := "[[Ljava/lang/Object;") (by decide)
  obtain ⟨b6, g6⟩ : ∃ z, z = h5.size := ⟨_, rfl⟩
  rw [← g6] at A6 st6
  have ne_b_b6 : b ≠ b6 := Nat.ne_of_lt (Nat.lt_of_lt_of_le OB_b.1.lt (Nat.le_of_eq g6.symm))
  have ne_b2_b6 : b2 ≠ b6 := Nat.ne_of_lt (Nat.lt_of_lt_of_le V_b2.lt (Nat.le_of_eq g6.symm))
  have sz_b6 : h0.size ≤ b6 := Nat.le_trans KP.1 (Nat.le_of_eq g6.symm)
  have g_b6 : n0 ≤ b6 := Nat.le_trans Z0 (Nat.le_of_eq g6.symm)
  have Z0 := Nat.le_trans Z0 E6.1
  have OL := OL.ext E6
  have KP := KP.ext E6
  have OB_b := OB_b.ext E6
  have V_b2 := V_b2.ext E6
  have V_b6 : Arv Z h6 b6 k6 (.array (.object "java/lang/Object")) (1 : Int32) [.null] .null := (Arv.new A6 (by decide)).pad (pad_rep [] .null 1)
  refine own_via st6 ?_
  show own_Go p e below s _ _ _ (T6.setTop (mkF m 23 #[.val (.ref b), .val (.int kk), .val (.int rf)] [(.ref b6), (.ref b)]))
  refine own_via (fun _ k => XS.dup X6.here hx rfl (hb hby d1_23) rfl rfl k) ?_
  show own_Go p e below s _ _ _ (T6.setTop (mkF m 24 #[.val (.ref b), .val (.int kk), .val (.int rf)] [(.ref b6), (.ref b6), (.ref b)]))
  refine own_via (fun _ k => XS.iconst X6.here hx rfl (hb hby d1_24) k) ?_
  show own_Go p e below s _ _ _ (T6.setTop (mkF m 25 #[.val (.ref b), .val (.int kk), .val (.int rf)] [(.int (0 : Int32)), (.ref b6), (.ref b6), (.ref b)]))
  obtain ⟨T7, X7, e7, st7⟩ := getS2 X6 hx hZ hown (host := "") (Or.inl (hw _ (List.mem_of_getElem? (i := 18) rfl))) Via.refl e6 (S_w1.ext OL.2) (g := (mkF m 25 #[.val (.ref b), .val (.int kk), .val (.int rf)] [(.int (0 : Int32)), (.ref b6), (.ref b6), (.ref b)])) rfl (hb hby d1_25)
  refine own_via st7 ?_
  show own_Go p e below s _ _ _ (T7.setTop (mkF m 28 #[.val (.ref b), .val (.int kk), .val (.int rf)] [(.ref w1), (.int (0 : Int32)), (.ref b6), (.ref b6), (.ref b)]))
  have Vx8 := V_b6
  obtain ⟨cl8, Ar8, q8, S8, N8, H8, G8⟩ := Vx8
  have hin8 : ¬ ((0 : Int32) < 0 ∨ cl8.slots.size ≤ ((0 : Int32)).toNatClampNeg) := inb_of S8 ⟨by decide, by decide⟩
  have Sto8 : Sto Z h6 b6 (.ref w1) := Sto.ofVA Ar8 q8 OV_b6 (Ins.self (E_w1.ext OL.2))
  obtain ⟨T8, h8, X8, e8, W8, st8⟩ := stR X7 hx hZ e7 Ar8 (j := (0 : Int32)) hin8 rfl Sto8 (g := (mkF m 28 #[.val (.ref b), .val (.int kk), .val (.int rf)] [(.ref w1), (.int (0 : Int32)), (.ref b6), (.ref b6), (.ref b)])) rfl rfl (hb hby d1_28)
  have V_b6 : Arv Z h8 b6 k6 (.array (.object "java/lang/Object")) (1 : Int32) [(.ref w1)] .null := Arv.set Ar8 q8 S8 N8 H8 G8 rfl W8 0 rfl (Nat.le_of_ble_eq_true rfl)
  have N8 := Fr.snoc X8 N5 g_b6
  have Z0 := Nat.le_trans Z0 (Keep.of_wr W8).1
  have OL := OL.wr W8 g_b6
  have KP := KP.wr W8 (Or.inr sz_b6)
  have OB_b := OB_b.other W8 ne_b_b6
  have V_b2 := V_b2.other W8 ne_b2_b6
  refine own_via st8 ?_
  show own_Go p e below s _ _ _ (T8.setTop (mkF m 29 #[.val (.ref b), .val (.int kk), .val (.int rf)] [(.ref b6), (.ref b)]))
  obtain ⟨T9, h9, X9, e9, W9, st9⟩ := putF X8 hx hZ hown (host := "") (Or.inl (hw _ (List.mem_of_getElem? (i := 21) rfl))) Via.refl e8 (OB_b.2.2.1) OB_b.1 (Or.inl (hw _ (List.mem_of_getElem? (i := 22) rfl))) (hw _ (List.mem_of_getElem? (i := 1) rfl)) (ty := (.array (.array (.object "java/lang/Object")))) (by decide) rfl rfl (g := (mkF m 29 #[.val (.ref b), .val (.int kk), .val (.int rf)] [(.ref b6), (.ref b)])) rfl rfl (hb hby d1_29)
  have OB_b := own_put0_1 hw OB_b W9
  have N9 := Fr.snoc X9 N8 g_b
  have Z0 := Nat.le_trans Z0 (Keep.of_wr W9).1
  have OL := OL.wr W9 g_b
  have KP := KP.wr W9 (Or.inl (List.mem_of_getElem? (i := 0) rfl))
  have V_b2 := V_b2.other W9 (Ne.symm ne_b_b2)
  have V_b6 := V_b6.other W9 (Ne.symm ne_b_b6)
  refine own_via st9 ?_
  show own_Go p e below s _ _ _ (T9.setTop (mkF m 32 #[.val (.ref b), .val (.int kk), .val (.int rf)] []))
  refine own_via (fun _ k => XS.aloadN X9.here hx rfl (hb hby d1_32) rfl rfl k) ?_
  show own_Go p e below s _ _ _ (T9.setTop (mkF m 33 #[.val (.ref b), .val (.int kk), .val (.int rf)] [(.ref b)]))
  refine own_via (fun _ k => XS.iconst X9.here hx rfl (hb hby d1_33) k) ?_
  show own_Go p e below s _ _ _ (T9.setTop (mkF m 34 #[.val (.ref b), .val (.int kk), .val (.int rf)] [(.int (1 : Int32)), (.ref b)]))
  obtain ⟨T10, h10, X10, e10, W10, st10⟩ := putF X9 hx hZ hown (host := "") (Or.inl (hw _ (List.mem_of_getElem? (i := 23) rfl))) Via.refl e9 (OB_b.2.2.2.1) OB_b.1 (Or.inl (hw _ (List.mem_of_getElem? (i := 24) rfl))) (hw _ (List.mem_of_getElem? (i := 1) rfl)) (ty := .int) (by decide) rfl rfl (g := (mkF m 34 #[.val (.ref b), .val (.int kk), .val (.int rf)] [(.int (1 : Int32)), (.ref b)])) rfl rfl (hb hby d1_34)
  have OB_b := own_put0_2 hw OB_b W10
  have N10 := Fr.snoc X10 N9 g_b
  have Z0 := Nat.le_trans Z0 (Keep.of_wr W10).1
  have OL := OL.wr W10 g_b
  have KP := KP.wr W10 (Or.inl (List.mem_of_getElem? (i := 0) rfl))
  have V_b2 := V_b2.other W10 (Ne.symm ne_b_b2)
  have V_b6 := V_b6.other W10 (Ne.symm ne_b_b6)
  refine own_via st10 ?_
  show own_Go p e below s _ _ _ (T10.setTop (mkF m 37 #[.val (.ref b), .val (.int kk), .val (.int rf)] []))
  refine own_via (fun _ k => XS.aloadN X10.here hx rfl (hb hby d1_37) rfl rfl k) ?_
  show own_Go p e below s _ _ _ (T10.setTop (mkF m 38 #[.val (.ref b), .val (.int kk), .val (.int rf)] [(.ref b)]))
  obtain ⟨T11, X11, e11, st11⟩ := getS2 X10 hx hZ hown (host := "") (Or.inl (hw _ (List.mem_of_getElem? (i := 11) rfl))) Via.refl e10 (S_w0.ext OL.2) (g := (mkF m 38 #[.val (.ref b), .val (.int kk), .val (.int rf)] [(.ref b)])) rfl (hb hby d1_38)
  refine own_via st11 ?_
  show own_Go p e below s _ _ _ (T11.setTop (mkF m 41 #[.val (.ref b), .val (.int kk), .val (.int rf)] [(.ref w0), (.ref b)]))
  obtain ⟨T12, h12, X12, e12, W12, st12⟩ := putF X11 hx hZ hown (host := "") (Or.inl (hw _ (List.mem_of_getElem? (i := 25) rfl))) Via.refl e11 (OB_b.2.2.2.2.1) OB_b.1 (Or.inl (hw _ (List.mem_of_getElem? (i := 26) rfl))) (hw _ (List.mem_of_getElem? (i := 1) rfl)) (ty := (.array .int)) (by decide) rfl rfl (g := (mkF m 41 #[.val (.ref b), .val (.int kk), .val (.int rf)] [(.ref w0), (.ref b)])) rfl rfl (hb hby d1_41)
  have OB_b := own_put0_3 hw OB_b W12
  have N12 := Fr.snoc X12 N10 g_b
  have Z0 := Nat.le_trans Z0 (Keep.of_wr W12).1
  have OL := OL.wr W12 g_b
  have KP := KP.wr W12 (Or.inl (List.mem_of_getElem? (i := 0) rfl))
  have V_b2 := V_b2.other W12 (Ne.symm ne_b_b2)
  have V_b6 := V_b6.other W12 (Ne.symm ne_b_b6)
  refine own_via st12 ?_
  show own_Go p e below s _ _ _ (T12.setTop (mkF m 44 #[.val (.ref b), .val (.int kk), .val (.int rf)] []))
  refine own_via (fun _ k => XS.iloadN X12.here hx rfl (hb hby d1_44) rfl k) ?_
  show own_Go p e below s _ _ _ (T12.setTop (mkF m 45 #[.val (.ref b), .val (.int kk), .val (.int rf)] [(.int kk)]))
  refine own_via (fun _ k => XS.iconst X12.here hx rfl (hb hby d1_45) k) ?_
  show own_Go p e below s _ _ _ (T12.setTop (mkF m 46 #[.val (.ref b), .val (.int kk), .val (.int rf)] [(.int (1 : Int32)), (.int kk)]))
  refine own_via (fun _ k => XS.icmpYes X12.here hx rfl (pc0 := 46) (pc' := 59) rfl (hb hby d1_46) rfl (flt hk1).2.1 (by decide) (by decide) k) ?_
  show own_Go p e below s _ _ _ (T12.setTop (mkF m 59 #[.val (.ref b), .val (.int kk), .val (.int rf)] []))
  refine own_via (fun _ k => XS.aloadN X12.here hx rfl (hb hby d1_59) rfl rfl k) ?_
  show own_Go p e below s _ _ _ (T12.setTop (mkF m 60 #[.val (.ref b), .val (.int kk), .val (.int rf)] [(.ref b)]))
  refine own_via (fun _ k => XS.iloadN X12.here hx rfl (hb hby d1_60) rfl k) ?_
  show own_Go p e below s _ _ _ (T12.setTop (mkF m 61 #[.val (.ref b), .val (.int kk), .val (.int rf)] [(.int kk), (.ref b)]))
  obtain ⟨T13, h13, X13, e13, W13, st13⟩ := putF X12 hx hZ hown (host := "") (Or.inl (hw _ (List.mem_of_getElem? (i := 27) rfl))) Via.refl e12 (OB_b.2.2.2.2.2.1) OB_b.1 (Or.inr ⟨(hw _ (List.mem_of_getElem? (i := 28) rfl)), rfl, hnm⟩) (hw _ (List.mem_of_getElem? (i := 1) rfl)) (ty := .int) (by decide) rfl rfl (g := (mkF m 61 #[.val (.ref b), .val (.int kk), .val (.int rf)] [(.int kk), (.ref b)])) rfl rfl (hb hby d1_61)
  have OB_b := own_put0_4 hw OB_b W13
  have N13 := Fr.snoc X13 N12 g_b
  have Z0 := Nat.le_trans Z0 (Keep.of_wr W13).1
  have OL := OL.wr W13 g_b
  have KP := KP.wr W13 (Or.inl (List.mem_of_getElem? (i := 0) rfl))
  have V_b2 := V_b2.other W13 (Ne.symm ne_b_b2)
  have V_b6 := V_b6.other W13 (Ne.symm ne_b_b6)
  refine own_via st13 ?_
  show own_Go p e below s _ _ _ (T13.setTop (mkF m 64 #[.val (.ref b), .val (.int kk), .val (.int rf)] []))
  refine own_via (fun _ k => XS.aloadN X13.here hx rfl (hb hby d1_64) rfl rfl k) ?_
  show own_Go p e below s _ _ _ (T13.setTop (mkF m 65 #[.val (.ref b), .val (.int kk), .val (.int rf)] [(.ref b)]))
  refine own_via (fun _ k => XS.iloadN X13.here hx rfl (hb hby d1_65) rfl k) ?_
  show own_Go p e below s _ _ _ (T13.setTop (mkF m 66 #[.val (.ref b), .val (.int kk), .val (.int rf)] [(.int rf), (.ref b)]))
  obtain ⟨T14, h14, X14, e14, W14, st14⟩ := putF X13 hx hZ hown (host := "") (Or.inl (hw _ (List.mem_of_getElem? (i := 29) rfl))) Via.refl e13 (OB_b.2.2.2.2.2.2.1) OB_b.1 (Or.inr ⟨(hw _ (List.mem_of_getElem? (i := 30) rfl)), rfl, hnm⟩) (hw _ (List.mem_of_getElem? (i := 1) rfl)) (ty := .int) (by decide) rfl rfl (g := (mkF m 66 #[.val (.ref b), .val (.int kk), .val (.int rf)] [(.int rf), (.ref b)])) rfl rfl (hb hby d1_66)
  have OB_b := own_put0_5 hw OB_b W14
  have N14 := Fr.snoc X14 N13 g_b
  have Z0 := Nat.le_trans Z0 (Keep.of_wr W14).1
  have OL := OL.wr W14 g_b
  have KP := KP.wr W14 (Or.inl (List.mem_of_getElem? (i := 0) rfl))
  have V_b2 := V_b2.other W14 (Ne.symm ne_b_b2)
  have V_b6 := V_b6.other W14 (Ne.symm ne_b_b6)
  refine own_via st14 ?_
  show own_Go p e below s _ _ _ (T14.setTop (mkF m 69 #[.val (.ref b), .val (.int kk), .val (.int rf)] []))
  exact own_retV X14 hx hlk Bd.returns (hb hby d1_69) (by rw [e14]; exact ⟨N14, OL, Z0, KP, rfl, b2, b6, k2, k6, OB_b, V_b2, V_b6, OV_b2, OV_b6, ne_b_b2, ne_b_b6, ne_b2_b6, g_b, g_b2, g_b6⟩) (by decide) (by decide)
def Q5_0 (w0 w1 mr wc : Addr) (kw0 kw1 : ClassId) (h0 : Heap) (v : Option Value) (h : Heap) (L : List Loc) : Prop := L = [] ∧ h = h0 ∧ ((v = some (.int (8 : Int32))))
set_option maxRecDepth 65536 in
set_option maxHeartbeats 40000000 in
theorem rm5_0 (l : Launch) (Z : State) (a0 : Array Value) (hw : ∀ d ∈ tables_1, d.before a0 Z = true) (ws : List Jvm.Cond) (w0 w1 mr wc : Addr) (kw0 kw1 : ClassId) (h0 : Heap) (n0 : Nat) (Z0 : n0 ≤ h0.size) (K : own_K Z Z.heap w0 w1 mr wc kw0 kw1) (OL : Old Z n0 h0) :
    MetFree l (⟨"java/lang/Math", "max", "(II)I"⟩ : MethodName) (head1 (Jvm.Cond.code (⟨"java/lang/Math", "max", "(II)I"⟩ : MethodName) jdk_29_method_65_code 2 (some .int) :: ws) ({ frames := 0, cells := 0, slots := 0, locals := 0 } : Room)) (fun a U => a = #[(.int (8 : Int32)), (.int ((2 : Int32) * (0 : Int32)))] ∧ Z.Warmed39 U.vm ∧ U.heap = h0) (fun _ _ _ _ _ => True) (fun _ U o U' => ∃ v L, o = .returned v ∧ Q5_0 w0 w1 mr wc kw0 kw1 h0 v U'.heap L ∧ FrameEnd U o U' L ({ frames := 0, cells := 0, slots := 0, locals := 0 } : Room).cells ({ frames := 0, cells := 0, slots := 0, locals := 0 } : Room).slots) := by
  refine MetFree.of_bodySF pn1 hisR ?_
  intro p e s m args below meth c s₁ Bd hml0 hP hK
  obtain ⟨rfl, hZ, hh⟩ := hP
  have hx := Bd.exec
  have hby := Bd.bytes
  have hml : c.maxLocals = 2 := hml0
  have hown : s.vm.findClass "java/lang/Math" = some m.cls := findClass_of_methodNamed Bd.named
  have hnm := (name_of_methodNamed Bd.named Bd.method).1
  have hlk := Bd.notSynchronized
  have X0 : Stand p l e ({ frames := 0, cells := 0, slots := 0, locals := 0 } : Room) s m #[(.int (8 : Int32)), (.int ((2 : Int32) * (0 : Int32)))] below meth c s₁ [] 0 0 := Stand.of_body Bd
  have e0 : s₁.heap = h0 := by rw [← hh, Bd.state]; rfl
  have K0 := K
  obtain ⟨S_w0, S_w1, E_w0, E_w1, V_w0, V_w1, MR, S_wc, S_high, CA⟩ := K
  show own_Go p e below s (Q5_0 w0 w1 mr wc kw0 kw1 h0) 0 0 (s₁.setTop (entryFrame m #[(.int (8 : Int32)), (.int ((2 : Int32) * (0 : Int32)))] 2))
  rw [show entryFrame m #[(.int (8 : Int32)), (.int ((2 : Int32) * (0 : Int32)))] 2 = mkF m 0 #[.val (.int (8 : Int32)), .val (.int ((2 : Int32) * (0 : Int32)))] [] from by first | (simp [entryFrame, mkF, argsToLocals, Value.category]; done) | rfl]
  show own_Go p e below s _ _ _ (s₁.setTop (mkF m 0 #[.val (.int (8 : Int32)), .val (.int ((2 : Int32) * (0 : Int32)))] []))
  refine own_via (fun _ k => XS.iloadN X0.here hx rfl (hb hby d5_0) rfl k) ?_
  show own_Go p e below s _ _ _ (s₁.setTop (mkF m 1 #[.val (.int (8 : Int32)), .val (.int ((2 : Int32) * (0 : Int32)))] [(.int (8 : Int32))]))
  refine own_via (fun _ k => XS.iloadN X0.here hx rfl (hb hby d5_1) rfl k) ?_
  show own_Go p e below s _ _ _ (s₁.setTop (mkF m 2 #[.val (.int (8 : Int32)), .val (.int ((2 : Int32) * (0 : Int32)))] [(.int ((2 : Int32) * (0 : Int32))), (.int (8 : Int32))]))
  refine own_via (fun _ k => XS.icmpNo X0.here hx rfl (hb hby d5_2) rfl (flt (by decide : ¬ ((8 : Int32) < ((2 : Int32) * (0 : Int32))))).1 k) ?_
  show own_Go p e below s _ _ _ (s₁.setTop (mkF m 5 #[.val (.int (8 : Int32)), .val (.int ((2 : Int32) * (0 : Int32)))] []))
  refine own_via (fun _ k => XS.iloadN X0.here hx rfl (hb hby d5_5) rfl k) ?_
  show own_Go p e below s _ _ _ (s₁.setTop (mkF m 6 #[.val (.int (8 : Int32)), .val (.int ((2 : Int32) * (0 : Int32)))] [(.int (8 : Int32))]))
  refine own_via (fun _ k => XS.goto X0.here hx rfl (pc0 := 6) (pc' := 10) rfl (hb hby d5_6) (by decide) (by decide) k) ?_
  show own_Go p e below s _ _ _ (s₁.setTop (mkF m 10 #[.val (.int (8 : Int32)), .val (.int ((2 : Int32) * (0 : Int32)))] [(.int (8 : Int32))]))
  exact own_retI X0 hx hlk Bd.returns (hb hby d5_10) ⟨rfl, e0, rfl⟩ (by decide) (by decide)
def Q7_0 (x1 : Int32) (w0 w1 mr wc : Addr) (kw0 kw1 : ClassId) (h0 : Heap) (v : Option Value) (h : Heap) (L : List Loc) : Prop := L = [] ∧ h = h0 ∧ ((x1 < (0 : Int32) ∧ v = some (.int x1)) ∨ (¬ (x1 < (0 : Int32)) ∧ v = some (.int (0 : Int32))))
set_option maxRecDepth 65536 in
set_option maxHeartbeats 40000000 in
theorem rm7_0 (l : Launch) (Z : State) (a0 : Array Value) (hw : ∀ d ∈ tables_1, d.before a0 Z = true) (ws : List Jvm.Cond) (x1 : Int32) (w0 w1 mr wc : Addr) (kw0 kw1 : ClassId) (h0 : Heap) (n0 : Nat) (Z0 : n0 ≤ h0.size) (K : own_K Z Z.heap w0 w1 mr wc kw0 kw1) (OL : Old Z n0 h0) :
    MetFree l (⟨"java/lang/Math", "min", "(II)I"⟩ : MethodName) (head1 (Jvm.Cond.code (⟨"java/lang/Math", "min", "(II)I"⟩ : MethodName) jdk_29_method_69_code 2 (some .int) :: ws) ({ frames := 0, cells := 0, slots := 0, locals := 0 } : Room)) (fun a U => a = #[(.int (0 : Int32)), (.int x1)] ∧ Z.Warmed39 U.vm ∧ U.heap = h0) (fun _ _ _ _ _ => True) (fun _ U o U' => ∃ v L, o = .returned v ∧ Q7_0 x1 w0 w1 mr wc kw0 kw1 h0 v U'.heap L ∧ FrameEnd U o U' L ({ frames := 0, cells := 0, slots := 0, locals := 0 } : Room).cells ({ frames := 0, cells := 0, slots := 0, locals := 0 } : Room).slots) := by
  refine MetFree.of_bodySF pn2 hisR ?_
  intro p e s m args below meth c s₁ Bd hml0 hP hK
  obtain ⟨rfl, hZ, hh⟩ := hP
  have hx := Bd.exec
  have hby := Bd.bytes
  have hml : c.maxLocals = 2 := hml0
  have hown : s.vm.findClass "java/lang/Math" = some m.cls := findClass_of_methodNamed Bd.named
  have hnm := (name_of_methodNamed Bd.named Bd.method).1
  have hlk := Bd.notSynchronized
  have X0 : Stand p l e ({ frames := 0, cells := 0, slots := 0, locals := 0 } : Room) s m #[(.int (0 : Int32)), (.int x1)] below meth c s₁ [] 0 0 := Stand.of_body Bd
  have e0 : s₁.heap = h0 := by rw [← hh, Bd.state]; rfl
  have K0 := K
  obtain ⟨S_w0, S_w1, E_w0, E_w1, V_w0, V_w1, MR, S_wc, S_high, CA⟩ := K
  show own_Go p e below s (Q7_0 x1 w0 w1 mr wc kw0 kw1 h0) 0 0 (s₁.setTop (entryFrame m #[(.int (0 : Int32)), (.int x1)] 2))
  rw [show entryFrame m #[(.int (0 : Int32)), (.int x1)] 2 = mkF m 0 #[.val (.int (0 : Int32)), .val (.int x1)] [] from by first | (simp [entryFrame, mkF, argsToLocals, Value.category]; done) | rfl]
  show own_Go p e below s _ _ _ (s₁.setTop (mkF m 0 #[.val (.int (0 : Int32)), .val (.int x1)] []))
  refine own_via (fun _ k => XS.iloadN X0.here hx rfl (hb hby d7_0) rfl k) ?_
  show own_Go p e below s _ _ _ (s₁.setTop (mkF m 1 #[.val (.int (0 : Int32)), .val (.int x1)] [(.int (0 : Int32))]))
  refine own_via (fun _ k => XS.iloadN X0.here hx rfl (hb hby d7_1) rfl k) ?_
  show own_Go p e below s _ _ _ (s₁.setTop (mkF m 2 #[.val (.int (0 : Int32)), .val (.int x1)] [(.int x1), (.int (0 : Int32))]))
  by_cases hc1 : x1 < (0 : Int32)
  · refine own_via (fun _ k => XS.icmpYes X0.here hx rfl (pc0 := 2) (pc' := 9) rfl (hb hby d7_2) rfl (tlt hc1).2.2.1 (by decide) (by decide) k) ?_
    show own_Go p e below s _ _ _ (s₁.setTop (mkF m 9 #[.val (.int (0 : Int32)), .val (.int x1)] []))
    refine own_via (fun _ k => XS.iloadN X0.here hx rfl (hb hby d7_9) rfl k) ?_
    show own_Go p e below s _ _ _ (s₁.setTop (mkF m 10 #[.val (.int (0 : Int32)), .val (.int x1)] [(.int x1)]))
    exact own_retI X0 hx hlk Bd.returns (hb hby d7_10) ⟨rfl, e0, Or.inl ⟨hc1, rfl⟩⟩ (by decide) (by decide)
  · refine own_via (fun _ k => XS.icmpNo X0.here hx rfl (hb hby d7_2) rfl (flt hc1).2.2.1 k) ?_
    show own_Go p e below s _ _ _ (s₁.setTop (mkF m 5 #[.val (.int (0 : Int32)), .val (.int x1)] []))
    refine own_via (fun _ k => XS.iloadN X0.here hx rfl (hb hby d7_5) rfl k) ?_
    show own_Go p e below s _ _ _ (s₁.setTop (mkF m 6 #[.val (.int (0 : Int32)), .val (.int x1)] [(.int (0 : Int32))]))
    refine own_via (fun _ k => XS.goto X0.here hx rfl (pc0 := 6) (pc' := 10) rfl (hb hby d7_6) (by decide) (by decide) k) ?_
    show own_Go p e below s _ _ _ (s₁.setTop (mkF m 10 #[.val (.int (0 : Int32)), .val (.int x1)] [(.int (0 : Int32))]))
    exact own_retI X0 hx hlk Bd.returns (hb hby d7_10) ⟨rfl, e0, Or.inr (⟨hc1, rfl⟩)⟩ (by decide) (by decide)
def Q6_1 (Z : State) (x1 : Int32) (w0 w1 mr wc : Addr) (kw0 kw1 : ClassId) (h0 : Heap) (n0 : Nat) (v : Option Value) (h : Heap) (L : List Loc) : Prop := Fr n0 L ∧ Old Z n0 h ∧ n0 ≤ h.size ∧ Keep h0 h [] ∧ ∃ (I : Addr) (kI : ClassId), v = some (.ref I) ∧ Arv Z h I kI .int x1 [] (.int 0) ∧ Exa Z h I "[I" ∧ h0.size ≤ I
set_option maxRecDepth 65536 in
set_option maxHeartbeats 40000000 in
theorem rm6_1 (l : Launch) (Z : State) (a0 : Array Value) (hw : ∀ d ∈ tables_1, d.before a0 Z = true) (ws : List Jvm.Cond) (x1 : Int32) (w0 w1 mr wc : Addr) (kw0 kw1 : ClassId) (h0 : Heap) (n0 : Nat) (Z0 : n0 ≤ h0.size) (K : own_K Z Z.heap w0 w1 mr wc kw0 kw1) (OL : Old Z n0 h0) (hb1 : 1 ≤ x1.toInt) (hb2 : x1.toInt ≤ 32) :
    MetFree l (⟨"java/util/Arrays", "copyOf", "([II)[I"⟩ : MethodName) (head1 (Jvm.Cond.code (⟨"java/util/Arrays", "copyOf", "([II)[I"⟩ : MethodName) jdk_65_method_123_code 3 (some (.array .int)) :: ws) ({ frames := 1, cells := 1, slots := 32, locals := 60 } : Room)) (fun a U => a = #[(.ref w0), (.int x1)] ∧ Z.Warmed39 U.vm ∧ U.heap = h0) (fun _ _ _ _ _ => True) (fun _ U o U' => ∃ v L, o = .returned v ∧ Q6_1 Z x1 w0 w1 mr wc kw0 kw1 h0 n0 v U'.heap L ∧ FrameEnd U o U' L ({ frames := 1, cells := 1, slots := 32, locals := 60 } : Room).cells ({ frames := 1, cells := 1, slots := 32, locals := 60 } : Room).slots) := by
  refine MetFree.of_bodySF (plainFor_of_name pn3) hisR ?_
  intro p e s m args below meth c s₁ Bd hml0 hP hK
  obtain ⟨rfl, hZ, hh⟩ := hP
  have hx := Bd.exec
  have hby := Bd.bytes
  have hml : c.maxLocals = 3 := hml0
  have hown : s.vm.findClass "java/util/Arrays" = some m.cls := findClass_of_methodNamed Bd.named
  have hnm := (name_of_methodNamed Bd.named Bd.method).1
  have hlk := Bd.notSynchronized
  have X0 : Stand p l e ({ frames := 1, cells := 1, slots := 32, locals := 60 } : Room) s m #[(.ref w0), (.int x1)] below meth c s₁ [] 0 0 := Stand.of_body Bd
  have e0 : s₁.heap = h0 := by rw [← hh, Bd.state]; rfl
  have K0 := K
  obtain ⟨S_w0, S_w1, E_w0, E_w1, V_w0, V_w1, MR, S_wc, S_high, CA⟩ := K
  show own_Go p e below s (Q6_1 Z x1 w0 w1 mr wc kw0 kw1 h0 n0) 1 32 (s₁.setTop (entryFrame m #[(.ref w0), (.int x1)] 3))
  rw [show entryFrame m #[(.ref w0), (.int x1)] 3 = mkF m 0 #[.val (.ref w0), .val (.int x1), .unset] [] from by first | (simp [entryFrame, mkF, argsToLocals, Value.category]; done) | rfl]
  have KP := Keep.refl h0 []
  have hne : ¬ (x1 = (0 : Int32)) := own_n0 hb1
  have hnn : ¬ (x1 < (0 : Int32)) := own_nneg hb1
  have hcap : x1.toNatClampNeg ≤ 32 := own_cap hb2
  show own_Go p e below s _ _ _ (s₁.setTop (mkF m 0 #[.val (.ref w0), .val (.int x1), .unset] []))
  refine own_via (fun _ k => XS.iloadN X0.here hx rfl (hb hby d6_0) rfl k) ?_
  show own_Go p e below s _ _ _ (s₁.setTop (mkF m 1 #[.val (.ref w0), .val (.int x1), .unset] [(.int x1)]))
  refine own_via (fun _ k => XS.aloadN X0.here hx rfl (hb hby d6_1) rfl rfl k) ?_
  show own_Go p e below s _ _ _ (s₁.setTop (mkF m 2 #[.val (.ref w0), .val (.int x1), .unset] [(.ref w0), (.int x1)]))
  have Vx1 := V_w0.ext OL.2
  obtain ⟨cl1, Ar1, q1, S1, N1, H1, G1⟩ := Vx1
  refine own_via (fun _ k => X0.arraylength hx (by rw [e0]; exact Ar1.1) (State.isArrayOf_alike hZ.alike Ar1.2.1) (g := (mkF m 2 #[.val (.ref w0), .val (.int x1), .unset] [(.ref w0), (.int x1)])) rfl rfl (hb hby d6_2) _ k) ?_
  rw [len_of S1 N1]
  show own_Go p e below s _ _ _ (s₁.setTop (mkF m 3 #[.val (.ref w0), .val (.int x1), .unset] [(.int (0 : Int32)), (.int x1)]))
  refine own_via (fun _ k => XS.icmpYes X0.here hx rfl (pc0 := 3) (pc' := 14) rfl (hb hby d6_3) rfl (feq hne).2 (by decide) (by decide) k) ?_
  show own_Go p e below s _ _ _ (s₁.setTop (mkF m 14 #[.val (.ref w0), .val (.int x1), .unset] []))
  refine own_via (fun _ k => XS.iloadN X0.here hx rfl (hb hby d6_14) rfl k) ?_
  show own_Go p e below s _ _ _ (s₁.setTop (mkF m 15 #[.val (.ref w0), .val (.int x1), .unset] [(.int x1)]))
  obtain ⟨T2, h2, k2, X2, e2, E2, A2, EX_b2, st2⟩ := newPE X0 hx hZ (hw _ (List.mem_of_getElem? (i := 54) rfl)) e0 (g := (mkF m 15 #[.val (.ref w0), .val (.int x1), .unset] [(.int x1)])) rfl (hb hby d6_15) rfl hnn (cap := 32) hcap (by decide) (by decide) (by decide) (ad := "[I") (by decide)
  obtain ⟨b2, g2⟩ : ∃ z, z = h0.size := ⟨_, rfl⟩
  rw [← g2] at A2 EX_b2 st2
  have sz_b2 : h0.size ≤ b2 := Nat.le_trans KP.1 (Nat.le_of_eq g2.symm)
  have g_b2 : n0 ≤ b2 := Nat.le_trans Z0 (Nat.le_of_eq g2.symm)
  have Z0 := Nat.le_trans Z0 E2.1
  have OL := OL.ext E2
  have KP := KP.ext E2
  have V_b2 : Arv Z h2 b2 k2 .int x1 [] (.int 0) := Arv.new A2 hnn
  refine own_via st2 ?_
  show own_Go p e below s _ _ _ (T2.setTop (mkF m 17 #[.val (.ref w0), .val (.int x1), .unset] [(.ref b2)]))
  refine own_via (fun _ k => XS.astoreN X2.here hx rfl (hb hby d6_17) rfl rfl (l' := #[.val (.ref w0), .val (.int x1), .val (.ref b2)]) rfl k) ?_
  show own_Go p e below s _ _ _ (T2.setTop (mkF m 18 #[.val (.ref w0), .val (.int x1), .val (.ref b2)] []))
  refine own_via (fun _ k => XS.aloadN X2.here hx rfl (hb hby d6_18) rfl rfl k) ?_
  show own_Go p e below s _ _ _ (T2.setTop (mkF m 19 #[.val (.ref w0), .val (.int x1), .val (.ref b2)] [(.ref w0)]))
  refine own_via (fun _ k => XS.iconst X2.here hx rfl (hb hby d6_19) k) ?_
  show own_Go p e below s _ _ _ (T2.setTop (mkF m 20 #[.val (.ref w0), .val (.int x1), .val (.ref b2)] [(.int (0 : Int32)), (.ref w0)]))
  refine own_via (fun _ k => XS.aloadN X2.here hx rfl (hb hby d6_20) rfl rfl k) ?_
  show own_Go p e below s _ _ _ (T2.setTop (mkF m 21 #[.val (.ref w0), .val (.int x1), .val (.ref b2)] [(.ref b2), (.int (0 : Int32)), (.ref w0)]))
  refine own_via (fun _ k => XS.iconst X2.here hx rfl (hb hby d6_21) k) ?_
  show own_Go p e below s _ _ _ (T2.setTop (mkF m 22 #[.val (.ref w0), .val (.int x1), .val (.ref b2)] [(.int (0 : Int32)), (.ref b2), (.int (0 : Int32)), (.ref w0)]))
  refine own_via (fun _ k => XS.aloadN X2.here hx rfl (hb hby d6_22) rfl rfl k) ?_
  show own_Go p e below s _ _ _ (T2.setTop (mkF m 23 #[.val (.ref w0), .val (.int x1), .val (.ref b2)] [(.ref w0), (.int (0 : Int32)), (.ref b2), (.int (0 : Int32)), (.ref w0)]))
  have Vx3 := V_w0.ext OL.2
  obtain ⟨cl3, Ar3, q3, S3, N3, H3, G3⟩ := Vx3
  refine own_via (fun _ k => X2.arraylength hx (by rw [e2]; exact Ar3.1) (State.isArrayOf_alike hZ.alike Ar3.2.1) (g := (mkF m 23 #[.val (.ref w0), .val (.int x1), .val (.ref b2)] [(.ref w0), (.int (0 : Int32)), (.ref b2), (.int (0 : Int32)), (.ref w0)])) rfl rfl (hb hby d6_23) _ k) ?_
  rw [len_of S3 N3]
  show own_Go p e below s _ _ _ (T2.setTop (mkF m 24 #[.val (.ref w0), .val (.int x1), .val (.ref b2)] [(.int (0 : Int32)), (.int (0 : Int32)), (.ref b2), (.int (0 : Int32)), (.ref w0)]))
  refine own_via (fun _ k => XS.iloadN X2.here hx rfl (hb hby d6_24) rfl k) ?_
  show own_Go p e below s _ _ _ (T2.setTop (mkF m 25 #[.val (.ref w0), .val (.int x1), .val (.ref b2)] [(.int x1), (.int (0 : Int32)), (.int (0 : Int32)), (.ref b2), (.int (0 : Int32)), (.ref w0)]))
  obtain ⟨_, _, ⟨T4, L4, k4, n4⟩, -, X4, ⟨Lc4, hQ4, l4, y4, z4⟩, st4⟩ := Jvm.LawKit.callS X2 hx (y := (⟨"java/lang/Math", "min", "(II)I"⟩ : MethodName)) hown (mvT hZ (hw _ (List.mem_of_getElem? (i := 55) rfl))) (mvT hZ (hw _ (List.mem_of_getElem? (i := 56) rfl))) (mvT hZ (hw _ (List.mem_of_getElem? (i := 48) rfl))) (mvT hZ (hw _ (List.mem_of_getElem? (i := 57) rfl))) (by decide) (backOf (W := 4) (rm7_0 l Z a0 hw [] x1 w0 w1 mr wc kw0 kw1 h2 n0 Z0 K0 OL) hZ (hw _ (List.mem_of_getElem? (i := 57) rfl)) (hw _ (List.mem_of_getElem? (i := 48) rfl)) (by decide) (by decide)) (g := (mkF m 25 #[.val (.ref w0), .val (.int x1), .val (.ref b2)] [(.int x1), (.int (0 : Int32)), (.int (0 : Int32)), (.ref b2), (.int (0 : Int32)), (.ref w0)])) rfl (by rw [hml]; rfl) (argsL := [(.int (0 : Int32)), (.int x1)]) (rest := [(.int (0 : Int32)), (.ref b2), (.int (0 : Int32)), (.ref w0)]) (lenOf pd1 rfl) rfl (by show 2 * 0 + _ ≤ _; exact Nat.le_of_eq rfl) (hb hby d6_25) (fun _ _ => ⟨rfl, e2, (by decide : 0 + 1 + 0 ≤ _), (by decide : 0 + 32 + 0 ≤ _)⟩)
  dsimp only [Pt.U, Pt.locs, Pt.cells, Pt.slots] at X4 l4 y4 z4 st4 hQ4
  subst l4 y4 z4
  obtain ⟨rfl, e4, hO4⟩ := hQ4
  rcases hO4 with ⟨hr4_0_0, rfl⟩ | ⟨hr4_1_0, rfl⟩
  · exact absurd hr4_0_0 hnn
  · refine own_via st4 ?_
    show own_Go p e below s _ _ _ (T4.setTop (mkF m 28 #[.val (.ref w0), .val (.int x1), .val (.ref b2)] [(.int (0 : Int32)), (.int (0 : Int32)), (.ref b2), (.int (0 : Int32)), (.ref w0)]))
    have Vx5 := V_w0.ext OL.2
    obtain ⟨T5, h5, L5, X5, e5, N5, K5, V_b2, st5⟩ := cpA X4 hx hZ hown (hw _ (List.mem_of_getElem? (i := 58) rfl)) (hw _ (List.mem_of_getElem? (i := 61) rfl)) (hw _ (List.mem_of_getElem? (i := 59) rfl)) (hw _ (List.mem_of_getElem? (i := 60) rfl)) e4 Vx5 V_b2 (us := []) (Or.inl ⟨rfl, rfl⟩) (by decide) (by decide) (by decide) (by decide) (Nat.zero_le _) rfl (by decide) (Fr.app (Fr.nil n0) (Fr.nil n0)) g_b2 (g := (mkF m 28 #[.val (.ref w0), .val (.int x1), .val (.ref b2)] [(.int (0 : Int32)), (.int (0 : Int32)), (.ref b2), (.int (0 : Int32)), (.ref w0)])) rfl (by rw [hml]; rfl) (rest := []) rfl (hb hby d6_28) (by decide) (W := 0) (by show 2 * 0 + _ ≤ _; exact Nat.le_of_eq rfl) (by decide)
    have V_b2 : Arv Z h5 b2 k2 .int x1 [] (.int 0) := V_b2
    have EX_b2 := EX_b2.keep K5
    have KP := KP.trans K5 (by intro x hx; cases List.mem_singleton.mp hx; exact Or.inr sz_b2)
    have OL := OL.keep K5 (by intro x hx; cases List.mem_singleton.mp hx; exact g_b2)
    have Z0 := Nat.le_trans Z0 K5.1
    refine own_via st5 ?_
    show own_Go p e below s _ _ _ (T5.setTop (mkF m 31 #[.val (.ref w0), .val (.int x1), .val (.ref b2)] []))
    refine own_via (fun _ k => XS.aloadN X5.here hx rfl (hb hby d6_31) rfl rfl k) ?_
    show own_Go p e below s _ _ _ (T5.setTop (mkF m 32 #[.val (.ref w0), .val (.int x1), .val (.ref b2)] [(.ref b2)]))
    exact own_retR X5 hx hlk Bd.returns rfl rfl (hb hby d6_32) (by rw [e5]; exact ⟨N5, OL, Z0, KP, b2, k2, rfl, V_b2, EX_b2, sz_b2⟩) (by decide) (by decide)
def Q4_1 (Z : State) (b A1 A2 : Addr) (k1 k2 : ClassId) (en kk rf : Int32) (w0 w1 mr wc : Addr) (kw0 kw1 : ClassId) (h0 : Heap) (n0 : Nat) (v : Option Value) (h : Heap) (L : List Loc) : Prop := Fr n0 L ∧ Old Z n0 h ∧ n0 ≤ h.size ∧ Keep h0 h [b, A1, A2] ∧ v = none ∧ ∃ (I R : Addr) (kI kR : ClassId), own_Rows Z h n0 w0 b A1 A2 I R k1 k2 en kk rf (8 : Int32) ∧ Arv Z h I kI .int ((8 : Int32) * kk) [] (.int 0) ∧ Arr Z h R (newA kR (.object "java/lang/Object") ((8 : Int32) * rf)) (.object "java/lang/Object") ∧ Ovr Z kR "java/lang/Object" ∧ b ≠ I ∧ A1 ≠ I ∧ A2 ≠ I ∧ b ≠ R ∧ A1 ≠ R ∧ A2 ≠ R ∧ I ≠ R ∧ h0.size ≤ I ∧ h0.size ≤ R
set_option maxRecDepth 65536 in
set_option maxHeartbeats 40000000 in
theorem rm4_1 (l : Launch) (Z : State) (a0 : Array Value) (hw : ∀ d ∈ tables_1, d.before a0 Z = true) (ws : List Jvm.Cond) (b A1 A2 : Addr) (k1 k2 : ClassId) (en kk rf : Int32) (w0 w1 mr wc : Addr) (kw0 kw1 : ClassId) (h0 : Heap) (n0 : Nat) (Z0 : n0 ≤ h0.size) (K : own_K Z Z.heap w0 w1 mr wc kw0 kw1) (OL : Old Z n0 h0) (hk1 : 1 ≤ kk.toInt) (hk2 : kk.toInt ≤ 4) (hr1 : 0 ≤ rf.toInt) (hr2 : rf.toInt ≤ 4) (RS : own_Rows Z h0 n0 w0 b A1 A2 w0 w1 k1 k2 en kk rf (0 : Int32)) :
    MetFree l (⟨"com/example/whenever/whenever/internal/engine/Rows", "grow", "()V"⟩ : MethodName) (head1 (Jvm.Cond.code (⟨"com/example/whenever/whenever/internal/engine/Rows", "grow", "()V"⟩ : MethodName) prog_105_method_3_code 2 none :: ws) ({ frames := 4, cells := 2, slots := 64, locals := 79 } : Room)) (fun a U => a = #[(.ref b)] ∧ Z.Warmed39 U.vm ∧ U.heap = h0) (fun _ _ _ _ _ => True) (fun _ U o U' => ∃ v L, o = .returned v ∧ Q4_1 Z b A1 A2 k1 k2 en kk rf w0 w1 mr wc kw0 kw1 h0 n0 v U'.heap L ∧ FrameEnd U o U' L ({ frames := 4, cells := 2, slots := 64, locals := 79 } : Room).cells ({ frames := 4, cells := 2, slots := 64, locals := 79 } : Room).slots) := by
  refine MetFree.of_bodySF (plainFor_of_name pn0) hisR ?_
  intro p e s m args below meth c s₁ Bd hml0 hP hK
  obtain ⟨rfl, hZ, hh⟩ := hP
  have hx := Bd.exec
  have hby := Bd.bytes
  have hml : c.maxLocals = 2 := hml0
  have hown : s.vm.findClass "com/example/whenever/whenever/internal/engine/Rows" = some m.cls := findClass_of_methodNamed Bd.named
  have hnm := (name_of_methodNamed Bd.named Bd.method).1
  have hlk := Bd.notSynchronized
  have X0 : Stand p l e ({ frames := 4, cells := 2, slots := 64, locals := 79 } : Room) s m #[(.ref b)] below meth c s₁ [] 0 0 := Stand.of_body Bd
  have e0 : s₁.heap = h0 := by rw [← hh, Bd.state]; rfl
  have K0 := K
  obtain ⟨S_w0, S_w1, E_w0, E_w1, V_w0, V_w1, MR, S_wc, S_high, CA⟩ := K
  show own_Go p e below s (Q4_1 Z b A1 A2 k1 k2 en kk rf w0 w1 mr wc kw0 kw1 h0 n0) 2 64 (s₁.setTop (entryFrame m #[(.ref b)] 2))
  rw [show entryFrame m #[(.ref b)] 2 = mkF m 0 #[.val (.ref b), .unset] [] from by first | (simp [entryFrame, mkF, argsToLocals, Value.category]; done) | rfl]
  have KP := Keep.refl h0 [b, A1, A2]
  obtain ⟨OB_b, V_A1, V_A2, OV_A1, OV_A2, ne_b_A1, ne_b_A2, ne_A1_A2, g_b, g_A1, g_A2⟩ := RS
  show own_Go p e below s _ _ _ (s₁.setTop (mkF m 0 #[.val (.ref b), .unset] []))
  refine own_via (fun _ k => XS.aloadN X0.here hx rfl (hb hby d4_0) rfl rfl k) ?_
  show own_Go p e below s _ _ _ (s₁.setTop (mkF m 1 #[.val (.ref b), .unset] [(.ref b)]))
  obtain ⟨T1, X1, e1, st1⟩ := getF X0 hx hZ hown (host := "") (Or.inl (hw _ (List.mem_of_getElem? (i := 40) rfl))) Via.refl e0 (OB_b.2.2.2.2.2.2.2.2.2) (g := (mkF m 1 #[.val (.ref b), .unset] [(.ref b)])) rfl rfl (hb hby d4_1)
  refine own_via st1 ?_
  show own_Go p e below s _ _ _ (T1.setTop (mkF m 4 #[.val (.ref b), .unset] [(.int (0 : Int32))]))
  refine own_via (fun _ k => XS.sipush X1.here hx rfl (hb hby d4_4) k) ?_
  show own_Go p e below s _ _ _ (T1.setTop (mkF m 7 #[.val (.ref b), .unset] [(.int (4096 : Int32)), (.int (0 : Int32))]))
  refine own_via (fun _ k => XS.icmpNo X1.here hx rfl (hb hby d4_7) rfl (tlt (by decide : (0 : Int32) < (4096 : Int32))).2.1 k) ?_
  show own_Go p e below s _ _ _ (T1.setTop (mkF m 10 #[.val (.ref b), .unset] []))
  refine own_via (fun _ k => XS.aloadN X1.here hx rfl (hb hby d4_10) rfl rfl k) ?_
  show own_Go p e below s _ _ _ (T1.setTop (mkF m 11 #[.val (.ref b), .unset] [(.ref b)]))
  refine own_via (fun _ k => XS.bipush X1.here hx rfl (hb hby d4_11) k) ?_
  show own_Go p e below s _ _ _ (T1.setTop (mkF m 13 #[.val (.ref b), .unset] [(.int (8 : Int32)), (.ref b)]))
  refine own_via (fun _ k => XS.iconst X1.here hx rfl (hb hby d4_13) k) ?_
  show own_Go p e below s _ _ _ (T1.setTop (mkF m 14 #[.val (.ref b), .unset] [(.int (2 : Int32)), (.int (8 : Int32)), (.ref b)]))
  refine own_via (fun _ k => XS.aloadN X1.here hx rfl (hb hby d4_14) rfl rfl k) ?_
  show own_Go p e below s _ _ _ (T1.setTop (mkF m 15 #[.val (.ref b), .unset] [(.ref b), (.int (2 : Int32)), (.int (8 : Int32)), (.ref b)]))
  obtain ⟨T2, X2, e2, st2⟩ := getF X1 hx hZ hown (host := "") (Or.inl (hw _ (List.mem_of_getElem? (i := 40) rfl))) Via.refl e1 (OB_b.2.2.2.2.2.2.2.2.2) (g := (mkF m 15 #[.val (.ref b), .unset] [(.ref b), (.int (2 : Int32)), (.int (8 : Int32)), (.ref b)])) rfl rfl (hb hby d4_15)
  refine own_via st2 ?_
  show own_Go p e below s _ _ _ (T2.setTop (mkF m 18 #[.val (.ref b), .unset] [(.int (0 : Int32)), (.int (2 : Int32)), (.int (8 : Int32)), (.ref b)]))
  refine own_via (fun _ k => XS.imul X2.here hx rfl (hb hby d4_18) rfl k) ?_
  show own_Go p e below s _ _ _ (T2.setTop (mkF m 19 #[.val (.ref b), .unset] [(.int ((2 : Int32) * (0 : Int32))), (.int (8 : Int32)), (.ref b)]))
  obtain ⟨_, _, ⟨T3, L3, k3, n3⟩, -, X3, ⟨Lc3, hQ3, l3, y3, z3⟩, st3⟩ := Jvm.LawKit.callS X2 hx (y := (⟨"java/lang/Math", "max", "(II)I"⟩ : MethodName)) hown (mvT hZ (hw _ (List.mem_of_getElem? (i := 46) rfl))) (mvT hZ (hw _ (List.mem_of_getElem? (i := 47) rfl))) (mvT hZ (hw _ (List.mem_of_getElem? (i := 48) rfl))) (mvT hZ (hw _ (List.mem_of_getElem? (i := 49) rfl))) (by decide) (backOf (W := 1) (rm5_0 l Z a0 hw [] w0 w1 mr wc kw0 kw1 h0 n0 Z0 K0 OL) hZ (hw _ (List.mem_of_getElem? (i := 49) rfl)) (hw _ (List.mem_of_getElem? (i := 48) rfl)) (by decide) (by decide)) (g := (mkF m 19 #[.val (.ref b), .unset] [(.int ((2 : Int32) * (0 : Int32))), (.int (8 : Int32)), (.ref b)])) rfl (by rw [hml]; rfl) (argsL := [(.int (8 : Int32)), (.int ((2 : Int32) * (0 : Int32)))]) (rest := [(.ref b)]) (lenOf pd1 rfl) rfl (by show 2 * 0 + _ ≤ _; exact Nat.le_of_eq rfl) (hb hby d4_19) (fun _ _ => ⟨rfl, e2, (by decide : 0 + 0 ≤ _), (by decide : 0 + 0 ≤ _)⟩)
  dsimp only [Pt.U, Pt.locs, Pt.cells, Pt.slots] at X3 l3 y3 z3 st3 hQ3
  subst l3 y3 z3
  obtain ⟨rfl, e3, hO3⟩ := hQ3
  obtain rfl := hO3
  refine own_via st3 ?_
  show own_Go p e below s _ _ _ (T3.setTop (mkF m 22 #[.val (.ref b), .unset] [(.int (8 : Int32)), (.ref b)]))
  obtain ⟨T4, h4, X4, e4, W4, st4⟩ := putF X3 hx hZ hown (host := "") (Or.inl (hw _ (List.mem_of_getElem? (i := 40) rfl))) Via.refl e3 (OB_b.2.2.2.2.2.2.2.2.2) OB_b.1 (Or.inl (hw _ (List.mem_of_getElem? (i := 41) rfl))) (hw _ (List.mem_of_getElem? (i := 1) rfl)) (ty := .int) (by decide) rfl rfl (g := (mkF m 22 #[.val (.ref b), .unset] [(.int (8 : Int32)), (.ref b)])) rfl rfl (hb hby d4_22)
  have OB_b := own_put0_8 hw OB_b W4
  have N4 := Fr.snoc X4 (Fr.app (Fr.nil n0) (Fr.nil n0)) g_b
  have Z0 := Nat.le_trans Z0 (Keep.of_wr W4).1
  have OL := OL.wr W4 g_b
  have KP := KP.wr W4 (Or.inl (List.mem_of_getElem? (i := 0) rfl))
  have V_A1 := V_A1.other W4 (Ne.symm ne_b_A1)
  have V_A2 := V_A2.other W4 (Ne.symm ne_b_A2)
  refine own_via st4 ?_
  show own_Go p e below s _ _ _ (T4.setTop (mkF m 25 #[.val (.ref b), .unset] []))
  refine own_via (fun _ k => XS.aloadN X4.here hx rfl (hb hby d4_25) rfl rfl k) ?_
  show own_Go p e below s _ _ _ (T4.setTop (mkF m 26 #[.val (.ref b), .unset] [(.ref b)]))
  obtain ⟨T5, X5, e5, st5⟩ := getF X4 hx hZ hown (host := "") (Or.inl (hw _ (List.mem_of_getElem? (i := 14) rfl))) Via.refl e4 (OB_b.2.1) (g := (mkF m 26 #[.val (.ref b), .unset] [(.ref b)])) rfl rfl (hb hby d4_26)
  refine own_via st5 ?_
  show own_Go p e below s _ _ _ (T5.setTop (mkF m 29 #[.val (.ref b), .unset] [(.ref A1)]))
  refine own_via (fun _ k => XS.iconst X5.here hx rfl (hb hby d4_29) k) ?_
  show own_Go p e below s _ _ _ (T5.setTop (mkF m 30 #[.val (.ref b), .unset] [(.int (0 : Int32)), (.ref A1)]))
  refine own_via (fun _ k => XS.aloadN X5.here hx rfl (hb hby d4_30) rfl rfl k) ?_
  show own_Go p e below s _ _ _ (T5.setTop (mkF m 31 #[.val (.ref b), .unset] [(.ref b), (.int (0 : Int32)), (.ref A1)]))
  obtain ⟨T6, X6, e6, st6⟩ := getF X5 hx hZ hown (host := "") (Or.inl (hw _ (List.mem_of_getElem? (i := 14) rfl))) Via.refl e5 (OB_b.2.1) (g := (mkF m 31 #[.val (.ref b), .unset] [(.ref b), (.int (0 : Int32)), (.ref A1)])) rfl rfl (hb hby d4_31)
  refine own_via st6 ?_
  show own_Go p e below s _ _ _ (T6.setTop (mkF m 34 #[.val (.ref b), .unset] [(.ref A1), (.int (0 : Int32)), (.ref A1)]))
  refine own_via (fun _ k => XS.iconst X6.here hx rfl (hb hby d4_34) k) ?_
  show own_Go p e below s _ _ _ (T6.setTop (mkF m 35 #[.val (.ref b), .unset] [(.int (0 : Int32)), (.ref A1), (.int (0 : Int32)), (.ref A1)]))
  have Vx7 := V_A1
  obtain ⟨cl7, Ar7, q7, S7, N7, H7, G7⟩ := Vx7
  have hin7 : ¬ ((0 : Int32) < 0 ∨ cl7.slots.size ≤ ((0 : Int32)).toNatClampNeg) := inb_of S7 ⟨by decide, by decide⟩
  have hat7 : cl7.slots[((0 : Int32)).toNatClampNeg]? = some (.ref w0) := H7.at hin7 rfl
  refine own_via (fun _ k => X6.aaload hx (j := (0 : Int32)) (v := (.ref w0)) (by rw [e6]; exact Ar7.1) (State.isArrayOf_alike hZ.alike Ar7.2.1) rfl Ar7.2.2 hin7 hat7 (g := (mkF m 35 #[.val (.ref b), .unset] [(.int (0 : Int32)), (.ref A1), (.int (0 : Int32)), (.ref A1)])) rfl rfl (hb hby d4_35) _ k) ?_
  show own_Go p e below s _ _ _ (T6.setTop (mkF m 36 #[.val (.ref b), .unset] [(.ref w0), (.int (0 : Int32)), (.ref A1)]))
  refine own_via (fun _ k => XS.aloadN X6.here hx rfl (hb hby d4_36) rfl rfl k) ?_
  show own_Go p e below s _ _ _ (T6.setTop (mkF m 37 #[.val (.ref b), .unset] [(.ref b), (.ref w0), (.int (0 : Int32)), (.ref A1)]))
  obtain ⟨T8, X8, e8, st8⟩ := getF X6 hx hZ hown (host := "") (Or.inl (hw _ (List.mem_of_getElem? (i := 40) rfl))) Via.refl e6 (OB_b.2.2.2.2.2.2.2.2.2) (g := (mkF m 37 #[.val (.ref b), .unset] [(.ref b), (.ref w0), (.int (0 : Int32)), (.ref A1)])) rfl rfl (hb hby d4_37)
  refine own_via st8 ?_
  show own_Go p e below s _ _ _ (T8.setTop (mkF m 40 #[.val (.ref b), .unset] [(.int (8 : Int32)), (.ref w0), (.int (0 : Int32)), (.ref A1)]))
  refine own_via (fun _ k => XS.aloadN X8.here hx rfl (hb hby d4_40) rfl rfl k) ?_
  show own_Go p e below s _ _ _ (T8.setTop (mkF m 41 #[.val (.ref b), .unset] [(.ref b), (.int (8 : Int32)), (.ref w0), (.int (0 : Int32)), (.ref A1)]))
  obtain ⟨T9, X9, e9, st9⟩ := getF X8 hx hZ hown (host := "") (Or.inl (hw _ (List.mem_of_getElem? (i := 27) rfl))) Via.refl e8 (OB_b.2.2.2.2.2.1) (g := (mkF m 41 #[.val (.ref b), .unset] [(.ref b), (.int (8 : Int32)), (.ref w0), (.int (0 : Int32)), (.ref A1)])) rfl rfl (hb hby d4_41)
  refine own_via st9 ?_
  show own_Go p e below s _ _ _ (T9.setTop (mkF m 44 #[.val (.ref b), .unset] [(.int kk), (.int (8 : Int32)), (.ref w0), (.int (0 : Int32)), (.ref A1)]))
  refine own_via (fun _ k => XS.imul X9.here hx rfl (hb hby d4_44) rfl k) ?_
  show own_Go p e below s _ _ _ (T9.setTop (mkF m 45 #[.val (.ref b), .unset] [(.int ((8 : Int32) * kk)), (.ref w0), (.int (0 : Int32)), (.ref A1)]))
  obtain ⟨_, _, ⟨T10, L10, k10, n10⟩, -, X10, ⟨Lc10, hQ10, l10, y10, z10⟩, st10⟩ := Jvm.LawKit.callS X9 hx (y := (⟨"java/util/Arrays", "copyOf", "([II)[I"⟩ : MethodName)) hown (mvT hZ (hw _ (List.mem_of_getElem? (i := 50) rfl))) (mvT hZ (hw _ (List.mem_of_getElem? (i := 51) rfl))) (mvT hZ (hw _ (List.mem_of_getElem? (i := 52) rfl))) (mvT hZ (hw _ (List.mem_of_getElem? (i := 53) rfl))) (by decide) (backOf (W := 2) (rm6_1 l Z a0 hw [] ((8 : Int32) * kk) w0 w1 mr wc kw0 kw1 h4 n0 Z0 K0 OL (own_m8c hk1 hk2) (own_m8d hk1 hk2)) hZ (hw _ (List.mem_of_getElem? (i := 53) rfl)) (hw _ (List.mem_of_getElem? (i := 52) rfl)) (by decide) (by decide)) (g := (mkF m 45 #[.val (.ref b), .unset] [(.int ((8 : Int32) * kk)), (.ref w0), (.int (0 : Int32)), (.ref A1)])) rfl (by rw [hml]; rfl) (argsL := [(.ref w0), (.int ((8 : Int32) * kk))]) (rest := [(.int (0 : Int32)), (.ref A1)]) (lenOf pd2 rfl) rfl (by show 2 * 0 + _ ≤ _; exact Nat.le_of_eq rfl) (hb hby d4_45) (fun _ _ => ⟨rfl, e9, (by decide : 0 + 1 ≤ _), (by decide : 0 + 32 ≤ _)⟩)
  dsimp only [Pt.U, Pt.locs, Pt.cells, Pt.slots] at X10 l10 y10 z10 st10 hQ10
  subst l10 y10 z10
  obtain ⟨NQ10, OLq10, Zq10, KQ10, hP10⟩ := hQ10
  obtain ⟨I, kI, rfl, V_I, EX_I, szq10⟩ := hP10
  have ne_b_I : b ≠ I := Nat.ne_of_lt (Nat.lt_of_lt_of_le OB_b.1.lt szq10)
  have ne_A1_I : A1 ≠ I := Nat.ne_of_lt (Nat.lt_of_lt_of_le V_A1.lt szq10)
  have ne_A2_I : A2 ≠ I := Nat.ne_of_lt (Nat.lt_of_lt_of_le V_A2.lt szq10)
  have sz_I : h0.size ≤ I := Nat.le_trans KP.1 szq10
  have g_I : n0 ≤ I := Nat.le_trans Z0 szq10
  have OB_b := OB_b.keep KQ10 nin0
  have V_A1 := V_A1.keep KQ10 nin0
  have V_A2 := V_A2.keep KQ10 nin0
  have KP := KP.trans KQ10 (fun x hx => nomatch hx)
  have OL := OLq10
  have Z0 := Zq10
  refine own_via st10 ?_
  show own_Go p e below s _ _ _ (T10.setTop (mkF m 48 #[.val (.ref b), .unset] [(.ref I), (.int (0 : Int32)), (.ref A1)]))
  have Vx11 := V_A1
  obtain ⟨cl11, Ar11, q11, S11, N11, H11, G11⟩ := Vx11
  have hin11 : ¬ ((0 : Int32) < 0 ∨ cl11.slots.size ≤ ((0 : Int32)).toNatClampNeg) := inb_of S11 ⟨by decide, by decide⟩
  have Sto11 : Sto Z T10.heap A1 (.ref I) := Sto.ofVA Ar11 q11 OV_A1 (Ins.self EX_I)
  obtain ⟨T11, h11, X11, e11, W11, st11⟩ := stR X10 hx hZ rfl Ar11 (j := (0 : Int32)) hin11 rfl Sto11 (g := (mkF m 48 #[.val (.ref b), .unset] [(.ref I), (.int (0 : Int32)), (.ref A1)])) rfl rfl (hb hby d4_48)
  have V_A1 : Arv Z h11 A1 k1 (.array .int) (1 : Int32) [(.ref I)] .null := Arv.set Ar11 q11 S11 N11 H11 G11 rfl W11 0 rfl (Nat.le_of_ble_eq_true rfl)
  have N11 := Fr.snoc X11 (Fr.app N4 NQ10) g_A1
  have Z0 := Nat.le_trans Z0 (Keep.of_wr W11).1
  have OL := OL.wr W11 g_A1
  have KP := KP.wr W11 (Or.inl (List.mem_of_getElem? (i := 1) rfl))
  have OB_b := OB_b.other W11 ne_b_A1
  have V_A2 := V_A2.other W11 (Ne.symm ne_A1_A2)
  have V_I := V_I.other W11 (Ne.symm ne_A1_I)
  have EX_I := EX_I.wr W11
  refine own_via st11 ?_
  show own_Go p e below s _ _ _ (T11.setTop (mkF m 49 #[.val (.ref b), .unset] []))
  refine own_via (fun _ k => XS.aloadN X11.here hx rfl (hb hby d4_49) rfl rfl k) ?_
  show own_Go p e below s _ _ _ (T11.setTop (mkF m 50 #[.val (.ref b), .unset] [(.ref b)]))
  obtain ⟨T12, X12, e12, st12⟩ := getF X11 hx hZ hown (host := "") (Or.inl (hw _ (List.mem_of_getElem? (i := 21) rfl))) Via.refl e11 (OB_b.2.2.1) (g := (mkF m 50 #[.val (.ref b), .unset] [(.ref b)])) rfl rfl (hb hby d4_50)
  refine own_via st12 ?_
  show own_Go p e below s _ _ _ (T12.setTop (mkF m 53 #[.val (.ref b), .unset] [(.ref A2)]))
  refine own_via (fun _ k => XS.iconst X12.here hx rfl (hb hby d4_53) k) ?_
  show own_Go p e below s _ _ _ (T12.setTop (mkF m 54 #[.val (.ref b), .unset] [(.int (0 : Int32)), (.ref A2)]))
  refine own_via (fun _ k => XS.aloadN X12.here hx rfl (hb hby d4_54) rfl rfl k) ?_
  show own_Go p e below s _ _ _ (T12.setTop (mkF m 55 #[.val (.ref b), .unset] [(.ref b), (.int (0 : Int32)), (.ref A2)]))
  obtain ⟨T13, X13, e13, st13⟩ := getF X12 hx hZ hown (host := "") (Or.inl (hw _ (List.mem_of_getElem? (i := 21) rfl))) Via.refl e12 (OB_b.2.2.1) (g := (mkF m 55 #[.val (.ref b), .unset] [(.ref b), (.int (0 : Int32)), (.ref A2)])) rfl rfl (hb hby d4_55)
  refine own_via st13 ?_
  show own_Go p e below s _ _ _ (T13.setTop (mkF m 58 #[.val (.ref b), .unset] [(.ref A2), (.int (0 : Int32)), (.ref A2)]))
  refine own_via (fun _ k => XS.iconst X13.here hx rfl (hb hby d4_58) k) ?_
  show own_Go p e below s _ _ _ (T13.setTop (mkF m 59 #[.val (.ref b), .unset] [(.int (0 : Int32)), (.ref A2), (.int (0 : Int32)), (.ref A2)]))
  have Vx14 := V_A2
  obtain ⟨cl14, Ar14, q14, S14, N14, H14, G14⟩ := Vx14
  have hin14 : ¬ ((0 : Int32) < 0 ∨ cl14.slots.size ≤ ((0 : Int32)).toNatClampNeg) := inb_of S14 ⟨by decide, by decide⟩
  have hat14 : cl14.slots[((0 : Int32)).toNatClampNeg]? = some (.ref w1) := H14.at hin14 rfl
  refine own_via (fun _ k => X13.aaload hx (j := (0 : Int32)) (v := (.ref w1)) (by rw [e13]; exact Ar14.1) (State.isArrayOf_alike hZ.alike Ar14.2.1) rfl Ar14.2.2 hin14 hat14 (g := (mkF m 59 #[.val (.ref b), .unset] [(.int (0 : Int32)), (.ref A2), (.int (0 : Int32)), (.ref A2)])) rfl rfl (hb hby d4_59) _ k) ?_
  show own_Go p e below s _ _ _ (T13.setTop (mkF m 60 #[.val (.ref b), .unset] [(.ref w1), (.int (0 : Int32)), (.ref A2)]))
  refine own_via (fun _ k => XS.aloadN X13.here hx rfl (hb hby d4_60) rfl rfl k) ?_
  show own_Go p e below s _ _ _ (T13.setTop (mkF m 61 #[.val (.ref b), .unset] [(.ref b), (.ref w1), (.int (0 : Int32)), (.ref A2)]))
  obtain ⟨T15, X15, e15, st15⟩ := getF X13 hx hZ hown (host := "") (Or.inl (hw _ (List.mem_of_getElem? (i := 40) rfl))) Via.refl e13 (OB_b.2.2.2.2.2.2.2.2.2) (g := (mkF m 61 #[.val (.ref b), .unset] [(.ref b), (.ref w1), (.int (0 : Int32)), (.ref A2)])) rfl rfl (hb hby d4_61)
  refine own_via st15 ?_
  show own_Go p e below s _ _ _ (T15.setTop (mkF m 64 #[.val (.ref b), .unset] [(.int (8 : Int32)), (.ref w1), (.int (0 : Int32)), (.ref A2)]))
  refine own_via (fun _ k => XS.aloadN X15.here hx rfl (hb hby d4_64) rfl rfl k) ?_
  show own_Go p e below s _ _ _ (T15.setTop (mkF m 65 #[.val (.ref b), .unset] [(.ref b), (.int (8 : Int32)), (.ref w1), (.int (0 : Int32)), (.ref A2)]))
  obtain ⟨T16, X16, e16, st16⟩ := getF X15 hx hZ hown (host := "") (Or.inl (hw _ (List.mem_of_getElem? (i := 29) rfl))) Via.refl e15 (OB_b.2.2.2.2.2.2.1) (g := (mkF m 65 #[.val (.ref b), .unset] [(.ref b), (.int (8 : Int32)), (.ref w1), (.int (0 : Int32)), (.ref A2)])) rfl rfl (hb hby d4_65)
  refine own_via st16 ?_
  show own_Go p e below s _ _ _ (T16.setTop (mkF m 68 #[.val (.ref b), .unset] [(.int rf), (.int (8 : Int32)), (.ref w1), (.int (0 : Int32)), (.ref A2)]))
  refine own_via (fun _ k => XS.imul X16.here hx rfl (hb hby d4_68) rfl k) ?_
  show own_Go p e below s _ _ _ (T16.setTop (mkF m 69 #[.val (.ref b), .unset] [(.int ((8 : Int32) * rf)), (.ref w1), (.int (0 : Int32)), (.ref A2)]))
  obtain ⟨T17, h17, kR17, X17, e17, E17, AR_b17, EX_b17, OVR_b17, st17⟩ := own_cpR X16 hx hZ hw hown e16 (E_w1.ext OL.2) (V_w1.ext OL.2) MR (n := ((8 : Int32) * rf)) (own_m8a hr1 hr2) (own_m8b hr1 hr2) (g := (mkF m 69 #[.val (.ref b), .unset] [(.int ((8 : Int32) * rf)), (.ref w1), (.int (0 : Int32)), (.ref A2)])) rfl (by rw [hml]; rfl) (rest := [(.int (0 : Int32)), (.ref A2)]) rfl (hb hby d4_69) (by decide) (W := 2) (by show 2 * 0 + _ ≤ _; exact Nat.le_of_eq rfl) (by decide) (by decide) (by decide)
  obtain ⟨b17, g17⟩ : ∃ z, z = h11.size := ⟨_, rfl⟩
  rw [← g17] at AR_b17 EX_b17 st17
  have ne_b_b17 : b ≠ b17 := Nat.ne_of_lt (Nat.lt_of_lt_of_le OB_b.1.lt (Nat.le_of_eq g17.symm))
  have ne_A1_b17 : A1 ≠ b17 := Nat.ne_of_lt (Nat.lt_of_lt_of_le V_A1.lt (Nat.le_of_eq g17.symm))
  have ne_A2_b17 : A2 ≠ b17 := Nat.ne_of_lt (Nat.lt_of_lt_of_le V_A2.lt (Nat.le_of_eq g17.symm))
  have ne_I_b17 : I ≠ b17 := Nat.ne_of_lt (Nat.lt_of_lt_of_le V_I.lt (Nat.le_of_eq g17.symm))
  have sz_b17 : h0.size ≤ b17 := Nat.le_trans KP.1 (Nat.le_of_eq g17.symm)
  have g_b17 : n0 ≤ b17 := Nat.le_trans Z0 (Nat.le_of_eq g17.symm)
  have Z0 := Nat.le_trans Z0 E17.1
  have OL := OL.ext E17
  have KP := KP.ext E17
  have OB_b := OB_b.ext E17
  have V_A1 := V_A1.ext E17
  have V_A2 := V_A2.ext E17
  have V_I := V_I.ext E17
  have EX_I := EX_I.ext E17
  refine own_via st17 ?_
  show own_Go p e below s _ _ _ (T17.setTop (mkF m 72 #[.val (.ref b), .unset] [(.ref b17), (.int (0 : Int32)), (.ref A2)]))
  have Vx18 := V_A2
  obtain ⟨cl18, Ar18, q18, S18, N18, H18, G18⟩ := Vx18
  have hin18 : ¬ ((0 : Int32) < 0 ∨ cl18.slots.size ≤ ((0 : Int32)).toNatClampNeg) := inb_of S18 ⟨by decide, by decide⟩
  have Sto18 : Sto Z h17 A2 (.ref b17) := Sto.ofVA Ar18 q18 OV_A2 (Ins.self EX_b17)
  obtain ⟨T18, h18, X18, e18, W18, st18⟩ := stR X17 hx hZ e17 Ar18 (j := (0 : Int32)) hin18 rfl Sto18 (g := (mkF m 72 #[.val (.ref b), .unset] [(.ref b17), (.int (0 : Int32)), (.ref A2)])) rfl rfl (hb hby d4_72)
  have V_A2 : Arv Z h18 A2 k2 (.array (.object "java/lang/Object")) (1 : Int32) [(.ref b17)] .null := Arv.set Ar18 q18 S18 N18 H18 G18 rfl W18 0 rfl (Nat.le_of_ble_eq_true rfl)
  have N18 := Fr.snoc X18 N11 g_A2
  have Z0 := Nat.le_trans Z0 (Keep.of_wr W18).1
  have OL := OL.wr W18 g_A2
  have KP := KP.wr W18 (Or.inl (List.mem_of_getElem? (i := 2) rfl))
  have OB_b := OB_b.other W18 ne_b_A2
  have V_A1 := V_A1.other W18 ne_A1_A2
  have V_I := V_I.other W18 (Ne.symm ne_A2_I)
  have AR_b17 := AR_b17.other W18 (Ne.symm ne_A2_b17)
  have EX_I := EX_I.wr W18
  have EX_b17 := EX_b17.wr W18
  refine own_via st18 ?_
  show own_Go p e below s _ _ _ (T18.setTop (mkF m 73 #[.val (.ref b), .unset] []))
  exact own_retV X18 hx hlk Bd.returns (hb hby d4_73) (by rw [e18]; exact ⟨N18, OL, Z0, KP, rfl, I, b17, kI, kR17, ⟨OB_b, V_A1, V_A2, OV_A1, OV_A2, ne_b_A1, ne_b_A2, ne_A1_A2, g_b, g_A1, g_A2⟩, V_I, AR_b17, OVR_b17, ne_b_I, ne_A1_I, ne_A2_I, ne_b_b17, ne_A1_b17, ne_A2_b17, ne_I_b17, sz_I, sz_b17⟩) (by decide) (by decide)
def Q3_1 (Z : State) (b A1 A2 : Addr) (k1 k2 : ClassId) (kk rf : Int32) (w0 w1 mr wc : Addr) (kw0 kw1 : ClassId) (h0 : Heap) (n0 : Nat) (v : Option Value) (h : Heap) (L : List Loc) : Prop := Fr n0 L ∧ Old Z n0 h ∧ n0 ≤ h.size ∧ Keep h0 h [b, A1, A2] ∧ v = some (.int (1 : Int32)) ∧ ∃ (I R : Addr) (kI kR : ClassId), own_Rows Z h n0 w0 b A1 A2 I R k1 k2 ((1 : Int32) + (1 : Int32)) kk rf (8 : Int32) ∧ Arv Z h I kI .int ((8 : Int32) * kk) [] (.int 0) ∧ Arr Z h R (newA kR (.object "java/lang/Object") ((8 : Int32) * rf)) (.object "java/lang/Object") ∧ Ovr Z kR "java/lang/Object" ∧ b ≠ I ∧ A1 ≠ I ∧ A2 ≠ I ∧ b ≠ R ∧ A1 ≠ R ∧ A2 ≠ R ∧ I ≠ R ∧ h0.size ≤ I ∧ h0.size ≤ R
set_option maxRecDepth 65536 in
set_option maxHeartbeats 40000000 in
theorem rm3_1 (l : Launch) (Z : State) (a0 : Array Value) (hw : ∀ d ∈ tables_1, d.before a0 Z = true) (ws : List Jvm.Cond) (b A1 A2 : Addr) (k1 k2 : ClassId) (kk rf : Int32) (w0 w1 mr wc : Addr) (kw0 kw1 : ClassId) (h0 : Heap) (n0 : Nat) (Z0 : n0 ≤ h0.size) (K : own_K Z Z.heap w0 w1 mr wc kw0 kw1) (OL : Old Z n0 h0) (hk1 : 1 ≤ kk.toInt) (hk2 : kk.toInt ≤ 4) (hr1 : 0 ≤ rf.toInt) (hr2 : rf.toInt ≤ 4) (RS : own_Rows Z h0 n0 w0 b A1 A2 w0 w1 k1 k2 (1 : Int32) kk rf (0 : Int32)) :
    MetFree l (⟨"com/example/whenever/whenever/internal/engine/Rows", "add", "()I"⟩ : MethodName) (head1 (Jvm.Cond.code (⟨"com/example/whenever/whenever/internal/engine/Rows", "add", "()I"⟩ : MethodName) prog_105_method_2_code 2 (some .int) :: ws) ({ frames := 5, cells := 2, slots := 64, locals := 92 } : Room)) (fun a U => a = #[(.ref b)] ∧ Z.Warmed39 U.vm ∧ U.heap = h0) (fun _ _ _ _ _ => True) (fun _ U o U' => ∃ v L, o = .returned v ∧ Q3_1 Z b A1 A2 k1 k2 kk rf w0 w1 mr wc kw0 kw1 h0 n0 v U'.heap L ∧ FrameEnd U o U' L ({ frames := 5, cells := 2, slots := 64, locals := 92 } : Room).cells ({ frames := 5, cells := 2, slots := 64, locals := 92 } : Room).slots) := by
  refine MetFree.of_bodySF (plainFor_of_name pn0) hisR ?_
  intro p e s m args below meth c s₁ Bd hml0 hP hK
  obtain ⟨rfl, hZ, hh⟩ := hP
  have hx := Bd.exec
  have hby := Bd.bytes
  have hml : c.maxLocals = 2 := hml0
  have hown : s.vm.findClass "com/example/whenever/whenever/internal/engine/Rows" = some m.cls := findClass_of_methodNamed Bd.named
  have hnm := (name_of_methodNamed Bd.named Bd.method).1
  have hlk := Bd.notSynchronized
  have X0 : Stand p l e ({ frames := 5, cells := 2, slots := 64, locals := 92 } : Room) s m #[(.ref b)] below meth c s₁ [] 0 0 := Stand.of_body Bd
  have e0 : s₁.heap = h0 := by rw [← hh, Bd.state]; rfl
  have K0 := K
  obtain ⟨S_w0, S_w1, E_w0, E_w1, V_w0, V_w1, MR, S_wc, S_high, CA⟩ := K
  show own_Go p e below s (Q3_1 Z b A1 A2 k1 k2 kk rf w0 w1 mr wc kw0 kw1 h0 n0) 2 64 (s₁.setTop (entryFrame m #[(.ref b)] 2))
  rw [show entryFrame m #[(.ref b)] 2 = mkF m 0 #[.val (.ref b), .unset] [] from by first | (simp [entryFrame, mkF, argsToLocals, Value.category]; done) | rfl]
  have KP := Keep.refl h0 [b, A1, A2]
  obtain ⟨OB_b, V_A1, V_A2, OV_A1, OV_A2, ne_b_A1, ne_b_A2, ne_A1_A2, g_b, g_A1, g_A2⟩ := RS
  show own_Go p e below s _ _ _ (s₁.setTop (mkF m 0 #[.val (.ref b), .unset] []))
  refine own_via (fun _ k => XS.aloadN X0.here hx rfl (hb hby d3_0) rfl rfl k) ?_
  show own_Go p e below s _ _ _ (s₁.setTop (mkF m 1 #[.val (.ref b), .unset] [(.ref b)]))
  obtain ⟨T1, X1, e1, st1⟩ := getF X0 hx hZ hown (host := "") (Or.inl (hw _ (List.mem_of_getElem? (i := 36) rfl))) Via.refl e0 (OB_b.2.2.2.2.2.2.2.1) (g := (mkF m 1 #[.val (.ref b), .unset] [(.ref b)])) rfl rfl (hb hby d3_1)
  refine own_via st1 ?_
  show own_Go p e below s _ _ _ (T1.setTop (mkF m 4 #[.val (.ref b), .unset] [(.int (0 : Int32))]))
  refine own_via (fun _ k => XS.ifYes X1.here hx rfl (pc0 := 4) (pc' := 24) rfl (hb hby d3_4) rfl ((if0 _ _).trans (teq (by decide : (0 : Int32) = (0 : Int32))).1) (by decide) (by decide) k) ?_
  show own_Go p e below s _ _ _ (T1.setTop (mkF m 24 #[.val (.ref b), .unset] []))
  refine own_via (fun _ k => XS.aloadN X1.here hx rfl (hb hby d3_24) rfl rfl k) ?_
  show own_Go p e below s _ _ _ (T1.setTop (mkF m 25 #[.val (.ref b), .unset] [(.ref b)]))
  obtain ⟨T2, X2, e2, st2⟩ := getF X1 hx hZ hown (host := "") (Or.inl (hw _ (List.mem_of_getElem? (i := 38) rfl))) Via.refl e1 (OB_b.2.2.2.2.2.2.2.2.1) (g := (mkF m 25 #[.val (.ref b), .unset] [(.ref b)])) rfl rfl (hb hby d3_25)
  refine own_via st2 ?_
  show own_Go p e below s _ _ _ (T2.setTop (mkF m 28 #[.val (.ref b), .unset] [.null]))
  refine own_via (fun _ k => XS.ifnullYes X2.here hx rfl (pc0 := 28) (pc' := 45) rfl (hb hby d3_28) rfl (by decide) (by decide) k) ?_
  show own_Go p e below s _ _ _ (T2.setTop (mkF m 45 #[.val (.ref b), .unset] []))
  refine own_via (fun _ k => XS.aloadN X2.here hx rfl (hb hby d3_45) rfl rfl k) ?_
  show own_Go p e below s _ _ _ (T2.setTop (mkF m 46 #[.val (.ref b), .unset] [(.ref b)]))
  obtain ⟨T3, X3, e3, st3⟩ := getF X2 hx hZ hown (host := "") (Or.inl (hw _ (List.mem_of_getElem? (i := 23) rfl))) Via.refl e2 (OB_b.2.2.2.1) (g := (mkF m 46 #[.val (.ref b), .unset] [(.ref b)])) rfl rfl (hb hby d3_46)
  refine own_via st3 ?_
  show own_Go p e below s _ _ _ (T3.setTop (mkF m 49 #[.val (.ref b), .unset] [(.int (1 : Int32))]))
  refine own_via (fun _ k => XS.aloadN X3.here hx rfl (hb hby d3_49) rfl rfl k) ?_
  show own_Go p e below s _ _ _ (T3.setTop (mkF m 50 #[.val (.ref b), .unset] [(.ref b), (.int (1 : Int32))]))
  obtain ⟨T4, X4, e4, st4⟩ := getF X3 hx hZ hown (host := "") (Or.inl (hw _ (List.mem_of_getElem? (i := 40) rfl))) Via.refl e3 (OB_b.2.2.2.2.2.2.2.2.2) (g := (mkF m 50 #[.val (.ref b), .unset] [(.ref b), (.int (1 : Int32))])) rfl rfl (hb hby d3_50)
  refine own_via st4 ?_
  show own_Go p e below s _ _ _ (T4.setTop (mkF m 53 #[.val (.ref b), .unset] [(.int (0 : Int32)), (.int (1 : Int32))]))
  refine own_via (fun _ k => XS.icmpNo X4.here hx rfl (hb hby d3_53) rfl (flt (by decide : ¬ ((1 : Int32) < (0 : Int32)))).1 k) ?_
  show own_Go p e below s _ _ _ (T4.setTop (mkF m 56 #[.val (.ref b), .unset] []))
  refine own_via (fun _ k => XS.aloadN X4.here hx rfl (hb hby d3_56) rfl rfl k) ?_
  show own_Go p e below s _ _ _ (T4.setTop (mkF m 57 #[.val (.ref b), .unset] [(.ref b)]))
  obtain ⟨cq5, q5, q5'⟩ := OB_b.1.cell
  obtain ⟨_, _, ⟨T5, L5, k5, n5⟩, -, X5, ⟨Lc5, hQ5, l5, y5, z5⟩, st5⟩ := X4.privateBack hx (y := (⟨"com/example/whenever/whenever/internal/engine/Rows", "grow", "()V"⟩ : MethodName)) hown (mvT hZ (hw _ (List.mem_of_getElem? (i := 42) rfl))) (mvT hZ (hw _ (List.mem_of_getElem? (i := 43) rfl))) (own_selG hw hZ) (Cond.privateMethod_at (mvP hZ (hw _ (List.mem_of_getElem? (i := 44) rfl)) (args := #[]))) (mvT hZ (hw _ (List.mem_of_getElem? (i := 45) rfl))) (by decide) (backOf (W := 0) (rm4_1 l Z a0 hw [] b A1 A2 k1 k2 (1 : Int32) kk rf w0 w1 mr wc kw0 kw1 h0 n0 Z0 K0 OL hk1 hk2 hr1 hr2 ⟨OB_b, V_A1, V_A2, OV_A1, OV_A2, ne_b_A1, ne_b_A2, ne_A1_A2, g_b, g_A1, g_A2⟩) hZ (hw _ (List.mem_of_getElem? (i := 45) rfl)) (hw _ (List.mem_of_getElem? (i := 2) rfl)) (by decide) (by decide)) (g := (mkF m 57 #[.val (.ref b), .unset] [(.ref b)])) rfl (by rw [hml]; rfl) (Steps.refl _) (a := b) (by rw [e4]; exact q5) q5' (argsL := []) (rest := []) (lenOf pd3 rfl) rfl (by show 2 * 0 + _ ≤ _; exact Nat.le_of_eq rfl) (hb hby d3_57) (fun _ _ => ⟨rfl, e4, (by decide : 0 + 2 ≤ _), (by decide : 0 + 64 ≤ _)⟩)
  dsimp only [Pt.U, Pt.locs, Pt.cells, Pt.slots] at X5 l5 y5 z5 st5 hQ5
  subst l5 y5 z5
  obtain ⟨NQ5, OLq5, Zq5, KQ5, hP5⟩ := hQ5
  obtain ⟨rfl, I, R, kI, kR, ⟨OBq5, Vq5a, Vq5b, -, -, -, -, -, -, -, -⟩, V_I, AR_R, OVR_R, ne_b_I, ne_A1_I, ne_A2_I, ne_b_R, ne_A1_R, ne_A2_R, ne_I_R, szI5, szR5⟩ := hP5
  have sz_I : h0.size ≤ I := Nat.le_trans KP.1 szI5
  have g_I : n0 ≤ I := Nat.le_trans Z0 szI5
  have sz_R : h0.size ≤ R := Nat.le_trans KP.1 szR5
  have g_R : n0 ≤ R := Nat.le_trans Z0 szR5
  have OB_b := OBq5
  have V_A1 := Vq5a
  have V_A2 := Vq5b
  have KP := KP.trans KQ5 (by intro x hx; simp only [List.mem_cons, List.not_mem_nil, or_false] at hx; rcases hx with rfl | rfl | rfl <;> first | exact Or.inl (by simp) | exact Or.inr (by assumption))
  have OL := OLq5
  have Z0 := Zq5
  refine own_tr st5 ?_
  show own_Go p e below s _ _ _ (T5.setTop (mkF m 60 #[.val (.ref b), .unset] []))
  refine own_via (fun _ k => XS.aloadN X5.here hx rfl (hb hby d3_60) rfl rfl k) ?_
  show own_Go p e below s _ _ _ (T5.setTop (mkF m 61 #[.val (.ref b), .unset] [(.ref b)]))
  obtain ⟨T6, X6, e6, st6⟩ := getF X5 hx hZ hown (host := "") (Or.inl (hw _ (List.mem_of_getElem? (i := 23) rfl))) Via.refl rfl (OB_b.2.2.2.1) (g := (mkF m 61 #[.val (.ref b), .unset] [(.ref b)])) rfl rfl (hb hby d3_61)
  refine own_via st6 ?_
  show own_Go p e below s _ _ _ (T6.setTop (mkF m 64 #[.val (.ref b), .unset] [(.int (1 : Int32))]))
  refine own_via (fun _ k => XS.istoreN X6.here hx rfl (hb hby d3_64) rfl (l' := #[.val (.ref b), .val (.int (1 : Int32))]) rfl k) ?_
  show own_Go p e below s _ _ _ (T6.setTop (mkF m 65 #[.val (.ref b), .val (.int (1 : Int32))] []))
  refine own_via (fun _ k => XS.aloadN X6.here hx rfl (hb hby d3_65) rfl rfl k) ?_
  show own_Go p e below s _ _ _ (T6.setTop (mkF m 66 #[.val (.ref b), .val (.int (1 : Int32))] [(.ref b)]))
  refine own_via (fun _ k => XS.dup X6.here hx rfl (hb hby d3_66) rfl rfl k) ?_
  show own_Go p e below s _ _ _ (T6.setTop (mkF m 67 #[.val (.ref b), .val (.int (1 : Int32))] [(.ref b), (.ref b)]))
  obtain ⟨T7, X7, e7, st7⟩ := getF X6 hx hZ hown (host := "") (Or.inl (hw _ (List.mem_of_getElem? (i := 23) rfl))) Via.refl e6 (OB_b.2.2.2.1) (g := (mkF m 67 #[.val (.ref b), .val (.int (1 : Int32))] [(.ref b), (.ref b)])) rfl rfl (hb hby d3_67)
  refine own_via st7 ?_
  show own_Go p e below s _ _ _ (T7.setTop (mkF m 70 #[.val (.ref b), .val (.int (1 : Int32))] [(.int (1 : Int32)), (.ref b)]))
  refine own_via (fun _ k => XS.iconst X7.here hx rfl (hb hby d3_70) k) ?_
  show own_Go p e below s _ _ _ (T7.setTop (mkF m 71 #[.val (.ref b), .val (.int (1 : Int32))] [(.int (1 : Int32)), (.int (1 : Int32)), (.ref b)]))
  refine own_via (fun _ k => XS.iadd X7.here hx rfl (hb hby d3_71) rfl k) ?_
  show own_Go p e below s _ _ _ (T7.setTop (mkF m 72 #[.val (.ref b), .val (.int (1 : Int32))] [(.int ((1 : Int32) + (1 : Int32))), (.ref b)]))
  obtain ⟨T8, h8, X8, e8, W8, st8⟩ := putF X7 hx hZ hown (host := "") (Or.inl (hw _ (List.mem_of_getElem? (i := 23) rfl))) Via.refl e7 (OB_b.2.2.2.1) OB_b.1 (Or.inl (hw _ (List.mem_of_getElem? (i := 24) rfl))) (hw _ (List.mem_of_getElem? (i := 1) rfl)) (ty := .int) (by decide) rfl rfl (g := (mkF m 72 #[.val (.ref b), .val (.int (1 : Int32))] [(.int ((1 : Int32) + (1 : Int32))), (.ref b)])) rfl rfl (hb hby d3_72)
  have OB_b := own_put0_2 hw OB_b W8
  have N8 := Fr.snoc X8 (Fr.app (Fr.nil n0) NQ5) g_b
  have Z0 := Nat.le_trans Z0 (Keep.of_wr W8).1
  have OL := OL.wr W8 g_b
  have KP := KP.wr W8 (Or.inl (List.mem_of_getElem? (i := 0) rfl))
  have V_A1 := V_A1.other W8 (Ne.symm ne_b_A1)
  have V_A2 := V_A2.other W8 (Ne.symm ne_b_A2)
  have V_I := V_I.other W8 (Ne.symm ne_b_I)
  have AR_R := AR_R.other W8 (Ne.symm ne_b_R)
  refine own_via st8 ?_
  show own_Go p e below s _ _ _ (T8.setTop (mkF m 75 #[.val (.ref b), .val (.int (1 : Int32))] []))
  refine own_via (fun _ k => XS.aloadN X8.here hx rfl (hb hby d3_75) rfl rfl k) ?_
  show own_Go p e below s _ _ _ (T8.setTop (mkF m 76 #[.val (.ref b), .val (.int (1 : Int32))] [(.ref b)]))
  obtain ⟨T9, X9, e9, st9⟩ := getF X8 hx hZ hown (host := "") (Or.inl (hw _ (List.mem_of_getElem? (i := 38) rfl))) Via.refl e8 (OB_b.2.2.2.2.2.2.2.2.1) (g := (mkF m 76 #[.val (.ref b), .val (.int (1 : Int32))] [(.ref b)])) rfl rfl (hb hby d3_76)
  refine own_via st9 ?_
  show own_Go p e below s _ _ _ (T9.setTop (mkF m 79 #[.val (.ref b), .val (.int (1 : Int32))] [.null]))
  refine own_via (fun _ k => XS.ifnullYes X9.here hx rfl (pc0 := 79) (pc' := 98) rfl (hb hby d3_79) rfl (by decide) (by decide) k) ?_
  show own_Go p e below s _ _ _ (T9.setTop (mkF m 98 #[.val (.ref b), .val (.int (1 : Int32))] []))
  refine own_via (fun _ k => XS.iloadN X9.here hx rfl (hb hby d3_98) rfl k) ?_
  show own_Go p e below s _ _ _ (T9.setTop (mkF m 99 #[.val (.ref b), .val (.int (1 : Int32))] [(.int (1 : Int32))]))
  exact own_retI X9 hx hlk Bd.returns (hb hby d3_99) (by rw [e9]; exact ⟨N8, OL, Z0, KP, rfl, I, R, kI, kR, ⟨OB_b, V_A1, V_A2, OV_A1, OV_A2, ne_b_A1, ne_b_A2, ne_A1_A2, g_b, g_A1, g_A2⟩, V_I, AR_R, OVR_R, ne_b_I, ne_A1_I, ne_A2_I, ne_b_R, ne_A1_R, ne_A2_R, ne_I_R, sz_I, sz_R⟩) (by decide) (by decide)
def Q3_2 (Z : State) (b A1 A2 x1 x2 : Addr) (k1 k2 : ClassId) (kk rf : Int32) (w0 w1 mr wc : Addr) (kw0 kw1 : ClassId) (h0 : Heap) (n0 : Nat) (v : Option Value) (h : Heap) (L : List Loc) : Prop := Fr n0 L ∧ Old Z n0 h ∧ n0 ≤ h.size ∧ Keep h0 h [b] ∧ v = some (.int ((1 : Int32) + (1 : Int32))) ∧ own_Rows Z h n0 w0 b A1 A2 x1 x2 k1 k2 (((1 : Int32) + (1 : Int32)) + (1 : Int32)) kk rf (8 : Int32)
set_option maxRecDepth 65536 in
set_option maxHeartbeats 40000000 in
theorem rm3_2 (l : Launch) (Z : State) (a0 : Array Value) (hw : ∀ d ∈ tables_1, d.before a0 Z = true) (ws : List Jvm.Cond) (b A1 A2 x1 x2 : Addr) (k1 k2 : ClassId) (kk rf : Int32) (w0 w1 mr wc : Addr) (kw0 kw1 : ClassId) (h0 : Heap) (n0 : Nat) (Z0 : n0 ≤ h0.size) (K : own_K Z Z.heap w0 w1 mr wc kw0 kw1) (OL : Old Z n0 h0) (RS : own_Rows Z h0 n0 w0 b A1 A2 x1 x2 k1 k2 ((1 : Int32) + (1 : Int32)) kk rf (8 : Int32)) :
    MetFree l (⟨"com/example/whenever/whenever/internal/engine/Rows", "add", "()I"⟩ : MethodName) (head1 (Jvm.Cond.code (⟨"com/example/whenever/whenever/internal/engine/Rows", "add", "()I"⟩ : MethodName) prog_105_method_2_code 2 (some .int) :: ws) ({ frames := 0, cells := 0, slots := 0, locals := 0 } : Room)) (fun a U => a = #[(.ref b)] ∧ Z.Warmed39 U.vm ∧ U.heap = h0) (fun _ _ _ _ _ => True) (fun _ U o U' => ∃ v L, o = .returned v ∧ Q3_2 Z b A1 A2 x1 x2 k1 k2 kk rf w0 w1 mr wc kw0 kw1 h0 n0 v U'.heap L ∧ FrameEnd U o U' L ({ frames := 0, cells := 0, slots := 0, locals := 0 } : Room).cells ({ frames := 0, cells := 0, slots := 0, locals := 0 } : Room).slots) := by
  refine MetFree.of_bodySF (plainFor_of_name pn0) hisR ?_
  intro p e s m args below meth c s₁ Bd hml0 hP hK
  obtain ⟨rfl, hZ, hh⟩ := hP
  have hx := Bd.exec
  have hby := Bd.bytes
  have hml : c.maxLocals = 2 := hml0
  have hown : s.vm.findClass "com/example/whenever/whenever/internal/engine/Rows" = some m.cls := findClass_of_methodNamed Bd.named
  have hnm := (name_of_methodNamed Bd.named Bd.method).1
  have hlk := Bd.notSynchronized
  have X0 : Stand p l e ({ frames := 0, cells := 0, slots := 0, locals := 0 } : Room) s m #[(.ref b)] below meth c s₁ [] 0 0 := Stand.of_body Bd
  have e0 : s₁.heap = h0 := by rw [← hh, Bd.state]; rfl
  have K0 := K
  obtain ⟨S_w0, S_w1, E_w0, E_w1, V_w0, V_w1, MR, S_wc, S_high, CA⟩ := K
  show own_Go p e below s (Q3_2 Z b A1 A2 x1 x2 k1 k2 kk rf w0 w1 mr wc kw0 kw1 h0 n0) 0 0 (s₁.setTop (entryFrame m #[(.ref b)] 2))
  rw [show entryFrame m #[(.ref b)] 2 = mkF m 0 #[.val (.ref b), .unset] [] from by first | (simp [entryFrame, mkF, argsToLocals, Value.category]; done) | rfl]
  have KP := Keep.refl h0 [b]
  obtain ⟨OB_b, V_A1, V_A2, OV_A1, OV_A2, ne_b_A1, ne_b_A2, ne_A1_A2, g_b, g_A1, g_A2⟩ := RS
  show own_Go p e below s _ _ _ (s₁.setTop (mkF m 0 #[.val (.ref b), .unset] []))
  refine own_via (fun _ k => XS.aloadN X0.here hx rfl (hb hby d3_0) rfl rfl k) ?_
  show own_Go p e below s _ _ _ (s₁.setTop (mkF m 1 #[.val (.ref b), .unset] [(.ref b)]))
  obtain ⟨T1, X1, e1, st1⟩ := getF X0 hx hZ hown (host := "") (Or.inl (hw _ (List.mem_of_getElem? (i := 36) rfl))) Via.refl e0 (OB_b.2.2.2.2.2.2.2.1) (g := (mkF m 1 #[.val (.ref b), .unset] [(.ref b)])) rfl rfl (hb hby d3_1)
  refine own_via st1 ?_
  show own_Go p e below s _ _ _ (T1.setTop (mkF m 4 #[.val (.ref b), .unset] [(.int (0 : Int32))]))
  refine own_via (fun _ k => XS.ifYes X1.here hx rfl (pc0 := 4) (pc' := 24) rfl (hb hby d3_4) rfl ((if0 _ _).trans (teq (by decide : (0 : Int32) = (0 : Int32))).1) (by decide) (by decide) k) ?_
  show own_Go p e below s _ _ _ (T1.setTop (mkF m 24 #[.val (.ref b), .unset] []))
  refine own_via (fun _ k => XS.aloadN X1.here hx rfl (hb hby d3_24) rfl rfl k) ?_
  show own_Go p e below s _ _ _ (T1.setTop (mkF m 25 #[.val (.ref b), .unset] [(.ref b)]))
  obtain ⟨T2, X2, e2, st2⟩ := getF X1 hx hZ hown (host := "") (Or.inl (hw _ (List.mem_of_getElem? (i := 38) rfl))) Via.refl e1 (OB_b.2.2.2.2.2.2.2.2.1) (g := (mkF m 25 #[.val (.ref b), .unset] [(.ref b)])) rfl rfl (hb hby d3_25)
  refine own_via st2 ?_
  show own_Go p e below s _ _ _ (T2.setTop (mkF m 28 #[.val (.ref b), .unset] [.null]))
  refine own_via (fun _ k => XS.ifnullYes X2.here hx rfl (pc0 := 28) (pc' := 45) rfl (hb hby d3_28) rfl (by decide) (by decide) k) ?_
  show own_Go p e below s _ _ _ (T2.setTop (mkF m 45 #[.val (.ref b), .unset] []))
  refine own_via (fun _ k => XS.aloadN X2.here hx rfl (hb hby d3_45) rfl rfl k) ?_
  show own_Go p e below s _ _ _ (T2.setTop (mkF m 46 #[.val (.ref b), .unset] [(.ref b)]))
  obtain ⟨T3, X3, e3, st3⟩ := getF X2 hx hZ hown (host := "") (Or.inl (hw _ (List.mem_of_getElem? (i := 23) rfl))) Via.refl e2 (OB_b.2.2.2.1) (g := (mkF m 46 #[.val (.ref b), .unset] [(.ref b)])) rfl rfl (hb hby d3_46)
  refine own_via st3 ?_
  show own_Go p e below s _ _ _ (T3.setTop (mkF m 49 #[.val (.ref b), .unset] [(.int ((1 : Int32) + (1 : Int32)))]))
  refine own_via (fun _ k => XS.aloadN X3.here hx rfl (hb hby d3_49) rfl rfl k) ?_
  show own_Go p e below s _ _ _ (T3.setTop (mkF m 50 #[.val (.ref b), .unset] [(.ref b), (.int ((1 : Int32) + (1 : Int32)))]))
  obtain ⟨T4, X4, e4, st4⟩ := getF X3 hx hZ hown (host := "") (Or.inl (hw _ (List.mem_of_getElem? (i := 40) rfl))) Via.refl e3 (OB_b.2.2.2.2.2.2.2.2.2) (g := (mkF m 50 #[.val (.ref b), .unset] [(.ref b), (.int ((1 : Int32) + (1 : Int32)))])) rfl rfl (hb hby d3_50)
  refine own_via st4 ?_
  show own_Go p e below s _ _ _ (T4.setTop (mkF m 53 #[.val (.ref b), .unset] [(.int (8 : Int32)), (.int ((1 : Int32) + (1 : Int32)))]))
  refine own_via (fun _ k => XS.icmpYes X4.here hx rfl (pc0 := 53) (pc' := 60) rfl (hb hby d3_53) rfl (tlt (by decide : ((1 : Int32) + (1 : Int32)) < (8 : Int32))).1 (by decide) (by decide) k) ?_
  show own_Go p e below s _ _ _ (T4.setTop (mkF m 60 #[.val (.ref b), .unset] []))
  refine own_via (fun _ k => XS.aloadN X4.here hx rfl (hb hby d3_60) rfl rfl k) ?_
  show own_Go p e below s _ _ _ (T4.setTop (mkF m 61 #[.val (.ref b), .unset] [(.ref b)]))
  obtain ⟨T5, X5, e5, st5⟩ := getF X4 hx hZ hown (host := "") (Or.inl (hw _ (List.mem_of_getElem? (i := 23) rfl))) Via.refl e4 (OB_b.2.2.2.1) (g := (mkF m 61 #[.val (.ref b), .unset] [(.ref b)])) rfl rfl (hb hby d3_61)
  refine own_via st5 ?_
  show own_Go p e below s _ _ _ (T5.setTop (mkF m 64 #[.val (.ref b), .unset] [(.int ((1 : Int32) + (1 : Int32)))]))
  refine own_via (fun _ k => XS.istoreN X5.here hx rfl (hb hby d3_64) rfl (l' := #[.val (.ref b), .val (.int ((1 : Int32) + (1 : Int32)))]) rfl k) ?_
  show own_Go p e below s _ _ _ (T5.setTop (mkF m 65 #[.val (.ref b), .val (.int ((1 : Int32) + (1 : Int32)))] []))
  refine own_via (fun _ k => XS.aloadN X5.here hx rfl (hb hby d3_65) rfl rfl k) ?_
  show own_Go p e below s _ _ _ (T5.setTop (mkF m 66 #[.val (.ref b), .val (.int ((1 : Int32) + (1 : Int32)))] [(.ref b)]))
  refine own_via (fun _ k => XS.dup X5.here hx rfl (hb hby d3_66) rfl rfl k) ?_
  show own_Go p e below s _ _ _ (T5.setTop (mkF m 67 #[.val (.ref b), .val (.int ((1 : Int32) + (1 : Int32)))] [(.ref b), (.ref b)]))
  obtain ⟨T6, X6, e6, st6⟩ := getF X5 hx hZ hown (host := "") (Or.inl (hw _ (List.mem_of_getElem? (i := 23) rfl))) Via.refl e5 (OB_b.2.2.2.1) (g := (mkF m 67 #[.val (.ref b), .val (.int ((1 : Int32) + (1 : Int32)))] [(.ref b), (.ref b)])) rfl rfl (hb hby d3_67)
  refine own_via st6 ?_
  show own_Go p e below s _ _ _ (T6.setTop (mkF m 70 #[.val (.ref b), .val (.int ((1 : Int32) + (1 : Int32)))] [(.int ((1 : Int32) + (1 : Int32))), (.ref b)]))
  refine own_via (fun _ k => XS.iconst X6.here hx rfl (hb hby d3_70) k) ?_
  show own_Go p e below s _ _ _ (T6.setTop (mkF m 71 #[.val (.ref b), .val (.int ((1 : Int32) + (1 : Int32)))] [(.int (1 : Int32)), (.int ((1 : Int32) + (1 : Int32))), (.ref b)]))
  refine own_via (fun _ k => XS.iadd X6.here hx rfl (hb hby d3_71) rfl k) ?_
  show own_Go p e below s _ _ _ (T6.setTop (mkF m 72 #[.val (.ref b), .val (.int ((1 : Int32) + (1 : Int32)))] [(.int (((1 : Int32) + (1 : Int32)) + (1 : Int32))), (.ref b)]))
  obtain ⟨T7, h7, X7, e7, W7, st7⟩ := putF X6 hx hZ hown (host := "") (Or.inl (hw _ (List.mem_of_getElem? (i := 23) rfl))) Via.refl e6 (OB_b.2.2.2.1) OB_b.1 (Or.inl (hw _ (List.mem_of_getElem? (i := 24) rfl))) (hw _ (List.mem_of_getElem? (i := 1) rfl)) (ty := .int) (by decide) rfl rfl (g := (mkF m 72 #[.val (.ref b), .val (.int ((1 : Int32) + (1 : Int32)))] [(.int (((1 : Int32) + (1 : Int32)) + (1 : Int32))), (.ref b)])) rfl rfl (hb hby d3_72)
  have OB_b := own_put0_2 hw OB_b W7
  have N7 := Fr.snoc X7 (Fr.nil n0) g_b
  have Z0 := Nat.le_trans Z0 (Keep.of_wr W7).1
  have OL := OL.wr W7 g_b
  have KP := KP.wr W7 (Or.inl (List.mem_of_getElem? (i := 0) rfl))
  have V_A1 := V_A1.other W7 (Ne.symm ne_b_A1)
  have V_A2 := V_A2.other W7 (Ne.symm ne_b_A2)
  refine own_via st7 ?_
  show own_Go p e below s _ _ _ (T7.setTop (mkF m 75 #[.val (.ref b), .val (.int ((1 : Int32) + (1 : Int32)))] []))
  refine own_via (fun _ k => XS.aloadN X7.here hx rfl (hb hby d3_75) rfl rfl k) ?_
  show own_Go p e below s _ _ _ (T7.setTop (mkF m 76 #[.val (.ref b), .val (.int ((1 : Int32) + (1 : Int32)))] [(.ref b)]))
  obtain ⟨T8, X8, e8, st8⟩ := getF X7 hx hZ hown (host := "") (Or.inl (hw _ (List.mem_of_getElem? (i := 38) rfl))) Via.refl e7 (OB_b.2.2.2.2.2.2.2.2.1) (g := (mkF m 76 #[.val (.ref b), .val (.int ((1 : Int32) + (1 : Int32)))] [(.ref b)])) rfl rfl (hb hby d3_76)
  refine own_via st8 ?_
  show own_Go p e below s _ _ _ (T8.setTop (mkF m 79 #[.val (.ref b), .val (.int ((1 : Int32) + (1 : Int32)))] [.null]))
  refine own_via (fun _ k => XS.ifnullYes X8.here hx rfl (pc0 := 79) (pc' := 98) rfl (hb hby d3_79) rfl (by decide) (by decide) k) ?_
  show own_Go p e below s _ _ _ (T8.setTop (mkF m 98 #[.val (.ref b), .val (.int ((1 : Int32) + (1 : Int32)))] []))
  refine own_via (fun _ k => XS.iloadN X8.here hx rfl (hb hby d3_98) rfl k) ?_
  show own_Go p e below s _ _ _ (T8.setTop (mkF m 99 #[.val (.ref b), .val (.int ((1 : Int32) + (1 : Int32)))] [(.int ((1 : Int32) + (1 : Int32)))]))
  exact own_retI X8 hx hlk Bd.returns (hb hby d3_99) (by rw [e8]; exact ⟨N7, OL, Z0, KP, rfl, ⟨OB_b, V_A1, V_A2, OV_A1, OV_A2, ne_b_A1, ne_b_A2, ne_A1_A2, g_b, g_A1, g_A2⟩⟩) (by decide) (by decide)
def Q3_3 (Z : State) (b A1 A2 x1 x2 : Addr) (k1 k2 : ClassId) (kk rf : Int32) (w0 w1 mr wc : Addr) (kw0 kw1 : ClassId) (h0 : Heap) (n0 : Nat) (v : Option Value) (h : Heap) (L : List Loc) : Prop := Fr n0 L ∧ Old Z n0 h ∧ n0 ≤ h.size ∧ Keep h0 h [b] ∧ v = some (.int (((1 : Int32) + (1 : Int32)) + (1 : Int32))) ∧ own_Rows Z h n0 w0 b A1 A2 x1 x2 k1 k2 ((((1 : Int32) + (1 : Int32)) + (1 : Int32)) + (1 : Int32)) kk rf (8 : Int32)
set_option maxRecDepth 65536 in
set_option maxHeartbeats 40000000 in
theorem rm3_3 (l : Launch) (Z : State) (a0 : Array Value) (hw : ∀ d ∈ tables_1, d.before a0 Z = true) (ws : List Jvm.Cond) (b A1 A2 x1 x2 : Addr) (k1 k2 : ClassId) (kk rf : Int32) (w0 w1 mr wc : Addr) (kw0 kw1 : ClassId) (h0 : Heap) (n0 : Nat) (Z0 : n0 ≤ h0.size) (K : own_K Z Z.heap w0 w1 mr wc kw0 kw1) (OL : Old Z n0 h0) (RS : own_Rows Z h0 n0 w0 b A1 A2 x1 x2 k1 k2 (((1 : Int32) + (1 : Int32)) + (1 : Int32)) kk rf (8 : Int32)) :
    MetFree l (⟨"com/example/whenever/whenever/internal/engine/Rows", "add", "()I"⟩ : MethodName) (head1 (Jvm.Cond.code (⟨"com/example/whenever/whenever/internal/engine/Rows", "add", "()I"⟩ : MethodName) prog_105_method_2_code 2 (some .int) :: ws) ({ frames := 0, cells := 0, slots := 0, locals := 0 } : Room)) (fun a U => a = #[(.ref b)] ∧ Z.Warmed39 U.vm ∧ U.heap = h0) (fun _ _ _ _ _ => True) (fun _ U o U' => ∃ v L, o = .returned v ∧ Q3_3 Z b A1 A2 x1 x2 k1 k2 kk rf w0 w1 mr wc kw0 kw1 h0 n0 v U'.heap L ∧ FrameEnd U o U' L ({ frames := 0, cells := 0, slots := 0, locals := 0 } : Room).cells ({ frames := 0, cells := 0, slots := 0, locals := 0 } : Room).slots) := by
  refine MetFree.of_bodySF (plainFor_of_name pn0) hisR ?_
  intro p e s m args below meth c s₁ Bd hml0 hP hK
  obtain ⟨rfl, hZ, hh⟩ := hP
  have hx := Bd.exec
  have hby := Bd.bytes
  have hml : c.maxLocals = 2 := hml0
  have hown : s.vm.findClass "com/example/whenever/whenever/internal/engine/Rows" = some m.cls := findClass_of_methodNamed Bd.named
  have hnm := (name_of_methodNamed Bd.named Bd.method).1
  have hlk := Bd.notSynchronized
  have X0 : Stand p l e ({ frames := 0, cells := 0, slots := 0, locals := 0 } : Room) s m #[(.ref b)] below meth c s₁ [] 0 0 := Stand.of_body Bd
  have e0 : s₁.heap = h0 := by rw [← hh, Bd.state]; rfl
  have K0 := K
  obtain ⟨S_w0, S_w1, E_w0, E_w1, V_w0, V_w1, MR, S_wc, S_high, CA⟩ := K
  show own_Go p e below s (Q3_3 Z b A1 A2 x1 x2 k1 k2 kk rf w0 w1 mr wc kw0 kw1 h0 n0) 0 0 (s₁.setTop (entryFrame m #[(.ref b)] 2))
  rw [show entryFrame m #[(.ref b)] 2 = mkF m 0 #[.val (.ref b), .unset] [] from by first | (simp [entryFrame, mkF, argsToLocals, Value.category]; done) | rfl]
  have KP := Keep.refl h0 [b]
  obtain ⟨OB_b, V_A1, V_A2, OV_A1, OV_A2, ne_b_A1, ne_b_A2, ne_A1_A2, g_b, g_A1, g_A2⟩ := RS
  show own_Go p e below s _ _ _ (s₁.setTop (mkF m 0 #[.val (.ref b), .unset] []))
  refine own_via (fun _ k => XS.aloadN X0.here hx rfl (hb hby d3_0) rfl rfl k) ?_
  show own_Go p e below s _ _ _ (s₁.setTop (mkF m 1 #[.val (.ref b), .unset] [(.ref b)]))
  obtain ⟨T1, X1, e1, st1⟩ := getF X0 hx hZ hown (host := "") (Or.inl (hw _ (List.mem_of_getElem? (i := 36) rfl))) Via.refl e0 (OB_b.2.2.2.2.2.2.2.1) (g := (mkF m 1 #[.val (.ref b), .unset] [(.ref b)])) rfl rfl (hb hby d3_1)
  refine own_via st1 ?_
  show own_Go p e below s _ _ _ (T1.setTop (mkF m 4 #[.val (.ref b), .unset] [(.int (0 : Int32))]))
  refine own_via (fun _ k => XS.ifYes X1.here hx rfl (pc0 := 4) (pc' := 24) rfl (hb hby d3_4) rfl ((if0 _ _).trans (teq (by decide : (0 : Int32) = (0 : Int32))).1) (by decide) (by decide) k) ?_
  show own_Go p e below s _ _ _ (T1.setTop (mkF m 24 #[.val (.ref b), .unset] []))
  refine own_via (fun _ k => XS.aloadN X1.here hx rfl (hb hby d3_24) rfl rfl k) ?_
  show own_Go p e below s _ _ _ (T1.setTop (mkF m 25 #[.val (.ref b), .unset] [(.ref b)]))
  obtain ⟨T2, X2, e2, st2⟩ := getF X1 hx hZ hown (host := "") (Or.inl (hw _ (List.mem_of_getElem? (i := 38) rfl))) Via.refl e1 (OB_b.2.2.2.2.2.2.2.2.1) (g := (mkF m 25 #[.val (.ref b), .unset] [(.ref b)])) rfl rfl (hb hby d3_25)
  refine own_via st2 ?_
  show own_Go p e below s _ _ _ (T2.setTop (mkF m 28 #[.val (.ref b), .unset] [.null]))
  refine own_via (fun _ k => XS.ifnullYes X2.here hx rfl (pc0 := 28) (pc' := 45) rfl (hb hby d3_28) rfl (by decide) (by decide) k) ?_
  show own_Go p e below s _ _ _ (T2.setTop (mkF m 45 #[.val (.ref b), .unset] []))
  refine own_via (fun _ k => XS.aloadN X2.here hx rfl (hb hby d3_45) rfl rfl k) ?_
  show own_Go p e below s _ _ _ (T2.setTop (mkF m 46 #[.val (.ref b), .unset] [(.ref b)]))
  obtain ⟨T3, X3, e3, st3⟩ := getF X2 hx hZ hown (host := "") (Or.inl (hw _ (List.mem_of_getElem? (i := 23) rfl))) Via.refl e2 (OB_b.2.2.2.1) (g := (mkF m 46 #[.val (.ref b), .unset] [(.ref b)])) rfl rfl (hb hby d3_46)
  refine own_via st3 ?_
  show own_Go p e below s _ _ _ (T3.setTop (mkF m 49 #[.val (.ref b), .unset] [(.int (((1 : Int32) + (1 : Int32)) + (1 : Int32)))]))
  refine own_via (fun _ k => XS.aloadN X3.here hx rfl (hb hby d3_49) rfl rfl k) ?_
  show own_Go p e below s _ _ _ (T3.setTop (mkF m 50 #[.val (.ref b), .unset] [(.ref b), (.int (((1 : Int32) + (1 : Int32)) + (1 : Int32)))]))
  obtain ⟨T4, X4, e4, st4⟩ := getF X3 hx hZ hown (host := "") (Or.inl (hw _ (List.mem_of_getElem? (i := 40) rfl))) Via.refl e3 (OB_b.2.2.2.2.2.2.2.2.2) (g := (mkF m 50 #[.val (.ref b), .unset] [(.ref b), (.int (((1 : Int32) + (1 : Int32)) + (1 : Int32)))])) rfl rfl (hb hby d3_50)
  refine own_via st4 ?_
  show own_Go p e below s _ _ _ (T4.setTop (mkF m 53 #[.val (.ref b), .unset] [(.int (8 : Int32)), (.int (((1 : Int32) + (1 : Int32)) + (1 : Int32)))]))
  refine own_via (fun _ k => XS.icmpYes X4.here hx rfl (pc0 := 53) (pc' := 60) rfl (hb hby d3_53) rfl (tlt (by decide : (((1 : Int32) + (1 : Int32)) + (1 : Int32)) < (8 : Int32))).1 (by decide) (by decide) k) ?_
  show own_Go p e below s _ _ _ (T4.setTop (mkF m 60 #[.val (.ref b), .unset] []))
  refine own_via (fun _ k => XS.aloadN X4.here hx rfl (hb hby d3_60) rfl rfl k) ?_
  show own_Go p e below s _ _ _ (T4.setTop (mkF m 61 #[.val (.ref b), .unset] [(.ref b)]))
  obtain ⟨T5, X5, e5, st5⟩ := getF X4 hx hZ hown (host := "") (Or.inl (hw _ (List.mem_of_getElem? (i := 23) rfl))) Via.refl e4 (OB_b.2.2.2.1) (g := (mkF m 61 #[.val (.ref b), .unset] [(.ref b)])) rfl rfl (hb hby d3_61)
  refine own_via st5 ?_
  show own_Go p e below s _ _ _ (T5.setTop (mkF m 64 #[.val (.ref b), .unset] [(.int (((1 : Int32) + (1 : Int32)) + (1 : Int32)))]))
  refine own_via (fun _ k => XS.istoreN X5.here hx rfl (hb hby d3_64) rfl (l' := #[.val (.ref b), .val (.int (((1 : Int32) + (1 : Int32)) + (1 : Int32)))]) rfl k) ?_
  show own_Go p e below s _ _ _ (T5.setTop (mkF m 65 #[.val (.ref b), .val (.int (((1 : Int32) + (1 : Int32)) + (1 : Int32)))] []))
  refine own_via (fun _ k => XS.aloadN X5.here hx rfl (hb hby d3_65) rfl rfl k) ?_
  show own_Go p e below s _ _ _ (T5.setTop (mkF m 66 #[.val (.ref b), .val (.int (((1 : Int32) + (1 : Int32)) + (1 : Int32)))] [(.ref b)]))
  refine own_via (fun _ k => XS.dup X5.here hx rfl (hb hby d3_66) rfl rfl k) ?_
  show own_Go p e below s _ _ _ (T5.setTop (mkF m 67 #[.val (.ref b), .val (.int (((1 : Int32) + (1 : Int32)) + (1 : Int32)))] [(.ref b), (.ref b)]))
  obtain ⟨T6, X6, e6, st6⟩ := getF X5 hx hZ hown (host := "") (Or.inl (hw _ (List.mem_of_getElem? (i := 23) rfl))) Via.refl e5 (OB_b.2.2.2.1) (g := (mkF m 67 #[.val (.ref b), .val (.int (((1 : Int32) + (1 : Int32)) + (1 : Int32)))] [(.ref b), (.ref b)])) rfl rfl (hb hby d3_67)
  refine own_via st6 ?_
  show own_Go p e below s _ _ _ (T6.setTop (mkF m 70 #[.val (.ref b), .val (.int (((1 : Int32) + (1 : Int32)) + (1 : Int32)))] [(.int (((1 : Int32) + (1 : Int32)) + (1 : Int32))), (.ref b)]))
  refine own_via (fun _ k => XS.iconst X6.here hx rfl (hb hby d3_70) k) ?_
  show own_Go p e below s _ _ _ (T6.setTop (mkF m 71 #[.val (.ref b), .val (.int (((1 : Int32) + (1 : Int32)) + (1 : Int32)))] [(.int (1 : Int32)), (.int (((1 : Int32) + (1 : Int32)) + (1 : Int32))), (.ref b)]))
  refine own_via (fun _ k => XS.iadd X6.here hx rfl (hb hby d3_71) rfl k) ?_
  show own_Go p e below s _ _ _ (T6.setTop (mkF m 72 #[.val (.ref b), .val (.int (((1 : Int32) + (1 : Int32)) + (1 : Int32)))] [(.int ((((1 : Int32) + (1 : Int32)) + (1 : Int32)) + (1 : Int32))), (.ref b)]))
  obtain ⟨T7, h7, X7, e7, W7, st7⟩ := putF X6 hx hZ hown (host := "") (Or.inl (hw _ (List.mem_of_getElem? (i := 23) rfl))) Via.refl e6 (OB_b.2.2.2.1) OB_b.1 (Or.inl (hw _ (List.mem_of_getElem? (i := 24) rfl))) (hw _ (List.mem_of_getElem? (i := 1) rfl)) (ty := .int) (by decide) rfl rfl (g := (mkF m 72 #[.val (.ref b), .val (.int (((1 : Int32) + (1 : Int32)) + (1 : Int32)))] [(.int ((((1 : Int32) + (1 : Int32)) + (1 : Int32)) + (1 : Int32))), (.ref b)])) rfl rfl (hb hby d3_72)
  have OB_b := own_put0_2 hw OB_b W7
  have N7 := Fr.snoc X7 (Fr.nil n0) g_b
  have Z0 := Nat.le_trans Z0 (Keep.of_wr W7).1
  have OL := OL.wr W7 g_b
  have KP := KP.wr W7 (Or.inl (List.mem_of_getElem? (i := 0) rfl))
  have V_A1 := V_A1.other W7 (Ne.symm ne_b_A1)
  have V_A2 := V_A2.other W7 (Ne.symm ne_b_A2)
  refine own_via st7 ?_
  show own_Go p e below s _ _ _ (T7.setTop (mkF m 75 #[.val (.ref b), .val (.int (((1 : Int32) + (1 : Int32)) + (1 : Int32)))] []))
  refine own_via (fun _ k => XS.aloadN X7.here hx rfl (hb hby d3_75) rfl rfl k) ?_
  show own_Go p e below s _ _ _ (T7.setTop (mkF m 76 #[.val (.ref b), .val (.int (((1 : Int32) + (1 : Int32)) + (1 : Int32)))] [(.ref b)]))
  obtain ⟨T8, X8, e8, st8⟩ := getF X7 hx hZ hown (host := "") (Or.inl (hw _ (List.mem_of_getElem? (i := 38) rfl))) Via.refl e7 (OB_b.2.2.2.2.2.2.2.2.1) (g := (mkF m 76 #[.val (.ref b), .val (.int (((1 : Int32) + (1 : Int32)) + (1 : Int32)))] [(.ref b)])) rfl rfl (hb hby d3_76)
  refine own_via st8 ?_
  show own_Go p e below s _ _ _ (T8.setTop (mkF m 79 #[.val (.ref b), .val (.int (((1 : Int32) + (1 : Int32)) + (1 : Int32)))] [.null]))
  refine own_via (fun _ k => XS.ifnullYes X8.here hx rfl (pc0 := 79) (pc' := 98) rfl (hb hby d3_79) rfl (by decide) (by decide) k) ?_
  show own_Go p e below s _ _ _ (T8.setTop (mkF m 98 #[.val (.ref b), .val (.int (((1 : Int32) + (1 : Int32)) + (1 : Int32)))] []))
  refine own_via (fun _ k => XS.iloadN X8.here hx rfl (hb hby d3_98) rfl k) ?_
  show own_Go p e below s _ _ _ (T8.setTop (mkF m 99 #[.val (.ref b), .val (.int (((1 : Int32) + (1 : Int32)) + (1 : Int32)))] [(.int (((1 : Int32) + (1 : Int32)) + (1 : Int32)))]))
  exact own_retI X8 hx hlk Bd.returns (hb hby d3_99) (by rw [e8]; exact ⟨N7, OL, Z0, KP, rfl, ⟨OB_b, V_A1, V_A2, OV_A1, OV_A2, ne_b_A1, ne_b_A2, ne_A1_A2, g_b, g_A1, g_A2⟩⟩) (by decide) (by decide)
def Q10_1 (Z : State) (x0 : Int32) (w0 w1 mr wc : Addr) (kw0 kw1 : ClassId) (h0 : Heap) (n0 : Nat) (v : Option Value) (h : Heap) (L : List Loc) : Prop := Fr n0 L ∧ Old Z n0 h ∧ n0 ≤ h.size ∧ Keep h0 h [] ∧ ∃ r : Int32, v = some (.int r) ∧ 1 ≤ r.toInt ∧ r.toInt ≤ 4
set_option maxRecDepth 65536 in
set_option maxHeartbeats 40000000 in
theorem rm10_1 (l : Launch) (Z : State) (a0 : Array Value) (hw : ∀ d ∈ tables_1, d.before a0 Z = true) (ws : List Jvm.Cond) (x0 : Int32) (w0 w1 mr wc : Addr) (kw0 kw1 : ClassId) (h0 : Heap) (n0 : Nat) (Z0 : n0 ≤ h0.size) (K : own_K Z Z.heap w0 w1 mr wc kw0 kw1) (OL : Old Z n0 h0) :
    MetFree l (⟨"com/example/whenever/whenever/internal/engine/RowsSetRefPinLaw", "pick", "(IIII)I"⟩ : MethodName) (head1 (Jvm.Cond.code (⟨"com/example/whenever/whenever/internal/engine/RowsSetRefPinLaw", "pick", "(IIII)I"⟩ : MethodName) method_3_code 5 (some .int) :: ws) ({ frames := 0, cells := 0, slots := 0, locals := 0 } : Room)) (fun a U => a = #[(.int x0), (.int (1 : Int32)), (.int ((1 : Int32) + (1 : Int32))), (.int (((1 : Int32) + (1 : Int32)) + (1 : Int32)))] ∧ Z.Warmed39 U.vm ∧ U.heap = h0) (fun _ _ _ _ _ => True) (fun _ U o U' => ∃ v L, o = .returned v ∧ Q10_1 Z x0 w0 w1 mr wc kw0 kw1 h0 n0 v U'.heap L ∧ FrameEnd U o U' L ({ frames := 0, cells := 0, slots := 0, locals := 0 } : Room).cells ({ frames := 0, cells := 0, slots := 0, locals := 0 } : Room).slots) := by
  refine MetFree.of_bodySF (plainFor_of_name pn4) hisR ?_
  intro p e s m args below meth c s₁ Bd hml0 hP hK
  obtain ⟨rfl, hZ, hh⟩ := hP
  have hx := Bd.exec
  have hby := Bd.bytes
  have hml : c.maxLocals = 5 := hml0
  have hown : s.vm.findClass "com/example/whenever/whenever/internal/engine/RowsSetRefPinLaw" = some m.cls := findClass_of_methodNamed Bd.named
  have hnm := (name_of_methodNamed Bd.named Bd.method).1
  have hlk := Bd.notSynchronized
  have X0 : Stand p l e ({ frames := 0, cells := 0, slots := 0, locals := 0 } : Room) s m #[(.int x0), (.int (1 : Int32)), (.int ((1 : Int32) + (1 : Int32))), (.int (((1 : Int32) + (1 : Int32)) + (1 : Int32)))] below meth c s₁ [] 0 0 := Stand.of_body Bd
  have e0 : s₁.heap = h0 := by rw [← hh, Bd.state]; rfl
  have K0 := K
  obtain ⟨S_w0, S_w1, E_w0, E_w1, V_w0, V_w1, MR, S_wc, S_high, CA⟩ := K
  show own_Go p e below s (Q10_1 Z x0 w0 w1 mr wc kw0 kw1 h0 n0) 0 0 (s₁.setTop (entryFrame m #[(.int x0), (.int (1 : Int32)), (.int ((1 : Int32) + (1 : Int32))), (.int (((1 : Int32) + (1 : Int32)) + (1 : Int32)))] 5))
  rw [show entryFrame m #[(.int x0), (.int (1 : Int32)), (.int ((1 : Int32) + (1 : Int32))), (.int (((1 : Int32) + (1 : Int32)) + (1 : Int32)))] 5 = mkF m 0 #[.val (.int x0), .val (.int (1 : Int32)), .val (.int ((1 : Int32) + (1 : Int32))), .val (.int (((1 : Int32) + (1 : Int32)) + (1 : Int32))), .unset] [] from by first | (simp [entryFrame, mkF, argsToLocals, Value.category]; done) | rfl]
  have KP := Keep.refl h0 []
  show own_Go p e below s _ _ _ (s₁.setTop (mkF m 0 #[.val (.int x0), .val (.int (1 : Int32)), .val (.int ((1 : Int32) + (1 : Int32))), .val (.int (((1 : Int32) + (1 : Int32)) + (1 : Int32))), .unset] []))
  refine own_via (fun _ k => XS.iloadN X0.here hx rfl (hb hby d10_0) rfl k) ?_
  show own_Go p e below s _ _ _ (s₁.setTop (mkF m 1 #[.val (.int x0), .val (.int (1 : Int32)), .val (.int ((1 : Int32) + (1 : Int32))), .val (.int (((1 : Int32) + (1 : Int32)) + (1 : Int32))), .unset] [(.int x0)]))
  refine own_via (fun _ k => XS.iconst X0.here hx rfl (hb hby d10_1) k) ?_
  show own_Go p e below s _ _ _ (s₁.setTop (mkF m 2 #[.val (.int x0), .val (.int (1 : Int32)), .val (.int ((1 : Int32) + (1 : Int32))), .val (.int (((1 : Int32) + (1 : Int32)) + (1 : Int32))), .unset] [(.int (3 : Int32)), (.int x0)]))
  refine own_via (fun _ k => iremM X0 hx rfl (hb hby d10_2) rfl (by decide : ¬ ((3 : Int32) = (0 : Int32))) k) ?_
  show own_Go p e below s _ _ _ (s₁.setTop (mkF m 3 #[.val (.int x0), .val (.int (1 : Int32)), .val (.int ((1 : Int32) + (1 : Int32))), .val (.int (((1 : Int32) + (1 : Int32)) + (1 : Int32))), .unset] [(.int (x0 % (3 : Int32)))]))
  refine own_via (fun _ k => XS.istore X0.here hx rfl (hb hby d10_3) rfl (l' := #[.val (.int x0), .val (.int (1 : Int32)), .val (.int ((1 : Int32) + (1 : Int32))), .val (.int (((1 : Int32) + (1 : Int32)) + (1 : Int32))), .val (.int (x0 % (3 : Int32)))]) rfl k) ?_
  show own_Go p e below s _ _ _ (s₁.setTop (mkF m 5 #[.val (.int x0), .val (.int (1 : Int32)), .val (.int ((1 : Int32) + (1 : Int32))), .val (.int (((1 : Int32) + (1 : Int32)) + (1 : Int32))), .val (.int (x0 % (3 : Int32)))] []))
  refine own_via (fun _ k => XS.iload X0.here hx rfl (hb hby d10_5) rfl k) ?_
  show own_Go p e below s _ _ _ (s₁.setTop (mkF m 7 #[.val (.int x0), .val (.int (1 : Int32)), .val (.int ((1 : Int32) + (1 : Int32))), .val (.int (((1 : Int32) + (1 : Int32)) + (1 : Int32))), .val (.int (x0 % (3 : Int32)))] [(.int (x0 % (3 : Int32)))]))
  by_cases hc1 : (x0 % (3 : Int32)) = (0 : Int32)
  · refine own_via (fun _ k => XS.ifNo X0.here hx rfl (hb hby d10_7) rfl ((if0 _ _).trans (teq hc1).2) k) ?_
    show own_Go p e below s _ _ _ (s₁.setTop (mkF m 10 #[.val (.int x0), .val (.int (1 : Int32)), .val (.int ((1 : Int32) + (1 : Int32))), .val (.int (((1 : Int32) + (1 : Int32)) + (1 : Int32))), .val (.int (x0 % (3 : Int32)))] []))
    refine own_via (fun _ k => XS.iloadN X0.here hx rfl (hb hby d10_10) rfl k) ?_
    show own_Go p e below s _ _ _ (s₁.setTop (mkF m 11 #[.val (.int x0), .val (.int (1 : Int32)), .val (.int ((1 : Int32) + (1 : Int32))), .val (.int (((1 : Int32) + (1 : Int32)) + (1 : Int32))), .val (.int (x0 % (3 : Int32)))] [(.int (1 : Int32))]))
    exact own_retI X0 hx hlk Bd.returns (hb hby d10_11) (by rw [e0]; exact ⟨(Fr.nil n0), OL, Z0, KP, _, rfl, by decide, by decide⟩) (by decide) (by decide)
  · refine own_via (fun _ k => XS.ifYes X0.here hx rfl (pc0 := 7) (pc' := 12) rfl (hb hby d10_7) rfl ((if0 _ _).trans (feq hc1).2) (by decide) (by decide) k) ?_
    show own_Go p e below s _ _ _ (s₁.setTop (mkF m 12 #[.val (.int x0), .val (.int (1 : Int32)), .val (.int ((1 : Int32) + (1 : Int32))), .val (.int (((1 : Int32) + (1 : Int32)) + (1 : Int32))), .val (.int (x0 % (3 : Int32)))] []))
    refine own_via (fun _ k => XS.iload X0.here hx rfl (hb hby d10_12) rfl k) ?_
    show own_Go p e below s _ _ _ (s₁.setTop (mkF m 14 #[.val (.int x0), .val (.int (1 : Int32)), .val (.int ((1 : Int32) + (1 : Int32))), .val (.int (((1 : Int32) + (1 : Int32)) + (1 : Int32))), .val (.int (x0 % (3 : Int32)))] [(.int (x0 % (3 : Int32)))]))
    refine own_via (fun _ k => XS.iconst X0.here hx rfl (hb hby d10_14) k) ?_
    show own_Go p e below s _ _ _ (s₁.setTop (mkF m 15 #[.val (.int x0), .val (.int (1 : Int32)), .val (.int ((1 : Int32) + (1 : Int32))), .val (.int (((1 : Int32) + (1 : Int32)) + (1 : Int32))), .val (.int (x0 % (3 : Int32)))] [(.int (1 : Int32)), (.int (x0 % (3 : Int32)))]))
    by_cases hc2 : (x0 % (3 : Int32)) = (1 : Int32)
    · refine own_via (fun _ k => XS.icmpNo X0.here hx rfl (hb hby d10_15) rfl (teq hc2).2 k) ?_
      show own_Go p e below s _ _ _ (s₁.setTop (mkF m 18 #[.val (.int x0), .val (.int (1 : Int32)), .val (.int ((1 : Int32) + (1 : Int32))), .val (.int (((1 : Int32) + (1 : Int32)) + (1 : Int32))), .val (.int (x0 % (3 : Int32)))] []))
      refine own_via (fun _ k => XS.iloadN X0.here hx rfl (hb hby d10_18) rfl k) ?_
      show own_Go p e below s _ _ _ (s₁.setTop (mkF m 19 #[.val (.int x0), .val (.int (1 : Int32)), .val (.int ((1 : Int32) + (1 : Int32))), .val (.int (((1 : Int32) + (1 : Int32)) + (1 : Int32))), .val (.int (x0 % (3 : Int32)))] [(.int ((1 : Int32) + (1 : Int32)))]))
      exact own_retI X0 hx hlk Bd.returns (hb hby d10_19) (by rw [e0]; exact ⟨(Fr.nil n0), OL, Z0, KP, _, rfl, by decide, by decide⟩) (by decide) (by decide)
    · refine own_via (fun _ k => XS.icmpYes X0.here hx rfl (pc0 := 15) (pc' := 20) rfl (hb hby d10_15) rfl (feq hc2).2 (by decide) (by decide) k) ?_
      show own_Go p e below s _ _ _ (s₁.setTop (mkF m 20 #[.val (.int x0), .val (.int (1 : Int32)), .val (.int ((1 : Int32) + (1 : Int32))), .val (.int (((1 : Int32) + (1 : Int32)) + (1 : Int32))), .val (.int (x0 % (3 : Int32)))] []))
      refine own_via (fun _ k => XS.iloadN X0.here hx rfl (hb hby d10_20) rfl k) ?_
      show own_Go p e below s _ _ _ (s₁.setTop (mkF m 21 #[.val (.int x0), .val (.int (1 : Int32)), .val (.int ((1 : Int32) + (1 : Int32))), .val (.int (((1 : Int32) + (1 : Int32)) + (1 : Int32))), .val (.int (x0 % (3 : Int32)))] [(.int (((1 : Int32) + (1 : Int32)) + (1 : Int32)))]))
      exact own_retI X0 hx hlk Bd.returns (hb hby d10_21) (by rw [e0]; exact ⟨(Fr.nil n0), OL, Z0, KP, _, rfl, by decide, by decide⟩) (by decide) (by decide)
def Q16_0 (x0 : Addr) (w0 w1 mr wc : Addr) (kw0 kw1 : ClassId) (h0 : Heap) (v : Option Value) (h : Heap) (L : List Loc) : Prop := L = [] ∧ h = h0 ∧ ((v = none))
set_option maxRecDepth 65536 in
set_option maxHeartbeats 40000000 in
theorem rm16_0 (l : Launch) (Z : State) (a0 : Array Value) (hw : ∀ d ∈ tables_1, d.before a0 Z = true) (ws : List Jvm.Cond) (x0 : Addr) (w0 w1 mr wc : Addr) (kw0 kw1 : ClassId) (h0 : Heap) (n0 : Nat) (Z0 : n0 ≤ h0.size) (K : own_K Z Z.heap w0 w1 mr wc kw0 kw1) (OL : Old Z n0 h0) :
    MetFree l (⟨"java/lang/Number", "<init>", "()V"⟩ : MethodName) (head1 (Jvm.Cond.code (⟨"java/lang/Number", "<init>", "()V"⟩ : MethodName) jdk_18_method_1_code 1 none :: ws) ({ frames := 1, cells := 0, slots := 0, locals := 12 } : Room)) (fun a U => a = #[(.ref x0)] ∧ Z.Warmed39 U.vm ∧ U.heap = h0) (fun _ _ _ _ _ => True) (fun _ U o U' => ∃ v L, o = .returned v ∧ Q16_0 x0 w0 w1 mr wc kw0 kw1 h0 v U'.heap L ∧ FrameEnd U o U' L ({ frames := 1, cells := 0, slots := 0, locals := 12 } : Room).cells ({ frames := 1, cells := 0, slots := 0, locals := 12 } : Room).slots) := by
  refine MetFree.of_bodySF (plainFor_of_name pn5) hisR ?_
  intro p e s m args below meth c s₁ Bd hml0 hP hK
  obtain ⟨rfl, hZ, hh⟩ := hP
  have hx := Bd.exec
  have hby := Bd.bytes
  have hml : c.maxLocals = 1 := hml0
  have hown : s.vm.findClass "java/lang/Number" = some m.cls := findClass_of_methodNamed Bd.named
  have hnm := (name_of_methodNamed Bd.named Bd.method).1
  have hlk := Bd.notSynchronized
  have X0 : Stand p l e ({ frames := 1, cells := 0, slots := 0, locals := 12 } : Room) s m #[(.ref x0)] below meth c s₁ [] 0 0 := Stand.of_body Bd
  have e0 : s₁.heap = h0 := by rw [← hh, Bd.state]; rfl
  have K0 := K
  obtain ⟨S_w0, S_w1, E_w0, E_w1, V_w0, V_w1, MR, S_wc, S_high, CA⟩ := K
  show own_Go p e below s (Q16_0 x0 w0 w1 mr wc kw0 kw1 h0) 0 0 (s₁.setTop (entryFrame m #[(.ref x0)] 1))
  rw [show entryFrame m #[(.ref x0)] 1 = mkF m 0 #[.val (.ref x0)] [] from by first | (simp [entryFrame, mkF, argsToLocals, Value.category]; done) | rfl]
  show own_Go p e below s _ _ _ (s₁.setTop (mkF m 0 #[.val (.ref x0)] []))
  refine own_via (fun _ k => XS.aloadN X0.here hx rfl (hb hby d16_0) rfl rfl k) ?_
  show own_Go p e below s _ _ _ (s₁.setTop (mkF m 1 #[.val (.ref x0)] [(.ref x0)]))
  obtain ⟨T1, X1, e1, st1⟩ := initO X0 hx hZ hown (hw _ (List.mem_of_getElem? (i := 113) rfl)) (hw _ (List.mem_of_getElem? (i := 7) rfl)) (hw _ (List.mem_of_getElem? (i := 8) rfl)) e0 (g := (mkF m 1 #[.val (.ref x0)] [(.ref x0)])) rfl (by rw [hml]; rfl) rfl (hb hby d16_1) (by decide) (W := 0) (by show 2 * 0 + _ ≤ _; exact Nat.le_of_eq rfl) (by decide)
  refine own_via st1 ?_
  show own_Go p e below s _ _ _ (T1.setTop (mkF m 4 #[.val (.ref x0)] []))
  exact own_retV X1 hx hlk Bd.returns (hb hby d16_4) ⟨rfl, e1, rfl⟩ (by decide) (by decide)
def Q15_1 (Z : State) (b : Addr) (x1 : Int32) (w0 w1 mr wc : Addr) (kw0 kw1 : ClassId) (h0 : Heap) (n0 : Nat) (v : Option Value) (h : Heap) (L : List Loc) : Prop := Fr n0 L ∧ Old Z n0 h ∧ n0 ≤ h.size ∧ Keep h0 h [b] ∧ v = none ∧ own_Obj1 Z h b x1
set_option maxRecDepth 65536 in
set_option maxHeartbeats 40000000 in
theorem rm15_1 (l : Launch) (Z : State) (a0 : Array Value) (hw : ∀ d ∈ tables_1, d.before a0 Z = true) (ws : List Jvm.Cond) (b : Addr) (x1 : Int32) (w0 w1 mr wc : Addr) (kw0 kw1 : ClassId) (h0 : Heap) (n0 : Nat) (Z0 : n0 ≤ h0.size) (K : own_K Z Z.heap w0 w1 mr wc kw0 kw1) (OL : Old Z n0 h0) (OB_b : own_Obj1 Z h0 b (0 : Int32)) (g_b : n0 ≤ b) :
    MetFree l (⟨"java/lang/Integer", "<init>", "(I)V"⟩ : MethodName) (head1 (Jvm.Cond.code (⟨"java/lang/Integer", "<init>", "(I)V"⟩ : MethodName) jdk_33_method_23_code 2 none :: ws) ({ frames := 2, cells := 0, slots := 0, locals := 24 } : Room)) (fun a U => a = #[(.ref b), (.int x1)] ∧ Z.Warmed39 U.vm ∧ U.heap = h0) (fun _ _ _ _ _ => True) (fun _ U o U' => ∃ v L, o = .returned v ∧ Q15_1 Z b x1 w0 w1 mr wc kw0 kw1 h0 n0 v U'.heap L ∧ FrameEnd U o U' L ({ frames := 2, cells := 0, slots := 0, locals := 24 } : Room).cells ({ frames := 2, cells := 0, slots := 0, locals := 24 } : Room).slots) := by
  refine MetFree.of_bodySF (plainFor_of_name pn6) hisR ?_
  intro p e s m args below meth c s₁ Bd hml0 hP hK
  obtain ⟨rfl, hZ, hh⟩ := hP
  have hx := Bd.exec
  have hby := Bd.bytes
  have hml : c.maxLocals = 2 := hml0
  have hown : s.vm.findClass "java/lang/Integer" = some m.cls := findClass_of_methodNamed Bd.named
  have hnm := (name_of_methodNamed Bd.named Bd.method).1
  have hlk := Bd.notSynchronized
  have X0 : Stand p l e ({ frames := 2, cells := 0, slots := 0, locals := 24 } : Room) s m #[(.ref b), (.int x1)] below meth c s₁ [] 0 0 := Stand.of_body Bd
  have e0 : s₁.heap = h0 := by rw [← hh, Bd.state]; rfl
  have K0 := K
  obtain ⟨S_w0, S_w1, E_w0, E_w1, V_w0, V_w1, MR, S_wc, S_high, CA⟩ := K
  show own_Go p e below s (Q15_1 Z b x1 w0 w1 mr wc kw0 kw1 h0 n0) 0 0 (s₁.setTop (entryFrame m #[(.ref b), (.int x1)] 2))
  rw [show entryFrame m #[(.ref b), (.int x1)] 2 = mkF m 0 #[.val (.ref b), .val (.int x1)] [] from by first | (simp [entryFrame, mkF, argsToLocals, Value.category]; done) | rfl]
  have KP := Keep.refl h0 [b]
  show own_Go p e below s _ _ _ (s₁.setTop (mkF m 0 #[.val (.ref b), .val (.int x1)] []))
  refine own_via (fun _ k => XS.aloadN X0.here hx rfl (hb hby d15_0) rfl rfl k) ?_
  show own_Go p e below s _ _ _ (s₁.setTop (mkF m 1 #[.val (.ref b), .val (.int x1)] [(.ref b)]))
  obtain ⟨_, _, ⟨T1, L1, k1, n1⟩, -, X1, ⟨Lc1, hQ1, l1, y1, z1⟩, st1⟩ := X0.specialBack hx (y := (⟨"java/lang/Number", "<init>", "()V"⟩ : MethodName)) rfl hown (mvT hZ (hw _ (List.mem_of_getElem? (i := 107) rfl))) (mvT hZ (hw _ (List.mem_of_getElem? (i := 108) rfl))) (mvT hZ (hw _ (List.mem_of_getElem? (i := 112) rfl))) (by decide) (backOf (W := 0) (rm16_0 l Z a0 hw [] b w0 w1 mr wc kw0 kw1 h0 n0 Z0 K0 OL) hZ (hw _ (List.mem_of_getElem? (i := 112) rfl)) (hw _ (List.mem_of_getElem? (i := 111) rfl)) (by decide) (by decide)) (g := (mkF m 1 #[.val (.ref b), .val (.int x1)] [(.ref b)])) rfl (by rw [hml]; rfl) (Steps.refl _) (a := b) (argsL := []) (rest := []) (lenOf pd3 rfl) rfl (by show 2 * 0 + _ ≤ _; exact Nat.le_of_eq rfl) (hb hby d15_1) (fun _ _ => ⟨rfl, e0, (by decide : 0 + 0 ≤ _), (by decide : 0 + 0 ≤ _)⟩)
  dsimp only [Pt.U, Pt.locs, Pt.cells, Pt.slots] at X1 l1 y1 z1 st1 hQ1
  subst l1 y1 z1
  obtain ⟨rfl, e1, hO1⟩ := hQ1
  obtain rfl := hO1
  refine own_tr st1 ?_
  show own_Go p e below s _ _ _ (T1.setTop (mkF m 4 #[.val (.ref b), .val (.int x1)] []))
  refine own_via (fun _ k => XS.aloadN X1.here hx rfl (hb hby d15_4) rfl rfl k) ?_
  show own_Go p e below s _ _ _ (T1.setTop (mkF m 5 #[.val (.ref b), .val (.int x1)] [(.ref b)]))
  refine own_via (fun _ k => XS.iloadN X1.here hx rfl (hb hby d15_5) rfl k) ?_
  show own_Go p e below s _ _ _ (T1.setTop (mkF m 6 #[.val (.ref b), .val (.int x1)] [(.int x1), (.ref b)]))
  obtain ⟨T2, h2, X2, e2, W2, st2⟩ := putF X1 hx hZ hown (host := "") (Or.inl (hw _ (List.mem_of_getElem? (i := 114) rfl))) Via.refl e1 (OB_b.2) OB_b.1 (Or.inr ⟨(hw _ (List.mem_of_getElem? (i := 115) rfl)), rfl, hnm⟩) (hw _ (List.mem_of_getElem? (i := 102) rfl)) (ty := .int) (by decide) rfl rfl (g := (mkF m 6 #[.val (.ref b), .val (.int x1)] [(.int x1), (.ref b)])) rfl rfl (hb hby d15_6)
  have OB_b := own_put1_0 hw OB_b W2
  have N2 := Fr.snoc X2 (Fr.app (Fr.nil n0) (Fr.nil n0)) g_b
  have Z0 := Nat.le_trans Z0 (Keep.of_wr W2).1
  have OL := OL.wr W2 g_b
  have KP := KP.wr W2 (Or.inl (List.mem_of_getElem? (i := 0) rfl))
  refine own_via st2 ?_
  show own_Go p e below s _ _ _ (T2.setTop (mkF m 9 #[.val (.ref b), .val (.int x1)] []))
  exact own_retV X2 hx hlk Bd.returns (hb hby d15_9) (by rw [e2]; exact ⟨N2, OL, Z0, KP, rfl, OB_b⟩) (by decide) (by decide)
def Q11_1 (Z : State) (x0 : Int32) (w0 w1 mr wc : Addr) (kw0 kw1 : ClassId) (h0 : Heap) (n0 : Nat) (v : Option Value) (h : Heap) (L : List Loc) : Prop := Fr n0 L ∧ Old Z n0 h ∧ n0 ≤ h.size ∧ Keep h0 h [] ∧ ∃ z : Addr, v = some (.ref z) ∧ Exa Z h z "java/lang/Integer"
set_option maxRecDepth 65536 in
set_option maxHeartbeats 40000000 in
theorem rm11_1 (l : Launch) (Z : State) (a0 : Array Value) (hw : ∀ d ∈ tables_1, d.before a0 Z = true) (ws : List Jvm.Cond) (x0 : Int32) (w0 w1 mr wc : Addr) (kw0 kw1 : ClassId) (h0 : Heap) (n0 : Nat) (Z0 : n0 ≤ h0.size) (K : own_K Z Z.heap w0 w1 mr wc kw0 kw1) (OL : Old Z n0 h0) :
    MetFree l (⟨"java/lang/Integer", "valueOf", "(I)Ljava/lang/Integer;"⟩ : MethodName) (head1 (Jvm.Cond.code (⟨"java/lang/Integer", "valueOf", "(I)Ljava/lang/Integer;"⟩ : MethodName) jdk_33_method_22_code 1 (some (.object "java/lang/Integer")) :: ws) ({ frames := 3, cells := 1, slots := 1, locals := 38 } : Room)) (fun a U => a = #[(.int x0)] ∧ Z.Warmed39 U.vm ∧ U.heap = h0) (fun _ _ _ _ _ => True) (fun _ U o U' => ∃ v L, o = .returned v ∧ Q11_1 Z x0 w0 w1 mr wc kw0 kw1 h0 n0 v U'.heap L ∧ FrameEnd U o U' L ({ frames := 3, cells := 1, slots := 1, locals := 38 } : Room).cells ({ frames := 3, cells := 1, slots := 1, locals := 38 } : Room).slots) := by
  refine MetFree.of_bodySF (plainFor_of_name pn6) hisR ?_
  intro p e s m args below meth c s₁ Bd hml0 hP hK
  obtain ⟨rfl, hZ, hh⟩ := hP
  have hx := Bd.exec
  have hby := Bd.bytes
  have hml : c.maxLocals = 1 := hml0
  have hown : s.vm.findClass "java/lang/Integer" = some m.cls := findClass_of_methodNamed Bd.named
  have hnm := (name_of_methodNamed Bd.named Bd.method).1
  have hlk := Bd.notSynchronized
  have X0 : Stand p l e ({ frames := 3, cells := 1, slots := 1, locals := 38 } : Room) s m #[(.int x0)] below meth c s₁ [] 0 0 := Stand.of_body Bd
  have e0 : s₁.heap = h0 := by rw [← hh, Bd.state]; rfl
  have K0 := K
  obtain ⟨S_w0, S_w1, E_w0, E_w1, V_w0, V_w1, MR, S_wc, S_high, CA⟩ := K
  show own_Go p e below s (Q11_1 Z x0 w0 w1 mr wc kw0 kw1 h0 n0) 1 1 (s₁.setTop (entryFrame m #[(.int x0)] 1))
  rw [show entryFrame m #[(.int x0)] 1 = mkF m 0 #[.val (.int x0)] [] from by first | (simp [entryFrame, mkF, argsToLocals, Value.category]; done) | rfl]
  have KP := Keep.refl h0 []
  show own_Go p e below s _ _ _ (s₁.setTop (mkF m 0 #[.val (.int x0)] []))
  refine own_via (fun _ k => XS.iloadN X0.here hx rfl (hb hby d11_0) rfl k) ?_
  show own_Go p e below s _ _ _ (s₁.setTop (mkF m 1 #[.val (.int x0)] [(.int x0)]))
  refine own_via (fun _ k => XS.bipush X0.here hx rfl (hb hby d11_1) k) ?_
  show own_Go p e below s _ _ _ (s₁.setTop (mkF m 3 #[.val (.int x0)] [(.int (-128 : Int32)), (.int x0)]))
  by_cases hc1 : x0 < (-128 : Int32)
  · refine own_via (fun _ k => XS.icmpYes X0.here hx rfl (pc0 := 3) (pc' := 23) rfl (hb hby d11_3) rfl (tlt hc1).1 (by decide) (by decide) k) ?_
    show own_Go p e below s _ _ _ (s₁.setTop (mkF m 23 #[.val (.int x0)] []))
    obtain ⟨T2, h2, X2, e2, E2, A2, D2, -, st2⟩ := newO X0 hx hZ hown (hw _ (List.mem_of_getElem? (i := 101) rfl)) (hw _ (List.mem_of_getElem? (i := 102) rfl)) (hw _ (List.mem_of_getElem? (i := 82) rfl)) e0 (g := (mkF m 23 #[.val (.int x0)] [])) rfl (hb hby d11_23) (by decide) (by decide)
    obtain ⟨b2, g2⟩ : ∃ z, z = h0.size := ⟨_, rfl⟩
    rw [← g2] at A2 D2 st2
    have sz_b2 : h0.size ≤ b2 := Nat.le_trans KP.1 (Nat.le_of_eq g2.symm)
    have g_b2 : n0 ≤ b2 := Nat.le_trans Z0 (Nat.le_of_eq g2.symm)
    have Z0 := Nat.le_trans Z0 E2.1
    have OL := OL.ext E2
    have KP := KP.ext E2
    have OB_b2 : own_Obj1 Z h2 b2 (0 : Int32) := ⟨A2, D2 (Or.inr (hw _ (List.mem_of_getElem? (i := 115) rfl))) (ty := .int) (by decide)⟩
    refine own_via st2 ?_
    show own_Go p e below s _ _ _ (T2.setTop (mkF m 26 #[.val (.int x0)] [(.ref b2)]))
    refine own_via (fun _ k => XS.dup X2.here hx rfl (hb hby d11_26) rfl rfl k) ?_
    show own_Go p e below s _ _ _ (T2.setTop (mkF m 27 #[.val (.int x0)] [(.ref b2), (.ref b2)]))
    refine own_via (fun _ k => XS.iloadN X2.here hx rfl (hb hby d11_27) rfl k) ?_
    show own_Go p e below s _ _ _ (T2.setTop (mkF m 28 #[.val (.int x0)] [(.int x0), (.ref b2), (.ref b2)]))
    obtain ⟨_, _, ⟨T3, L3, k3, n3⟩, -, X3, ⟨Lc3, hQ3, l3, y3, z3⟩, st3⟩ := X2.specialBack hx (y := (⟨"java/lang/Integer", "<init>", "(I)V"⟩ : MethodName)) rfl hown (mvT hZ (hw _ (List.mem_of_getElem? (i := 103) rfl))) (mvT hZ (hw _ (List.mem_of_getElem? (i := 104) rfl))) (mvT hZ (hw _ (List.mem_of_getElem? (i := 106) rfl))) (by decide) (backOf (W := 1) (rm15_1 l Z a0 hw [] b2 x0 w0 w1 mr wc kw0 kw1 h2 n0 Z0 K0 OL OB_b2 g_b2) hZ (hw _ (List.mem_of_getElem? (i := 106) rfl)) (hw _ (List.mem_of_getElem? (i := 82) rfl)) (by decide) (by decide)) (g := (mkF m 28 #[.val (.int x0)] [(.int x0), (.ref b2), (.ref b2)])) rfl (by rw [hml]; rfl) (Steps.refl _) (a := b2) (argsL := [(.int x0)]) (rest := [(.ref b2)]) (lenOf pd6 rfl) rfl (by show 2 * 0 + _ ≤ _; exact Nat.le_of_eq rfl) (hb hby d11_28) (fun _ _ => ⟨rfl, e2, (by decide : 0 + 1 + 0 ≤ _), (by decide : 0 + 1 + 0 ≤ _)⟩)
    dsimp only [Pt.U, Pt.locs, Pt.cells, Pt.slots] at X3 l3 y3 z3 st3 hQ3
    subst l3 y3 z3
    obtain ⟨NQ3, OLq3, Zq3, KQ3, hP3⟩ := hQ3
    obtain ⟨rfl, OB_b2⟩ := hP3
    have KP := KP.trans KQ3 (by intro x hx; simp only [List.mem_cons, List.not_mem_nil, or_false] at hx; rcases hx with rfl; exact Or.inr sz_b2)
    have OL := OLq3
    have Z0 := Zq3
    refine own_tr st3 ?_
    show own_Go p e below s _ _ _ (T3.setTop (mkF m 31 #[.val (.int x0)] [(.ref b2)]))
    exact own_retR X3 hx hlk Bd.returns rfl rfl (hb hby d11_31) (by exact ⟨(Fr.app (Fr.nil n0) NQ3), OL, Z0, KP, b2, rfl, OB_b2.1⟩) (by decide) (by decide)
  · refine own_via (fun _ k => XS.icmpNo X0.here hx rfl (hb hby d11_3) rfl (flt hc1).1 k) ?_
    show own_Go p e below s _ _ _ (s₁.setTop (mkF m 6 #[.val (.int x0)] []))
    refine own_via (fun _ k => XS.iloadN X0.here hx rfl (hb hby d11_6) rfl k) ?_
    show own_Go p e below s _ _ _ (s₁.setTop (mkF m 7 #[.val (.int x0)] [(.int x0)]))
    obtain ⟨T4, X4, e4, st4⟩ := getS2 X0 hx hZ hown (host := "") (Or.inl (hw _ (List.mem_of_getElem? (i := 84) rfl))) Via.refl e0 (S_high.ext OL.2) (g := (mkF m 7 #[.val (.int x0)] [(.int x0)])) rfl (hb hby d11_7)
    refine own_via st4 ?_
    show own_Go p e below s _ _ _ (T4.setTop (mkF m 10 #[.val (.int x0)] [(.int (127 : Int32)), (.int x0)]))
    by_cases hc5 : (127 : Int32) < x0
    · refine own_via (fun _ k => XS.icmpYes X4.here hx rfl (pc0 := 10) (pc' := 23) rfl (hb hby d11_10) rfl (tlt hc5).2.2.1 (by decide) (by decide) k) ?_
      show own_Go p e below s _ _ _ (T4.setTop (mkF m 23 #[.val (.int x0)] []))
      obtain ⟨T6, h6, X6, e6, E6, A6, D6, -, st6⟩ := newO X4 hx hZ hown (hw _ (List.mem_of_getElem? (i := 101) rfl)) (hw _ (List.mem_of_getElem? (i := 102) rfl)) (hw _ (List.mem_of_getElem? (i := 82) rfl)) e4 (g := (mkF m 23 #[.val (.int x0)] [])) rfl (hb hby d11_23) (by decide) (by decide)
      obtain ⟨b6, g6⟩ : ∃ z, z = h0.size := ⟨_, rfl⟩
      rw [← g6] at A6 D6 st6
      have sz_b6 : h0.size ≤ b6 := Nat.le_trans KP.1 (Nat.le_of_eq g6.symm)
      have g_b6 : n0 ≤ b6 := Nat.le_trans Z0 (Nat.le_of_eq g6.symm)
      have Z0 := Nat.le_trans Z0 E6.1
      have OL := OL.ext E6
      have KP := KP.ext E6
      have OB_b6 : own_Obj1 Z h6 b6 (0 : Int32) := ⟨A6, D6 (Or.inr (hw _ (List.mem_of_getElem? (i := 115) rfl))) (ty := .int) (by decide)⟩
      refine own_via st6 ?_
      show own_Go p e below s _ _ _ (T6.setTop (mkF m 26 #[.val (.int x0)] [(.ref b6)]))
      refine own_via (fun _ k => XS.dup X6.here hx rfl (hb hby d11_26) rfl rfl k) ?_
      show own_Go p e below s _ _ _ (T6.setTop (mkF m 27 #[.val (.int x0)] [(.ref b6), (.ref b6)]))
      refine own_via (fun _ k => XS.iloadN X6.here hx rfl (hb hby d11_27) rfl k) ?_
      show own_Go p e below s _ _ _ (T6.setTop (mkF m 28 #[.val (.int x0)] [(.int x0), (.ref b6), (.ref b6)]))
      obtain ⟨_, _, ⟨T7, L7, k7, n7⟩, -, X7, ⟨Lc7, hQ7, l7, y7, z7⟩, st7⟩ := X6.specialBack hx (y := (⟨"java/lang/Integer", "<init>", "(I)V"⟩ : MethodName)) rfl hown (mvT hZ (hw _ (List.mem_of_getElem? (i := 103) rfl))) (mvT hZ (hw _ (List.mem_of_getElem? (i := 104) rfl))) (mvT hZ (hw _ (List.mem_of_getElem? (i := 106) rfl))) (by decide) (backOf (W := 1) (rm15_1 l Z a0 hw [] b6 x0 w0 w1 mr wc kw0 kw1 h6 n0 Z0 K0 OL OB_b6 g_b6) hZ (hw _ (List.mem_of_getElem? (i := 106) rfl)) (hw _ (List.mem_of_getElem? (i := 82) rfl)) (by decide) (by decide)) (g := (mkF m 28 #[.val (.int x0)] [(.int x0), (.ref b6), (.ref b6)])) rfl (by rw [hml]; rfl) (Steps.refl _) (a := b6) (argsL := [(.int x0)]) (rest := [(.ref b6)]) (lenOf pd6 rfl) rfl (by show 2 * 0 + _ ≤ _; exact Nat.le_of_eq rfl) (hb hby d11_28) (fun _ _ => ⟨rfl, e6, (by decide : 0 + 1 + 0 ≤ _), (by decide : 0 + 1 + 0 ≤ _)⟩)
      dsimp only [Pt.U, Pt.locs, Pt.cells, Pt.slots] at X7 l7 y7 z7 st7 hQ7
      subst l7 y7 z7
      obtain ⟨NQ7, OLq7, Zq7, KQ7, hP7⟩ := hQ7
      obtain ⟨rfl, OB_b6⟩ := hP7
      have KP := KP.trans KQ7 (by intro x hx; simp only [List.mem_cons, List.not_mem_nil, or_false] at hx; rcases hx with rfl; exact Or.inr sz_b6)
      have OL := OLq7
      have Z0 := Zq7
      refine own_tr st7 ?_
      show own_Go p e below s _ _ _ (T7.setTop (mkF m 31 #[.val (.int x0)] [(.ref b6)]))
      exact own_retR X7 hx hlk Bd.returns rfl rfl (hb hby d11_31) (by exact ⟨(Fr.app (Fr.nil n0) NQ7), OL, Z0, KP, b6, rfl, OB_b6.1⟩) (by decide) (by decide)
    · refine own_via (fun _ k => XS.icmpNo X4.here hx rfl (hb hby d11_10) rfl (flt hc5).2.2.1 k) ?_
      show own_Go p e below s _ _ _ (T4.setTop (mkF m 13 #[.val (.int x0)] []))
      obtain ⟨T8, X8, e8, st8⟩ := getS2 X4 hx hZ hown (host := "") (Or.inl (hw _ (List.mem_of_getElem? (i := 86) rfl))) Via.refl e4 (S_wc.ext OL.2) (g := (mkF m 13 #[.val (.int x0)] [])) rfl (hb hby d11_13)
      refine own_via st8 ?_
      show own_Go p e below s _ _ _ (T8.setTop (mkF m 16 #[.val (.int x0)] [(.ref wc)]))
      refine own_via (fun _ k => XS.iloadN X8.here hx rfl (hb hby d11_16) rfl k) ?_
      show own_Go p e below s _ _ _ (T8.setTop (mkF m 17 #[.val (.int x0)] [(.int x0), (.ref wc)]))
      refine own_via (fun _ k => XS.sipush X8.here hx rfl (hb hby d11_17) k) ?_
      show own_Go p e below s _ _ _ (T8.setTop (mkF m 20 #[.val (.int x0)] [(.int (128 : Int32)), (.int x0), (.ref wc)]))
      refine own_via (fun _ k => XS.iadd X8.here hx rfl (hb hby d11_20) rfl k) ?_
      show own_Go p e below s _ _ _ (T8.setTop (mkF m 21 #[.val (.int x0)] [(.int (x0 + (128 : Int32))), (.ref wc)]))
      obtain ⟨cc9, Ar9, S9, H9⟩ := CA.ext OL.2
      have hin9 : ¬ ((x0 + (128 : Int32)) < 0 ∨ cc9.slots.size ≤ ((x0 + (128 : Int32))).toNatClampNeg) := own_inb S9 (own_ci hc1 hc5).1 (own_ci hc1 hc5).2
      obtain ⟨z9, hat9, EX_z9⟩ := H9 ((x0 + (128 : Int32))).toNatClampNeg (by rw [← S9]; exact Nat.lt_of_not_le fun q => hin9 (Or.inr q))
      refine own_via (fun _ k => X8.aaload hx (j := (x0 + (128 : Int32))) (v := .ref z9) (by rw [e8]; exact Ar9.1) (State.isArrayOf_alike hZ.alike Ar9.2.1) rfl Ar9.2.2 hin9 hat9 (g := (mkF m 21 #[.val (.int x0)] [(.int (x0 + (128 : Int32))), (.ref wc)])) rfl rfl (hb hby d11_21) _ k) ?_
      show own_Go p e below s _ _ _ (T8.setTop (mkF m 22 #[.val (.int x0)] [(.ref z9)]))
      exact own_retR X8 hx hlk Bd.returns rfl rfl (hb hby d11_22) (by rw [e8]; exact ⟨(Fr.nil n0), OL, Z0, KP, z9, rfl, EX_z9⟩) (by decide) (by decide)
def Q12_1 (Z : State) (b A1 A2 x1 x2 : Addr) (k1 k2 : ClassId) (en kk rf : Int32) (cl : Cell) (r f : Int32) (u : Value) (w0 w1 mr wc : Addr) (kw0 kw1 : ClassId) (h0 : Heap) (n0 : Nat) (v : Option Value) (h : Heap) (L : List Loc) : Prop := Fr n0 L ∧ Old Z n0 h ∧ n0 ≤ h.size ∧ Keep h0 h [x2] ∧ v = none ∧ own_Rows Z h n0 w0 b A1 A2 x1 x2 k1 k2 en kk rf (8 : Int32) ∧ Arr Z h x2 (cl.setSlot ((((r &&& (4095 : Int32)) * rf) + f)).toNatClampNeg u) (.object "java/lang/Object")
set_option maxRecDepth 65536 in
set_option maxHeartbeats 40000000 in
theorem rm12_1 (l : Launch) (Z : State) (a0 : Array Value) (hw : ∀ d ∈ tables_1, d.before a0 Z = true) (ws : List Jvm.Cond) (b A1 A2 x1 x2 : Addr) (k1 k2 : ClassId) (en kk rf : Int32) (cl : Cell) (r f : Int32) (u : Value) (w0 w1 mr wc : Addr) (kw0 kw1 : ClassId) (h0 : Heap) (n0 : Nat) (Z0 : n0 ≤ h0.size) (K : own_K Z Z.heap w0 w1 mr wc kw0 kw1) (OL : Old Z n0 h0) (ir_u : u.isRef = true) (hblk : ((r.toUInt32 >>> ((12 : Int32) &&& 31).toUInt32).toInt32) = (0 : Int32)) (hidx : ¬ ((((r &&& (4095 : Int32)) * rf) + f) < 0 ∨ cl.slots.size ≤ ((((r &&& (4095 : Int32)) * rf) + f)).toNatClampNeg)) (STO : Sto Z h0 x2 u) (RS : own_Rows Z h0 n0 w0 b A1 A2 x1 x2 k1 k2 en kk rf (8 : Int32)) (AR_x2 : Arr Z h0 x2 cl (.object "java/lang/Object")) (ne_b_x2 : b ≠ x2) (ne_A1_x2 : A1 ≠ x2) (ne_A2_x2 : A2 ≠ x2) (g_x2 : n0 ≤ x2) :
    MetFree l (⟨"com/example/whenever/whenever/internal/engine/Rows", "setRef", "(IILjava/lang/Object;)V"⟩ : MethodName) (head1 (Jvm.Cond.code (⟨"com/example/whenever/whenever/internal/engine/Rows", "setRef", "(IILjava/lang/Object;)V"⟩ : MethodName) prog_105_method_10_code 4 none :: ws) ({ frames := 0, cells := 0, slots := 0, locals := 0 } : Room)) (fun a U => a = #[(.ref b), (.int r), (.int f), u] ∧ Z.Warmed39 U.vm ∧ U.heap = h0) (fun _ _ _ _ _ => True) (fun _ U o U' => ∃ v L, o = .returned v ∧ Q12_1 Z b A1 A2 x1 x2 k1 k2 en kk rf cl r f u w0 w1 mr wc kw0 kw1 h0 n0 v U'.heap L ∧ FrameEnd U o U' L ({ frames := 0, cells := 0, slots := 0, locals := 0 } : Room).cells ({ frames := 0, cells := 0, slots := 0, locals := 0 } : Room).slots) := by
  refine MetFree.of_bodySF (plainFor_of_name pn0) hisR ?_
  intro p e s m args below meth c s₁ Bd hml0 hP hK
  obtain ⟨rfl, hZ, hh⟩ := hP
  have hx := Bd.exec
  have hby := Bd.bytes
  have hml : c.maxLocals = 4 := hml0
  have hown : s.vm.findClass "com/example/whenever/whenever/internal/engine/Rows" = some m.cls := findClass_of_methodNamed Bd.named
  have hnm := (name_of_methodNamed Bd.named Bd.method).1
  have hlk := Bd.notSynchronized
  have X0 : Stand p l e ({ frames := 0, cells := 0, slots := 0, locals := 0 } : Room) s m #[(.ref b), (.int r), (.int f), u] below meth c s₁ [] 0 0 := Stand.of_body Bd
  have e0 : s₁.heap = h0 := by rw [← hh, Bd.state]; rfl
  have K0 := K
  obtain ⟨S_w0, S_w1, E_w0, E_w1, V_w0, V_w1, MR, S_wc, S_high, CA⟩ := K
  show own_Go p e below s (Q12_1 Z b A1 A2 x1 x2 k1 k2 en kk rf cl r f u w0 w1 mr wc kw0 kw1 h0 n0) 0 0 (s₁.setTop (entryFrame m #[(.ref b), (.int r), (.int f), u] 4))
  rw [show entryFrame m #[(.ref b), (.int r), (.int f), u] 4 = mkF m 0 #[.val (.ref b), .val (.int r), .val (.int f), .val u] [] from by rcases ref_cases ir_u with rfl | ⟨_, rfl⟩ <;> first | (simp [entryFrame, mkF, argsToLocals, Value.category]; done) | rfl]
  have KP := Keep.refl h0 [x2]
  obtain ⟨OB_b, V_A1, V_A2, OV_A1, OV_A2, ne_b_A1, ne_b_A2, ne_A1_A2, g_b, g_A1, g_A2⟩ := RS
  show own_Go p e below s _ _ _ (s₁.setTop (mkF m 0 #[.val (.ref b), .val (.int r), .val (.int f), .val u] []))
  refine own_via (fun _ k => XS.aloadN X0.here hx rfl (hb hby d12_0) rfl rfl k) ?_
  show own_Go p e below s _ _ _ (s₁.setTop (mkF m 1 #[.val (.ref b), .val (.int r), .val (.int f), .val u] [(.ref b)]))
  obtain ⟨T1, X1, e1, st1⟩ := getF X0 hx hZ hown (host := "") (Or.inl (hw _ (List.mem_of_getElem? (i := 21) rfl))) Via.refl e0 (OB_b.2.2.1) (g := (mkF m 1 #[.val (.ref b), .val (.int r), .val (.int f), .val u] [(.ref b)])) rfl rfl (hb hby d12_1)
  refine own_via st1 ?_
  show own_Go p e below s _ _ _ (T1.setTop (mkF m 4 #[.val (.ref b), .val (.int r), .val (.int f), .val u] [(.ref A2)]))
  refine own_via (fun _ k => XS.iloadN X1.here hx rfl (hb hby d12_4) rfl k) ?_
  show own_Go p e below s _ _ _ (T1.setTop (mkF m 5 #[.val (.ref b), .val (.int r), .val (.int f), .val u] [(.int r), (.ref A2)]))
  refine own_via (fun _ k => XS.bipush X1.here hx rfl (hb hby d12_5) k) ?_
  show own_Go p e below s _ _ _ (T1.setTop (mkF m 7 #[.val (.ref b), .val (.int r), .val (.int f), .val u] [(.int (12 : Int32)), (.int r), (.ref A2)]))
  refine own_via (fun _ k => XS.iushr X1.here hx rfl (hb hby d12_7) rfl k) ?_
  rw [hblk]
  show own_Go p e below s _ _ _ (T1.setTop (mkF m 8 #[.val (.ref b), .val (.int r), .val (.int f), .val u] [(.int (0 : Int32)), (.ref A2)]))
  have Vx2 := V_A2
  obtain ⟨cl2, Ar2, q2, S2, N2, H2, G2⟩ := Vx2
  have hin2 : ¬ ((0 : Int32) < 0 ∨ cl2.slots.size ≤ ((0 : Int32)).toNatClampNeg) := inb_of S2 ⟨by decide, by decide⟩
  have hat2 : cl2.slots[((0 : Int32)).toNatClampNeg]? = some (.ref x2) := H2.at hin2 rfl
  refine own_via (fun _ k => X1.aaload hx (j := (0 : Int32)) (v := (.ref x2)) (by rw [e1]; exact Ar2.1) (State.isArrayOf_alike hZ.alike Ar2.2.1) rfl Ar2.2.2 hin2 hat2 (g := (mkF m 8 #[.val (.ref b), .val (.int r), .val (.int f), .val u] [(.int (0 : Int32)), (.ref A2)])) rfl rfl (hb hby d12_8) _ k) ?_
  show own_Go p e below s _ _ _ (T1.setTop (mkF m 9 #[.val (.ref b), .val (.int r), .val (.int f), .val u] [(.ref x2)]))
  refine own_via (fun _ k => XS.iloadN X1.here hx rfl (hb hby d12_9) rfl k) ?_
  show own_Go p e below s _ _ _ (T1.setTop (mkF m 10 #[.val (.ref b), .val (.int r), .val (.int f), .val u] [(.int r), (.ref x2)]))
  refine own_via (fun _ k => XS.sipush X1.here hx rfl (hb hby d12_10) k) ?_
  show own_Go p e below s _ _ _ (T1.setTop (mkF m 13 #[.val (.ref b), .val (.int r), .val (.int f), .val u] [(.int (4095 : Int32)), (.int r), (.ref x2)]))
  refine own_via (fun _ k => XS.iand X1.here hx rfl (hb hby d12_13) rfl k) ?_
  show own_Go p e below s _ _ _ (T1.setTop (mkF m 14 #[.val (.ref b), .val (.int r), .val (.int f), .val u] [(.int (r &&& (4095 : Int32))), (.ref x2)]))
  refine own_via (fun _ k => XS.aloadN X1.here hx rfl (hb hby d12_14) rfl rfl k) ?_
  show own_Go p e below s _ _ _ (T1.setTop (mkF m 15 #[.val (.ref b), .val (.int r), .val (.int f), .val u] [(.ref b), (.int (r &&& (4095 : Int32))), (.ref x2)]))
  obtain ⟨T3, X3, e3, st3⟩ := getF X1 hx hZ hown (host := "") (Or.inl (hw _ (List.mem_of_getElem? (i := 29) rfl))) Via.refl e1 (OB_b.2.2.2.2.2.2.1) (g := (mkF m 15 #[.val (.ref b), .val (.int r), .val (.int f), .val u] [(.ref b), (.int (r &&& (4095 : Int32))), (.ref x2)])) rfl rfl (hb hby d12_15)
  refine own_via st3 ?_
  show own_Go p e below s _ _ _ (T3.setTop (mkF m 18 #[.val (.ref b), .val (.int r), .val (.int f), .val u] [(.int rf), (.int (r &&& (4095 : Int32))), (.ref x2)]))
  refine own_via (fun _ k => XS.imul X3.here hx rfl (hb hby d12_18) rfl k) ?_
  show own_Go p e below s _ _ _ (T3.setTop (mkF m 19 #[.val (.ref b), .val (.int r), .val (.int f), .val u] [(.int ((r &&& (4095 : Int32)) * rf)), (.ref x2)]))
  refine own_via (fun _ k => XS.iloadN X3.here hx rfl (hb hby d12_19) rfl k) ?_
  show own_Go p e below s _ _ _ (T3.setTop (mkF m 20 #[.val (.ref b), .val (.int r), .val (.int f), .val u] [(.int f), (.int ((r &&& (4095 : Int32)) * rf)), (.ref x2)]))
  refine own_via (fun _ k => XS.iadd X3.here hx rfl (hb hby d12_20) rfl k) ?_
  show own_Go p e below s _ _ _ (T3.setTop (mkF m 21 #[.val (.ref b), .val (.int r), .val (.int f), .val u] [(.int (((r &&& (4095 : Int32)) * rf) + f)), (.ref x2)]))
  refine own_via (fun _ k => XS.aloadN X3.here hx rfl (hb hby d12_21) rfl ir_u k) ?_
  show own_Go p e below s _ _ _ (T3.setTop (mkF m 22 #[.val (.ref b), .val (.int r), .val (.int f), .val u] [u, (.int (((r &&& (4095 : Int32)) * rf) + f)), (.ref x2)]))
  obtain ⟨T4, h4, X4, e4, W4, st4⟩ := stR X3 hx hZ e3 AR_x2 (j := (((r &&& (4095 : Int32)) * rf) + f)) hidx rfl STO (g := (mkF m 22 #[.val (.ref b), .val (.int r), .val (.int f), .val u] [u, (.int (((r &&& (4095 : Int32)) * rf) + f)), (.ref x2)])) rfl rfl (hb hby d12_22)
  have AR_x2 := AR_x2.same W4
  have N4 := Fr.snoc X4 (Fr.nil n0) g_x2
  have Z0 := Nat.le_trans Z0 (Keep.of_wr W4).1
  have OL := OL.wr W4 g_x2
  have KP := KP.wr W4 (Or.inl (List.mem_of_getElem? (i := 0) rfl))
  have OB_b := OB_b.other W4 ne_b_x2
  have V_A1 := V_A1.other W4 ne_A1_x2
  have V_A2 := V_A2.other W4 ne_A2_x2
  refine own_via st4 ?_
  show own_Go p e below s _ _ _ (T4.setTop (mkF m 23 #[.val (.ref b), .val (.int r), .val (.int f), .val u] []))
  exact own_retV X4 hx hlk Bd.returns (hb hby d12_23) (by rw [e4]; exact ⟨N4, OL, Z0, KP, rfl, ⟨OB_b, V_A1, V_A2, OV_A1, OV_A2, ne_b_A1, ne_b_A2, ne_A1_A2, g_b, g_A1, g_A2⟩, AR_x2⟩) (by decide) (by decide)
def Q13_1 (Z : State) (b A1 A2 x1 x2 : Addr) (k1 k2 : ClassId) (en kk rf : Int32) (cl : Cell) (r f : Int32) (u : Value) (w0 w1 mr wc : Addr) (kw0 kw1 : ClassId) (h0 : Heap) (n0 : Nat) (v : Option Value) (h : Heap) (L : List Loc) : Prop := Fr n0 L ∧ Old Z n0 h ∧ n0 ≤ h.size ∧ Keep h0 h [] ∧ v = some u
set_option maxRecDepth 65536 in
set_option maxHeartbeats 40000000 in
theorem rm13_1 (l : Launch) (Z : State) (a0 : Array Value) (hw : ∀ d ∈ tables_1, d.before a0 Z = true) (ws : List Jvm.Cond) (b A1 A2 x1 x2 : Addr) (k1 k2 : ClassId) (en kk rf : Int32) (cl : Cell) (r f : Int32) (u : Value) (w0 w1 mr wc : Addr) (kw0 kw1 : ClassId) (h0 : Heap) (n0 : Nat) (Z0 : n0 ≤ h0.size) (K : own_K Z Z.heap w0 w1 mr wc kw0 kw1) (OL : Old Z n0 h0) (ir_u : u.isRef = true) (hblk : ((r.toUInt32 >>> ((12 : Int32) &&& 31).toUInt32).toInt32) = (0 : Int32)) (hidx : ¬ ((((r &&& (4095 : Int32)) * rf) + f) < 0 ∨ cl.slots.size ≤ ((((r &&& (4095 : Int32)) * rf) + f)).toNatClampNeg)) (hat : cl.slots[((((r &&& (4095 : Int32)) * rf) + f)).toNatClampNeg]? = some u) (RS : own_Rows Z h0 n0 w0 b A1 A2 x1 x2 k1 k2 en kk rf (8 : Int32)) (AR_x2 : Arr Z h0 x2 cl (.object "java/lang/Object")) :
    MetFree l (⟨"com/example/whenever/whenever/internal/engine/Rows", "getRef", "(II)Ljava/lang/Object;"⟩ : MethodName) (head1 (Jvm.Cond.code (⟨"com/example/whenever/whenever/internal/engine/Rows", "getRef", "(II)Ljava/lang/Object;"⟩ : MethodName) prog_105_method_9_code 3 (some (.object "java/lang/Object")) :: ws) ({ frames := 0, cells := 0, slots := 0, locals := 0 } : Room)) (fun a U => a = #[(.ref b), (.int r), (.int f)] ∧ Z.Warmed39 U.vm ∧ U.heap = h0) (fun _ _ _ _ _ => True) (fun _ U o U' => ∃ v L, o = .returned v ∧ Q13_1 Z b A1 A2 x1 x2 k1 k2 en kk rf cl r f u w0 w1 mr wc kw0 kw1 h0 n0 v U'.heap L ∧ FrameEnd U o U' L ({ frames := 0, cells := 0, slots := 0, locals := 0 } : Room).cells ({ frames := 0, cells := 0, slots := 0, locals := 0 } : Room).slots) := by
  refine MetFree.of_bodySF (plainFor_of_name pn0) hisR ?_
  intro p e s m args below meth c s₁ Bd hml0 hP hK
  obtain ⟨rfl, hZ, hh⟩ := hP
  have hx := Bd.exec
  have hby := Bd.bytes
  have hml : c.maxLocals = 3 := hml0
  have hown : s.vm.findClass "com/example/whenever/whenever/internal/engine/Rows" = some m.cls := findClass_of_methodNamed Bd.named
  have hnm := (name_of_methodNamed Bd.named Bd.method).1
  have hlk := Bd.notSynchronized
  have X0 : Stand p l e ({ frames := 0, cells := 0, slots := 0, locals := 0 } : Room) s m #[(.ref b), (.int r), (.int f)] below meth c s₁ [] 0 0 := Stand.of_body Bd
  have e0 : s₁.heap = h0 := by rw [← hh, Bd.state]; rfl
  have K0 := K
  obtain ⟨S_w0, S_w1, E_w0, E_w1, V_w0, V_w1, MR, S_wc, S_high, CA⟩ := K
  show own_Go p e below s (Q13_1 Z b A1 A2 x1 x2 k1 k2 en kk rf cl r f u w0 w1 mr wc kw0 kw1 h0 n0) 0 0 (s₁.setTop (entryFrame m #[(.ref b), (.int r), (.int f)] 3))
  rw [show entryFrame m #[(.ref b), (.int r), (.int f)] 3 = mkF m 0 #[.val (.ref b), .val (.int r), .val (.int f)] [] from by first | (simp [entryFrame, mkF, argsToLocals, Value.category]; done) | rfl]
  have KP := Keep.refl h0 []
  obtain ⟨OB_b, V_A1, V_A2, OV_A1, OV_A2, ne_b_A1, ne_b_A2, ne_A1_A2, g_b, g_A1, g_A2⟩ := RS
  show own_Go p e below s _ _ _ (s₁.setTop (mkF m 0 #[.val (.ref b), .val (.int r), .val (.int f)] []))
  refine own_via (fun _ k => XS.aloadN X0.here hx rfl (hb hby d13_0) rfl rfl k) ?_
  show own_Go p e below s _ _ _ (s₁.setTop (mkF m 1 #[.val (.ref b), .val (.int r), .val (.int f)] [(.ref b)]))
  obtain ⟨T1, X1, e1, st1⟩ := getF X0 hx hZ hown (host := "") (Or.inl (hw _ (List.mem_of_getElem? (i := 21) rfl))) Via.refl e0 (OB_b.2.2.1) (g := (mkF m 1 #[.val (.ref b), .val (.int r), .val (.int f)] [(.ref b)])) rfl rfl (hb hby d13_1)
  refine own_via st1 ?_
  show own_Go p e below s _ _ _ (T1.setTop (mkF m 4 #[.val (.ref b), .val (.int r), .val (.int f)] [(.ref A2)]))
  refine own_via (fun _ k => XS.iloadN X1.here hx rfl (hb hby d13_4) rfl k) ?_
  show own_Go p e below s _ _ _ (T1.setTop (mkF m 5 #[.val (.ref b), .val (.int r), .val (.int f)] [(.int r), (.ref A2)]))
  refine own_via (fun _ k => XS.bipush X1.here hx rfl (hb hby d13_5) k) ?_
  show own_Go p e below s _ _ _ (T1.setTop (mkF m 7 #[.val (.ref b), .val (.int r), .val (.int f)] [(.int (12 : Int32)), (.int r), (.ref A2)]))
  refine own_via (fun _ k => XS.iushr X1.here hx rfl (hb hby d13_7) rfl k) ?_
  rw [hblk]
  show own_Go p e below s _ _ _ (T1.setTop (mkF m 8 #[.val (.ref b), .val (.int r), .val (.int f)] [(.int (0 : Int32)), (.ref A2)]))
  have Vx2 := V_A2
  obtain ⟨cl2, Ar2, q2, S2, N2, H2, G2⟩ := Vx2
  have hin2 : ¬ ((0 : Int32) < 0 ∨ cl2.slots.size ≤ ((0 : Int32)).toNatClampNeg) := inb_of S2 ⟨by decide, by decide⟩
  have hat2 : cl2.slots[((0 : Int32)).toNatClampNeg]? = some (.ref x2) := H2.at hin2 rfl
  refine own_via (fun _ k => X1.aaload hx (j := (0 : Int32)) (v := (.ref x2)) (by rw [e1]; exact Ar2.1) (State.isArrayOf_alike hZ.alike Ar2.2.1) rfl Ar2.2.2 hin2 hat2 (g := (mkF m 8 #[.val (.ref b), .val (.int r), .val (.int f)] [(.int (0 : Int32)), (.ref A2)])) rfl rfl (hb hby d13_8) _ k) ?_
  show own_Go p e below s _ _ _ (T1.setTop (mkF m 9 #[.val (.ref b), .val (.int r), .val (.int f)] [(.ref x2)]))
  refine own_via (fun _ k => XS.iloadN X1.here hx rfl (hb hby d13_9) rfl k) ?_
  show own_Go p e below s _ _ _ (T1.setTop (mkF m 10 #[.val (.ref b), .val (.int r), .val (.int f)] [(.int r), (.ref x2)]))
  refine own_via (fun _ k => XS.sipush X1.here hx rfl (hb hby d13_10) k) ?_
  show own_Go p e below s _ _ _ (T1.setTop (mkF m 13 #[.val (.ref b), .val (.int r), .val (.int f)] [(.int (4095 : Int32)), (.int r), (.ref x2)]))
  refine own_via (fun _ k => XS.iand X1.here hx rfl (hb hby d13_13) rfl k) ?_
  show own_Go p e below s _ _ _ (T1.setTop (mkF m 14 #[.val (.ref b), .val (.int r), .val (.int f)] [(.int (r &&& (4095 : Int32))), (.ref x2)]))
  refine own_via (fun _ k => XS.aloadN X1.here hx rfl (hb hby d13_14) rfl rfl k) ?_
  show own_Go p e below s _ _ _ (T1.setTop (mkF m 15 #[.val (.ref b), .val (.int r), .val (.int f)] [(.ref b), (.int (r &&& (4095 : Int32))), (.ref x2)]))
  obtain ⟨T3, X3, e3, st3⟩ := getF X1 hx hZ hown (host := "") (Or.inl (hw _ (List.mem_of_getElem? (i := 29) rfl))) Via.refl e1 (OB_b.2.2.2.2.2.2.1) (g := (mkF m 15 #[.val (.ref b), .val (.int r), .val (.int f)] [(.ref b), (.int (r &&& (4095 : Int32))), (.ref x2)])) rfl rfl (hb hby d13_15)
  refine own_via st3 ?_
  show own_Go p e below s _ _ _ (T3.setTop (mkF m 18 #[.val (.ref b), .val (.int r), .val (.int f)] [(.int rf), (.int (r &&& (4095 : Int32))), (.ref x2)]))
  refine own_via (fun _ k => XS.imul X3.here hx rfl (hb hby d13_18) rfl k) ?_
  show own_Go p e below s _ _ _ (T3.setTop (mkF m 19 #[.val (.ref b), .val (.int r), .val (.int f)] [(.int ((r &&& (4095 : Int32)) * rf)), (.ref x2)]))
  refine own_via (fun _ k => XS.iloadN X3.here hx rfl (hb hby d13_19) rfl k) ?_
  show own_Go p e below s _ _ _ (T3.setTop (mkF m 20 #[.val (.ref b), .val (.int r), .val (.int f)] [(.int f), (.int ((r &&& (4095 : Int32)) * rf)), (.ref x2)]))
  refine own_via (fun _ k => XS.iadd X3.here hx rfl (hb hby d13_20) rfl k) ?_
  show own_Go p e below s _ _ _ (T3.setTop (mkF m 21 #[.val (.ref b), .val (.int r), .val (.int f)] [(.int (((r &&& (4095 : Int32)) * rf) + f)), (.ref x2)]))
  refine own_via (fun _ k => X3.aaload hx (j := (((r &&& (4095 : Int32)) * rf) + f)) (v := u) (by rw [e3]; exact AR_x2.1) (State.isArrayOf_alike hZ.alike AR_x2.2.1) rfl AR_x2.2.2 hidx hat (g := (mkF m 21 #[.val (.ref b), .val (.int r), .val (.int f)] [(.int (((r &&& (4095 : Int32)) * rf) + f)), (.ref x2)])) rfl rfl (hb hby d13_21) _ k) ?_
  show own_Go p e below s _ _ _ (T3.setTop (mkF m 22 #[.val (.ref b), .val (.int r), .val (.int f)] [u]))
  exact own_retR X3 hx hlk Bd.returns rfl ir_u (hb hby d13_22) (by rw [e3]; exact ⟨(Fr.nil n0), OL, Z0, KP, rfl⟩) (by decide) (by decide)
def Q14_1 (Z : State) (x0 x1 x2 x3 : Int32) (va : Value) (x5 x6 : Int32) (vb : Value) (w0 w1 mr wc : Addr) (kw0 kw1 : ClassId) (h0 : Heap) (n0 : Nat) (v : Option Value) (h : Heap) (L : List Loc) : Prop := Fr n0 L ∧ Old Z n0 h ∧ n0 ≤ h.size ∧ Keep h0 h [] ∧ v = some (own_exp x0 x1 x2 x3 va x5 x6 vb)
set_option maxRecDepth 65536 in
set_option maxHeartbeats 40000000 in
theorem rm14_1 (l : Launch) (Z : State) (a0 : Array Value) (hw : ∀ d ∈ tables_1, d.before a0 Z = true) (ws : List Jvm.Cond) (x0 x1 x2 x3 : Int32) (va : Value) (x5 x6 : Int32) (vb : Value) (w0 w1 mr wc : Addr) (kw0 kw1 : ClassId) (h0 : Heap) (n0 : Nat) (Z0 : n0 ≤ h0.size) (K : own_K Z Z.heap w0 w1 mr wc kw0 kw1) (OL : Old Z n0 h0) (ir_va : va.isRef = true) (ir_vb : vb.isRef = true) :
    MetFree l (⟨"com/example/whenever/whenever/internal/engine/RowsSetRefPinLaw", "expected", "(IIIILjava/lang/Object;IILjava/lang/Object;)Ljava/lang/Object;"⟩ : MethodName) (head1 (Jvm.Cond.code (⟨"com/example/whenever/whenever/internal/engine/RowsSetRefPinLaw", "expected", "(IIIILjava/lang/Object;IILjava/lang/Object;)Ljava/lang/Object;"⟩ : MethodName) method_4_code 8 (some (.object "java/lang/Object")) :: ws) ({ frames := 0, cells := 0, slots := 0, locals := 0 } : Room)) (fun a U => a = #[(.int x0), (.int x1), (.int x2), (.int x3), va, (.int x5), (.int x6), vb] ∧ Z.Warmed39 U.vm ∧ U.heap = h0) (fun _ _ _ _ _ => True) (fun _ U o U' => ∃ v L, o = .returned v ∧ Q14_1 Z x0 x1 x2 x3 va x5 x6 vb w0 w1 mr wc kw0 kw1 h0 n0 v U'.heap L ∧ FrameEnd U o U' L ({ frames := 0, cells := 0, slots := 0, locals := 0 } : Room).cells ({ frames := 0, cells := 0, slots := 0, locals := 0 } : Room).slots) := by
  refine MetFree.of_bodySF (plainFor_of_name pn4) hisR ?_
  intro p e s m args below meth c s₁ Bd hml0 hP hK
  obtain ⟨rfl, hZ, hh⟩ := hP
  have hx := Bd.exec
  have hby := Bd.bytes
  have hml : c.maxLocals = 8 := hml0
  have hown : s.vm.findClass "com/example/whenever/whenever/internal/engine/RowsSetRefPinLaw" = some m.cls := findClass_of_methodNamed Bd.named
  have hnm := (name_of_methodNamed Bd.named Bd.method).1
  have hlk := Bd.notSynchronized
  have X0 : Stand p l e ({ frames := 0, cells := 0, slots := 0, locals := 0 } : Room) s m #[(.int x0), (.int x1), (.int x2), (.int x3), va, (.int x5), (.int x6), vb] below meth c s₁ [] 0 0 := Stand.of_body Bd
  have e0 : s₁.heap = h0 := by rw [← hh, Bd.state]; rfl
  have K0 := K
  obtain ⟨S_w0, S_w1, E_w0, E_w1, V_w0, V_w1, MR, S_wc, S_high, CA⟩ := K
  show own_Go p e below s (Q14_1 Z x0 x1 x2 x3 va x5 x6 vb w0 w1 mr wc kw0 kw1 h0 n0) 0 0 (s₁.setTop (entryFrame m #[(.int x0), (.int x1), (.int x2), (.int x3), va, (.int x5), (.int x6), vb] 8))
  rw [show entryFrame m #[(.int x0), (.int x1), (.int x2), (.int x3), va, (.int x5), (.int x6), vb] 8 = mkF m 0 #[.val (.int x0), .val (.int x1), .val (.int x2), .val (.int x3), .val va, .val (.int x5), .val (.int x6), .val vb] [] from by rcases ref_cases ir_va with rfl | ⟨_, rfl⟩ <;> rcases ref_cases ir_vb with rfl | ⟨_, rfl⟩ <;> first | (simp [entryFrame, mkF, argsToLocals, Value.category]; done) | rfl]
  have KP := Keep.refl h0 []
  show own_Go p e below s _ _ _ (s₁.setTop (mkF m 0 #[.val (.int x0), .val (.int x1), .val (.int x2), .val (.int x3), .val va, .val (.int x5), .val (.int x6), .val vb] []))
  refine own_via (fun _ k => XS.iloadN X0.here hx rfl (hb hby d14_0) rfl k) ?_
  show own_Go p e below s _ _ _ (s₁.setTop (mkF m 1 #[.val (.int x0), .val (.int x1), .val (.int x2), .val (.int x3), .val va, .val (.int x5), .val (.int x6), .val vb] [(.int x0)]))
  refine own_via (fun _ k => XS.iload X0.here hx rfl (hb hby d14_1) rfl k) ?_
  show own_Go p e below s _ _ _ (s₁.setTop (mkF m 3 #[.val (.int x0), .val (.int x1), .val (.int x2), .val (.int x3), .val va, .val (.int x5), .val (.int x6), .val vb] [(.int x5), (.int x0)]))
  by_cases hc1 : x0 = x5
  · refine own_via (fun _ k => XS.icmpNo X0.here hx rfl (hb hby d14_3) rfl (teq hc1).2 k) ?_
    show own_Go p e below s _ _ _ (s₁.setTop (mkF m 6 #[.val (.int x0), .val (.int x1), .val (.int x2), .val (.int x3), .val va, .val (.int x5), .val (.int x6), .val vb] []))
    refine own_via (fun _ k => XS.iloadN X0.here hx rfl (hb hby d14_6) rfl k) ?_
    show own_Go p e below s _ _ _ (s₁.setTop (mkF m 7 #[.val (.int x0), .val (.int x1), .val (.int x2), .val (.int x3), .val va, .val (.int x5), .val (.int x6), .val vb] [(.int x1)]))
    refine own_via (fun _ k => XS.iload X0.here hx rfl (hb hby d14_7) rfl k) ?_
    show own_Go p e below s _ _ _ (s₁.setTop (mkF m 9 #[.val (.int x0), .val (.int x1), .val (.int x2), .val (.int x3), .val va, .val (.int x5), .val (.int x6), .val vb] [(.int x6), (.int x1)]))
    by_cases hc2 : x1 = x6
    · refine own_via (fun _ k => XS.icmpNo X0.here hx rfl (hb hby d14_9) rfl (teq hc2).2 k) ?_
      show own_Go p e below s _ _ _ (s₁.setTop (mkF m 12 #[.val (.int x0), .val (.int x1), .val (.int x2), .val (.int x3), .val va, .val (.int x5), .val (.int x6), .val vb] []))
      refine own_via (fun _ k => XS.aload X0.here hx rfl (hb hby d14_12) rfl ir_vb k) ?_
      show own_Go p e below s _ _ _ (s₁.setTop (mkF m 14 #[.val (.int x0), .val (.int x1), .val (.int x2), .val (.int x3), .val va, .val (.int x5), .val (.int x6), .val vb] [vb]))
      exact own_retR X0 hx hlk Bd.returns rfl ir_vb (hb hby d14_14) (by rw [e0]; exact ⟨(Fr.nil n0), OL, Z0, KP, congrArg some (own_expB hc1 hc2).symm⟩) (by decide) (by decide)
    · refine own_via (fun _ k => XS.icmpYes X0.here hx rfl (pc0 := 9) (pc' := 15) rfl (hb hby d14_9) rfl (feq hc2).2 (by decide) (by decide) k) ?_
      show own_Go p e below s _ _ _ (s₁.setTop (mkF m 15 #[.val (.int x0), .val (.int x1), .val (.int x2), .val (.int x3), .val va, .val (.int x5), .val (.int x6), .val vb] []))
      refine own_via (fun _ k => XS.iloadN X0.here hx rfl (hb hby d14_15) rfl k) ?_
      show own_Go p e below s _ _ _ (s₁.setTop (mkF m 16 #[.val (.int x0), .val (.int x1), .val (.int x2), .val (.int x3), .val va, .val (.int x5), .val (.int x6), .val vb] [(.int x0)]))
      refine own_via (fun _ k => XS.iloadN X0.here hx rfl (hb hby d14_16) rfl k) ?_
      show own_Go p e below s _ _ _ (s₁.setTop (mkF m 17 #[.val (.int x0), .val (.int x1), .val (.int x2), .val (.int x3), .val va, .val (.int x5), .val (.int x6), .val vb] [(.int x2), (.int x0)]))
      by_cases hc3 : x0 = x2
      · refine own_via (fun _ k => XS.icmpNo X0.here hx rfl (hb hby d14_17) rfl (teq hc3).2 k) ?_
        show own_Go p e below s _ _ _ (s₁.setTop (mkF m 20 #[.val (.int x0), .val (.int x1), .val (.int x2), .val (.int x3), .val va, .val (.int x5), .val (.int x6), .val vb] []))
        refine own_via (fun _ k => XS.iloadN X0.here hx rfl (hb hby d14_20) rfl k) ?_
        show own_Go p e below s _ _ _ (s₁.setTop (mkF m 21 #[.val (.int x0), .val (.int x1), .val (.int x2), .val (.int x3), .val va, .val (.int x5), .val (.int x6), .val vb] [(.int x1)]))
        refine own_via (fun _ k => XS.iloadN X0.here hx rfl (hb hby d14_21) rfl k) ?_
        show own_Go p e below s _ _ _ (s₁.setTop (mkF m 22 #[.val (.int x0), .val (.int x1), .val (.int x2), .val (.int x3), .val va, .val (.int x5), .val (.int x6), .val vb] [(.int x3), (.int x1)]))
        by_cases hc4 : x1 = x3
        · refine own_via (fun _ k => XS.icmpNo X0.here hx rfl (hb hby d14_22) rfl (teq hc4).2 k) ?_
          show own_Go p e below s _ _ _ (s₁.setTop (mkF m 25 #[.val (.int x0), .val (.int x1), .val (.int x2), .val (.int x3), .val va, .val (.int x5), .val (.int x6), .val vb] []))
          refine own_via (fun _ k => XS.aload X0.here hx rfl (hb hby d14_25) rfl ir_va k) ?_
          show own_Go p e below s _ _ _ (s₁.setTop (mkF m 27 #[.val (.int x0), .val (.int x1), .val (.int x2), .val (.int x3), .val va, .val (.int x5), .val (.int x6), .val vb] [va]))
          exact own_retR X0 hx hlk Bd.returns rfl ir_va (hb hby d14_27) (by rw [e0]; exact ⟨(Fr.nil n0), OL, Z0, KP, congrArg some (own_expA (fun q => hc2 q.2) hc3 hc4).symm⟩) (by decide) (by decide)
        · refine own_via (fun _ k => XS.icmpYes X0.here hx rfl (pc0 := 22) (pc' := 28) rfl (hb hby d14_22) rfl (feq hc4).2 (by decide) (by decide) k) ?_
          show own_Go p e below s _ _ _ (s₁.setTop (mkF m 28 #[.val (.int x0), .val (.int x1), .val (.int x2), .val (.int x3), .val va, .val (.int x5), .val (.int x6), .val vb] []))
          refine own_via (fun _ k => XS.aconstNull X0.here hx rfl (hb hby d14_28) k) ?_
          show own_Go p e below s _ _ _ (s₁.setTop (mkF m 29 #[.val (.int x0), .val (.int x1), .val (.int x2), .val (.int x3), .val va, .val (.int x5), .val (.int x6), .val vb] [.null]))
          exact own_retR X0 hx hlk Bd.returns rfl rfl (hb hby d14_29) (by rw [e0]; exact ⟨(Fr.nil n0), OL, Z0, KP, congrArg some (own_expN (fun q => hc2 q.2) (fun q => hc4 q.2)).symm⟩) (by decide) (by decide)
      · refine own_via (fun _ k => XS.icmpYes X0.here hx rfl (pc0 := 17) (pc' := 28) rfl (hb hby d14_17) rfl (feq hc3).2 (by decide) (by decide) k) ?_
        show own_Go p e below s _ _ _ (s₁.setTop (mkF m 28 #[.val (.int x0), .val (.int x1), .val (.int x2), .val (.int x3), .val va, .val (.int x5), .val (.int x6), .val vb] []))
        refine own_via (fun _ k => XS.aconstNull X0.here hx rfl (hb hby d14_28) k) ?_
        show own_Go p e below s _ _ _ (s₁.setTop (mkF m 29 #[.val (.int x0), .val (.int x1), .val (.int x2), .val (.int x3), .val va, .val (.int x5), .val (.int x6), .val vb] [.null]))
        exact own_retR X0 hx hlk Bd.returns rfl rfl (hb hby d14_29) (by rw [e0]; exact ⟨(Fr.nil n0), OL, Z0, KP, congrArg some (own_expN (fun q => hc2 q.2) (fun q => hc3 q.1)).symm⟩) (by decide) (by decide)
  · refine own_via (fun _ k => XS.icmpYes X0.here hx rfl (pc0 := 3) (pc' := 15) rfl (hb hby d14_3) rfl (feq hc1).2 (by decide) (by decide) k) ?_
    show own_Go p e below s _ _ _ (s₁.setTop (mkF m 15 #[.val (.int x0), .val (.int x1), .val (.int x2), .val (.int x3), .val va, .val (.int x5), .val (.int x6), .val vb] []))
    refine own_via (fun _ k => XS.iloadN X0.here hx rfl (hb hby d14_15) rfl k) ?_
    show own_Go p e below s _ _ _ (s₁.setTop (mkF m 16 #[.val (.int x0), .val (.int x1), .val (.int x2), .val (.int x3), .val va, .val (.int x5), .val (.int x6), .val vb] [(.int x0)]))
    refine own_via (fun _ k => XS.iloadN X0.here hx rfl (hb hby d14_16) rfl k) ?_
    show own_Go p e below s _ _ _ (s₁.setTop (mkF m 17 #[.val (.int x0), .val (.int x1), .val (.int x2), .val (.int x3), .val va, .val (.int x5), .val (.int x6), .val vb] [(.int x2), (.int x0)]))
    by_cases hc5 : x0 = x2
    · refine own_via (fun _ k => XS.icmpNo X0.here hx rfl (hb hby d14_17) rfl (teq hc5).2 k) ?_
      show own_Go p e below s _ _ _ (s₁.setTop (mkF m 20 #[.val (.int x0), .val (.int x1), .val (.int x2), .val (.int x3), .val va, .val (.int x5), .val (.int x6), .val vb] []))
      refine own_via (fun _ k => XS.iloadN X0.here hx rfl (hb hby d14_20) rfl k) ?_
      show own_Go p e below s _ _ _ (s₁.setTop (mkF m 21 #[.val (.int x0), .val (.int x1), .val (.int x2), .val (.int x3), .val va, .val (.int x5), .val (.int x6), .val vb] [(.int x1)]))
      refine own_via (fun _ k => XS.iloadN X0.here hx rfl (hb hby d14_21) rfl k) ?_
      show own_Go p e below s _ _ _ (s₁.setTop (mkF m 22 #[.val (.int x0), .val (.int x1), .val (.int x2), .val (.int x3), .val va, .val (.int x5), .val (.int x6), .val vb] [(.int x3), (.int x1)]))
      by_cases hc6 : x1 = x3
      · refine own_via (fun _ k => XS.icmpNo X0.here hx rfl (hb hby d14_22) rfl (teq hc6).2 k) ?_
        show own_Go p e below s _ _ _ (s₁.setTop (mkF m 25 #[.val (.int x0), .val (.int x1), .val (.int x2), .val (.int x3), .val va, .val (.int x5), .val (.int x6), .val vb] []))
        refine own_via (fun _ k => XS.aload X0.here hx rfl (hb hby d14_25) rfl ir_va k) ?_
        show own_Go p e below s _ _ _ (s₁.setTop (mkF m 27 #[.val (.int x0), .val (.int x1), .val (.int x2), .val (.int x3), .val va, .val (.int x5), .val (.int x6), .val vb] [va]))
        exact own_retR X0 hx hlk Bd.returns rfl ir_va (hb hby d14_27) (by rw [e0]; exact ⟨(Fr.nil n0), OL, Z0, KP, congrArg some (own_expA (fun q => hc1 q.1) hc5 hc6).symm⟩) (by decide) (by decide)
      · refine own_via (fun _ k => XS.icmpYes X0.here hx rfl (pc0 := 22) (pc' := 28) rfl (hb hby d14_22) rfl (feq hc6).2 (by decide) (by decide) k) ?_
        show own_Go p e below s _ _ _ (s₁.setTop (mkF m 28 #[.val (.int x0), .val (.int x1), .val (.int x2), .val (.int x3), .val va, .val (.int x5), .val (.int x6), .val vb] []))
        refine own_via (fun _ k => XS.aconstNull X0.here hx rfl (hb hby d14_28) k) ?_
        show own_Go p e below s _ _ _ (s₁.setTop (mkF m 29 #[.val (.int x0), .val (.int x1), .val (.int x2), .val (.int x3), .val va, .val (.int x5), .val (.int x6), .val vb] [.null]))
        exact own_retR X0 hx hlk Bd.returns rfl rfl (hb hby d14_29) (by rw [e0]; exact ⟨(Fr.nil n0), OL, Z0, KP, congrArg some (own_expN (fun q => hc1 q.1) (fun q => hc6 q.2)).symm⟩) (by decide) (by decide)
    · refine own_via (fun _ k => XS.icmpYes X0.here hx rfl (pc0 := 17) (pc' := 28) rfl (hb hby d14_17) rfl (feq hc5).2 (by decide) (by decide) k) ?_
      show own_Go p e below s _ _ _ (s₁.setTop (mkF m 28 #[.val (.int x0), .val (.int x1), .val (.int x2), .val (.int x3), .val va, .val (.int x5), .val (.int x6), .val vb] []))
      refine own_via (fun _ k => XS.aconstNull X0.here hx rfl (hb hby d14_28) k) ?_
      show own_Go p e below s _ _ _ (s₁.setTop (mkF m 29 #[.val (.int x0), .val (.int x1), .val (.int x2), .val (.int x3), .val va, .val (.int x5), .val (.int x6), .val vb] [.null]))
      exact own_retR X0 hx hlk Bd.returns rfl rfl (hb hby d14_29) (by rw [e0]; exact ⟨(Fr.nil n0), OL, Z0, KP, congrArg some (own_expN (fun q => hc1 q.1) (fun q => hc5 q.1)).symm⟩) (by decide) (by decide)
def Q0 (n0 : Nat) (v : Option Value) (h : Heap) (L : List Loc) : Prop := v = some (.int 1) ∧ Fr n0 L
set_option maxRecDepth 65536 in
set_option maxHeartbeats 40000000 in
theorem rm0 (l : Launch) (Z : State) (a0 : Array Value) (hw : ∀ d ∈ tables_1, d.before a0 Z = true) (ws : List Jvm.Cond) (p0 : Int32) (p1 : Int32) (p2 : Int32) (p3 : Int32) (p4 : Int32) (p5 : Int32) (w0 w1 mr wc : Addr) (kw0 kw1 : ClassId) (h0 : Heap) (n0 : Nat) (Z0 : n0 ≤ h0.size) (K : own_K Z Z.heap w0 w1 mr wc kw0 kw1) (OL : Old Z n0 h0) :
    MetFree l x (head1 (Jvm.Cond.code x code maxLocals ret :: ws) room_1) (fun a U => a = #[(.int p0), (.int p1), (.int p2), (.int p3), (.int p4), (.int p5)] ∧ Z.Warmed39 U.vm ∧ U.heap = h0) (fun _ _ _ _ _ => True) (fun _ U o U' => ∃ v L, o = .returned v ∧ Q0 n0 v U'.heap L ∧ FrameEnd U o U' L 24 256) := by
  refine MetFree.of_bodySF (plainFor_of_name pn4) hisR ?_
  intro p e s m args below meth c s₁ Bd hml0 hP hK
  obtain ⟨rfl, hZ, hh⟩ := hP
  have hx := Bd.exec
  have hby := Bd.bytes
  have hml : c.maxLocals = 23 := hml0
  have hown : s.vm.findClass "com/example/whenever/whenever/internal/engine/RowsSetRefPinLaw" = some m.cls := findClass_of_methodNamed Bd.named
  have hnm := (name_of_methodNamed Bd.named Bd.method).1
  have hlk := Bd.notSynchronized
  have X0 : Stand p l e room_1 s m #[(.int p0), (.int p1), (.int p2), (.int p3), (.int p4), (.int p5)] below meth c s₁ [] 0 0 := Stand.of_body Bd
  have e0 : s₁.heap = h0 := by rw [← hh, Bd.state]; rfl
  have K0 := K
  obtain ⟨S_w0, S_w1, E_w0, E_w1, V_w0, V_w1, MR, S_wc, S_high, CA⟩ := K
  show own_Go p e below s (Q0 n0) 24 256 (s₁.setTop (entryFrame m #[(.int p0), (.int p1), (.int p2), (.int p3), (.int p4), (.int p5)] maxLocals))
  rw [show entryFrame m #[(.int p0), (.int p1), (.int p2), (.int p3), (.int p4), (.int p5)] maxLocals = mkF m 0 #[.val (.int p0), .val (.int p1), .val (.int p2), .val (.int p3), .val (.int p4), .val (.int p5), .unset, .unset, .unset, .unset, .unset, .unset, .unset, .unset, .unset, .unset, .unset, .unset, .unset, .unset, .unset, .unset, .unset] [] from by first | (simp [entryFrame, mkF, argsToLocals, Value.category, maxLocals]; done) | rfl]
  show own_Go p e below s _ _ _ (s₁.setTop (mkF m 0 #[.val (.int p0), .val (.int p1), .val (.int p2), .val (.int p3), .val (.int p4), .val (.int p5), .unset, .unset, .unset, .unset, .unset, .unset, .unset, .unset, .unset, .unset, .unset, .unset, .unset, .unset, .unset, .unset, .unset] []))
  refine own_via (fun _ k => XS.iconst X0.here hx rfl (hb hby at_0) k) ?_
  show own_Go p e below s _ _ _ (s₁.setTop (mkF m 1 #[.val (.int p0), .val (.int p1), .val (.int p2), .val (.int p3), .val (.int p4), .val (.int p5), .unset, .unset, .unset, .unset, .unset, .unset, .unset, .unset, .unset, .unset, .unset, .unset, .unset, .unset, .unset, .unset, .unset] [(.int (1 : Int32))]))
  refine own_via (fun _ k => XS.iloadN X0.here hx rfl (hb hby at_1) rfl k) ?_
  show own_Go p e below s _ _ _ (s₁.setTop (mkF m 2 #[.val (.int p0), .val (.int p1), .val (.int p2), .val (.int p3), .val (.int p4), .val (.int p5), .unset, .unset, .unset, .unset, .unset, .unset, .unset, .unset, .unset, .unset, .unset, .unset, .unset, .unset, .unset, .unset, .unset] [(.int p0), (.int (1 : Int32))]))
  refine own_via (fun _ k => XS.iconst X0.here hx rfl (hb hby at_2) k) ?_
  show own_Go p e below s _ _ _ (s₁.setTop (mkF m 3 #[.val (.int p0), .val (.int p1), .val (.int p2), .val (.int p3), .val (.int p4), .val (.int p5), .unset, .unset, .unset, .unset, .unset, .unset, .unset, .unset, .unset, .unset, .unset, .unset, .unset, .unset, .unset, .unset, .unset] [(.int (3 : Int32)), (.int p0), (.int (1 : Int32))]))
  refine own_via (fun _ k => XS.iand X0.here hx rfl (hb hby at_3) rfl k) ?_
  show own_Go p e below s _ _ _ (s₁.setTop (mkF m 4 #[.val (.int p0), .val (.int p1), .val (.int p2), .val (.int p3), .val (.int p4), .val (.int p5), .unset, .unset, .unset, .unset, .unset, .unset, .unset, .unset, .unset, .unset, .unset, .unset, .unset, .unset, .unset, .unset, .unset] [(.int (p0 &&& (3 : Int32))), (.int (1 : Int32))]))
  refine own_via (fun _ k => XS.iadd X0.here hx rfl (hb hby at_4) rfl k) ?_
  have hrf : 1 ≤ ((1 : Int32) + (p0 &&& (3 : Int32))).toInt ∧ ((1 : Int32) + (p0 &&& (3 : Int32))).toInt ≤ 4 := own_k4 _
  obtain ⟨rf, erf⟩ : ∃ z : Int32, z = ((1 : Int32) + (p0 &&& (3 : Int32))) := ⟨_, rfl⟩
  rw [← erf] at hrf
  rw [← erf]
  show own_Go p e below s _ _ _ (s₁.setTop (mkF m 5 #[.val (.int p0), .val (.int p1), .val (.int p2), .val (.int p3), .val (.int p4), .val (.int p5), .unset, .unset, .unset, .unset, .unset, .unset, .unset, .unset, .unset, .unset, .unset, .unset, .unset, .unset, .unset, .unset, .unset] [(.int rf)]))
  refine own_via (fun _ k => XS.istore X0.here hx rfl (hb hby at_5) rfl (l' := #[.val (.int p0), .val (.int p1), .val (.int p2), .val (.int p3), .val (.int p4), .val (.int p5), .val (.int rf), .unset, .unset, .unset, .unset, .unset, .unset, .unset, .unset, .unset, .unset, .unset, .unset, .unset, .unset, .unset, .unset]) rfl k) ?_
  show own_Go p e below s _ _ _ (s₁.setTop (mkF m 7 #[.val (.int p0), .val (.int p1), .val (.int p2), .val (.int p3), .val (.int p4), .val (.int p5), .val (.int rf), .unset, .unset, .unset, .unset, .unset, .unset, .unset, .unset, .unset, .unset, .unset, .unset, .unset, .unset, .unset, .unset] []))
  refine own_via (fun _ k => XS.iconst X0.here hx rfl (hb hby at_7) k) ?_
  show own_Go p e below s _ _ _ (s₁.setTop (mkF m 8 #[.val (.int p0), .val (.int p1), .val (.int p2), .val (.int p3), .val (.int p4), .val (.int p5), .val (.int rf), .unset, .unset, .unset, .unset, .unset, .unset, .unset, .unset, .unset, .unset, .unset, .unset, .unset, .unset, .unset, .unset] [(.int (1 : Int32))]))
  refine own_via (fun _ k => XS.iloadN X0.here hx rfl (hb hby at_8) rfl k) ?_
  show own_Go p e below s _ _ _ (s₁.setTop (mkF m 9 #[.val (.int p0), .val (.int p1), .val (.int p2), .val (.int p3), .val (.int p4), .val (.int p5), .val (.int rf), .unset, .unset, .unset, .unset, .unset, .unset, .unset, .unset, .unset, .unset, .unset, .unset, .unset, .unset, .unset, .unset] [(.int p0), (.int (1 : Int32))]))
  refine own_via (fun _ k => XS.iconst X0.here hx rfl (hb hby at_9) k) ?_
  show own_Go p e below s _ _ _ (s₁.setTop (mkF m 10 #[.val (.int p0), .val (.int p1), .val (.int p2), .val (.int p3), .val (.int p4), .val (.int p5), .val (.int rf), .unset, .unset, .unset, .unset, .unset, .unset, .unset, .unset, .unset, .unset, .unset, .unset, .unset, .unset, .unset, .unset] [(.int (2 : Int32)), (.int p0), (.int (1 : Int32))]))
  refine own_via (fun _ k => XS.iushr X0.here hx rfl (hb hby at_10) rfl k) ?_
  show own_Go p e below s _ _ _ (s₁.setTop (mkF m 11 #[.val (.int p0), .val (.int p1), .val (.int p2), .val (.int p3), .val (.int p4), .val (.int p5), .val (.int rf), .unset, .unset, .unset, .unset, .unset, .unset, .unset, .unset, .unset, .unset, .unset, .unset, .unset, .unset, .unset, .unset] [(.int ((p0.toUInt32 >>> ((2 : Int32) &&& 31).toUInt32).toInt32)), (.int (1 : Int32))]))
  refine own_via (fun _ k => XS.iconst X0.here hx rfl (hb hby at_11) k) ?_
  show own_Go p e below s _ _ _ (s₁.setTop (mkF m 12 #[.val (.int p0), .val (.int p1), .val (.int p2), .val (.int p3), .val (.int p4), .val (.int p5), .val (.int rf), .unset, .unset, .unset, .unset, .unset, .unset, .unset, .unset, .unset, .unset, .unset, .unset, .unset, .unset, .unset, .unset] [(.int (3 : Int32)), (.int ((p0.toUInt32 >>> ((2 : Int32) &&& 31).toUInt32).toInt32)), (.int (1 : Int32))]))
  refine own_via (fun _ k => XS.iand X0.here hx rfl (hb hby at_12) rfl k) ?_
  show own_Go p e below s _ _ _ (s₁.setTop (mkF m 13 #[.val (.int p0), .val (.int p1), .val (.int p2), .val (.int p3), .val (.int p4), .val (.int p5), .val (.int rf), .unset, .unset, .unset, .unset, .unset, .unset, .unset, .unset, .unset, .unset, .unset, .unset, .unset, .unset, .unset, .unset] [(.int (((p0.toUInt32 >>> ((2 : Int32) &&& 31).toUInt32).toInt32) &&& (3 : Int32))), (.int (1 : Int32))]))
  refine own_via (fun _ k => XS.iadd X0.here hx rfl (hb hby at_13) rfl k) ?_
  have hkk : 1 ≤ ((1 : Int32) + (((p0.toUInt32 >>> ((2 : Int32) &&& 31).toUInt32).toInt32) &&& (3 : Int32))).toInt ∧ ((1 : Int32) + (((p0.toUInt32 >>> ((2 : Int32) &&& 31).toUInt32).toInt32) &&& (3 : Int32))).toInt ≤ 4 := own_k4 _
  obtain ⟨kk, ekk⟩ : ∃ z : Int32, z = ((1 : Int32) + (((p0.toUInt32 >>> ((2 : Int32) &&& 31).toUInt32).toInt32) &&& (3 : Int32))) := ⟨_, rfl⟩
  rw [← ekk] at hkk
  rw [← ekk]
  show own_Go p e below s _ _ _ (s₁.setTop (mkF m 14 #[.val (.int p0), .val (.int p1), .val (.int p2), .val (.int p3), .val (.int p4), .val (.int p5), .val (.int rf), .unset, .unset, .unset, .unset, .unset, .unset, .unset, .unset, .unset, .unset, .unset, .unset, .unset, .unset, .unset, .unset] [(.int kk)]))
  refine own_via (fun _ k => XS.istore X0.here hx rfl (hb hby at_14) rfl (l' := #[.val (.int p0), .val (.int p1), .val (.int p2), .val (.int p3), .val (.int p4), .val (.int p5), .val (.int rf), .val (.int kk), .unset, .unset, .unset, .unset, .unset, .unset, .unset, .unset, .unset, .unset, .unset, .unset, .unset, .unset, .unset]) rfl k) ?_
  show own_Go p e below s _ _ _ (s₁.setTop (mkF m 16 #[.val (.int p0), .val (.int p1), .val (.int p2), .val (.int p3), .val (.int p4), .val (.int p5), .val (.int rf), .val (.int kk), .unset, .unset, .unset, .unset, .unset, .unset, .unset, .unset, .unset, .unset, .unset, .unset, .unset, .unset, .unset] []))
  obtain ⟨T1, h1, X1, e1, E1, A1, D1, -, st1⟩ := newO X0 hx hZ hown (hw _ (List.mem_of_getElem? (i := 0) rfl)) (hw _ (List.mem_of_getElem? (i := 1) rfl)) (hw _ (List.mem_of_getElem? (i := 2) rfl)) e0 (g := (mkF m 16 #[.val (.int p0), .val (.int p1), .val (.int p2), .val (.int p3), .val (.int p4), .val (.int p5), .val (.int rf), .val (.int kk), .unset, .unset, .unset, .unset, .unset, .unset, .unset, .unset, .unset, .unset, .unset, .unset, .unset, .unset, .unset] [])) rfl (hb hby at_16) (by decide) (by decide)
  obtain ⟨b1, g1⟩ : ∃ z, z = h0.size := ⟨_, rfl⟩
  rw [← g1] at A1 D1 st1
  skip
  have g_b1 : n0 ≤ b1 := Nat.le_trans Z0 (Nat.le_of_eq g1.symm)
  have Z0 := Nat.le_trans Z0 E1.1
  have OL := OL.ext E1
  skip
  have OB_b1 : own_Obj0 Z h1 b1 .null .null (0 : Int32) .null (0 : Int32) (0 : Int32) (0 : Int32) .null (0 : Int32) := ⟨A1, D1 (Or.inl (hw _ (List.mem_of_getElem? (i := 15) rfl))) (ty := (.array (.array .int))) (by decide), D1 (Or.inl (hw _ (List.mem_of_getElem? (i := 22) rfl))) (ty := (.array (.array (.object "java/lang/Object")))) (by decide), D1 (Or.inl (hw _ (List.mem_of_getElem? (i := 24) rfl))) (ty := .int) (by decide), D1 (Or.inl (hw _ (List.mem_of_getElem? (i := 26) rfl))) (ty := (.array .int)) (by decide), D1 (Or.inr (hw _ (List.mem_of_getElem? (i := 28) rfl))) (ty := .int) (by decide), D1 (Or.inr (hw _ (List.mem_of_getElem? (i := 30) rfl))) (ty := .int) (by decide), D1 (Or.inl (hw _ (List.mem_of_getElem? (i := 37) rfl))) (ty := .int) (by decide), D1 (Or.inl (hw _ (List.mem_of_getElem? (i := 39) rfl))) (ty := (.object "com/example/whenever/whenever/internal/engine/Rows$LaterBlocks")) (by decide), D1 (Or.inl (hw _ (List.mem_of_getElem? (i := 41) rfl))) (ty := .int) (by decide)⟩
  refine own_via st1 ?_
  show own_Go p e below s _ _ _ (T1.setTop (mkF m 19 #[.val (.int p0), .val (.int p1), .val (.int p2), .val (.int p3), .val (.int p4), .val (.int p5), .val (.int rf), .val (.int kk), .unset, .unset, .unset, .unset, .unset, .unset, .unset, .unset, .unset, .unset, .unset, .unset, .unset, .unset, .unset] [(.ref b1)]))
  refine own_via (fun _ k => XS.dup X1.here hx rfl (hb hby at_19) rfl rfl k) ?_
  show own_Go p e below s _ _ _ (T1.setTop (mkF m 20 #[.val (.int p0), .val (.int p1), .val (.int p2), .val (.int p3), .val (.int p4), .val (.int p5), .val (.int rf), .val (.int kk), .unset, .unset, .unset, .unset, .unset, .unset, .unset, .unset, .unset, .unset, .unset, .unset, .unset, .unset, .unset] [(.ref b1), (.ref b1)]))
  refine own_via (fun _ k => XS.iload X1.here hx rfl (hb hby at_20) rfl k) ?_
  show own_Go p e below s _ _ _ (T1.setTop (mkF m 22 #[.val (.int p0), .val (.int p1), .val (.int p2), .val (.int p3), .val (.int p4), .val (.int p5), .val (.int rf), .val (.int kk), .unset, .unset, .unset, .unset, .unset, .unset, .unset, .unset, .unset, .unset, .unset, .unset, .unset, .unset, .unset] [(.int kk), (.ref b1), (.ref b1)]))
  refine own_via (fun _ k => XS.iload X1.here hx rfl (hb hby at_22) rfl k) ?_
  show own_Go p e below s _ _ _ (T1.setTop (mkF m 24 #[.val (.int p0), .val (.int p1), .val (.int p2), .val (.int p3), .val (.int p4), .val (.int p5), .val (.int rf), .val (.int kk), .unset, .unset, .unset, .unset, .unset, .unset, .unset, .unset, .unset, .unset, .unset, .unset, .unset, .unset, .unset] [(.int rf), (.int kk), (.ref b1), (.ref b1)]))
  obtain ⟨_, _, ⟨T2, L2, k2, n2⟩, -, X2, ⟨Lc2, hQ2, l2, y2, z2⟩, st2⟩ := X1.specialBack hx (y := (⟨"com/example/whenever/whenever/internal/engine/Rows", "<init>", "(II)V"⟩ : MethodName)) rfl hown (mvT hZ (hw _ (List.mem_of_getElem? (i := 3) rfl))) (mvT hZ (hw _ (List.mem_of_getElem? (i := 4) rfl))) (mvT hZ (hw _ (List.mem_of_getElem? (i := 5) rfl))) (by decide) (backOf (W := 1) (rm1_1 l Z a0 hw [] b1 kk rf w0 w1 mr wc kw0 kw1 h1 n0 Z0 K0 OL (own_lt1 hkk.1) OB_b1 g_b1) hZ (hw _ (List.mem_of_getElem? (i := 5) rfl)) (hw _ (List.mem_of_getElem? (i := 2) rfl)) (by decide) (by decide)) (g := (mkF m 24 #[.val (.int p0), .val (.int p1), .val (.int p2), .val (.int p3), .val (.int p4), .val (.int p5), .val (.int rf), .val (.int kk), .unset, .unset, .unset, .unset, .unset, .unset, .unset, .unset, .unset, .unset, .unset, .unset, .unset, .unset, .unset] [(.int rf), (.int kk), (.ref b1), (.ref b1)])) rfl (by rw [hml]; rfl) (Steps.refl _) (a := b1) (argsL := [(.int kk), (.int rf)]) (rest := [(.ref b1)]) (lenOf pd0 rfl) rfl (by show 2 * 0 + _ ≤ _; exact Nat.le_of_eq rfl) (hb hby at_24) (fun _ _ => ⟨rfl, e1, (by decide : 0 + 1 + 2 ≤ _), (by decide : 0 + 10 + 2 ≤ _)⟩)
  dsimp only [Pt.U, Pt.locs, Pt.cells, Pt.slots] at X2 l2 y2 z2 st2 hQ2
  subst l2 y2 z2
  obtain ⟨NQ2, OLq2, Zq2, KQ2, hP2⟩ := hQ2
  obtain ⟨rfl, A1, A2, k1, k2, OBq2, V_A1, V_A2, OV_A1, OV_A2, ne_b1_A1, ne_b1_A2, ne_A1_A2, -, g_A1, g_A2⟩ := hP2
  have OB_b1 := OBq2
  skip
  have OL := OLq2
  have Z0 := Zq2
  refine own_tr st2 ?_
  show own_Go p e below s _ _ _ (T2.setTop (mkF m 27 #[.val (.int p0), .val (.int p1), .val (.int p2), .val (.int p3), .val (.int p4), .val (.int p5), .val (.int rf), .val (.int kk), .unset, .unset, .unset, .unset, .unset, .unset, .unset, .unset, .unset, .unset, .unset, .unset, .unset, .unset, .unset] [(.ref b1)]))
  refine own_via (fun _ k => XS.astore X2.here hx rfl (hb hby at_27) rfl rfl (l' := #[.val (.int p0), .val (.int p1), .val (.int p2), .val (.int p3), .val (.int p4), .val (.int p5), .val (.int rf), .val (.int kk), .val (.ref b1), .unset, .unset, .unset, .unset, .unset, .unset, .unset, .unset, .unset, .unset, .unset, .unset, .unset, .unset]) rfl k) ?_
  show own_Go p e below s _ _ _ (T2.setTop (mkF m 29 #[.val (.int p0), .val (.int p1), .val (.int p2), .val (.int p3), .val (.int p4), .val (.int p5), .val (.int rf), .val (.int kk), .val (.ref b1), .unset, .unset, .unset, .unset, .unset, .unset, .unset, .unset, .unset, .unset, .unset, .unset, .unset, .unset] []))
  refine own_via (fun _ k => XS.aload X2.here hx rfl (hb hby at_29) rfl rfl k) ?_
  show own_Go p e below s _ _ _ (T2.setTop (mkF m 31 #[.val (.int p0), .val (.int p1), .val (.int p2), .val (.int p3), .val (.int p4), .val (.int p5), .val (.int rf), .val (.int kk), .val (.ref b1), .unset, .unset, .unset, .unset, .unset, .unset, .unset, .unset, .unset, .unset, .unset, .unset, .unset, .unset] [(.ref b1)]))
  obtain ⟨cq3, kq3, q3a, q3b, q3c⟩ := isOf hZ rfl OB_b1.1
  obtain ⟨_, _, ⟨T3, L3, k3, n3⟩, -, X3, ⟨Lc3, hQ3, l3, y3, z3⟩, st3⟩ := X2.virtualBack hx (y := (⟨"com/example/whenever/whenever/internal/engine/Rows", "add", "()I"⟩ : MethodName)) (z := (⟨"com/example/whenever/whenever/internal/engine/Rows", "add", "()I"⟩ : MethodName)) hown (mvT hZ (hw _ (List.mem_of_getElem? (i := 31) rfl))) (mvT hZ (hw _ (List.mem_of_getElem? (i := 32) rfl))) (notFace_of_selects (args := #[]) (mvT hZ (hw _ (List.mem_of_getElem? (i := 34) rfl)))) (mvT hZ (hw _ (List.mem_of_getElem? (i := 34) rfl))) (mvT hZ (hw _ (List.mem_of_getElem? (i := 33) rfl))) (by decide) (backOf (W := 0) (rm3_1 l Z a0 hw [] b1 A1 A2 k1 k2 kk rf w0 w1 mr wc kw0 kw1 T2.heap n0 Z0 K0 OL hkk.1 hkk.2 (Int.le_trans (by decide) hrf.1) hrf.2 ⟨OB_b1, V_A1, V_A2, OV_A1, OV_A2, ne_b1_A1, ne_b1_A2, ne_A1_A2, g_b1, g_A1, g_A2⟩) hZ (hw _ (List.mem_of_getElem? (i := 35) rfl)) (hw _ (List.mem_of_getElem? (i := 2) rfl)) (by decide) (by decide)) q3a q3c (g := (mkF m 31 #[.val (.int p0), .val (.int p1), .val (.int p2), .val (.int p3), .val (.int p4), .val (.int p5), .val (.int rf), .val (.int kk), .val (.ref b1), .unset, .unset, .unset, .unset, .unset, .unset, .unset, .unset, .unset, .unset, .unset, .unset, .unset, .unset] [(.ref b1)])) rfl (by rw [hml]; rfl) (Steps.refl _) (argsL := []) (rest := []) (lenOf pd4 rfl) rfl (by show 2 * 0 + _ ≤ _; exact Nat.le_of_eq rfl) (hb hby at_31) (fun _ _ => ⟨rfl, rfl, (by decide : 0 + 1 + 2 + 2 ≤ _), (by decide : 0 + 10 + 2 + 64 ≤ _)⟩)
  dsimp only [Pt.U, Pt.locs, Pt.cells, Pt.slots] at X3 l3 y3 z3 st3 hQ3
  subst l3 y3 z3
  obtain ⟨NQ3, OLq3, Zq3, KQ3, hP3⟩ := hQ3
  obtain ⟨rfl, I, R, kI, kR, ⟨OBq3, Vq3a, Vq3b, -, -, -, -, -, -, -, -⟩, V_I, AR_R, OVR_R, ne_b1_I, ne_A1_I, ne_A2_I, ne_b1_R, ne_A1_R, ne_A2_R, ne_I_R, szI3, szR3⟩ := hP3
  have g_I : n0 ≤ I := Nat.le_trans Z0 szI3
  have g_R : n0 ≤ R := Nat.le_trans Z0 szR3
  have OB_b1 := OBq3
  have V_A1 := Vq3a
  have V_A2 := Vq3b
  skip
  have OL := OLq3
  have Z0 := Zq3
  refine own_tr st3 ?_
  obtain ⟨cl, ecl⟩ : ∃ z, z = newA kR (.object "java/lang/Object") ((8 : Int32) * rf) := ⟨_, rfl⟩
  rw [← ecl] at AR_R
  have SR : cl.slots.size = ((8 : Int32) * rf).toNatClampNeg := by rw [ecl]; exact sz_new _ _ _
  have CR : cl.cls = kR := by rw [ecl]; rfl
  have NR : ∀ j : Int32, ¬ (j < 0 ∨ cl.slots.size ≤ j.toNatClampNeg) → cl.slots[j.toNatClampNeg]? = some .null := by
    intro j hj; rw [SR] at hj; rw [ecl]; exact get_new hj
  show own_Go p e below s _ _ _ (T3.setTop (mkF m 34 #[.val (.int p0), .val (.int p1), .val (.int p2), .val (.int p3), .val (.int p4), .val (.int p5), .val (.int rf), .val (.int kk), .val (.ref b1), .unset, .unset, .unset, .unset, .unset, .unset, .unset, .unset, .unset, .unset, .unset, .unset, .unset, .unset] [(.int (1 : Int32))]))
  refine own_via (fun _ k => XS.istore X3.here hx rfl (hb hby at_34) rfl (l' := #[.val (.int p0), .val (.int p1), .val (.int p2), .val (.int p3), .val (.int p4), .val (.int p5), .val (.int rf), .val (.int kk), .val (.ref b1), .val (.int (1 : Int32)), .unset, .unset, .unset, .unset, .unset, .unset, .unset, .unset, .unset, .unset, .unset, .unset, .unset]) rfl k) ?_
  show own_Go p e below s _ _ _ (T3.setTop (mkF m 36 #[.val (.int p0), .val (.int p1), .val (.int p2), .val (.int p3), .val (.int p4), .val (.int p5), .val (.int rf), .val (.int kk), .val (.ref b1), .val (.int (1 : Int32)), .unset, .unset, .unset, .unset, .unset, .unset, .unset, .unset, .unset, .unset, .unset, .unset, .unset] []))
  refine own_via (fun _ k => XS.aload X3.here hx rfl (hb hby at_36) rfl rfl k) ?_
  show own_Go p e below s _ _ _ (T3.setTop (mkF m 38 #[.val (.int p0), .val (.int p1), .val (.int p2), .val (.int p3), .val (.int p4), .val (.int p5), .val (.int rf), .val (.int kk), .val (.ref b1), .val (.int (1 : Int32)), .unset, .unset, .unset, .unset, .unset, .unset, .unset, .unset, .unset, .unset, .unset, .unset, .unset] [(.ref b1)]))
  obtain ⟨cq4, kq4, q4a, q4b, q4c⟩ := isOf hZ rfl OB_b1.1
  obtain ⟨_, _, ⟨T4, L4, k4, n4⟩, -, X4, ⟨Lc4, hQ4, l4, y4, z4⟩, st4⟩ := X3.virtualBack hx (y := (⟨"com/example/whenever/whenever/internal/engine/Rows", "add", "()I"⟩ : MethodName)) (z := (⟨"com/example/whenever/whenever/internal/engine/Rows", "add", "()I"⟩ : MethodName)) hown (mvT hZ (hw _ (List.mem_of_getElem? (i := 31) rfl))) (mvT hZ (hw _ (List.mem_of_getElem? (i := 32) rfl))) (notFace_of_selects (args := #[]) (mvT hZ (hw _ (List.mem_of_getElem? (i := 34) rfl)))) (mvT hZ (hw _ (List.mem_of_getElem? (i := 34) rfl))) (mvT hZ (hw _ (List.mem_of_getElem? (i := 33) rfl))) (by decide) (backOf (W := 0) (rm3_2 l Z a0 hw [] b1 A1 A2 I R k1 k2 kk rf w0 w1 mr wc kw0 kw1 T3.heap n0 Z0 K0 OL ⟨OB_b1, V_A1, V_A2, OV_A1, OV_A2, ne_b1_A1, ne_b1_A2, ne_A1_A2, g_b1, g_A1, g_A2⟩) hZ (hw _ (List.mem_of_getElem? (i := 35) rfl)) (hw _ (List.mem_of_getElem? (i := 2) rfl)) (by decide) (by decide)) q4a q4c (g := (mkF m 38 #[.val (.int p0), .val (.int p1), .val (.int p2), .val (.int p3), .val (.int p4), .val (.int p5), .val (.int rf), .val (.int kk), .val (.ref b1), .val (.int (1 : Int32)), .unset, .unset, .unset, .unset, .unset, .unset, .unset, .unset, .unset, .unset, .unset, .unset, .unset] [(.ref b1)])) rfl (by rw [hml]; rfl) (Steps.refl _) (argsL := []) (rest := []) (lenOf pd4 rfl) rfl (by show 2 * 0 + _ ≤ _; exact Nat.le_of_eq rfl) (hb hby at_38) (fun _ _ => ⟨rfl, rfl, (by decide : 0 + 1 + 2 + 2 + 0 ≤ _), (by decide : 0 + 10 + 2 + 64 + 0 ≤ _)⟩)
  dsimp only [Pt.U, Pt.locs, Pt.cells, Pt.slots] at X4 l4 y4 z4 st4 hQ4
  subst l4 y4 z4
  obtain ⟨NQ4, OLq4, Zq4, KQ4, hP4⟩ := hQ4
  obtain ⟨rfl, ⟨OBq4, Vq4a, Vq4b, -, -, -, -, -, -, -, -⟩⟩ := hP4
  have V_A1 := V_A1.keep KQ4 (ninS (Ne.symm ne_b1_A1) nin0)
  have V_A2 := V_A2.keep KQ4 (ninS (Ne.symm ne_b1_A2) nin0)
  have V_I := V_I.keep KQ4 (ninS (Ne.symm ne_b1_I) nin0)
  have AR_R := own_arrKeep AR_R KQ4 (ninS (Ne.symm ne_b1_R) nin0)
  have OB_b1 := OBq4
  skip
  have OL := OLq4
  have Z0 := Zq4
  refine own_tr st4 ?_
  show own_Go p e below s _ _ _ (T4.setTop (mkF m 41 #[.val (.int p0), .val (.int p1), .val (.int p2), .val (.int p3), .val (.int p4), .val (.int p5), .val (.int rf), .val (.int kk), .val (.ref b1), .val (.int (1 : Int32)), .unset, .unset, .unset, .unset, .unset, .unset, .unset, .unset, .unset, .unset, .unset, .unset, .unset] [(.int ((1 : Int32) + (1 : Int32)))]))
  refine own_via (fun _ k => XS.istore X4.here hx rfl (hb hby at_41) rfl (l' := #[.val (.int p0), .val (.int p1), .val (.int p2), .val (.int p3), .val (.int p4), .val (.int p5), .val (.int rf), .val (.int kk), .val (.ref b1), .val (.int (1 : Int32)), .val (.int ((1 : Int32) + (1 : Int32))), .unset, .unset, .unset, .unset, .unset, .unset, .unset, .unset, .unset, .unset, .unset, .unset]) rfl k) ?_
  show own_Go p e below s _ _ _ (T4.setTop (mkF m 43 #[.val (.int p0), .val (.int p1), .val (.int p2), .val (.int p3), .val (.int p4), .val (.int p5), .val (.int rf), .val (.int kk), .val (.ref b1), .val (.int (1 : Int32)), .val (.int ((1 : Int32) + (1 : Int32))), .unset, .unset, .unset, .unset, .unset, .unset, .unset, .unset, .unset, .unset, .unset, .unset] []))
  refine own_via (fun _ k => XS.aload X4.here hx rfl (hb hby at_43) rfl rfl k) ?_
  show own_Go p e below s _ _ _ (T4.setTop (mkF m 45 #[.val (.int p0), .val (.int p1), .val (.int p2), .val (.int p3), .val (.int p4), .val (.int p5), .val (.int rf), .val (.int kk), .val (.ref b1), .val (.int (1 : Int32)), .val (.int ((1 : Int32) + (1 : Int32))), .unset, .unset, .unset, .unset, .unset, .unset, .unset, .unset, .unset, .unset, .unset, .unset] [(.ref b1)]))
  obtain ⟨cq5, kq5, q5a, q5b, q5c⟩ := isOf hZ rfl OB_b1.1
  obtain ⟨_, _, ⟨T5, L5, k5, n5⟩, -, X5, ⟨Lc5, hQ5, l5, y5, z5⟩, st5⟩ := X4.virtualBack hx (y := (⟨"com/example/whenever/whenever/internal/engine/Rows", "add", "()I"⟩ : MethodName)) (z := (⟨"com/example/whenever/whenever/internal/engine/Rows", "add", "()I"⟩ : MethodName)) hown (mvT hZ (hw _ (List.mem_of_getElem? (i := 31) rfl))) (mvT hZ (hw _ (List.mem_of_getElem? (i := 32) rfl))) (notFace_of_selects (args := #[]) (mvT hZ (hw _ (List.mem_of_getElem? (i := 34) rfl)))) (mvT hZ (hw _ (List.mem_of_getElem? (i := 34) rfl))) (mvT hZ (hw _ (List.mem_of_getElem? (i := 33) rfl))) (by decide) (backOf (W := 0) (rm3_3 l Z a0 hw [] b1 A1 A2 I R k1 k2 kk rf w0 w1 mr wc kw0 kw1 T4.heap n0 Z0 K0 OL ⟨OB_b1, V_A1, V_A2, OV_A1, OV_A2, ne_b1_A1, ne_b1_A2, ne_A1_A2, g_b1, g_A1, g_A2⟩) hZ (hw _ (List.mem_of_getElem? (i := 35) rfl)) (hw _ (List.mem_of_getElem? (i := 2) rfl)) (by decide) (by decide)) q5a q5c (g := (mkF m 45 #[.val (.int p0), .val (.int p1), .val (.int p2), .val (.int p3), .val (.int p4), .val (.int p5), .val (.int rf), .val (.int kk), .val (.ref b1), .val (.int (1 : Int32)), .val (.int ((1 : Int32) + (1 : Int32))), .unset, .unset, .unset, .unset, .unset, .unset, .unset, .unset, .unset, .unset, .unset, .unset] [(.ref b1)])) rfl (by rw [hml]; rfl) (Steps.refl _) (argsL := []) (rest := []) (lenOf pd4 rfl) rfl (by show 2 * 0 + _ ≤ _; exact Nat.le_of_eq rfl) (hb hby at_45) (fun _ _ => ⟨rfl, rfl, (by decide : 0 + 1 + 2 + 2 + 0 + 0 ≤ _), (by decide : 0 + 10 + 2 + 64 + 0 + 0 ≤ _)⟩)
  dsimp only [Pt.U, Pt.locs, Pt.cells, Pt.slots] at X5 l5 y5 z5 st5 hQ5
  subst l5 y5 z5
  obtain ⟨NQ5, OLq5, Zq5, KQ5, hP5⟩ := hQ5
  obtain ⟨rfl, ⟨OBq5, Vq5a, Vq5b, -, -, -, -, -, -, -, -⟩⟩ := hP5
  have V_A1 := V_A1.keep KQ5 (ninS (Ne.symm ne_b1_A1) nin0)
  have V_A2 := V_A2.keep KQ5 (ninS (Ne.symm ne_b1_A2) nin0)
  have V_I := V_I.keep KQ5 (ninS (Ne.symm ne_b1_I) nin0)
  have AR_R := own_arrKeep AR_R KQ5 (ninS (Ne.symm ne_b1_R) nin0)
  have OB_b1 := OBq5
  skip
  have OL := OLq5
  have Z0 := Zq5
  refine own_tr st5 ?_
  show own_Go p e below s _ _ _ (T5.setTop (mkF m 48 #[.val (.int p0), .val (.int p1), .val (.int p2), .val (.int p3), .val (.int p4), .val (.int p5), .val (.int rf), .val (.int kk), .val (.ref b1), .val (.int (1 : Int32)), .val (.int ((1 : Int32) + (1 : Int32))), .unset, .unset, .unset, .unset, .unset, .unset, .unset, .unset, .unset, .unset, .unset, .unset] [(.int (((1 : Int32) + (1 : Int32)) + (1 : Int32)))]))
  refine own_via (fun _ k => XS.istore X5.here hx rfl (hb hby at_48) rfl (l' := #[.val (.int p0), .val (.int p1), .val (.int p2), .val (.int p3), .val (.int p4), .val (.int p5), .val (.int rf), .val (.int kk), .val (.ref b1), .val (.int (1 : Int32)), .val (.int ((1 : Int32) + (1 : Int32))), .val (.int (((1 : Int32) + (1 : Int32)) + (1 : Int32))), .unset, .unset, .unset, .unset, .unset, .unset, .unset, .unset, .unset, .unset, .unset]) rfl k) ?_
  show own_Go p e below s _ _ _ (T5.setTop (mkF m 50 #[.val (.int p0), .val (.int p1), .val (.int p2), .val (.int p3), .val (.int p4), .val (.int p5), .val (.int rf), .val (.int kk), .val (.ref b1), .val (.int (1 : Int32)), .val (.int ((1 : Int32) + (1 : Int32))), .val (.int (((1 : Int32) + (1 : Int32)) + (1 : Int32))), .unset, .unset, .unset, .unset, .unset, .unset, .unset, .unset, .unset, .unset, .unset] []))
  refine own_via (fun _ k => XS.iloadN X5.here hx rfl (hb hby at_50) rfl k) ?_
  show own_Go p e below s _ _ _ (T5.setTop (mkF m 51 #[.val (.int p0), .val (.int p1), .val (.int p2), .val (.int p3), .val (.int p4), .val (.int p5), .val (.int rf), .val (.int kk), .val (.ref b1), .val (.int (1 : Int32)), .val (.int ((1 : Int32) + (1 : Int32))), .val (.int (((1 : Int32) + (1 : Int32)) + (1 : Int32))), .unset, .unset, .unset, .unset, .unset, .unset, .unset, .unset, .unset, .unset, .unset] [(.int p1)]))
  refine own_via (fun _ k => XS.sipush X5.here hx rfl (hb hby at_51) k) ?_
  show own_Go p e below s _ _ _ (T5.setTop (mkF m 54 #[.val (.int p0), .val (.int p1), .val (.int p2), .val (.int p3), .val (.int p4), .val (.int p5), .val (.int rf), .val (.int kk), .val (.ref b1), .val (.int (1 : Int32)), .val (.int ((1 : Int32) + (1 : Int32))), .val (.int (((1 : Int32) + (1 : Int32)) + (1 : Int32))), .unset, .unset, .unset, .unset, .unset, .unset, .unset, .unset, .unset, .unset, .unset] [(.int (255 : Int32)), (.int p1)]))
  refine own_via (fun _ k => XS.iand X5.here hx rfl (hb hby at_54) rfl k) ?_
  show own_Go p e below s _ _ _ (T5.setTop (mkF m 55 #[.val (.int p0), .val (.int p1), .val (.int p2), .val (.int p3), .val (.int p4), .val (.int p5), .val (.int rf), .val (.int kk), .val (.ref b1), .val (.int (1 : Int32)), .val (.int ((1 : Int32) + (1 : Int32))), .val (.int (((1 : Int32) + (1 : Int32)) + (1 : Int32))), .unset, .unset, .unset, .unset, .unset, .unset, .unset, .unset, .unset, .unset, .unset] [(.int (p1 &&& (255 : Int32)))]))
  refine own_via (fun _ k => XS.iload X5.here hx rfl (hb hby at_55) rfl k) ?_
  show own_Go p e below s _ _ _ (T5.setTop (mkF m 57 #[.val (.int p0), .val (.int p1), .val (.int p2), .val (.int p3), .val (.int p4), .val (.int p5), .val (.int rf), .val (.int kk), .val (.ref b1), .val (.int (1 : Int32)), .val (.int ((1 : Int32) + (1 : Int32))), .val (.int (((1 : Int32) + (1 : Int32)) + (1 : Int32))), .unset, .unset, .unset, .unset, .unset, .unset, .unset, .unset, .unset, .unset, .unset] [(.int (1 : Int32)), (.int (p1 &&& (255 : Int32)))]))
  refine own_via (fun _ k => XS.iload X5.here hx rfl (hb hby at_57) rfl k) ?_
  show own_Go p e below s _ _ _ (T5.setTop (mkF m 59 #[.val (.int p0), .val (.int p1), .val (.int p2), .val (.int p3), .val (.int p4), .val (.int p5), .val (.int rf), .val (.int kk), .val (.ref b1), .val (.int (1 : Int32)), .val (.int ((1 : Int32) + (1 : Int32))), .val (.int (((1 : Int32) + (1 : Int32)) + (1 : Int32))), .unset, .unset, .unset, .unset, .unset, .unset, .unset, .unset, .unset, .unset, .unset] [(.int ((1 : Int32) + (1 : Int32))), (.int (1 : Int32)), (.int (p1 &&& (255 : Int32)))]))
  refine own_via (fun _ k => XS.iload X5.here hx rfl (hb hby at_59) rfl k) ?_
  show own_Go p e below s _ _ _ (T5.setTop (mkF m 61 #[.val (.int p0), .val (.int p1), .val (.int p2), .val (.int p3), .val (.int p4), .val (.int p5), .val (.int rf), .val (.int kk), .val (.ref b1), .val (.int (1 : Int32)), .val (.int ((1 : Int32) + (1 : Int32))), .val (.int (((1 : Int32) + (1 : Int32)) + (1 : Int32))), .unset, .unset, .unset, .unset, .unset, .unset, .unset, .unset, .unset, .unset, .unset] [(.int (((1 : Int32) + (1 : Int32)) + (1 : Int32))), (.int ((1 : Int32) + (1 : Int32))), (.int (1 : Int32)), (.int (p1 &&& (255 : Int32)))]))
  obtain ⟨_, _, ⟨T6, L6, k6, n6⟩, -, X6, ⟨Lc6, hQ6, l6, y6, z6⟩, st6⟩ := Jvm.LawKit.callS X5 hx (y := (⟨"com/example/whenever/whenever/internal/engine/RowsSetRefPinLaw", "pick", "(IIII)I"⟩ : MethodName)) hown (mvT hZ (hw _ (List.mem_of_getElem? (i := 76) rfl))) (mvT hZ (hw _ (List.mem_of_getElem? (i := 77) rfl))) (mvT hZ (hw _ (List.mem_of_getElem? (i := 78) rfl))) (mvT hZ (hw _ (List.mem_of_getElem? (i := 79) rfl))) (by decide) (backOf (W := 0) (rm10_1 l Z a0 hw [] (p1 &&& (255 : Int32)) w0 w1 mr wc kw0 kw1 T5.heap n0 Z0 K0 OL ) hZ (hw _ (List.mem_of_getElem? (i := 79) rfl)) (hw _ (List.mem_of_getElem? (i := 78) rfl)) (by decide) (by decide)) (g := (mkF m 61 #[.val (.int p0), .val (.int p1), .val (.int p2), .val (.int p3), .val (.int p4), .val (.int p5), .val (.int rf), .val (.int kk), .val (.ref b1), .val (.int (1 : Int32)), .val (.int ((1 : Int32) + (1 : Int32))), .val (.int (((1 : Int32) + (1 : Int32)) + (1 : Int32))), .unset, .unset, .unset, .unset, .unset, .unset, .unset, .unset, .unset, .unset, .unset] [(.int (((1 : Int32) + (1 : Int32)) + (1 : Int32))), (.int ((1 : Int32) + (1 : Int32))), (.int (1 : Int32)), (.int (p1 &&& (255 : Int32)))])) rfl (by rw [hml]; rfl) (argsL := [(.int (p1 &&& (255 : Int32))), (.int (1 : Int32)), (.int ((1 : Int32) + (1 : Int32))), (.int (((1 : Int32) + (1 : Int32)) + (1 : Int32)))]) (rest := []) (lenOf pd5 rfl) rfl (by show 2 * 0 + _ ≤ _; exact Nat.le_of_eq rfl) (hb hby at_61) (fun _ _ => ⟨rfl, rfl, (by decide : 0 + 1 + 2 + 2 + 0 + 0 + 0 ≤ _), (by decide : 0 + 10 + 2 + 64 + 0 + 0 + 0 ≤ _)⟩)
  dsimp only [Pt.U, Pt.locs, Pt.cells, Pt.slots] at X6 l6 y6 z6 st6 hQ6
  subst l6 y6 z6
  obtain ⟨NQ6, OLq6, Zq6, KQ6, hP6⟩ := hQ6
  obtain ⟨r6, rfl, hr6⟩ := hP6
  have OB_b1 := OB_b1.keep KQ6 nin0
  have V_A1 := V_A1.keep KQ6 nin0
  have V_A2 := V_A2.keep KQ6 nin0
  have V_I := V_I.keep KQ6 nin0
  have AR_R := own_arrKeep AR_R KQ6 nin0
  skip
  have OL := OLq6
  have Z0 := Zq6
  refine own_via st6 ?_
  show own_Go p e below s _ _ _ (T6.setTop (mkF m 64 #[.val (.int p0), .val (.int p1), .val (.int p2), .val (.int p3), .val (.int p4), .val (.int p5), .val (.int rf), .val (.int kk), .val (.ref b1), .val (.int (1 : Int32)), .val (.int ((1 : Int32) + (1 : Int32))), .val (.int (((1 : Int32) + (1 : Int32)) + (1 : Int32))), .unset, .unset, .unset, .unset, .unset, .unset, .unset, .unset, .unset, .unset, .unset] [(.int r6)]))
  refine own_via (fun _ k => XS.istore X6.here hx rfl (hb hby at_64) rfl (l' := #[.val (.int p0), .val (.int p1), .val (.int p2), .val (.int p3), .val (.int p4), .val (.int p5), .val (.int rf), .val (.int kk), .val (.ref b1), .val (.int (1 : Int32)), .val (.int ((1 : Int32) + (1 : Int32))), .val (.int (((1 : Int32) + (1 : Int32)) + (1 : Int32))), .val (.int r6), .unset, .unset, .unset, .unset, .unset, .unset, .unset, .unset, .unset, .unset]) rfl k) ?_
  show own_Go p e below s _ _ _ (T6.setTop (mkF m 66 #[.val (.int p0), .val (.int p1), .val (.int p2), .val (.int p3), .val (.int p4), .val (.int p5), .val (.int rf), .val (.int kk), .val (.ref b1), .val (.int (1 : Int32)), .val (.int ((1 : Int32) + (1 : Int32))), .val (.int (((1 : Int32) + (1 : Int32)) + (1 : Int32))), .val (.int r6), .unset, .unset, .unset, .unset, .unset, .unset, .unset, .unset, .unset, .unset] []))
  refine own_via (fun _ k => XS.iloadN X6.here hx rfl (hb hby at_66) rfl k) ?_
  show own_Go p e below s _ _ _ (T6.setTop (mkF m 67 #[.val (.int p0), .val (.int p1), .val (.int p2), .val (.int p3), .val (.int p4), .val (.int p5), .val (.int rf), .val (.int kk), .val (.ref b1), .val (.int (1 : Int32)), .val (.int ((1 : Int32) + (1 : Int32))), .val (.int (((1 : Int32) + (1 : Int32)) + (1 : Int32))), .val (.int r6), .unset, .unset, .unset, .unset, .unset, .unset, .unset, .unset, .unset, .unset] [(.int p1)]))
  refine own_via (fun _ k => XS.bipush X6.here hx rfl (hb hby at_67) k) ?_
  show own_Go p e below s _ _ _ (T6.setTop (mkF m 69 #[.val (.int p0), .val (.int p1), .val (.int p2), .val (.int p3), .val (.int p4), .val (.int p5), .val (.int rf), .val (.int kk), .val (.ref b1), .val (.int (1 : Int32)), .val (.int ((1 : Int32) + (1 : Int32))), .val (.int (((1 : Int32) + (1 : Int32)) + (1 : Int32))), .val (.int r6), .unset, .unset, .unset, .unset, .unset, .unset, .unset, .unset, .unset, .unset] [(.int (8 : Int32)), (.int p1)]))
  refine own_via (fun _ k => XS.iushr X6.here hx rfl (hb hby at_69) rfl k) ?_
  show own_Go p e below s _ _ _ (T6.setTop (mkF m 70 #[.val (.int p0), .val (.int p1), .val (.int p2), .val (.int p3), .val (.int p4), .val (.int p5), .val (.int rf), .val (.int kk), .val (.ref b1), .val (.int (1 : Int32)), .val (.int ((1 : Int32) + (1 : Int32))), .val (.int (((1 : Int32) + (1 : Int32)) + (1 : Int32))), .val (.int r6), .unset, .unset, .unset, .unset, .unset, .unset, .unset, .unset, .unset, .unset] [(.int ((p1.toUInt32 >>> ((8 : Int32) &&& 31).toUInt32).toInt32))]))
  refine own_via (fun _ k => XS.sipush X6.here hx rfl (hb hby at_70) k) ?_
  show own_Go p e below s _ _ _ (T6.setTop (mkF m 73 #[.val (.int p0), .val (.int p1), .val (.int p2), .val (.int p3), .val (.int p4), .val (.int p5), .val (.int rf), .val (.int kk), .val (.ref b1), .val (.int (1 : Int32)), .val (.int ((1 : Int32) + (1 : Int32))), .val (.int (((1 : Int32) + (1 : Int32)) + (1 : Int32))), .val (.int r6), .unset, .unset, .unset, .unset, .unset, .unset, .unset, .unset, .unset, .unset] [(.int (255 : Int32)), (.int ((p1.toUInt32 >>> ((8 : Int32) &&& 31).toUInt32).toInt32))]))
  refine own_via (fun _ k => XS.iand X6.here hx rfl (hb hby at_73) rfl k) ?_
  show own_Go p e below s _ _ _ (T6.setTop (mkF m 74 #[.val (.int p0), .val (.int p1), .val (.int p2), .val (.int p3), .val (.int p4), .val (.int p5), .val (.int rf), .val (.int kk), .val (.ref b1), .val (.int (1 : Int32)), .val (.int ((1 : Int32) + (1 : Int32))), .val (.int (((1 : Int32) + (1 : Int32)) + (1 : Int32))), .val (.int r6), .unset, .unset, .unset, .unset, .unset, .unset, .unset, .unset, .unset, .unset] [(.int (((p1.toUInt32 >>> ((8 : Int32) &&& 31).toUInt32).toInt32) &&& (255 : Int32)))]))
  refine own_via (fun _ k => XS.iload X6.here hx rfl (hb hby at_74) rfl k) ?_
  show own_Go p e below s _ _ _ (T6.setTop (mkF m 76 #[.val (.int p0), .val (.int p1), .val (.int p2), .val (.int p3), .val (.int p4), .val (.int p5), .val (.int rf), .val (.int kk), .val (.ref b1), .val (.int (1 : Int32)), .val (.int ((1 : Int32) + (1 : Int32))), .val (.int (((1 : Int32) + (1 : Int32)) + (1 : Int32))), .val (.int r6), .unset, .unset, .unset, .unset, .unset, .unset, .unset, .unset, .unset, .unset] [(.int rf), (.int (((p1.toUInt32 >>> ((8 : Int32) &&& 31).toUInt32).toInt32) &&& (255 : Int32)))]))
  refine own_via (fun _ k => iremM X6 hx rfl (hb hby at_76) rfl (own_n0 hrf.1) k) ?_
  have hfb7 : 0 ≤ ((((p1.toUInt32 >>> ((8 : Int32) &&& 31).toUInt32).toInt32) &&& (255 : Int32)) % rf).toInt ∧ ((((p1.toUInt32 >>> ((8 : Int32) &&& 31).toUInt32).toInt32) &&& (255 : Int32)) % rf).toInt < rf.toInt := own_fb rfl (Int.lt_of_lt_of_le (by decide) hrf.1) (own_p255 _)
  obtain ⟨f7, hf7⟩ : ∃ z : Int32, z = ((((p1.toUInt32 >>> ((8 : Int32) &&& 31).toUInt32).toInt32) &&& (255 : Int32)) % rf) := ⟨_, rfl⟩
  rw [← hf7] at hfb7
  rw [← hf7]
  show own_Go p e below s _ _ _ (T6.setTop (mkF m 77 #[.val (.int p0), .val (.int p1), .val (.int p2), .val (.int p3), .val (.int p4), .val (.int p5), .val (.int rf), .val (.int kk), .val (.ref b1), .val (.int (1 : Int32)), .val (.int ((1 : Int32) + (1 : Int32))), .val (.int (((1 : Int32) + (1 : Int32)) + (1 : Int32))), .val (.int r6), .unset, .unset, .unset, .unset, .unset, .unset, .unset, .unset, .unset, .unset] [(.int f7)]))
  refine own_via (fun _ k => XS.istore X6.here hx rfl (hb hby at_77) rfl (l' := #[.val (.int p0), .val (.int p1), .val (.int p2), .val (.int p3), .val (.int p4), .val (.int p5), .val (.int rf), .val (.int kk), .val (.ref b1), .val (.int (1 : Int32)), .val (.int ((1 : Int32) + (1 : Int32))), .val (.int (((1 : Int32) + (1 : Int32)) + (1 : Int32))), .val (.int r6), .val (.int f7), .unset, .unset, .unset, .unset, .unset, .unset, .unset, .unset, .unset]) rfl k) ?_
  show own_Go p e below s _ _ _ (T6.setTop (mkF m 79 #[.val (.int p0), .val (.int p1), .val (.int p2), .val (.int p3), .val (.int p4), .val (.int p5), .val (.int rf), .val (.int kk), .val (.ref b1), .val (.int (1 : Int32)), .val (.int ((1 : Int32) + (1 : Int32))), .val (.int (((1 : Int32) + (1 : Int32)) + (1 : Int32))), .val (.int r6), .val (.int f7), .unset, .unset, .unset, .unset, .unset, .unset, .unset, .unset, .unset] []))
  refine own_via (fun _ k => XS.iloadN X6.here hx rfl (hb hby at_79) rfl k) ?_
  show own_Go p e below s _ _ _ (T6.setTop (mkF m 80 #[.val (.int p0), .val (.int p1), .val (.int p2), .val (.int p3), .val (.int p4), .val (.int p5), .val (.int rf), .val (.int kk), .val (.ref b1), .val (.int (1 : Int32)), .val (.int ((1 : Int32) + (1 : Int32))), .val (.int (((1 : Int32) + (1 : Int32)) + (1 : Int32))), .val (.int r6), .val (.int f7), .unset, .unset, .unset, .unset, .unset, .unset, .unset, .unset, .unset] [(.int p2)]))
  refine own_via (fun _ k => XS.sipush X6.here hx rfl (hb hby at_80) k) ?_
  show own_Go p e below s _ _ _ (T6.setTop (mkF m 83 #[.val (.int p0), .val (.int p1), .val (.int p2), .val (.int p3), .val (.int p4), .val (.int p5), .val (.int rf), .val (.int kk), .val (.ref b1), .val (.int (1 : Int32)), .val (.int ((1 : Int32) + (1 : Int32))), .val (.int (((1 : Int32) + (1 : Int32)) + (1 : Int32))), .val (.int r6), .val (.int f7), .unset, .unset, .unset, .unset, .unset, .unset, .unset, .unset, .unset] [(.int (255 : Int32)), (.int p2)]))
  refine own_via (fun _ k => XS.iand X6.here hx rfl (hb hby at_83) rfl k) ?_
  show own_Go p e below s _ _ _ (T6.setTop (mkF m 84 #[.val (.int p0), .val (.int p1), .val (.int p2), .val (.int p3), .val (.int p4), .val (.int p5), .val (.int rf), .val (.int kk), .val (.ref b1), .val (.int (1 : Int32)), .val (.int ((1 : Int32) + (1 : Int32))), .val (.int (((1 : Int32) + (1 : Int32)) + (1 : Int32))), .val (.int r6), .val (.int f7), .unset, .unset, .unset, .unset, .unset, .unset, .unset, .unset, .unset] [(.int (p2 &&& (255 : Int32)))]))
  refine own_via (fun _ k => XS.iload X6.here hx rfl (hb hby at_84) rfl k) ?_
  show own_Go p e below s _ _ _ (T6.setTop (mkF m 86 #[.val (.int p0), .val (.int p1), .val (.int p2), .val (.int p3), .val (.int p4), .val (.int p5), .val (.int rf), .val (.int kk), .val (.ref b1), .val (.int (1 : Int32)), .val (.int ((1 : Int32) + (1 : Int32))), .val (.int (((1 : Int32) + (1 : Int32)) + (1 : Int32))), .val (.int r6), .val (.int f7), .unset, .unset, .unset, .unset, .unset, .unset, .unset, .unset, .unset] [(.int (1 : Int32)), (.int (p2 &&& (255 : Int32)))]))
  refine own_via (fun _ k => XS.iload X6.here hx rfl (hb hby at_86) rfl k) ?_
  show own_Go p e below s _ _ _ (T6.setTop (mkF m 88 #[.val (.int p0), .val (.int p1), .val (.int p2), .val (.int p3), .val (.int p4), .val (.int p5), .val (.int rf), .val (.int kk), .val (.ref b1), .val (.int (1 : Int32)), .val (.int ((1 : Int32) + (1 : Int32))), .val (.int (((1 : Int32) + (1 : Int32)) + (1 : Int32))), .val (.int r6), .val (.int f7), .unset, .unset, .unset, .unset, .unset, .unset, .unset, .unset, .unset] [(.int ((1 : Int32) + (1 : Int32))), (.int (1 : Int32)), (.int (p2 &&& (255 : Int32)))]))
  refine own_via (fun _ k => XS.iload X6.here hx rfl (hb hby at_88) rfl k) ?_
  show own_Go p e below s _ _ _ (T6.setTop (mkF m 90 #[.val (.int p0), .val (.int p1), .val (.int p2), .val (.int p3), .val (.int p4), .val (.int p5), .val (.int rf), .val (.int kk), .val (.ref b1), .val (.int (1 : Int32)), .val (.int ((1 : Int32) + (1 : Int32))), .val (.int (((1 : Int32) + (1 : Int32)) + (1 : Int32))), .val (.int r6), .val (.int f7), .unset, .unset, .unset, .unset, .unset, .unset, .unset, .unset, .unset] [(.int (((1 : Int32) + (1 : Int32)) + (1 : Int32))), (.int ((1 : Int32) + (1 : Int32))), (.int (1 : Int32)), (.int (p2 &&& (255 : Int32)))]))
  obtain ⟨_, _, ⟨T8, L8, k8, n8⟩, -, X8, ⟨Lc8, hQ8, l8, y8, z8⟩, st8⟩ := Jvm.LawKit.callS X6 hx (y := (⟨"com/example/whenever/whenever/internal/engine/RowsSetRefPinLaw", "pick", "(IIII)I"⟩ : MethodName)) hown (mvT hZ (hw _ (List.mem_of_getElem? (i := 76) rfl))) (mvT hZ (hw _ (List.mem_of_getElem? (i := 77) rfl))) (mvT hZ (hw _ (List.mem_of_getElem? (i := 78) rfl))) (mvT hZ (hw _ (List.mem_of_getElem? (i := 79) rfl))) (by decide) (backOf (W := 0) (rm10_1 l Z a0 hw [] (p2 &&& (255 : Int32)) w0 w1 mr wc kw0 kw1 T6.heap n0 Z0 K0 OL ) hZ (hw _ (List.mem_of_getElem? (i := 79) rfl)) (hw _ (List.mem_of_getElem? (i := 78) rfl)) (by decide) (by decide)) (g := (mkF m 90 #[.val (.int p0), .val (.int p1), .val (.int p2), .val (.int p3), .val (.int p4), .val (.int p5), .val (.int rf), .val (.int kk), .val (.ref b1), .val (.int (1 : Int32)), .val (.int ((1 : Int32) + (1 : Int32))), .val (.int (((1 : Int32) + (1 : Int32)) + (1 : Int32))), .val (.int r6), .val (.int f7), .unset, .unset, .unset, .unset, .unset, .unset, .unset, .unset, .unset] [(.int (((1 : Int32) + (1 : Int32)) + (1 : Int32))), (.int ((1 : Int32) + (1 : Int32))), (.int (1 : Int32)), (.int (p2 &&& (255 : Int32)))])) rfl (by rw [hml]; rfl) (argsL := [(.int (p2 &&& (255 : Int32))), (.int (1 : Int32)), (.int ((1 : Int32) + (1 : Int32))), (.int (((1 : Int32) + (1 : Int32)) + (1 : Int32)))]) (rest := []) (lenOf pd5 rfl) rfl (by show 2 * 0 + _ ≤ _; exact Nat.le_of_eq rfl) (hb hby at_90) (fun _ _ => ⟨rfl, rfl, (by decide : 0 + 1 + 2 + 2 + 0 + 0 + 0 + 0 ≤ _), (by decide : 0 + 10 + 2 + 64 + 0 + 0 + 0 + 0 ≤ _)⟩)
  dsimp only [Pt.U, Pt.locs, Pt.cells, Pt.slots] at X8 l8 y8 z8 st8 hQ8
  subst l8 y8 z8
  obtain ⟨NQ8, OLq8, Zq8, KQ8, hP8⟩ := hQ8
  obtain ⟨r8, rfl, hr8⟩ := hP8
  have OB_b1 := OB_b1.keep KQ8 nin0
  have V_A1 := V_A1.keep KQ8 nin0
  have V_A2 := V_A2.keep KQ8 nin0
  have V_I := V_I.keep KQ8 nin0
  have AR_R := own_arrKeep AR_R KQ8 nin0
  skip
  have OL := OLq8
  have Z0 := Zq8
  refine own_via st8 ?_
  show own_Go p e below s _ _ _ (T8.setTop (mkF m 93 #[.val (.int p0), .val (.int p1), .val (.int p2), .val (.int p3), .val (.int p4), .val (.int p5), .val (.int rf), .val (.int kk), .val (.ref b1), .val (.int (1 : Int32)), .val (.int ((1 : Int32) + (1 : Int32))), .val (.int (((1 : Int32) + (1 : Int32)) + (1 : Int32))), .val (.int r6), .val (.int f7), .unset, .unset, .unset, .unset, .unset, .unset, .unset, .unset, .unset] [(.int r8)]))
  refine own_via (fun _ k => XS.istore X8.here hx rfl (hb hby at_93) rfl (l' := #[.val (.int p0), .val (.int p1), .val (.int p2), .val (.int p3), .val (.int p4), .val (.int p5), .val (.int rf), .val (.int kk), .val (.ref b1), .val (.int (1 : Int32)), .val (.int ((1 : Int32) + (1 : Int32))), .val (.int (((1 : Int32) + (1 : Int32)) + (1 : Int32))), .val (.int r6), .val (.int f7), .val (.int r8), .unset, .unset, .unset, .unset, .unset, .unset, .unset, .unset]) rfl k) ?_
  show own_Go p e below s _ _ _ (T8.setTop (mkF m 95 #[.val (.int p0), .val (.int p1), .val (.int p2), .val (.int p3), .val (.int p4), .val (.int p5), .val (.int rf), .val (.int kk), .val (.ref b1), .val (.int (1 : Int32)), .val (.int ((1 : Int32) + (1 : Int32))), .val (.int (((1 : Int32) + (1 : Int32)) + (1 : Int32))), .val (.int r6), .val (.int f7), .val (.int r8), .unset, .unset, .unset, .unset, .unset, .unset, .unset, .unset] []))
  refine own_via (fun _ k => XS.iloadN X8.here hx rfl (hb hby at_95) rfl k) ?_
  show own_Go p e below s _ _ _ (T8.setTop (mkF m 96 #[.val (.int p0), .val (.int p1), .val (.int p2), .val (.int p3), .val (.int p4), .val (.int p5), .val (.int rf), .val (.int kk), .val (.ref b1), .val (.int (1 : Int32)), .val (.int ((1 : Int32) + (1 : Int32))), .val (.int (((1 : Int32) + (1 : Int32)) + (1 : Int32))), .val (.int r6), .val (.int f7), .val (.int r8), .unset, .unset, .unset, .unset, .unset, .unset, .unset, .unset] [(.int p2)]))
  refine own_via (fun _ k => XS.bipush X8.here hx rfl (hb hby at_96) k) ?_
  show own_Go p e below s _ _ _ (T8.setTop (mkF m 98 #[.val (.int p0), .val (.int p1), .val (.int p2), .val (.int p3), .val (.int p4), .val (.int p5), .val (.int rf), .val (.int kk), .val (.ref b1), .val (.int (1 : Int32)), .val (.int ((1 : Int32) + (1 : Int32))), .val (.int (((1 : Int32) + (1 : Int32)) + (1 : Int32))), .val (.int r6), .val (.int f7), .val (.int r8), .unset, .unset, .unset, .unset, .unset, .unset, .unset, .unset] [(.int (8 : Int32)), (.int p2)]))
  refine own_via (fun _ k => XS.iushr X8.here hx rfl (hb hby at_98) rfl k) ?_
  show own_Go p e below s _ _ _ (T8.setTop (mkF m 99 #[.val (.int p0), .val (.int p1), .val (.int p2), .val (.int p3), .val (.int p4), .val (.int p5), .val (.int rf), .val (.int kk), .val (.ref b1), .val (.int (1 : Int32)), .val (.int ((1 : Int32) + (1 : Int32))), .val (.int (((1 : Int32) + (1 : Int32)) + (1 : Int32))), .val (.int r6), .val (.int f7), .val (.int r8), .unset, .unset, .unset, .unset, .unset, .unset, .unset, .unset] [(.int ((p2.toUInt32 >>> ((8 : Int32) &&& 31).toUInt32).toInt32))]))
  refine own_via (fun _ k => XS.sipush X8.here hx rfl (hb hby at_99) k) ?_
  show own_Go p e below s _ _ _ (T8.setTop (mkF m 102 #[.val (.int p0), .val (.int p1), .val (.int p2), .val (.int p3), .val (.int p4), .val (.int p5), .val (.int rf), .val (.int kk), .val (.ref b1), .val (.int (1 : Int32)), .val (.int ((1 : Int32) + (1 : Int32))), .val (.int (((1 : Int32) + (1 : Int32)) + (1 : Int32))), .val (.int r6), .val (.int f7), .val (.int r8), .unset, .unset, .unset, .unset, .unset, .unset, .unset, .unset] [(.int (255 : Int32)), (.int ((p2.toUInt32 >>> ((8 : Int32) &&& 31).toUInt32).toInt32))]))
  refine own_via (fun _ k => XS.iand X8.here hx rfl (hb hby at_102) rfl k) ?_
  show own_Go p e below s _ _ _ (T8.setTop (mkF m 103 #[.val (.int p0), .val (.int p1), .val (.int p2), .val (.int p3), .val (.int p4), .val (.int p5), .val (.int rf), .val (.int kk), .val (.ref b1), .val (.int (1 : Int32)), .val (.int ((1 : Int32) + (1 : Int32))), .val (.int (((1 : Int32) + (1 : Int32)) + (1 : Int32))), .val (.int r6), .val (.int f7), .val (.int r8), .unset, .unset, .unset, .unset, .unset, .unset, .unset, .unset] [(.int (((p2.toUInt32 >>> ((8 : Int32) &&& 31).toUInt32).toInt32) &&& (255 : Int32)))]))
  refine own_via (fun _ k => XS.iload X8.here hx rfl (hb hby at_103) rfl k) ?_
  show own_Go p e below s _ _ _ (T8.setTop (mkF m 105 #[.val (.int p0), .val (.int p1), .val (.int p2), .val (.int p3), .val (.int p4), .val (.int p5), .val (.int rf), .val (.int kk), .val (.ref b1), .val (.int (1 : Int32)), .val (.int ((1 : Int32) + (1 : Int32))), .val (.int (((1 : Int32) + (1 : Int32)) + (1 : Int32))), .val (.int r6), .val (.int f7), .val (.int r8), .unset, .unset, .unset, .unset, .unset, .unset, .unset, .unset] [(.int rf), (.int (((p2.toUInt32 >>> ((8 : Int32) &&& 31).toUInt32).toInt32) &&& (255 : Int32)))]))
  refine own_via (fun _ k => iremM X8 hx rfl (hb hby at_105) rfl (own_n0 hrf.1) k) ?_
  have hfb9 : 0 ≤ ((((p2.toUInt32 >>> ((8 : Int32) &&& 31).toUInt32).toInt32) &&& (255 : Int32)) % rf).toInt ∧ ((((p2.toUInt32 >>> ((8 : Int32) &&& 31).toUInt32).toInt32) &&& (255 : Int32)) % rf).toInt < rf.toInt := own_fb rfl (Int.lt_of_lt_of_le (by decide) hrf.1) (own_p255 _)
  obtain ⟨f9, hf9⟩ : ∃ z : Int32, z = ((((p2.toUInt32 >>> ((8 : Int32) &&& 31).toUInt32).toInt32) &&& (255 : Int32)) % rf) := ⟨_, rfl⟩
  rw [← hf9] at hfb9
  rw [← hf9]
  show own_Go p e below s _ _ _ (T8.setTop (mkF m 106 #[.val (.int p0), .val (.int p1), .val (.int p2), .val (.int p3), .val (.int p4), .val (.int p5), .val (.int rf), .val (.int kk), .val (.ref b1), .val (.int (1 : Int32)), .val (.int ((1 : Int32) + (1 : Int32))), .val (.int (((1 : Int32) + (1 : Int32)) + (1 : Int32))), .val (.int r6), .val (.int f7), .val (.int r8), .unset, .unset, .unset, .unset, .unset, .unset, .unset, .unset] [(.int f9)]))
  refine own_via (fun _ k => XS.istore X8.here hx rfl (hb hby at_106) rfl (l' := #[.val (.int p0), .val (.int p1), .val (.int p2), .val (.int p3), .val (.int p4), .val (.int p5), .val (.int rf), .val (.int kk), .val (.ref b1), .val (.int (1 : Int32)), .val (.int ((1 : Int32) + (1 : Int32))), .val (.int (((1 : Int32) + (1 : Int32)) + (1 : Int32))), .val (.int r6), .val (.int f7), .val (.int r8), .val (.int f9), .unset, .unset, .unset, .unset, .unset, .unset, .unset]) rfl k) ?_
  show own_Go p e below s _ _ _ (T8.setTop (mkF m 108 #[.val (.int p0), .val (.int p1), .val (.int p2), .val (.int p3), .val (.int p4), .val (.int p5), .val (.int rf), .val (.int kk), .val (.ref b1), .val (.int (1 : Int32)), .val (.int ((1 : Int32) + (1 : Int32))), .val (.int (((1 : Int32) + (1 : Int32)) + (1 : Int32))), .val (.int r6), .val (.int f7), .val (.int r8), .val (.int f9), .unset, .unset, .unset, .unset, .unset, .unset, .unset] []))
  refine own_via (fun _ k => XS.iloadN X8.here hx rfl (hb hby at_108) rfl k) ?_
  show own_Go p e below s _ _ _ (T8.setTop (mkF m 109 #[.val (.int p0), .val (.int p1), .val (.int p2), .val (.int p3), .val (.int p4), .val (.int p5), .val (.int rf), .val (.int kk), .val (.ref b1), .val (.int (1 : Int32)), .val (.int ((1 : Int32) + (1 : Int32))), .val (.int (((1 : Int32) + (1 : Int32)) + (1 : Int32))), .val (.int r6), .val (.int f7), .val (.int r8), .val (.int f9), .unset, .unset, .unset, .unset, .unset, .unset, .unset] [(.int p3)]))
  refine own_via (fun _ k => XS.sipush X8.here hx rfl (hb hby at_109) k) ?_
  show own_Go p e below s _ _ _ (T8.setTop (mkF m 112 #[.val (.int p0), .val (.int p1), .val (.int p2), .val (.int p3), .val (.int p4), .val (.int p5), .val (.int rf), .val (.int kk), .val (.ref b1), .val (.int (1 : Int32)), .val (.int ((1 : Int32) + (1 : Int32))), .val (.int (((1 : Int32) + (1 : Int32)) + (1 : Int32))), .val (.int r6), .val (.int f7), .val (.int r8), .val (.int f9), .unset, .unset, .unset, .unset, .unset, .unset, .unset] [(.int (255 : Int32)), (.int p3)]))
  refine own_via (fun _ k => XS.iand X8.here hx rfl (hb hby at_112) rfl k) ?_
  show own_Go p e below s _ _ _ (T8.setTop (mkF m 113 #[.val (.int p0), .val (.int p1), .val (.int p2), .val (.int p3), .val (.int p4), .val (.int p5), .val (.int rf), .val (.int kk), .val (.ref b1), .val (.int (1 : Int32)), .val (.int ((1 : Int32) + (1 : Int32))), .val (.int (((1 : Int32) + (1 : Int32)) + (1 : Int32))), .val (.int r6), .val (.int f7), .val (.int r8), .val (.int f9), .unset, .unset, .unset, .unset, .unset, .unset, .unset] [(.int (p3 &&& (255 : Int32)))]))
  refine own_via (fun _ k => XS.iload X8.here hx rfl (hb hby at_113) rfl k) ?_
  show own_Go p e below s _ _ _ (T8.setTop (mkF m 115 #[.val (.int p0), .val (.int p1), .val (.int p2), .val (.int p3), .val (.int p4), .val (.int p5), .val (.int rf), .val (.int kk), .val (.ref b1), .val (.int (1 : Int32)), .val (.int ((1 : Int32) + (1 : Int32))), .val (.int (((1 : Int32) + (1 : Int32)) + (1 : Int32))), .val (.int r6), .val (.int f7), .val (.int r8), .val (.int f9), .unset, .unset, .unset, .unset, .unset, .unset, .unset] [(.int (1 : Int32)), (.int (p3 &&& (255 : Int32)))]))
  refine own_via (fun _ k => XS.iload X8.here hx rfl (hb hby at_115) rfl k) ?_
  show own_Go p e below s _ _ _ (T8.setTop (mkF m 117 #[.val (.int p0), .val (.int p1), .val (.int p2), .val (.int p3), .val (.int p4), .val (.int p5), .val (.int rf), .val (.int kk), .val (.ref b1), .val (.int (1 : Int32)), .val (.int ((1 : Int32) + (1 : Int32))), .val (.int (((1 : Int32) + (1 : Int32)) + (1 : Int32))), .val (.int r6), .val (.int f7), .val (.int r8), .val (.int f9), .unset, .unset, .unset, .unset, .unset, .unset, .unset] [(.int ((1 : Int32) + (1 : Int32))), (.int (1 : Int32)), (.int (p3 &&& (255 : Int32)))]))
  refine own_via (fun _ k => XS.iload X8.here hx rfl (hb hby at_117) rfl k) ?_
  show own_Go p e below s _ _ _ (T8.setTop (mkF m 119 #[.val (.int p0), .val (.int p1), .val (.int p2), .val (.int p3), .val (.int p4), .val (.int p5), .val (.int rf), .val (.int kk), .val (.ref b1), .val (.int (1 : Int32)), .val (.int ((1 : Int32) + (1 : Int32))), .val (.int (((1 : Int32) + (1 : Int32)) + (1 : Int32))), .val (.int r6), .val (.int f7), .val (.int r8), .val (.int f9), .unset, .unset, .unset, .unset, .unset, .unset, .unset] [(.int (((1 : Int32) + (1 : Int32)) + (1 : Int32))), (.int ((1 : Int32) + (1 : Int32))), (.int (1 : Int32)), (.int (p3 &&& (255 : Int32)))]))
  obtain ⟨_, _, ⟨T10, L10, k10, n10⟩, -, X10, ⟨Lc10, hQ10, l10, y10, z10⟩, st10⟩ := Jvm.LawKit.callS X8 hx (y := (⟨"com/example/whenever/whenever/internal/engine/RowsSetRefPinLaw", "pick", "(IIII)I"⟩ : MethodName)) hown (mvT hZ (hw _ (List.mem_of_getElem? (i := 76) rfl))) (mvT hZ (hw _ (List.mem_of_getElem? (i := 77) rfl))) (mvT hZ (hw _ (List.mem_of_getElem? (i := 78) rfl))) (mvT hZ (hw _ (List.mem_of_getElem? (i := 79) rfl))) (by decide) (backOf (W := 0) (rm10_1 l Z a0 hw [] (p3 &&& (255 : Int32)) w0 w1 mr wc kw0 kw1 T8.heap n0 Z0 K0 OL ) hZ (hw _ (List.mem_of_getElem? (i := 79) rfl)) (hw _ (List.mem_of_getElem? (i := 78) rfl)) (by decide) (by decide)) (g := (mkF m 119 #[.val (.int p0), .val (.int p1), .val (.int p2), .val (.int p3), .val (.int p4), .val (.int p5), .val (.int rf), .val (.int kk), .val (.ref b1), .val (.int (1 : Int32)), .val (.int ((1 : Int32) + (1 : Int32))), .val (.int (((1 : Int32) + (1 : Int32)) + (1 : Int32))), .val (.int r6), .val (.int f7), .val (.int r8), .val (.int f9), .unset, .unset, .unset, .unset, .unset, .unset, .unset] [(.int (((1 : Int32) + (1 : Int32)) + (1 : Int32))), (.int ((1 : Int32) + (1 : Int32))), (.int (1 : Int32)), (.int (p3 &&& (255 : Int32)))])) rfl (by rw [hml]; rfl) (argsL := [(.int (p3 &&& (255 : Int32))), (.int (1 : Int32)), (.int ((1 : Int32) + (1 : Int32))), (.int (((1 : Int32) + (1 : Int32)) + (1 : Int32)))]) (rest := []) (lenOf pd5 rfl) rfl (by show 2 * 0 + _ ≤ _; exact Nat.le_of_eq rfl) (hb hby at_119) (fun _ _ => ⟨rfl, rfl, (by decide : 0 + 1 + 2 + 2 + 0 + 0 + 0 + 0 + 0 ≤ _), (by decide : 0 + 10 + 2 + 64 + 0 + 0 + 0 + 0 + 0 ≤ _)⟩)
  dsimp only [Pt.U, Pt.locs, Pt.cells, Pt.slots] at X10 l10 y10 z10 st10 hQ10
  subst l10 y10 z10
  obtain ⟨NQ10, OLq10, Zq10, KQ10, hP10⟩ := hQ10
  obtain ⟨r10, rfl, hr10⟩ := hP10
  have OB_b1 := OB_b1.keep KQ10 nin0
  have V_A1 := V_A1.keep KQ10 nin0
  have V_A2 := V_A2.keep KQ10 nin0
  have V_I := V_I.keep KQ10 nin0
  have AR_R := own_arrKeep AR_R KQ10 nin0
  skip
  have OL := OLq10
  have Z0 := Zq10
  refine own_via st10 ?_
  show own_Go p e below s _ _ _ (T10.setTop (mkF m 122 #[.val (.int p0), .val (.int p1), .val (.int p2), .val (.int p3), .val (.int p4), .val (.int p5), .val (.int rf), .val (.int kk), .val (.ref b1), .val (.int (1 : Int32)), .val (.int ((1 : Int32) + (1 : Int32))), .val (.int (((1 : Int32) + (1 : Int32)) + (1 : Int32))), .val (.int r6), .val (.int f7), .val (.int r8), .val (.int f9), .unset, .unset, .unset, .unset, .unset, .unset, .unset] [(.int r10)]))
  refine own_via (fun _ k => XS.istore X10.here hx rfl (hb hby at_122) rfl (l' := #[.val (.int p0), .val (.int p1), .val (.int p2), .val (.int p3), .val (.int p4), .val (.int p5), .val (.int rf), .val (.int kk), .val (.ref b1), .val (.int (1 : Int32)), .val (.int ((1 : Int32) + (1 : Int32))), .val (.int (((1 : Int32) + (1 : Int32)) + (1 : Int32))), .val (.int r6), .val (.int f7), .val (.int r8), .val (.int f9), .val (.int r10), .unset, .unset, .unset, .unset, .unset, .unset]) rfl k) ?_
  show own_Go p e below s _ _ _ (T10.setTop (mkF m 124 #[.val (.int p0), .val (.int p1), .val (.int p2), .val (.int p3), .val (.int p4), .val (.int p5), .val (.int rf), .val (.int kk), .val (.ref b1), .val (.int (1 : Int32)), .val (.int ((1 : Int32) + (1 : Int32))), .val (.int (((1 : Int32) + (1 : Int32)) + (1 : Int32))), .val (.int r6), .val (.int f7), .val (.int r8), .val (.int f9), .val (.int r10), .unset, .unset, .unset, .unset, .unset, .unset] []))
  refine own_via (fun _ k => XS.iloadN X10.here hx rfl (hb hby at_124) rfl k) ?_
  show own_Go p e below s _ _ _ (T10.setTop (mkF m 125 #[.val (.int p0), .val (.int p1), .val (.int p2), .val (.int p3), .val (.int p4), .val (.int p5), .val (.int rf), .val (.int kk), .val (.ref b1), .val (.int (1 : Int32)), .val (.int ((1 : Int32) + (1 : Int32))), .val (.int (((1 : Int32) + (1 : Int32)) + (1 : Int32))), .val (.int r6), .val (.int f7), .val (.int r8), .val (.int f9), .val (.int r10), .unset, .unset, .unset, .unset, .unset, .unset] [(.int p3)]))
  refine own_via (fun _ k => XS.bipush X10.here hx rfl (hb hby at_125) k) ?_
  show own_Go p e below s _ _ _ (T10.setTop (mkF m 127 #[.val (.int p0), .val (.int p1), .val (.int p2), .val (.int p3), .val (.int p4), .val (.int p5), .val (.int rf), .val (.int kk), .val (.ref b1), .val (.int (1 : Int32)), .val (.int ((1 : Int32) + (1 : Int32))), .val (.int (((1 : Int32) + (1 : Int32)) + (1 : Int32))), .val (.int r6), .val (.int f7), .val (.int r8), .val (.int f9), .val (.int r10), .unset, .unset, .unset, .unset, .unset, .unset] [(.int (8 : Int32)), (.int p3)]))
  refine own_via (fun _ k => XS.iushr X10.here hx rfl (hb hby at_127) rfl k) ?_
  show own_Go p e below s _ _ _ (T10.setTop (mkF m 128 #[.val (.int p0), .val (.int p1), .val (.int p2), .val (.int p3), .val (.int p4), .val (.int p5), .val (.int rf), .val (.int kk), .val (.ref b1), .val (.int (1 : Int32)), .val (.int ((1 : Int32) + (1 : Int32))), .val (.int (((1 : Int32) + (1 : Int32)) + (1 : Int32))), .val (.int r6), .val (.int f7), .val (.int r8), .val (.int f9), .val (.int r10), .unset, .unset, .unset, .unset, .unset, .unset] [(.int ((p3.toUInt32 >>> ((8 : Int32) &&& 31).toUInt32).toInt32))]))
  refine own_via (fun _ k => XS.sipush X10.here hx rfl (hb hby at_128) k) ?_
  show own_Go p e below s _ _ _ (T10.setTop (mkF m 131 #[.val (.int p0), .val (.int p1), .val (.int p2), .val (.int p3), .val (.int p4), .val (.int p5), .val (.int rf), .val (.int kk), .val (.ref b1), .val (.int (1 : Int32)), .val (.int ((1 : Int32) + (1 : Int32))), .val (.int (((1 : Int32) + (1 : Int32)) + (1 : Int32))), .val (.int r6), .val (.int f7), .val (.int r8), .val (.int f9), .val (.int r10), .unset, .unset, .unset, .unset, .unset, .unset] [(.int (255 : Int32)), (.int ((p3.toUInt32 >>> ((8 : Int32) &&& 31).toUInt32).toInt32))]))
  refine own_via (fun _ k => XS.iand X10.here hx rfl (hb hby at_131) rfl k) ?_
  show own_Go p e below s _ _ _ (T10.setTop (mkF m 132 #[.val (.int p0), .val (.int p1), .val (.int p2), .val (.int p3), .val (.int p4), .val (.int p5), .val (.int rf), .val (.int kk), .val (.ref b1), .val (.int (1 : Int32)), .val (.int ((1 : Int32) + (1 : Int32))), .val (.int (((1 : Int32) + (1 : Int32)) + (1 : Int32))), .val (.int r6), .val (.int f7), .val (.int r8), .val (.int f9), .val (.int r10), .unset, .unset, .unset, .unset, .unset, .unset] [(.int (((p3.toUInt32 >>> ((8 : Int32) &&& 31).toUInt32).toInt32) &&& (255 : Int32)))]))
  refine own_via (fun _ k => XS.iload X10.here hx rfl (hb hby at_132) rfl k) ?_
  show own_Go p e below s _ _ _ (T10.setTop (mkF m 134 #[.val (.int p0), .val (.int p1), .val (.int p2), .val (.int p3), .val (.int p4), .val (.int p5), .val (.int rf), .val (.int kk), .val (.ref b1), .val (.int (1 : Int32)), .val (.int ((1 : Int32) + (1 : Int32))), .val (.int (((1 : Int32) + (1 : Int32)) + (1 : Int32))), .val (.int r6), .val (.int f7), .val (.int r8), .val (.int f9), .val (.int r10), .unset, .unset, .unset, .unset, .unset, .unset] [(.int rf), (.int (((p3.toUInt32 >>> ((8 : Int32) &&& 31).toUInt32).toInt32) &&& (255 : Int32)))]))
  refine own_via (fun _ k => iremM X10 hx rfl (hb hby at_134) rfl (own_n0 hrf.1) k) ?_
  have hfb11 : 0 ≤ ((((p3.toUInt32 >>> ((8 : Int32) &&& 31).toUInt32).toInt32) &&& (255 : Int32)) % rf).toInt ∧ ((((p3.toUInt32 >>> ((8 : Int32) &&& 31).toUInt32).toInt32) &&& (255 : Int32)) % rf).toInt < rf.toInt := own_fb rfl (Int.lt_of_lt_of_le (by decide) hrf.1) (own_p255 _)
  obtain ⟨f11, hf11⟩ : ∃ z : Int32, z = ((((p3.toUInt32 >>> ((8 : Int32) &&& 31).toUInt32).toInt32) &&& (255 : Int32)) % rf) := ⟨_, rfl⟩
  rw [← hf11] at hfb11
  rw [← hf11]
  show own_Go p e below s _ _ _ (T10.setTop (mkF m 135 #[.val (.int p0), .val (.int p1), .val (.int p2), .val (.int p3), .val (.int p4), .val (.int p5), .val (.int rf), .val (.int kk), .val (.ref b1), .val (.int (1 : Int32)), .val (.int ((1 : Int32) + (1 : Int32))), .val (.int (((1 : Int32) + (1 : Int32)) + (1 : Int32))), .val (.int r6), .val (.int f7), .val (.int r8), .val (.int f9), .val (.int r10), .unset, .unset, .unset, .unset, .unset, .unset] [(.int f11)]))
  refine own_via (fun _ k => XS.istore X10.here hx rfl (hb hby at_135) rfl (l' := #[.val (.int p0), .val (.int p1), .val (.int p2), .val (.int p3), .val (.int p4), .val (.int p5), .val (.int rf), .val (.int kk), .val (.ref b1), .val (.int (1 : Int32)), .val (.int ((1 : Int32) + (1 : Int32))), .val (.int (((1 : Int32) + (1 : Int32)) + (1 : Int32))), .val (.int r6), .val (.int f7), .val (.int r8), .val (.int f9), .val (.int r10), .val (.int f11), .unset, .unset, .unset, .unset, .unset]) rfl k) ?_
  show own_Go p e below s _ _ _ (T10.setTop (mkF m 137 #[.val (.int p0), .val (.int p1), .val (.int p2), .val (.int p3), .val (.int p4), .val (.int p5), .val (.int rf), .val (.int kk), .val (.ref b1), .val (.int (1 : Int32)), .val (.int ((1 : Int32) + (1 : Int32))), .val (.int (((1 : Int32) + (1 : Int32)) + (1 : Int32))), .val (.int r6), .val (.int f7), .val (.int r8), .val (.int f9), .val (.int r10), .val (.int f11), .unset, .unset, .unset, .unset, .unset] []))
  refine own_via (fun _ k => XS.iload X10.here hx rfl (hb hby at_137) rfl k) ?_
  show own_Go p e below s _ _ _ (T10.setTop (mkF m 139 #[.val (.int p0), .val (.int p1), .val (.int p2), .val (.int p3), .val (.int p4), .val (.int p5), .val (.int rf), .val (.int kk), .val (.ref b1), .val (.int (1 : Int32)), .val (.int ((1 : Int32) + (1 : Int32))), .val (.int (((1 : Int32) + (1 : Int32)) + (1 : Int32))), .val (.int r6), .val (.int f7), .val (.int r8), .val (.int f9), .val (.int r10), .val (.int f11), .unset, .unset, .unset, .unset, .unset] [(.int p4)]))
  obtain ⟨_, _, ⟨T12, L12, k12, n12⟩, -, X12, ⟨Lc12, hQ12, l12, y12, z12⟩, st12⟩ := Jvm.LawKit.callS X10 hx (y := (⟨"java/lang/Integer", "valueOf", "(I)Ljava/lang/Integer;"⟩ : MethodName)) hown (mvT hZ (hw _ (List.mem_of_getElem? (i := 80) rfl))) (mvT hZ (hw _ (List.mem_of_getElem? (i := 81) rfl))) (mvT hZ (hw _ (List.mem_of_getElem? (i := 82) rfl))) (mvT hZ (hw _ (List.mem_of_getElem? (i := 83) rfl))) (by decide) (backOf (W := 0) (rm11_1 l Z a0 hw [] p4 w0 w1 mr wc kw0 kw1 T10.heap n0 Z0 K0 OL ) hZ (hw _ (List.mem_of_getElem? (i := 83) rfl)) (hw _ (List.mem_of_getElem? (i := 82) rfl)) (by decide) (by decide)) (g := (mkF m 139 #[.val (.int p0), .val (.int p1), .val (.int p2), .val (.int p3), .val (.int p4), .val (.int p5), .val (.int rf), .val (.int kk), .val (.ref b1), .val (.int (1 : Int32)), .val (.int ((1 : Int32) + (1 : Int32))), .val (.int (((1 : Int32) + (1 : Int32)) + (1 : Int32))), .val (.int r6), .val (.int f7), .val (.int r8), .val (.int f9), .val (.int r10), .val (.int f11), .unset, .unset, .unset, .unset, .unset] [(.int p4)])) rfl (by rw [hml]; rfl) (argsL := [(.int p4)]) (rest := []) (lenOf pd7 rfl) rfl (by show 2 * 0 + _ ≤ _; exact Nat.le_of_eq rfl) (hb hby at_139) (fun _ _ => ⟨rfl, rfl, (by decide : 0 + 1 + 2 + 2 + 0 + 0 + 0 + 0 + 0 + 1 ≤ _), (by decide : 0 + 10 + 2 + 64 + 0 + 0 + 0 + 0 + 0 + 1 ≤ _)⟩)
  dsimp only [Pt.U, Pt.locs, Pt.cells, Pt.slots] at X12 l12 y12 z12 st12 hQ12
  subst l12 y12 z12
  obtain ⟨NQ12, OLq12, Zq12, KQ12, hP12⟩ := hQ12
  obtain ⟨z12, rfl, EX_z12⟩ := hP12
  have OB_b1 := OB_b1.keep KQ12 nin0
  have V_A1 := V_A1.keep KQ12 nin0
  have V_A2 := V_A2.keep KQ12 nin0
  have V_I := V_I.keep KQ12 nin0
  have AR_R := own_arrKeep AR_R KQ12 nin0
  skip
  have OL := OLq12
  have Z0 := Zq12
  refine own_via st12 ?_
  show own_Go p e below s _ _ _ (T12.setTop (mkF m 142 #[.val (.int p0), .val (.int p1), .val (.int p2), .val (.int p3), .val (.int p4), .val (.int p5), .val (.int rf), .val (.int kk), .val (.ref b1), .val (.int (1 : Int32)), .val (.int ((1 : Int32) + (1 : Int32))), .val (.int (((1 : Int32) + (1 : Int32)) + (1 : Int32))), .val (.int r6), .val (.int f7), .val (.int r8), .val (.int f9), .val (.int r10), .val (.int f11), .unset, .unset, .unset, .unset, .unset] [(.ref z12)]))
  refine own_via (fun _ k => XS.astore X12.here hx rfl (hb hby at_142) rfl rfl (l' := #[.val (.int p0), .val (.int p1), .val (.int p2), .val (.int p3), .val (.int p4), .val (.int p5), .val (.int rf), .val (.int kk), .val (.ref b1), .val (.int (1 : Int32)), .val (.int ((1 : Int32) + (1 : Int32))), .val (.int (((1 : Int32) + (1 : Int32)) + (1 : Int32))), .val (.int r6), .val (.int f7), .val (.int r8), .val (.int f9), .val (.int r10), .val (.int f11), .val (.ref z12), .unset, .unset, .unset, .unset]) rfl k) ?_
  show own_Go p e below s _ _ _ (T12.setTop (mkF m 144 #[.val (.int p0), .val (.int p1), .val (.int p2), .val (.int p3), .val (.int p4), .val (.int p5), .val (.int rf), .val (.int kk), .val (.ref b1), .val (.int (1 : Int32)), .val (.int ((1 : Int32) + (1 : Int32))), .val (.int (((1 : Int32) + (1 : Int32)) + (1 : Int32))), .val (.int r6), .val (.int f7), .val (.int r8), .val (.int f9), .val (.int r10), .val (.int f11), .val (.ref z12), .unset, .unset, .unset, .unset] []))
  refine own_via (fun _ k => XS.iload X12.here hx rfl (hb hby at_144) rfl k) ?_
  show own_Go p e below s _ _ _ (T12.setTop (mkF m 146 #[.val (.int p0), .val (.int p1), .val (.int p2), .val (.int p3), .val (.int p4), .val (.int p5), .val (.int rf), .val (.int kk), .val (.ref b1), .val (.int (1 : Int32)), .val (.int ((1 : Int32) + (1 : Int32))), .val (.int (((1 : Int32) + (1 : Int32)) + (1 : Int32))), .val (.int r6), .val (.int f7), .val (.int r8), .val (.int f9), .val (.int r10), .val (.int f11), .val (.ref z12), .unset, .unset, .unset, .unset] [(.int p5)]))
  refine own_via (fun _ k => XS.iconst X12.here hx rfl (hb hby at_146) k) ?_
  show own_Go p e below s _ _ _ (T12.setTop (mkF m 147 #[.val (.int p0), .val (.int p1), .val (.int p2), .val (.int p3), .val (.int p4), .val (.int p5), .val (.int rf), .val (.int kk), .val (.ref b1), .val (.int (1 : Int32)), .val (.int ((1 : Int32) + (1 : Int32))), .val (.int (((1 : Int32) + (1 : Int32)) + (1 : Int32))), .val (.int r6), .val (.int f7), .val (.int r8), .val (.int f9), .val (.int r10), .val (.int f11), .val (.ref z12), .unset, .unset, .unset, .unset] [(.int (1 : Int32)), (.int p5)]))
  refine own_via (fun _ k => XS.iand X12.here hx rfl (hb hby at_147) rfl k) ?_
  show own_Go p e below s _ _ _ (T12.setTop (mkF m 148 #[.val (.int p0), .val (.int p1), .val (.int p2), .val (.int p3), .val (.int p4), .val (.int p5), .val (.int rf), .val (.int kk), .val (.ref b1), .val (.int (1 : Int32)), .val (.int ((1 : Int32) + (1 : Int32))), .val (.int (((1 : Int32) + (1 : Int32)) + (1 : Int32))), .val (.int r6), .val (.int f7), .val (.int r8), .val (.int f9), .val (.int r10), .val (.int f11), .val (.ref z12), .unset, .unset, .unset, .unset] [(.int (p5 &&& (1 : Int32)))]))
  by_cases hc13 : (p5 &&& (1 : Int32)) = (0 : Int32)
  · refine own_via (fun _ k => XS.ifYes X12.here hx rfl (pc0 := 148) (pc' := 155) rfl (hb hby at_148) rfl ((if0 _ _).trans (teq hc13).1) (by decide) (by decide) k) ?_
    show own_Go p e below s _ _ _ (T12.setTop (mkF m 155 #[.val (.int p0), .val (.int p1), .val (.int p2), .val (.int p3), .val (.int p4), .val (.int p5), .val (.int rf), .val (.int kk), .val (.ref b1), .val (.int (1 : Int32)), .val (.int ((1 : Int32) + (1 : Int32))), .val (.int (((1 : Int32) + (1 : Int32)) + (1 : Int32))), .val (.int r6), .val (.int f7), .val (.int r8), .val (.int f9), .val (.int r10), .val (.int f11), .val (.ref z12), .unset, .unset, .unset, .unset] []))
    refine own_via (fun _ k => XS.iload X12.here hx rfl (hb hby at_155) rfl k) ?_
    show own_Go p e below s _ _ _ (T12.setTop (mkF m 157 #[.val (.int p0), .val (.int p1), .val (.int p2), .val (.int p3), .val (.int p4), .val (.int p5), .val (.int rf), .val (.int kk), .val (.ref b1), .val (.int (1 : Int32)), .val (.int ((1 : Int32) + (1 : Int32))), .val (.int (((1 : Int32) + (1 : Int32)) + (1 : Int32))), .val (.int r6), .val (.int f7), .val (.int r8), .val (.int f9), .val (.int r10), .val (.int f11), .val (.ref z12), .unset, .unset, .unset, .unset] [(.int p5)]))
    refine own_via (fun _ k => XS.iconst X12.here hx rfl (hb hby at_157) k) ?_
    show own_Go p e below s _ _ _ (T12.setTop (mkF m 158 #[.val (.int p0), .val (.int p1), .val (.int p2), .val (.int p3), .val (.int p4), .val (.int p5), .val (.int rf), .val (.int kk), .val (.ref b1), .val (.int (1 : Int32)), .val (.int ((1 : Int32) + (1 : Int32))), .val (.int (((1 : Int32) + (1 : Int32)) + (1 : Int32))), .val (.int r6), .val (.int f7), .val (.int r8), .val (.int f9), .val (.int r10), .val (.int f11), .val (.ref z12), .unset, .unset, .unset, .unset] [(.int (1 : Int32)), (.int p5)]))
    refine own_via (fun _ k => XS.ishr X12.here hx rfl (hb hby at_158) rfl k) ?_
    show own_Go p e below s _ _ _ (T12.setTop (mkF m 159 #[.val (.int p0), .val (.int p1), .val (.int p2), .val (.int p3), .val (.int p4), .val (.int p5), .val (.int rf), .val (.int kk), .val (.ref b1), .val (.int (1 : Int32)), .val (.int ((1 : Int32) + (1 : Int32))), .val (.int (((1 : Int32) + (1 : Int32)) + (1 : Int32))), .val (.int r6), .val (.int f7), .val (.int r8), .val (.int f9), .val (.int r10), .val (.int f11), .val (.ref z12), .unset, .unset, .unset, .unset] [(.int (p5 >>> ((1 : Int32) &&& 31)))]))
    obtain ⟨_, _, ⟨T14, L14, k14, n14⟩, -, X14, ⟨Lc14, hQ14, l14, y14, z14⟩, st14⟩ := Jvm.LawKit.callS X12 hx (y := (⟨"java/lang/Integer", "valueOf", "(I)Ljava/lang/Integer;"⟩ : MethodName)) hown (mvT hZ (hw _ (List.mem_of_getElem? (i := 80) rfl))) (mvT hZ (hw _ (List.mem_of_getElem? (i := 81) rfl))) (mvT hZ (hw _ (List.mem_of_getElem? (i := 82) rfl))) (mvT hZ (hw _ (List.mem_of_getElem? (i := 83) rfl))) (by decide) (backOf (W := 0) (rm11_1 l Z a0 hw [] (p5 >>> ((1 : Int32) &&& 31)) w0 w1 mr wc kw0 kw1 T12.heap n0 Z0 K0 OL ) hZ (hw _ (List.mem_of_getElem? (i := 83) rfl)) (hw _ (List.mem_of_getElem? (i := 82) rfl)) (by decide) (by decide)) (g := (mkF m 159 #[.val (.int p0), .val (.int p1), .val (.int p2), .val (.int p3), .val (.int p4), .val (.int p5), .val (.int rf), .val (.int kk), .val (.ref b1), .val (.int (1 : Int32)), .val (.int ((1 : Int32) + (1 : Int32))), .val (.int (((1 : Int32) + (1 : Int32)) + (1 : Int32))), .val (.int r6), .val (.int f7), .val (.int r8), .val (.int f9), .val (.int r10), .val (.int f11), .val (.ref z12), .unset, .unset, .unset, .unset] [(.int (p5 >>> ((1 : Int32) &&& 31)))])) rfl (by rw [hml]; rfl) (argsL := [(.int (p5 >>> ((1 : Int32) &&& 31)))]) (rest := []) (lenOf pd7 rfl) rfl (by show 2 * 0 + _ ≤ _; exact Nat.le_of_eq rfl) (hb hby at_159) (fun _ _ => ⟨rfl, rfl, (by decide : 0 + 1 + 2 + 2 + 0 + 0 + 0 + 0 + 0 + 1 + 1 ≤ _), (by decide : 0 + 10 + 2 + 64 + 0 + 0 + 0 + 0 + 0 + 1 + 1 ≤ _)⟩)
    dsimp only [Pt.U, Pt.locs, Pt.cells, Pt.slots] at X14 l14 y14 z14 st14 hQ14
    subst l14 y14 z14
    obtain ⟨NQ14, OLq14, Zq14, KQ14, hP14⟩ := hQ14
    obtain ⟨z14, rfl, EX_z14⟩ := hP14
    have OB_b1 := OB_b1.keep KQ14 nin0
    have V_A1 := V_A1.keep KQ14 nin0
    have V_A2 := V_A2.keep KQ14 nin0
    have V_I := V_I.keep KQ14 nin0
    have AR_R := own_arrKeep AR_R KQ14 nin0
    have EX_z12 := EX_z12.keep KQ14
    skip
    have OL := OLq14
    have Z0 := Zq14
    refine own_via st14 ?_
    show own_Go p e below s _ _ _ (T14.setTop (mkF m 162 #[.val (.int p0), .val (.int p1), .val (.int p2), .val (.int p3), .val (.int p4), .val (.int p5), .val (.int rf), .val (.int kk), .val (.ref b1), .val (.int (1 : Int32)), .val (.int ((1 : Int32) + (1 : Int32))), .val (.int (((1 : Int32) + (1 : Int32)) + (1 : Int32))), .val (.int r6), .val (.int f7), .val (.int r8), .val (.int f9), .val (.int r10), .val (.int f11), .val (.ref z12), .unset, .unset, .unset, .unset] [(.ref z14)]))
    refine own_via (fun _ k => XS.astore X14.here hx rfl (hb hby at_162) rfl rfl (l' := #[.val (.int p0), .val (.int p1), .val (.int p2), .val (.int p3), .val (.int p4), .val (.int p5), .val (.int rf), .val (.int kk), .val (.ref b1), .val (.int (1 : Int32)), .val (.int ((1 : Int32) + (1 : Int32))), .val (.int (((1 : Int32) + (1 : Int32)) + (1 : Int32))), .val (.int r6), .val (.int f7), .val (.int r8), .val (.int f9), .val (.int r10), .val (.int f11), .val (.ref z12), .val (.ref z14), .unset, .unset, .unset]) rfl k) ?_
    show own_Go p e below s _ _ _ (T14.setTop (mkF m 164 #[.val (.int p0), .val (.int p1), .val (.int p2), .val (.int p3), .val (.int p4), .val (.int p5), .val (.int rf), .val (.int kk), .val (.ref b1), .val (.int (1 : Int32)), .val (.int ((1 : Int32) + (1 : Int32))), .val (.int (((1 : Int32) + (1 : Int32)) + (1 : Int32))), .val (.int r6), .val (.int f7), .val (.int r8), .val (.int f9), .val (.int r10), .val (.int f11), .val (.ref z12), .val (.ref z14), .unset, .unset, .unset] []))
    refine own_via (fun _ k => XS.aload X14.here hx rfl (hb hby at_164) rfl rfl k) ?_
    show own_Go p e below s _ _ _ (T14.setTop (mkF m 166 #[.val (.int p0), .val (.int p1), .val (.int p2), .val (.int p3), .val (.int p4), .val (.int p5), .val (.int rf), .val (.int kk), .val (.ref b1), .val (.int (1 : Int32)), .val (.int ((1 : Int32) + (1 : Int32))), .val (.int (((1 : Int32) + (1 : Int32)) + (1 : Int32))), .val (.int r6), .val (.int f7), .val (.int r8), .val (.int f9), .val (.int r10), .val (.int f11), .val (.ref z12), .val (.ref z14), .unset, .unset, .unset] [(.ref b1)]))
    refine own_via (fun _ k => XS.iload X14.here hx rfl (hb hby at_166) rfl k) ?_
    show own_Go p e below s _ _ _ (T14.setTop (mkF m 168 #[.val (.int p0), .val (.int p1), .val (.int p2), .val (.int p3), .val (.int p4), .val (.int p5), .val (.int rf), .val (.int kk), .val (.ref b1), .val (.int (1 : Int32)), .val (.int ((1 : Int32) + (1 : Int32))), .val (.int (((1 : Int32) + (1 : Int32)) + (1 : Int32))), .val (.int r6), .val (.int f7), .val (.int r8), .val (.int f9), .val (.int r10), .val (.int f11), .val (.ref z12), .val (.ref z14), .unset, .unset, .unset] [(.int r6), (.ref b1)]))
    refine own_via (fun _ k => XS.iload X14.here hx rfl (hb hby at_168) rfl k) ?_
    show own_Go p e below s _ _ _ (T14.setTop (mkF m 170 #[.val (.int p0), .val (.int p1), .val (.int p2), .val (.int p3), .val (.int p4), .val (.int p5), .val (.int rf), .val (.int kk), .val (.ref b1), .val (.int (1 : Int32)), .val (.int ((1 : Int32) + (1 : Int32))), .val (.int (((1 : Int32) + (1 : Int32)) + (1 : Int32))), .val (.int r6), .val (.int f7), .val (.int r8), .val (.int f9), .val (.int r10), .val (.int f11), .val (.ref z12), .val (.ref z14), .unset, .unset, .unset] [(.int f7), (.int r6), (.ref b1)]))
    refine own_via (fun _ k => XS.aload X14.here hx rfl (hb hby at_170) rfl rfl k) ?_
    show own_Go p e below s _ _ _ (T14.setTop (mkF m 172 #[.val (.int p0), .val (.int p1), .val (.int p2), .val (.int p3), .val (.int p4), .val (.int p5), .val (.int rf), .val (.int kk), .val (.ref b1), .val (.int (1 : Int32)), .val (.int ((1 : Int32) + (1 : Int32))), .val (.int (((1 : Int32) + (1 : Int32)) + (1 : Int32))), .val (.int r6), .val (.int f7), .val (.int r8), .val (.int f9), .val (.int r10), .val (.int f11), .val (.ref z12), .val (.ref z14), .unset, .unset, .unset] [(.ref z12), (.int f7), (.int r6), (.ref b1)]))
    have ix15 : (((r6 &&& (4095 : Int32)) * rf) + f7).toInt = r6.toInt * rf.toInt + f7.toInt := own_ixR hrf hr6 hfb7
    obtain ⟨cq16, kq16, q16a, q16b, q16c⟩ := isOf hZ rfl OB_b1.1
    obtain ⟨_, _, ⟨T16, L16, k16, n16⟩, -, X16, ⟨Lc16, hQ16, l16, y16, z16⟩, st16⟩ := X14.virtualBack hx (y := (⟨"com/example/whenever/whenever/internal/engine/Rows", "setRef", "(IILjava/lang/Object;)V"⟩ : MethodName)) (z := (⟨"com/example/whenever/whenever/internal/engine/Rows", "setRef", "(IILjava/lang/Object;)V"⟩ : MethodName)) hown (mvT hZ (hw _ (List.mem_of_getElem? (i := 87) rfl))) (mvT hZ (hw _ (List.mem_of_getElem? (i := 88) rfl))) (notFace_of_selects (args := #[]) (mvT hZ (hw _ (List.mem_of_getElem? (i := 90) rfl)))) (mvT hZ (hw _ (List.mem_of_getElem? (i := 90) rfl))) (mvT hZ (hw _ (List.mem_of_getElem? (i := 89) rfl))) (by decide) (backOf (W := 0) (rm12_1 l Z a0 hw [] b1 A1 A2 I R k1 k2 ((((1 : Int32) + (1 : Int32)) + (1 : Int32)) + (1 : Int32)) kk rf cl r6 f7 (.ref z12) w0 w1 mr wc kw0 kw1 T14.heap n0 Z0 K0 OL rfl (own_blk hr6) (own_inx SR ix15 hr6 hfb7 (own_n8 hrf)) (Sto.ofV AR_R CR OVR_R (Ins.of_exa EX_z12 (hw _ (List.mem_of_getElem? (i := 92) rfl)))) ⟨OB_b1, V_A1, V_A2, OV_A1, OV_A2, ne_b1_A1, ne_b1_A2, ne_A1_A2, g_b1, g_A1, g_A2⟩ AR_R ne_b1_R ne_A1_R ne_A2_R g_R) hZ (hw _ (List.mem_of_getElem? (i := 91) rfl)) (hw _ (List.mem_of_getElem? (i := 2) rfl)) (by decide) (by decide)) q16a q16c (g := (mkF m 172 #[.val (.int p0), .val (.int p1), .val (.int p2), .val (.int p3), .val (.int p4), .val (.int p5), .val (.int rf), .val (.int kk), .val (.ref b1), .val (.int (1 : Int32)), .val (.int ((1 : Int32) + (1 : Int32))), .val (.int (((1 : Int32) + (1 : Int32)) + (1 : Int32))), .val (.int r6), .val (.int f7), .val (.int r8), .val (.int f9), .val (.int r10), .val (.int f11), .val (.ref z12), .val (.ref z14), .unset, .unset, .unset] [(.ref z12), (.int f7), (.int r6), (.ref b1)])) rfl (by rw [hml]; rfl) (Steps.refl _) (argsL := [(.int r6), (.int f7), (.ref z12)]) (rest := []) (lenOf pd8 rfl) rfl (by show 2 * 0 + _ ≤ _; exact Nat.le_of_eq rfl) (hb hby at_172) (fun _ _ => ⟨rfl, rfl, (by decide : 0 + 1 + 2 + 2 + 0 + 0 + 0 + 0 + 0 + 1 + 1 + 0 ≤ _), (by decide : 0 + 10 + 2 + 64 + 0 + 0 + 0 + 0 + 0 + 1 + 1 + 0 ≤ _)⟩)
    dsimp only [Pt.U, Pt.locs, Pt.cells, Pt.slots] at X16 l16 y16 z16 st16 hQ16
    subst l16 y16 z16
    obtain ⟨NQ16, OLq16, Zq16, KQ16, hP16⟩ := hQ16
    obtain ⟨rfl, -, ARq16⟩ := hP16
    have OB_b1 := OB_b1.keep KQ16 (ninS ne_b1_R nin0)
    have V_A1 := V_A1.keep KQ16 (ninS ne_A1_R nin0)
    have V_A2 := V_A2.keep KQ16 (ninS ne_A2_R nin0)
    have V_I := V_I.keep KQ16 (ninS ne_I_R nin0)
    have EX_z12 := EX_z12.keep KQ16
    have EX_z14 := EX_z14.keep KQ16
    have AR_R := ARq16
    skip
    have OL := OLq16
    have Z0 := Zq16
    refine own_tr st16 ?_
    show own_Go p e below s _ _ _ (T16.setTop (mkF m 175 #[.val (.int p0), .val (.int p1), .val (.int p2), .val (.int p3), .val (.int p4), .val (.int p5), .val (.int rf), .val (.int kk), .val (.ref b1), .val (.int (1 : Int32)), .val (.int ((1 : Int32) + (1 : Int32))), .val (.int (((1 : Int32) + (1 : Int32)) + (1 : Int32))), .val (.int r6), .val (.int f7), .val (.int r8), .val (.int f9), .val (.int r10), .val (.int f11), .val (.ref z12), .val (.ref z14), .unset, .unset, .unset] []))
    refine own_via (fun _ k => XS.aload X16.here hx rfl (hb hby at_175) rfl rfl k) ?_
    show own_Go p e below s _ _ _ (T16.setTop (mkF m 177 #[.val (.int p0), .val (.int p1), .val (.int p2), .val (.int p3), .val (.int p4), .val (.int p5), .val (.int rf), .val (.int kk), .val (.ref b1), .val (.int (1 : Int32)), .val (.int ((1 : Int32) + (1 : Int32))), .val (.int (((1 : Int32) + (1 : Int32)) + (1 : Int32))), .val (.int r6), .val (.int f7), .val (.int r8), .val (.int f9), .val (.int r10), .val (.int f11), .val (.ref z12), .val (.ref z14), .unset, .unset, .unset] [(.ref b1)]))
    refine own_via (fun _ k => XS.iload X16.here hx rfl (hb hby at_177) rfl k) ?_
    show own_Go p e below s _ _ _ (T16.setTop (mkF m 179 #[.val (.int p0), .val (.int p1), .val (.int p2), .val (.int p3), .val (.int p4), .val (.int p5), .val (.int rf), .val (.int kk), .val (.ref b1), .val (.int (1 : Int32)), .val (.int ((1 : Int32) + (1 : Int32))), .val (.int (((1 : Int32) + (1 : Int32)) + (1 : Int32))), .val (.int r6), .val (.int f7), .val (.int r8), .val (.int f9), .val (.int r10), .val (.int f11), .val (.ref z12), .val (.ref z14), .unset, .unset, .unset] [(.int r8), (.ref b1)]))
    refine own_via (fun _ k => XS.iload X16.here hx rfl (hb hby at_179) rfl k) ?_
    show own_Go p e below s _ _ _ (T16.setTop (mkF m 181 #[.val (.int p0), .val (.int p1), .val (.int p2), .val (.int p3), .val (.int p4), .val (.int p5), .val (.int rf), .val (.int kk), .val (.ref b1), .val (.int (1 : Int32)), .val (.int ((1 : Int32) + (1 : Int32))), .val (.int (((1 : Int32) + (1 : Int32)) + (1 : Int32))), .val (.int r6), .val (.int f7), .val (.int r8), .val (.int f9), .val (.int r10), .val (.int f11), .val (.ref z12), .val (.ref z14), .unset, .unset, .unset] [(.int f9), (.int r8), (.ref b1)]))
    refine own_via (fun _ k => XS.aload X16.here hx rfl (hb hby at_181) rfl rfl k) ?_
    show own_Go p e below s _ _ _ (T16.setTop (mkF m 183 #[.val (.int p0), .val (.int p1), .val (.int p2), .val (.int p3), .val (.int p4), .val (.int p5), .val (.int rf), .val (.int kk), .val (.ref b1), .val (.int (1 : Int32)), .val (.int ((1 : Int32) + (1 : Int32))), .val (.int (((1 : Int32) + (1 : Int32)) + (1 : Int32))), .val (.int r6), .val (.int f7), .val (.int r8), .val (.int f9), .val (.int r10), .val (.int f11), .val (.ref z12), .val (.ref z14), .unset, .unset, .unset] [(.ref z14), (.int f9), (.int r8), (.ref b1)]))
    have ix17 : (((r8 &&& (4095 : Int32)) * rf) + f9).toInt = r8.toInt * rf.toInt + f9.toInt := own_ixR hrf hr8 hfb9
    obtain ⟨cq18, kq18, q18a, q18b, q18c⟩ := isOf hZ rfl OB_b1.1
    obtain ⟨_, _, ⟨T18, L18, k18, n18⟩, -, X18, ⟨Lc18, hQ18, l18, y18, z18⟩, st18⟩ := X16.virtualBack hx (y := (⟨"com/example/whenever/whenever/internal/engine/Rows", "setRef", "(IILjava/lang/Object;)V"⟩ : MethodName)) (z := (⟨"com/example/whenever/whenever/internal/engine/Rows", "setRef", "(IILjava/lang/Object;)V"⟩ : MethodName)) hown (mvT hZ (hw _ (List.mem_of_getElem? (i := 87) rfl))) (mvT hZ (hw _ (List.mem_of_getElem? (i := 88) rfl))) (notFace_of_selects (args := #[]) (mvT hZ (hw _ (List.mem_of_getElem? (i := 90) rfl)))) (mvT hZ (hw _ (List.mem_of_getElem? (i := 90) rfl))) (mvT hZ (hw _ (List.mem_of_getElem? (i := 89) rfl))) (by decide) (backOf (W := 0) (rm12_1 l Z a0 hw [] b1 A1 A2 I R k1 k2 ((((1 : Int32) + (1 : Int32)) + (1 : Int32)) + (1 : Int32)) kk rf (cl.setSlot ((((r6 &&& (4095 : Int32)) * rf) + f7)).toNatClampNeg (.ref z12)) r8 f9 (.ref z14) w0 w1 mr wc kw0 kw1 T16.heap n0 Z0 K0 OL rfl (own_blk hr8) (own_inx ((sz_set _ _ _).trans SR) ix17 hr8 hfb9 (own_n8 hrf)) (Sto.ofV AR_R CR OVR_R (Ins.of_exa EX_z14 (hw _ (List.mem_of_getElem? (i := 92) rfl)))) ⟨OB_b1, V_A1, V_A2, OV_A1, OV_A2, ne_b1_A1, ne_b1_A2, ne_A1_A2, g_b1, g_A1, g_A2⟩ AR_R ne_b1_R ne_A1_R ne_A2_R g_R) hZ (hw _ (List.mem_of_getElem? (i := 91) rfl)) (hw _ (List.mem_of_getElem? (i := 2) rfl)) (by decide) (by decide)) q18a q18c (g := (mkF m 183 #[.val (.int p0), .val (.int p1), .val (.int p2), .val (.int p3), .val (.int p4), .val (.int p5), .val (.int rf), .val (.int kk), .val (.ref b1), .val (.int (1 : Int32)), .val (.int ((1 : Int32) + (1 : Int32))), .val (.int (((1 : Int32) + (1 : Int32)) + (1 : Int32))), .val (.int r6), .val (.int f7), .val (.int r8), .val (.int f9), .val (.int r10), .val (.int f11), .val (.ref z12), .val (.ref z14), .unset, .unset, .unset] [(.ref z14), (.int f9), (.int r8), (.ref b1)])) rfl (by rw [hml]; rfl) (Steps.refl _) (argsL := [(.int r8), (.int f9), (.ref z14)]) (rest := []) (lenOf pd8 rfl) rfl (by show 2 * 0 + _ ≤ _; exact Nat.le_of_eq rfl) (hb hby at_183) (fun _ _ => ⟨rfl, rfl, (by decide : 0 + 1 + 2 + 2 + 0 + 0 + 0 + 0 + 0 + 1 + 1 + 0 + 0 ≤ _), (by decide : 0 + 10 + 2 + 64 + 0 + 0 + 0 + 0 + 0 + 1 + 1 + 0 + 0 ≤ _)⟩)
    dsimp only [Pt.U, Pt.locs, Pt.cells, Pt.slots] at X18 l18 y18 z18 st18 hQ18
    subst l18 y18 z18
    obtain ⟨NQ18, OLq18, Zq18, KQ18, hP18⟩ := hQ18
    obtain ⟨rfl, -, ARq18⟩ := hP18
    have OB_b1 := OB_b1.keep KQ18 (ninS ne_b1_R nin0)
    have V_A1 := V_A1.keep KQ18 (ninS ne_A1_R nin0)
    have V_A2 := V_A2.keep KQ18 (ninS ne_A2_R nin0)
    have V_I := V_I.keep KQ18 (ninS ne_I_R nin0)
    have EX_z12 := EX_z12.keep KQ18
    have EX_z14 := EX_z14.keep KQ18
    have AR_R := ARq18
    skip
    have OL := OLq18
    have Z0 := Zq18
    refine own_tr st18 ?_
    show own_Go p e below s _ _ _ (T18.setTop (mkF m 186 #[.val (.int p0), .val (.int p1), .val (.int p2), .val (.int p3), .val (.int p4), .val (.int p5), .val (.int rf), .val (.int kk), .val (.ref b1), .val (.int (1 : Int32)), .val (.int ((1 : Int32) + (1 : Int32))), .val (.int (((1 : Int32) + (1 : Int32)) + (1 : Int32))), .val (.int r6), .val (.int f7), .val (.int r8), .val (.int f9), .val (.int r10), .val (.int f11), .val (.ref z12), .val (.ref z14), .unset, .unset, .unset] []))
    refine own_via (fun _ k => XS.aload X18.here hx rfl (hb hby at_186) rfl rfl k) ?_
    show own_Go p e below s _ _ _ (T18.setTop (mkF m 188 #[.val (.int p0), .val (.int p1), .val (.int p2), .val (.int p3), .val (.int p4), .val (.int p5), .val (.int rf), .val (.int kk), .val (.ref b1), .val (.int (1 : Int32)), .val (.int ((1 : Int32) + (1 : Int32))), .val (.int (((1 : Int32) + (1 : Int32)) + (1 : Int32))), .val (.int r6), .val (.int f7), .val (.int r8), .val (.int f9), .val (.int r10), .val (.int f11), .val (.ref z12), .val (.ref z14), .unset, .unset, .unset] [(.ref b1)]))
    refine own_via (fun _ k => XS.iload X18.here hx rfl (hb hby at_188) rfl k) ?_
    show own_Go p e below s _ _ _ (T18.setTop (mkF m 190 #[.val (.int p0), .val (.int p1), .val (.int p2), .val (.int p3), .val (.int p4), .val (.int p5), .val (.int rf), .val (.int kk), .val (.ref b1), .val (.int (1 : Int32)), .val (.int ((1 : Int32) + (1 : Int32))), .val (.int (((1 : Int32) + (1 : Int32)) + (1 : Int32))), .val (.int r6), .val (.int f7), .val (.int r8), .val (.int f9), .val (.int r10), .val (.int f11), .val (.ref z12), .val (.ref z14), .unset, .unset, .unset] [(.int r6), (.ref b1)]))
    refine own_via (fun _ k => XS.iload X18.here hx rfl (hb hby at_190) rfl k) ?_
    show own_Go p e below s _ _ _ (T18.setTop (mkF m 192 #[.val (.int p0), .val (.int p1), .val (.int p2), .val (.int p3), .val (.int p4), .val (.int p5), .val (.int rf), .val (.int kk), .val (.ref b1), .val (.int (1 : Int32)), .val (.int ((1 : Int32) + (1 : Int32))), .val (.int (((1 : Int32) + (1 : Int32)) + (1 : Int32))), .val (.int r6), .val (.int f7), .val (.int r8), .val (.int f9), .val (.int r10), .val (.int f11), .val (.ref z12), .val (.ref z14), .unset, .unset, .unset] [(.int f7), (.int r6), (.ref b1)]))
    obtain ⟨gt19, eg19⟩ : ∃ z, z = own_exp r6 f7 r6 f7 (.ref z12) r8 f9 (.ref z14) := ⟨_, rfl⟩
    have hat19 : ((cl.setSlot ((((r6 &&& (4095 : Int32)) * rf) + f7)).toNatClampNeg (.ref z12)).setSlot ((((r8 &&& (4095 : Int32)) * rf) + f9)).toNatClampNeg (.ref z14)).slots[((((r6 &&& (4095 : Int32)) * rf) + f7)).toNatClampNeg]? = some gt19 := (own_at SR (own_n8 hrf) NR ix15 ix15 ix17 hr6 hfb7 hr6 hfb7 hr8 hfb9).trans (congrArg some eg19.symm)
    have ir_gt19 : gt19.isRef = true := by rw [eg19]; exact own_exp_ref rfl rfl
    obtain ⟨cq20, kq20, q20a, q20b, q20c⟩ := isOf hZ rfl OB_b1.1
    obtain ⟨_, _, ⟨T20, L20, k20, n20⟩, -, X20, ⟨Lc20, hQ20, l20, y20, z20⟩, st20⟩ := X18.virtualBack hx (y := (⟨"com/example/whenever/whenever/internal/engine/Rows", "getRef", "(II)Ljava/lang/Object;"⟩ : MethodName)) (z := (⟨"com/example/whenever/whenever/internal/engine/Rows", "getRef", "(II)Ljava/lang/Object;"⟩ : MethodName)) hown (mvT hZ (hw _ (List.mem_of_getElem? (i := 93) rfl))) (mvT hZ (hw _ (List.mem_of_getElem? (i := 94) rfl))) (notFace_of_selects (args := #[]) (mvT hZ (hw _ (List.mem_of_getElem? (i := 96) rfl)))) (mvT hZ (hw _ (List.mem_of_getElem? (i := 96) rfl))) (mvT hZ (hw _ (List.mem_of_getElem? (i := 95) rfl))) (by decide) (backOf (W := 0) (rm13_1 l Z a0 hw [] b1 A1 A2 I R k1 k2 ((((1 : Int32) + (1 : Int32)) + (1 : Int32)) + (1 : Int32)) kk rf ((cl.setSlot ((((r6 &&& (4095 : Int32)) * rf) + f7)).toNatClampNeg (.ref z12)).setSlot ((((r8 &&& (4095 : Int32)) * rf) + f9)).toNatClampNeg (.ref z14)) r6 f7 gt19 w0 w1 mr wc kw0 kw1 T18.heap n0 Z0 K0 OL ir_gt19 (own_blk hr6) (own_inx ((sz_set _ _ _).trans ((sz_set _ _ _).trans SR)) ix15 hr6 hfb7 (own_n8 hrf)) hat19 ⟨OB_b1, V_A1, V_A2, OV_A1, OV_A2, ne_b1_A1, ne_b1_A2, ne_A1_A2, g_b1, g_A1, g_A2⟩ AR_R) hZ (hw _ (List.mem_of_getElem? (i := 97) rfl)) (hw _ (List.mem_of_getElem? (i := 2) rfl)) (by decide) (by decide)) q20a q20c (g := (mkF m 192 #[.val (.int p0), .val (.int p1), .val (.int p2), .val (.int p3), .val (.int p4), .val (.int p5), .val (.int rf), .val (.int kk), .val (.ref b1), .val (.int (1 : Int32)), .val (.int ((1 : Int32) + (1 : Int32))), .val (.int (((1 : Int32) + (1 : Int32)) + (1 : Int32))), .val (.int r6), .val (.int f7), .val (.int r8), .val (.int f9), .val (.int r10), .val (.int f11), .val (.ref z12), .val (.ref z14), .unset, .unset, .unset] [(.int f7), (.int r6), (.ref b1)])) rfl (by rw [hml]; rfl) (Steps.refl _) (argsL := [(.int r6), (.int f7)]) (rest := []) (lenOf pd9 rfl) rfl (by show 2 * 0 + _ ≤ _; exact Nat.le_of_eq rfl) (hb hby at_192) (fun _ _ => ⟨rfl, rfl, (by decide : 0 + 1 + 2 + 2 + 0 + 0 + 0 + 0 + 0 + 1 + 1 + 0 + 0 + 0 ≤ _), (by decide : 0 + 10 + 2 + 64 + 0 + 0 + 0 + 0 + 0 + 1 + 1 + 0 + 0 + 0 ≤ _)⟩)
    dsimp only [Pt.U, Pt.locs, Pt.cells, Pt.slots] at X20 l20 y20 z20 st20 hQ20
    subst l20 y20 z20
    obtain ⟨NQ20, OLq20, Zq20, KQ20, hP20⟩ := hQ20
    obtain rfl := hP20
    have OB_b1 := OB_b1.keep KQ20 nin0
    have V_A1 := V_A1.keep KQ20 nin0
    have V_A2 := V_A2.keep KQ20 nin0
    have V_I := V_I.keep KQ20 nin0
    have AR_R := own_arrKeep AR_R KQ20 nin0
    have EX_z12 := EX_z12.keep KQ20
    have EX_z14 := EX_z14.keep KQ20
    skip
    have OL := OLq20
    have Z0 := Zq20
    refine own_tr st20 ?_
    show own_Go p e below s _ _ _ (T20.setTop (mkF m 195 #[.val (.int p0), .val (.int p1), .val (.int p2), .val (.int p3), .val (.int p4), .val (.int p5), .val (.int rf), .val (.int kk), .val (.ref b1), .val (.int (1 : Int32)), .val (.int ((1 : Int32) + (1 : Int32))), .val (.int (((1 : Int32) + (1 : Int32)) + (1 : Int32))), .val (.int r6), .val (.int f7), .val (.int r8), .val (.int f9), .val (.int r10), .val (.int f11), .val (.ref z12), .val (.ref z14), .unset, .unset, .unset] [gt19]))
    refine own_via (fun _ k => XS.astore X20.here hx rfl (hb hby at_195) rfl ir_gt19 (l' := #[.val (.int p0), .val (.int p1), .val (.int p2), .val (.int p3), .val (.int p4), .val (.int p5), .val (.int rf), .val (.int kk), .val (.ref b1), .val (.int (1 : Int32)), .val (.int ((1 : Int32) + (1 : Int32))), .val (.int (((1 : Int32) + (1 : Int32)) + (1 : Int32))), .val (.int r6), .val (.int f7), .val (.int r8), .val (.int f9), .val (.int r10), .val (.int f11), .val (.ref z12), .val (.ref z14), .val gt19, .unset, .unset]) (own_store1 rfl ir_gt19 rfl) k) ?_
    show own_Go p e below s _ _ _ (T20.setTop (mkF m 197 #[.val (.int p0), .val (.int p1), .val (.int p2), .val (.int p3), .val (.int p4), .val (.int p5), .val (.int rf), .val (.int kk), .val (.ref b1), .val (.int (1 : Int32)), .val (.int ((1 : Int32) + (1 : Int32))), .val (.int (((1 : Int32) + (1 : Int32)) + (1 : Int32))), .val (.int r6), .val (.int f7), .val (.int r8), .val (.int f9), .val (.int r10), .val (.int f11), .val (.ref z12), .val (.ref z14), .val gt19, .unset, .unset] []))
    refine own_via (fun _ k => XS.aload X20.here hx rfl (hb hby at_197) rfl rfl k) ?_
    show own_Go p e below s _ _ _ (T20.setTop (mkF m 199 #[.val (.int p0), .val (.int p1), .val (.int p2), .val (.int p3), .val (.int p4), .val (.int p5), .val (.int rf), .val (.int kk), .val (.ref b1), .val (.int (1 : Int32)), .val (.int ((1 : Int32) + (1 : Int32))), .val (.int (((1 : Int32) + (1 : Int32)) + (1 : Int32))), .val (.int r6), .val (.int f7), .val (.int r8), .val (.int f9), .val (.int r10), .val (.int f11), .val (.ref z12), .val (.ref z14), .val gt19, .unset, .unset] [(.ref b1)]))
    refine own_via (fun _ k => XS.iload X20.here hx rfl (hb hby at_199) rfl k) ?_
    show own_Go p e below s _ _ _ (T20.setTop (mkF m 201 #[.val (.int p0), .val (.int p1), .val (.int p2), .val (.int p3), .val (.int p4), .val (.int p5), .val (.int rf), .val (.int kk), .val (.ref b1), .val (.int (1 : Int32)), .val (.int ((1 : Int32) + (1 : Int32))), .val (.int (((1 : Int32) + (1 : Int32)) + (1 : Int32))), .val (.int r6), .val (.int f7), .val (.int r8), .val (.int f9), .val (.int r10), .val (.int f11), .val (.ref z12), .val (.ref z14), .val gt19, .unset, .unset] [(.int r8), (.ref b1)]))
    refine own_via (fun _ k => XS.iload X20.here hx rfl (hb hby at_201) rfl k) ?_
    show own_Go p e below s _ _ _ (T20.setTop (mkF m 203 #[.val (.int p0), .val (.int p1), .val (.int p2), .val (.int p3), .val (.int p4), .val (.int p5), .val (.int rf), .val (.int kk), .val (.ref b1), .val (.int (1 : Int32)), .val (.int ((1 : Int32) + (1 : Int32))), .val (.int (((1 : Int32) + (1 : Int32)) + (1 : Int32))), .val (.int r6), .val (.int f7), .val (.int r8), .val (.int f9), .val (.int r10), .val (.int f11), .val (.ref z12), .val (.ref z14), .val gt19, .unset, .unset] [(.int f9), (.int r8), (.ref b1)]))
    have hat21 : ((cl.setSlot ((((r6 &&& (4095 : Int32)) * rf) + f7)).toNatClampNeg (.ref z12)).setSlot ((((r8 &&& (4095 : Int32)) * rf) + f9)).toNatClampNeg (.ref z14)).slots[((((r8 &&& (4095 : Int32)) * rf) + f9)).toNatClampNeg]? = some (.ref z14) := (own_at SR (own_n8 hrf) NR ix17 ix15 ix17 hr8 hfb9 hr6 hfb7 hr8 hfb9).trans (congrArg some (own_expB rfl rfl))
    obtain ⟨cq22, kq22, q22a, q22b, q22c⟩ := isOf hZ rfl OB_b1.1
    obtain ⟨_, _, ⟨T22, L22, k22, n22⟩, -, X22, ⟨Lc22, hQ22, l22, y22, z22⟩, st22⟩ := X20.virtualBack hx (y := (⟨"com/example/whenever/whenever/internal/engine/Rows", "getRef", "(II)Ljava/lang/Object;"⟩ : MethodName)) (z := (⟨"com/example/whenever/whenever/internal/engine/Rows", "getRef", "(II)Ljava/lang/Object;"⟩ : MethodName)) hown (mvT hZ (hw _ (List.mem_of_getElem? (i := 93) rfl))) (mvT hZ (hw _ (List.mem_of_getElem? (i := 94) rfl))) (notFace_of_selects (args := #[]) (mvT hZ (hw _ (List.mem_of_getElem? (i := 96) rfl)))) (mvT hZ (hw _ (List.mem_of_getElem? (i := 96) rfl))) (mvT hZ (hw _ (List.mem_of_getElem? (i := 95) rfl))) (by decide) (backOf (W := 0) (rm13_1 l Z a0 hw [] b1 A1 A2 I R k1 k2 ((((1 : Int32) + (1 : Int32)) + (1 : Int32)) + (1 : Int32)) kk rf ((cl.setSlot ((((r6 &&& (4095 : Int32)) * rf) + f7)).toNatClampNeg (.ref z12)).setSlot ((((r8 &&& (4095 : Int32)) * rf) + f9)).toNatClampNeg (.ref z14)) r8 f9 (.ref z14) w0 w1 mr wc kw0 kw1 T20.heap n0 Z0 K0 OL rfl (own_blk hr8) (own_inx ((sz_set _ _ _).trans ((sz_set _ _ _).trans SR)) ix17 hr8 hfb9 (own_n8 hrf)) hat21 ⟨OB_b1, V_A1, V_A2, OV_A1, OV_A2, ne_b1_A1, ne_b1_A2, ne_A1_A2, g_b1, g_A1, g_A2⟩ AR_R) hZ (hw _ (List.mem_of_getElem? (i := 97) rfl)) (hw _ (List.mem_of_getElem? (i := 2) rfl)) (by decide) (by decide)) q22a q22c (g := (mkF m 203 #[.val (.int p0), .val (.int p1), .val (.int p2), .val (.int p3), .val (.int p4), .val (.int p5), .val (.int rf), .val (.int kk), .val (.ref b1), .val (.int (1 : Int32)), .val (.int ((1 : Int32) + (1 : Int32))), .val (.int (((1 : Int32) + (1 : Int32)) + (1 : Int32))), .val (.int r6), .val (.int f7), .val (.int r8), .val (.int f9), .val (.int r10), .val (.int f11), .val (.ref z12), .val (.ref z14), .val gt19, .unset, .unset] [(.int f9), (.int r8), (.ref b1)])) rfl (by rw [hml]; rfl) (Steps.refl _) (argsL := [(.int r8), (.int f9)]) (rest := []) (lenOf pd9 rfl) rfl (by show 2 * 0 + _ ≤ _; exact Nat.le_of_eq rfl) (hb hby at_203) (fun _ _ => ⟨rfl, rfl, (by decide : 0 + 1 + 2 + 2 + 0 + 0 + 0 + 0 + 0 + 1 + 1 + 0 + 0 + 0 + 0 ≤ _), (by decide : 0 + 10 + 2 + 64 + 0 + 0 + 0 + 0 + 0 + 1 + 1 + 0 + 0 + 0 + 0 ≤ _)⟩)
    dsimp only [Pt.U, Pt.locs, Pt.cells, Pt.slots] at X22 l22 y22 z22 st22 hQ22
    subst l22 y22 z22
    obtain ⟨NQ22, OLq22, Zq22, KQ22, hP22⟩ := hQ22
    obtain rfl := hP22
    have OB_b1 := OB_b1.keep KQ22 nin0
    have V_A1 := V_A1.keep KQ22 nin0
    have V_A2 := V_A2.keep KQ22 nin0
    have V_I := V_I.keep KQ22 nin0
    have AR_R := own_arrKeep AR_R KQ22 nin0
    have EX_z12 := EX_z12.keep KQ22
    have EX_z14 := EX_z14.keep KQ22
    skip
    have OL := OLq22
    have Z0 := Zq22
    refine own_tr st22 ?_
    show own_Go p e below s _ _ _ (T22.setTop (mkF m 206 #[.val (.int p0), .val (.int p1), .val (.int p2), .val (.int p3), .val (.int p4), .val (.int p5), .val (.int rf), .val (.int kk), .val (.ref b1), .val (.int (1 : Int32)), .val (.int ((1 : Int32) + (1 : Int32))), .val (.int (((1 : Int32) + (1 : Int32)) + (1 : Int32))), .val (.int r6), .val (.int f7), .val (.int r8), .val (.int f9), .val (.int r10), .val (.int f11), .val (.ref z12), .val (.ref z14), .val gt19, .unset, .unset] [(.ref z14)]))
    refine own_via (fun _ k => XS.astore X22.here hx rfl (hb hby at_206) rfl rfl (l' := #[.val (.int p0), .val (.int p1), .val (.int p2), .val (.int p3), .val (.int p4), .val (.int p5), .val (.int rf), .val (.int kk), .val (.ref b1), .val (.int (1 : Int32)), .val (.int ((1 : Int32) + (1 : Int32))), .val (.int (((1 : Int32) + (1 : Int32)) + (1 : Int32))), .val (.int r6), .val (.int f7), .val (.int r8), .val (.int f9), .val (.int r10), .val (.int f11), .val (.ref z12), .val (.ref z14), .val gt19, .val (.ref z14), .unset]) rfl k) ?_
    show own_Go p e below s _ _ _ (T22.setTop (mkF m 208 #[.val (.int p0), .val (.int p1), .val (.int p2), .val (.int p3), .val (.int p4), .val (.int p5), .val (.int rf), .val (.int kk), .val (.ref b1), .val (.int (1 : Int32)), .val (.int ((1 : Int32) + (1 : Int32))), .val (.int (((1 : Int32) + (1 : Int32)) + (1 : Int32))), .val (.int r6), .val (.int f7), .val (.int r8), .val (.int f9), .val (.int r10), .val (.int f11), .val (.ref z12), .val (.ref z14), .val gt19, .val (.ref z14), .unset] []))
    refine own_via (fun _ k => XS.aload X22.here hx rfl (hb hby at_208) rfl rfl k) ?_
    show own_Go p e below s _ _ _ (T22.setTop (mkF m 210 #[.val (.int p0), .val (.int p1), .val (.int p2), .val (.int p3), .val (.int p4), .val (.int p5), .val (.int rf), .val (.int kk), .val (.ref b1), .val (.int (1 : Int32)), .val (.int ((1 : Int32) + (1 : Int32))), .val (.int (((1 : Int32) + (1 : Int32)) + (1 : Int32))), .val (.int r6), .val (.int f7), .val (.int r8), .val (.int f9), .val (.int r10), .val (.int f11), .val (.ref z12), .val (.ref z14), .val gt19, .val (.ref z14), .unset] [(.ref b1)]))
    refine own_via (fun _ k => XS.iload X22.here hx rfl (hb hby at_210) rfl k) ?_
    show own_Go p e below s _ _ _ (T22.setTop (mkF m 212 #[.val (.int p0), .val (.int p1), .val (.int p2), .val (.int p3), .val (.int p4), .val (.int p5), .val (.int rf), .val (.int kk), .val (.ref b1), .val (.int (1 : Int32)), .val (.int ((1 : Int32) + (1 : Int32))), .val (.int (((1 : Int32) + (1 : Int32)) + (1 : Int32))), .val (.int r6), .val (.int f7), .val (.int r8), .val (.int f9), .val (.int r10), .val (.int f11), .val (.ref z12), .val (.ref z14), .val gt19, .val (.ref z14), .unset] [(.int r10), (.ref b1)]))
    refine own_via (fun _ k => XS.iload X22.here hx rfl (hb hby at_212) rfl k) ?_
    show own_Go p e below s _ _ _ (T22.setTop (mkF m 214 #[.val (.int p0), .val (.int p1), .val (.int p2), .val (.int p3), .val (.int p4), .val (.int p5), .val (.int rf), .val (.int kk), .val (.ref b1), .val (.int (1 : Int32)), .val (.int ((1 : Int32) + (1 : Int32))), .val (.int (((1 : Int32) + (1 : Int32)) + (1 : Int32))), .val (.int r6), .val (.int f7), .val (.int r8), .val (.int f9), .val (.int r10), .val (.int f11), .val (.ref z12), .val (.ref z14), .val gt19, .val (.ref z14), .unset] [(.int f11), (.int r10), (.ref b1)]))
    have ix23 : (((r10 &&& (4095 : Int32)) * rf) + f11).toInt = r10.toInt * rf.toInt + f11.toInt := own_ixR hrf hr10 hfb11
    obtain ⟨gt24, eg24⟩ : ∃ z, z = own_exp r10 f11 r6 f7 (.ref z12) r8 f9 (.ref z14) := ⟨_, rfl⟩
    have hat24 : ((cl.setSlot ((((r6 &&& (4095 : Int32)) * rf) + f7)).toNatClampNeg (.ref z12)).setSlot ((((r8 &&& (4095 : Int32)) * rf) + f9)).toNatClampNeg (.ref z14)).slots[((((r10 &&& (4095 : Int32)) * rf) + f11)).toNatClampNeg]? = some gt24 := (own_at SR (own_n8 hrf) NR ix23 ix15 ix17 hr10 hfb11 hr6 hfb7 hr8 hfb9).trans (congrArg some eg24.symm)
    have ir_gt24 : gt24.isRef = true := by rw [eg24]; exact own_exp_ref rfl rfl
    obtain ⟨cq25, kq25, q25a, q25b, q25c⟩ := isOf hZ rfl OB_b1.1
    obtain ⟨_, _, ⟨T25, L25, k25, n25⟩, -, X25, ⟨Lc25, hQ25, l25, y25, z25⟩, st25⟩ := X22.virtualBack hx (y := (⟨"com/example/whenever/whenever/internal/engine/Rows", "getRef", "(II)Ljava/lang/Object;"⟩ : MethodName)) (z := (⟨"com/example/whenever/whenever/internal/engine/Rows", "getRef", "(II)Ljava/lang/Object;"⟩ : MethodName)) hown (mvT hZ (hw _ (List.mem_of_getElem? (i := 93) rfl))) (mvT hZ (hw _ (List.mem_of_getElem? (i := 94) rfl))) (notFace_of_selects (args := #[]) (mvT hZ (hw _ (List.mem_of_getElem? (i := 96) rfl)))) (mvT hZ (hw _ (List.mem_of_getElem? (i := 96) rfl))) (mvT hZ (hw _ (List.mem_of_getElem? (i := 95) rfl))) (by decide) (backOf (W := 0) (rm13_1 l Z a0 hw [] b1 A1 A2 I R k1 k2 ((((1 : Int32) + (1 : Int32)) + (1 : Int32)) + (1 : Int32)) kk rf ((cl.setSlot ((((r6 &&& (4095 : Int32)) * rf) + f7)).toNatClampNeg (.ref z12)).setSlot ((((r8 &&& (4095 : Int32)) * rf) + f9)).toNatClampNeg (.ref z14)) r10 f11 gt24 w0 w1 mr wc kw0 kw1 T22.heap n0 Z0 K0 OL ir_gt24 (own_blk hr10) (own_inx ((sz_set _ _ _).trans ((sz_set _ _ _).trans SR)) ix23 hr10 hfb11 (own_n8 hrf)) hat24 ⟨OB_b1, V_A1, V_A2, OV_A1, OV_A2, ne_b1_A1, ne_b1_A2, ne_A1_A2, g_b1, g_A1, g_A2⟩ AR_R) hZ (hw _ (List.mem_of_getElem? (i := 97) rfl)) (hw _ (List.mem_of_getElem? (i := 2) rfl)) (by decide) (by decide)) q25a q25c (g := (mkF m 214 #[.val (.int p0), .val (.int p1), .val (.int p2), .val (.int p3), .val (.int p4), .val (.int p5), .val (.int rf), .val (.int kk), .val (.ref b1), .val (.int (1 : Int32)), .val (.int ((1 : Int32) + (1 : Int32))), .val (.int (((1 : Int32) + (1 : Int32)) + (1 : Int32))), .val (.int r6), .val (.int f7), .val (.int r8), .val (.int f9), .val (.int r10), .val (.int f11), .val (.ref z12), .val (.ref z14), .val gt19, .val (.ref z14), .unset] [(.int f11), (.int r10), (.ref b1)])) rfl (by rw [hml]; rfl) (Steps.refl _) (argsL := [(.int r10), (.int f11)]) (rest := []) (lenOf pd9 rfl) rfl (by show 2 * 0 + _ ≤ _; exact Nat.le_of_eq rfl) (hb hby at_214) (fun _ _ => ⟨rfl, rfl, (by decide : 0 + 1 + 2 + 2 + 0 + 0 + 0 + 0 + 0 + 1 + 1 + 0 + 0 + 0 + 0 + 0 ≤ _), (by decide : 0 + 10 + 2 + 64 + 0 + 0 + 0 + 0 + 0 + 1 + 1 + 0 + 0 + 0 + 0 + 0 ≤ _)⟩)
    dsimp only [Pt.U, Pt.locs, Pt.cells, Pt.slots] at X25 l25 y25 z25 st25 hQ25
    subst l25 y25 z25
    obtain ⟨NQ25, OLq25, Zq25, KQ25, hP25⟩ := hQ25
    obtain rfl := hP25
    have OB_b1 := OB_b1.keep KQ25 nin0
    have V_A1 := V_A1.keep KQ25 nin0
    have V_A2 := V_A2.keep KQ25 nin0
    have V_I := V_I.keep KQ25 nin0
    have AR_R := own_arrKeep AR_R KQ25 nin0
    have EX_z12 := EX_z12.keep KQ25
    have EX_z14 := EX_z14.keep KQ25
    skip
    have OL := OLq25
    have Z0 := Zq25
    refine own_tr st25 ?_
    show own_Go p e below s _ _ _ (T25.setTop (mkF m 217 #[.val (.int p0), .val (.int p1), .val (.int p2), .val (.int p3), .val (.int p4), .val (.int p5), .val (.int rf), .val (.int kk), .val (.ref b1), .val (.int (1 : Int32)), .val (.int ((1 : Int32) + (1 : Int32))), .val (.int (((1 : Int32) + (1 : Int32)) + (1 : Int32))), .val (.int r6), .val (.int f7), .val (.int r8), .val (.int f9), .val (.int r10), .val (.int f11), .val (.ref z12), .val (.ref z14), .val gt19, .val (.ref z14), .unset] [gt24]))
    refine own_via (fun _ k => XS.astore X25.here hx rfl (hb hby at_217) rfl ir_gt24 (l' := #[.val (.int p0), .val (.int p1), .val (.int p2), .val (.int p3), .val (.int p4), .val (.int p5), .val (.int rf), .val (.int kk), .val (.ref b1), .val (.int (1 : Int32)), .val (.int ((1 : Int32) + (1 : Int32))), .val (.int (((1 : Int32) + (1 : Int32)) + (1 : Int32))), .val (.int r6), .val (.int f7), .val (.int r8), .val (.int f9), .val (.int r10), .val (.int f11), .val (.ref z12), .val (.ref z14), .val gt19, .val (.ref z14), .val gt24]) (own_store1 rfl ir_gt24 rfl) k) ?_
    show own_Go p e below s _ _ _ (T25.setTop (mkF m 219 #[.val (.int p0), .val (.int p1), .val (.int p2), .val (.int p3), .val (.int p4), .val (.int p5), .val (.int rf), .val (.int kk), .val (.ref b1), .val (.int (1 : Int32)), .val (.int ((1 : Int32) + (1 : Int32))), .val (.int (((1 : Int32) + (1 : Int32)) + (1 : Int32))), .val (.int r6), .val (.int f7), .val (.int r8), .val (.int f9), .val (.int r10), .val (.int f11), .val (.ref z12), .val (.ref z14), .val gt19, .val (.ref z14), .val gt24] []))
    refine own_via (fun _ k => XS.aload X25.here hx rfl (hb hby at_219) rfl ir_gt19 k) ?_
    show own_Go p e below s _ _ _ (T25.setTop (mkF m 221 #[.val (.int p0), .val (.int p1), .val (.int p2), .val (.int p3), .val (.int p4), .val (.int p5), .val (.int rf), .val (.int kk), .val (.ref b1), .val (.int (1 : Int32)), .val (.int ((1 : Int32) + (1 : Int32))), .val (.int (((1 : Int32) + (1 : Int32)) + (1 : Int32))), .val (.int r6), .val (.int f7), .val (.int r8), .val (.int f9), .val (.int r10), .val (.int f11), .val (.ref z12), .val (.ref z14), .val gt19, .val (.ref z14), .val gt24] [gt19]))
    refine own_via (fun _ k => XS.iload X25.here hx rfl (hb hby at_221) rfl k) ?_
    show own_Go p e below s _ _ _ (T25.setTop (mkF m 223 #[.val (.int p0), .val (.int p1), .val (.int p2), .val (.int p3), .val (.int p4), .val (.int p5), .val (.int rf), .val (.int kk), .val (.ref b1), .val (.int (1 : Int32)), .val (.int ((1 : Int32) + (1 : Int32))), .val (.int (((1 : Int32) + (1 : Int32)) + (1 : Int32))), .val (.int r6), .val (.int f7), .val (.int r8), .val (.int f9), .val (.int r10), .val (.int f11), .val (.ref z12), .val (.ref z14), .val gt19, .val (.ref z14), .val gt24] [(.int r6), gt19]))
    refine own_via (fun _ k => XS.iload X25.here hx rfl (hb hby at_223) rfl k) ?_
    show own_Go p e below s _ _ _ (T25.setTop (mkF m 225 #[.val (.int p0), .val (.int p1), .val (.int p2), .val (.int p3), .val (.int p4), .val (.int p5), .val (.int rf), .val (.int kk), .val (.ref b1), .val (.int (1 : Int32)), .val (.int ((1 : Int32) + (1 : Int32))), .val (.int (((1 : Int32) + (1 : Int32)) + (1 : Int32))), .val (.int r6), .val (.int f7), .val (.int r8), .val (.int f9), .val (.int r10), .val (.int f11), .val (.ref z12), .val (.ref z14), .val gt19, .val (.ref z14), .val gt24] [(.int f7), (.int r6), gt19]))
    refine own_via (fun _ k => XS.iload X25.here hx rfl (hb hby at_225) rfl k) ?_
    show own_Go p e below s _ _ _ (T25.setTop (mkF m 227 #[.val (.int p0), .val (.int p1), .val (.int p2), .val (.int p3), .val (.int p4), .val (.int p5), .val (.int rf), .val (.int kk), .val (.ref b1), .val (.int (1 : Int32)), .val (.int ((1 : Int32) + (1 : Int32))), .val (.int (((1 : Int32) + (1 : Int32)) + (1 : Int32))), .val (.int r6), .val (.int f7), .val (.int r8), .val (.int f9), .val (.int r10), .val (.int f11), .val (.ref z12), .val (.ref z14), .val gt19, .val (.ref z14), .val gt24] [(.int r6), (.int f7), (.int r6), gt19]))
    refine own_via (fun _ k => XS.iload X25.here hx rfl (hb hby at_227) rfl k) ?_
    show own_Go p e below s _ _ _ (T25.setTop (mkF m 229 #[.val (.int p0), .val (.int p1), .val (.int p2), .val (.int p3), .val (.int p4), .val (.int p5), .val (.int rf), .val (.int kk), .val (.ref b1), .val (.int (1 : Int32)), .val (.int ((1 : Int32) + (1 : Int32))), .val (.int (((1 : Int32) + (1 : Int32)) + (1 : Int32))), .val (.int r6), .val (.int f7), .val (.int r8), .val (.int f9), .val (.int r10), .val (.int f11), .val (.ref z12), .val (.ref z14), .val gt19, .val (.ref z14), .val gt24] [(.int f7), (.int r6), (.int f7), (.int r6), gt19]))
    refine own_via (fun _ k => XS.aload X25.here hx rfl (hb hby at_229) rfl rfl k) ?_
    show own_Go p e below s _ _ _ (T25.setTop (mkF m 231 #[.val (.int p0), .val (.int p1), .val (.int p2), .val (.int p3), .val (.int p4), .val (.int p5), .val (.int rf), .val (.int kk), .val (.ref b1), .val (.int (1 : Int32)), .val (.int ((1 : Int32) + (1 : Int32))), .val (.int (((1 : Int32) + (1 : Int32)) + (1 : Int32))), .val (.int r6), .val (.int f7), .val (.int r8), .val (.int f9), .val (.int r10), .val (.int f11), .val (.ref z12), .val (.ref z14), .val gt19, .val (.ref z14), .val gt24] [(.ref z12), (.int f7), (.int r6), (.int f7), (.int r6), gt19]))
    refine own_via (fun _ k => XS.iload X25.here hx rfl (hb hby at_231) rfl k) ?_
    show own_Go p e below s _ _ _ (T25.setTop (mkF m 233 #[.val (.int p0), .val (.int p1), .val (.int p2), .val (.int p3), .val (.int p4), .val (.int p5), .val (.int rf), .val (.int kk), .val (.ref b1), .val (.int (1 : Int32)), .val (.int ((1 : Int32) + (1 : Int32))), .val (.int (((1 : Int32) + (1 : Int32)) + (1 : Int32))), .val (.int r6), .val (.int f7), .val (.int r8), .val (.int f9), .val (.int r10), .val (.int f11), .val (.ref z12), .val (.ref z14), .val gt19, .val (.ref z14), .val gt24] [(.int r8), (.ref z12), (.int f7), (.int r6), (.int f7), (.int r6), gt19]))
    refine own_via (fun _ k => XS.iload X25.here hx rfl (hb hby at_233) rfl k) ?_
    show own_Go p e below s _ _ _ (T25.setTop (mkF m 235 #[.val (.int p0), .val (.int p1), .val (.int p2), .val (.int p3), .val (.int p4), .val (.int p5), .val (.int rf), .val (.int kk), .val (.ref b1), .val (.int (1 : Int32)), .val (.int ((1 : Int32) + (1 : Int32))), .val (.int (((1 : Int32) + (1 : Int32)) + (1 : Int32))), .val (.int r6), .val (.int f7), .val (.int r8), .val (.int f9), .val (.int r10), .val (.int f11), .val (.ref z12), .val (.ref z14), .val gt19, .val (.ref z14), .val gt24] [(.int f9), (.int r8), (.ref z12), (.int f7), (.int r6), (.int f7), (.int r6), gt19]))
    refine own_via (fun _ k => XS.aload X25.here hx rfl (hb hby at_235) rfl rfl k) ?_
    show own_Go p e below s _ _ _ (T25.setTop (mkF m 237 #[.val (.int p0), .val (.int p1), .val (.int p2), .val (.int p3), .val (.int p4), .val (.int p5), .val (.int rf), .val (.int kk), .val (.ref b1), .val (.int (1 : Int32)), .val (.int ((1 : Int32) + (1 : Int32))), .val (.int (((1 : Int32) + (1 : Int32)) + (1 : Int32))), .val (.int r6), .val (.int f7), .val (.int r8), .val (.int f9), .val (.int r10), .val (.int f11), .val (.ref z12), .val (.ref z14), .val gt19, .val (.ref z14), .val gt24] [(.ref z14), (.int f9), (.int r8), (.ref z12), (.int f7), (.int r6), (.int f7), (.int r6), gt19]))
    obtain ⟨_, _, ⟨T26, L26, k26, n26⟩, -, X26, ⟨Lc26, hQ26, l26, y26, z26⟩, st26⟩ := Jvm.LawKit.callS X25 hx (y := (⟨"com/example/whenever/whenever/internal/engine/RowsSetRefPinLaw", "expected", "(IIIILjava/lang/Object;IILjava/lang/Object;)Ljava/lang/Object;"⟩ : MethodName)) hown (mvT hZ (hw _ (List.mem_of_getElem? (i := 98) rfl))) (mvT hZ (hw _ (List.mem_of_getElem? (i := 99) rfl))) (mvT hZ (hw _ (List.mem_of_getElem? (i := 78) rfl))) (mvT hZ (hw _ (List.mem_of_getElem? (i := 100) rfl))) (by decide) (backOf (W := 1) (rm14_1 l Z a0 hw [] r6 f7 r6 f7 (.ref z12) r8 f9 (.ref z14) w0 w1 mr wc kw0 kw1 T25.heap n0 Z0 K0 OL rfl rfl) hZ (hw _ (List.mem_of_getElem? (i := 100) rfl)) (hw _ (List.mem_of_getElem? (i := 78) rfl)) (by decide) (by decide)) (g := (mkF m 237 #[.val (.int p0), .val (.int p1), .val (.int p2), .val (.int p3), .val (.int p4), .val (.int p5), .val (.int rf), .val (.int kk), .val (.ref b1), .val (.int (1 : Int32)), .val (.int ((1 : Int32) + (1 : Int32))), .val (.int (((1 : Int32) + (1 : Int32)) + (1 : Int32))), .val (.int r6), .val (.int f7), .val (.int r8), .val (.int f9), .val (.int r10), .val (.int f11), .val (.ref z12), .val (.ref z14), .val gt19, .val (.ref z14), .val gt24] [(.ref z14), (.int f9), (.int r8), (.ref z12), (.int f7), (.int r6), (.int f7), (.int r6), gt19])) rfl (by rw [hml]; rfl) (argsL := [(.int r6), (.int f7), (.int r6), (.int f7), (.ref z12), (.int r8), (.int f9), (.ref z14)]) (rest := [gt19]) (lenOf pd10 rfl) rfl (by show 2 * 0 + _ ≤ _; rcases ref_cases ir_gt19 with rfl | ⟨_, rfl⟩ <;> exact Nat.le_of_eq rfl) (hb hby at_237) (fun _ _ => ⟨rfl, rfl, (by decide : 0 + 1 + 2 + 2 + 0 + 0 + 0 + 0 + 0 + 1 + 1 + 0 + 0 + 0 + 0 + 0 + 0 ≤ _), (by decide : 0 + 10 + 2 + 64 + 0 + 0 + 0 + 0 + 0 + 1 + 1 + 0 + 0 + 0 + 0 + 0 + 0 ≤ _)⟩)
    dsimp only [Pt.U, Pt.locs, Pt.cells, Pt.slots] at X26 l26 y26 z26 st26 hQ26
    subst l26 y26 z26
    obtain ⟨NQ26, OLq26, Zq26, KQ26, hP26⟩ := hQ26
    have hP26 := hP26.trans (congrArg some eg19.symm)
    obtain rfl := hP26
    have OB_b1 := OB_b1.keep KQ26 nin0
    have V_A1 := V_A1.keep KQ26 nin0
    have V_A2 := V_A2.keep KQ26 nin0
    have V_I := V_I.keep KQ26 nin0
    have AR_R := own_arrKeep AR_R KQ26 nin0
    have EX_z12 := EX_z12.keep KQ26
    have EX_z14 := EX_z14.keep KQ26
    skip
    have OL := OLq26
    have Z0 := Zq26
    refine own_via st26 ?_
    show own_Go p e below s _ _ _ (T26.setTop (mkF m 240 #[.val (.int p0), .val (.int p1), .val (.int p2), .val (.int p3), .val (.int p4), .val (.int p5), .val (.int rf), .val (.int kk), .val (.ref b1), .val (.int (1 : Int32)), .val (.int ((1 : Int32) + (1 : Int32))), .val (.int (((1 : Int32) + (1 : Int32)) + (1 : Int32))), .val (.int r6), .val (.int f7), .val (.int r8), .val (.int f9), .val (.int r10), .val (.int f11), .val (.ref z12), .val (.ref z14), .val gt19, .val (.ref z14), .val gt24] [gt19, gt19]))
    refine own_via (fun _ k => Jvm.RoadKit.acmp (g := (mkF m 240 #[.val (.int p0), .val (.int p1), .val (.int p2), .val (.int p3), .val (.int p4), .val (.int p5), .val (.int rf), .val (.int kk), .val (.ref b1), .val (.int (1 : Int32)), .val (.int ((1 : Int32) + (1 : Int32))), .val (.int (((1 : Int32) + (1 : Int32)) + (1 : Int32))), .val (.int r6), .val (.int f7), .val (.int r8), .val (.int f9), .val (.int r10), .val (.int f11), .val (.ref z12), .val (.ref z14), .val gt19, .val (.ref z14), .val gt24] [gt19, gt19])) X26 hx rfl ir_gt19 ir_gt19 (pc0 := 240) (pc' := 243) (same := true) rfl (hb hby at_240) rfl (decide_eq_true rfl) (by decide) (by decide) k) ?_
    show own_Go p e below s _ _ _ (T26.setTop (mkF m 243 #[.val (.int p0), .val (.int p1), .val (.int p2), .val (.int p3), .val (.int p4), .val (.int p5), .val (.int rf), .val (.int kk), .val (.ref b1), .val (.int (1 : Int32)), .val (.int ((1 : Int32) + (1 : Int32))), .val (.int (((1 : Int32) + (1 : Int32)) + (1 : Int32))), .val (.int r6), .val (.int f7), .val (.int r8), .val (.int f9), .val (.int r10), .val (.int f11), .val (.ref z12), .val (.ref z14), .val gt19, .val (.ref z14), .val gt24] []))
    refine own_via (fun _ k => XS.aload X26.here hx rfl (hb hby at_243) rfl rfl k) ?_
    show own_Go p e below s _ _ _ (T26.setTop (mkF m 245 #[.val (.int p0), .val (.int p1), .val (.int p2), .val (.int p3), .val (.int p4), .val (.int p5), .val (.int rf), .val (.int kk), .val (.ref b1), .val (.int (1 : Int32)), .val (.int ((1 : Int32) + (1 : Int32))), .val (.int (((1 : Int32) + (1 : Int32)) + (1 : Int32))), .val (.int r6), .val (.int f7), .val (.int r8), .val (.int f9), .val (.int r10), .val (.int f11), .val (.ref z12), .val (.ref z14), .val gt19, .val (.ref z14), .val gt24] [(.ref z14)]))
    refine own_via (fun _ k => XS.aload X26.here hx rfl (hb hby at_245) rfl rfl k) ?_
    show own_Go p e below s _ _ _ (T26.setTop (mkF m 247 #[.val (.int p0), .val (.int p1), .val (.int p2), .val (.int p3), .val (.int p4), .val (.int p5), .val (.int rf), .val (.int kk), .val (.ref b1), .val (.int (1 : Int32)), .val (.int ((1 : Int32) + (1 : Int32))), .val (.int (((1 : Int32) + (1 : Int32)) + (1 : Int32))), .val (.int r6), .val (.int f7), .val (.int r8), .val (.int f9), .val (.int r10), .val (.int f11), .val (.ref z12), .val (.ref z14), .val gt19, .val (.ref z14), .val gt24] [(.ref z14), (.ref z14)]))
    refine own_via (fun _ k => Jvm.RoadKit.acmp (g := (mkF m 247 #[.val (.int p0), .val (.int p1), .val (.int p2), .val (.int p3), .val (.int p4), .val (.int p5), .val (.int rf), .val (.int kk), .val (.ref b1), .val (.int (1 : Int32)), .val (.int ((1 : Int32) + (1 : Int32))), .val (.int (((1 : Int32) + (1 : Int32)) + (1 : Int32))), .val (.int r6), .val (.int f7), .val (.int r8), .val (.int f9), .val (.int r10), .val (.int f11), .val (.ref z12), .val (.ref z14), .val gt19, .val (.ref z14), .val gt24] [(.ref z14), (.ref z14)])) X26 hx rfl rfl rfl (pc0 := 247) (pc' := 250) (same := true) rfl (hb hby at_247) rfl (decide_eq_true rfl) (by decide) (by decide) k) ?_
    show own_Go p e below s _ _ _ (T26.setTop (mkF m 250 #[.val (.int p0), .val (.int p1), .val (.int p2), .val (.int p3), .val (.int p4), .val (.int p5), .val (.int rf), .val (.int kk), .val (.ref b1), .val (.int (1 : Int32)), .val (.int ((1 : Int32) + (1 : Int32))), .val (.int (((1 : Int32) + (1 : Int32)) + (1 : Int32))), .val (.int r6), .val (.int f7), .val (.int r8), .val (.int f9), .val (.int r10), .val (.int f11), .val (.ref z12), .val (.ref z14), .val gt19, .val (.ref z14), .val gt24] []))
    refine own_via (fun _ k => XS.aload X26.here hx rfl (hb hby at_250) rfl ir_gt24 k) ?_
    show own_Go p e below s _ _ _ (T26.setTop (mkF m 252 #[.val (.int p0), .val (.int p1), .val (.int p2), .val (.int p3), .val (.int p4), .val (.int p5), .val (.int rf), .val (.int kk), .val (.ref b1), .val (.int (1 : Int32)), .val (.int ((1 : Int32) + (1 : Int32))), .val (.int (((1 : Int32) + (1 : Int32)) + (1 : Int32))), .val (.int r6), .val (.int f7), .val (.int r8), .val (.int f9), .val (.int r10), .val (.int f11), .val (.ref z12), .val (.ref z14), .val gt19, .val (.ref z14), .val gt24] [gt24]))
    refine own_via (fun _ k => XS.iload X26.here hx rfl (hb hby at_252) rfl k) ?_
    show own_Go p e below s _ _ _ (T26.setTop (mkF m 254 #[.val (.int p0), .val (.int p1), .val (.int p2), .val (.int p3), .val (.int p4), .val (.int p5), .val (.int rf), .val (.int kk), .val (.ref b1), .val (.int (1 : Int32)), .val (.int ((1 : Int32) + (1 : Int32))), .val (.int (((1 : Int32) + (1 : Int32)) + (1 : Int32))), .val (.int r6), .val (.int f7), .val (.int r8), .val (.int f9), .val (.int r10), .val (.int f11), .val (.ref z12), .val (.ref z14), .val gt19, .val (.ref z14), .val gt24] [(.int r10), gt24]))
    refine own_via (fun _ k => XS.iload X26.here hx rfl (hb hby at_254) rfl k) ?_
    show own_Go p e below s _ _ _ (T26.setTop (mkF m 256 #[.val (.int p0), .val (.int p1), .val (.int p2), .val (.int p3), .val (.int p4), .val (.int p5), .val (.int rf), .val (.int kk), .val (.ref b1), .val (.int (1 : Int32)), .val (.int ((1 : Int32) + (1 : Int32))), .val (.int (((1 : Int32) + (1 : Int32)) + (1 : Int32))), .val (.int r6), .val (.int f7), .val (.int r8), .val (.int f9), .val (.int r10), .val (.int f11), .val (.ref z12), .val (.ref z14), .val gt19, .val (.ref z14), .val gt24] [(.int f11), (.int r10), gt24]))
    refine own_via (fun _ k => XS.iload X26.here hx rfl (hb hby at_256) rfl k) ?_
    show own_Go p e below s _ _ _ (T26.setTop (mkF m 258 #[.val (.int p0), .val (.int p1), .val (.int p2), .val (.int p3), .val (.int p4), .val (.int p5), .val (.int rf), .val (.int kk), .val (.ref b1), .val (.int (1 : Int32)), .val (.int ((1 : Int32) + (1 : Int32))), .val (.int (((1 : Int32) + (1 : Int32)) + (1 : Int32))), .val (.int r6), .val (.int f7), .val (.int r8), .val (.int f9), .val (.int r10), .val (.int f11), .val (.ref z12), .val (.ref z14), .val gt19, .val (.ref z14), .val gt24] [(.int r6), (.int f11), (.int r10), gt24]))
    refine own_via (fun _ k => XS.iload X26.here hx rfl (hb hby at_258) rfl k) ?_
    show own_Go p e below s _ _ _ (T26.setTop (mkF m 260 #[.val (.int p0), .val (.int p1), .val (.int p2), .val (.int p3), .val (.int p4), .val (.int p5), .val (.int rf), .val (.int kk), .val (.ref b1), .val (.int (1 : Int32)), .val (.int ((1 : Int32) + (1 : Int32))), .val (.int (((1 : Int32) + (1 : Int32)) + (1 : Int32))), .val (.int r6), .val (.int f7), .val (.int r8), .val (.int f9), .val (.int r10), .val (.int f11), .val (.ref z12), .val (.ref z14), .val gt19, .val (.ref z14), .val gt24] [(.int f7), (.int r6), (.int f11), (.int r10), gt24]))
    refine own_via (fun _ k => XS.aload X26.here hx rfl (hb hby at_260) rfl rfl k) ?_
    show own_Go p e below s _ _ _ (T26.setTop (mkF m 262 #[.val (.int p0), .val (.int p1), .val (.int p2), .val (.int p3), .val (.int p4), .val (.int p5), .val (.int rf), .val (.int kk), .val (.ref b1), .val (.int (1 : Int32)), .val (.int ((1 : Int32) + (1 : Int32))), .val (.int (((1 : Int32) + (1 : Int32)) + (1 : Int32))), .val (.int r6), .val (.int f7), .val (.int r8), .val (.int f9), .val (.int r10), .val (.int f11), .val (.ref z12), .val (.ref z14), .val gt19, .val (.ref z14), .val gt24] [(.ref z12), (.int f7), (.int r6), (.int f11), (.int r10), gt24]))
    refine own_via (fun _ k => XS.iload X26.here hx rfl (hb hby at_262) rfl k) ?_
    show own_Go p e below s _ _ _ (T26.setTop (mkF m 264 #[.val (.int p0), .val (.int p1), .val (.int p2), .val (.int p3), .val (.int p4), .val (.int p5), .val (.int rf), .val (.int kk), .val (.ref b1), .val (.int (1 : Int32)), .val (.int ((1 : Int32) + (1 : Int32))), .val (.int (((1 : Int32) + (1 : Int32)) + (1 : Int32))), .val (.int r6), .val (.int f7), .val (.int r8), .val (.int f9), .val (.int r10), .val (.int f11), .val (.ref z12), .val (.ref z14), .val gt19, .val (.ref z14), .val gt24] [(.int r8), (.ref z12), (.int f7), (.int r6), (.int f11), (.int r10), gt24]))
    refine own_via (fun _ k => XS.iload X26.here hx rfl (hb hby at_264) rfl k) ?_
    show own_Go p e below s _ _ _ (T26.setTop (mkF m 266 #[.val (.int p0), .val (.int p1), .val (.int p2), .val (.int p3), .val (.int p4), .val (.int p5), .val (.int rf), .val (.int kk), .val (.ref b1), .val (.int (1 : Int32)), .val (.int ((1 : Int32) + (1 : Int32))), .val (.int (((1 : Int32) + (1 : Int32)) + (1 : Int32))), .val (.int r6), .val (.int f7), .val (.int r8), .val (.int f9), .val (.int r10), .val (.int f11), .val (.ref z12), .val (.ref z14), .val gt19, .val (.ref z14), .val gt24] [(.int f9), (.int r8), (.ref z12), (.int f7), (.int r6), (.int f11), (.int r10), gt24]))
    refine own_via (fun _ k => XS.aload X26.here hx rfl (hb hby at_266) rfl rfl k) ?_
    show own_Go p e below s _ _ _ (T26.setTop (mkF m 268 #[.val (.int p0), .val (.int p1), .val (.int p2), .val (.int p3), .val (.int p4), .val (.int p5), .val (.int rf), .val (.int kk), .val (.ref b1), .val (.int (1 : Int32)), .val (.int ((1 : Int32) + (1 : Int32))), .val (.int (((1 : Int32) + (1 : Int32)) + (1 : Int32))), .val (.int r6), .val (.int f7), .val (.int r8), .val (.int f9), .val (.int r10), .val (.int f11), .val (.ref z12), .val (.ref z14), .val gt19, .val (.ref z14), .val gt24] [(.ref z14), (.int f9), (.int r8), (.ref z12), (.int f7), (.int r6), (.int f11), (.int r10), gt24]))
    obtain ⟨_, _, ⟨T27, L27, k27, n27⟩, -, X27, ⟨Lc27, hQ27, l27, y27, z27⟩, st27⟩ := Jvm.LawKit.callS X26 hx (y := (⟨"com/example/whenever/whenever/internal/engine/RowsSetRefPinLaw", "expected", "(IIIILjava/lang/Object;IILjava/lang/Object;)Ljava/lang/Object;"⟩ : MethodName)) hown (mvT hZ (hw _ (List.mem_of_getElem? (i := 98) rfl))) (mvT hZ (hw _ (List.mem_of_getElem? (i := 99) rfl))) (mvT hZ (hw _ (List.mem_of_getElem? (i := 78) rfl))) (mvT hZ (hw _ (List.mem_of_getElem? (i := 100) rfl))) (by decide) (backOf (W := 1) (rm14_1 l Z a0 hw [] r10 f11 r6 f7 (.ref z12) r8 f9 (.ref z14) w0 w1 mr wc kw0 kw1 T26.heap n0 Z0 K0 OL rfl rfl) hZ (hw _ (List.mem_of_getElem? (i := 100) rfl)) (hw _ (List.mem_of_getElem? (i := 78) rfl)) (by decide) (by decide)) (g := (mkF m 268 #[.val (.int p0), .val (.int p1), .val (.int p2), .val (.int p3), .val (.int p4), .val (.int p5), .val (.int rf), .val (.int kk), .val (.ref b1), .val (.int (1 : Int32)), .val (.int ((1 : Int32) + (1 : Int32))), .val (.int (((1 : Int32) + (1 : Int32)) + (1 : Int32))), .val (.int r6), .val (.int f7), .val (.int r8), .val (.int f9), .val (.int r10), .val (.int f11), .val (.ref z12), .val (.ref z14), .val gt19, .val (.ref z14), .val gt24] [(.ref z14), (.int f9), (.int r8), (.ref z12), (.int f7), (.int r6), (.int f11), (.int r10), gt24])) rfl (by rw [hml]; rfl) (argsL := [(.int r10), (.int f11), (.int r6), (.int f7), (.ref z12), (.int r8), (.int f9), (.ref z14)]) (rest := [gt24]) (lenOf pd10 rfl) rfl (by show 2 * 0 + _ ≤ _; rcases ref_cases ir_gt24 with rfl | ⟨_, rfl⟩ <;> exact Nat.le_of_eq rfl) (hb hby at_268) (fun _ _ => ⟨rfl, rfl, (by decide : 0 + 1 + 2 + 2 + 0 + 0 + 0 + 0 + 0 + 1 + 1 + 0 + 0 + 0 + 0 + 0 + 0 + 0 ≤ _), (by decide : 0 + 10 + 2 + 64 + 0 + 0 + 0 + 0 + 0 + 1 + 1 + 0 + 0 + 0 + 0 + 0 + 0 + 0 ≤ _)⟩)
    dsimp only [Pt.U, Pt.locs, Pt.cells, Pt.slots] at X27 l27 y27 z27 st27 hQ27
    subst l27 y27 z27
    obtain ⟨NQ27, OLq27, Zq27, KQ27, hP27⟩ := hQ27
    have hP27 := hP27.trans (congrArg some eg24.symm)
    obtain rfl := hP27
    have OB_b1 := OB_b1.keep KQ27 nin0
    have V_A1 := V_A1.keep KQ27 nin0
    have V_A2 := V_A2.keep KQ27 nin0
    have V_I := V_I.keep KQ27 nin0
    have AR_R := own_arrKeep AR_R KQ27 nin0
    have EX_z12 := EX_z12.keep KQ27
    have EX_z14 := EX_z14.keep KQ27
    skip
    have OL := OLq27
    have Z0 := Zq27
    refine own_via st27 ?_
    show own_Go p e below s _ _ _ (T27.setTop (mkF m 271 #[.val (.int p0), .val (.int p1), .val (.int p2), .val (.int p3), .val (.int p4), .val (.int p5), .val (.int rf), .val (.int kk), .val (.ref b1), .val (.int (1 : Int32)), .val (.int ((1 : Int32) + (1 : Int32))), .val (.int (((1 : Int32) + (1 : Int32)) + (1 : Int32))), .val (.int r6), .val (.int f7), .val (.int r8), .val (.int f9), .val (.int r10), .val (.int f11), .val (.ref z12), .val (.ref z14), .val gt19, .val (.ref z14), .val gt24] [gt24, gt24]))
    refine own_via (fun _ k => Jvm.RoadKit.acmp (g := (mkF m 271 #[.val (.int p0), .val (.int p1), .val (.int p2), .val (.int p3), .val (.int p4), .val (.int p5), .val (.int rf), .val (.int kk), .val (.ref b1), .val (.int (1 : Int32)), .val (.int ((1 : Int32) + (1 : Int32))), .val (.int (((1 : Int32) + (1 : Int32)) + (1 : Int32))), .val (.int r6), .val (.int f7), .val (.int r8), .val (.int f9), .val (.int r10), .val (.int f11), .val (.ref z12), .val (.ref z14), .val gt19, .val (.ref z14), .val gt24] [gt24, gt24])) X27 hx rfl ir_gt24 ir_gt24 (pc0 := 271) (pc' := 274) (same := true) rfl (hb hby at_271) rfl (decide_eq_true rfl) (by decide) (by decide) k) ?_
    show own_Go p e below s _ _ _ (T27.setTop (mkF m 274 #[.val (.int p0), .val (.int p1), .val (.int p2), .val (.int p3), .val (.int p4), .val (.int p5), .val (.int rf), .val (.int kk), .val (.ref b1), .val (.int (1 : Int32)), .val (.int ((1 : Int32) + (1 : Int32))), .val (.int (((1 : Int32) + (1 : Int32)) + (1 : Int32))), .val (.int r6), .val (.int f7), .val (.int r8), .val (.int f9), .val (.int r10), .val (.int f11), .val (.ref z12), .val (.ref z14), .val gt19, .val (.ref z14), .val gt24] []))
    refine own_via (fun _ k => XS.iconst X27.here hx rfl (hb hby at_274) k) ?_
    show own_Go p e below s _ _ _ (T27.setTop (mkF m 275 #[.val (.int p0), .val (.int p1), .val (.int p2), .val (.int p3), .val (.int p4), .val (.int p5), .val (.int rf), .val (.int kk), .val (.ref b1), .val (.int (1 : Int32)), .val (.int ((1 : Int32) + (1 : Int32))), .val (.int (((1 : Int32) + (1 : Int32)) + (1 : Int32))), .val (.int r6), .val (.int f7), .val (.int r8), .val (.int f9), .val (.int r10), .val (.int f11), .val (.ref z12), .val (.ref z14), .val gt19, .val (.ref z14), .val gt24] [(.int (1 : Int32))]))
    refine own_via (fun _ k => XS.goto X27.here hx rfl (pc0 := 275) (pc' := 279) rfl (hb hby at_275) (by decide) (by decide) k) ?_
    show own_Go p e below s _ _ _ (T27.setTop (mkF m 279 #[.val (.int p0), .val (.int p1), .val (.int p2), .val (.int p3), .val (.int p4), .val (.int p5), .val (.int rf), .val (.int kk), .val (.ref b1), .val (.int (1 : Int32)), .val (.int ((1 : Int32) + (1 : Int32))), .val (.int (((1 : Int32) + (1 : Int32)) + (1 : Int32))), .val (.int r6), .val (.int f7), .val (.int r8), .val (.int f9), .val (.int r10), .val (.int f11), .val (.ref z12), .val (.ref z14), .val gt19, .val (.ref z14), .val gt24] [(.int (1 : Int32))]))
    exact own_retZ X27 hx hlk (t := .boolean) Bd.returns (by simp) (hb hby at_279) (z' := (1 : Int32)) (by first | rfl | decide) ⟨rfl, (Fr.app (Fr.app (Fr.app (Fr.app (Fr.app (Fr.app (Fr.app (Fr.app (Fr.app (Fr.app (Fr.app (Fr.app (Fr.app (Fr.app (Fr.app (Fr.app (Fr.nil n0) NQ2) NQ3) NQ4) NQ5) NQ6) NQ8) NQ10) NQ12) NQ14) NQ16) NQ18) NQ20) NQ22) NQ25) NQ26) NQ27)⟩ (by decide) (by decide)
  · refine own_via (fun _ k => XS.ifNo X12.here hx rfl (hb hby at_148) rfl ((if0 _ _).trans (feq hc13).1) k) ?_
    show own_Go p e below s _ _ _ (T12.setTop (mkF m 151 #[.val (.int p0), .val (.int p1), .val (.int p2), .val (.int p3), .val (.int p4), .val (.int p5), .val (.int rf), .val (.int kk), .val (.ref b1), .val (.int (1 : Int32)), .val (.int ((1 : Int32) + (1 : Int32))), .val (.int (((1 : Int32) + (1 : Int32)) + (1 : Int32))), .val (.int r6), .val (.int f7), .val (.int r8), .val (.int f9), .val (.int r10), .val (.int f11), .val (.ref z12), .unset, .unset, .unset, .unset] []))
    refine own_via (fun _ k => XS.aconstNull X12.here hx rfl (hb hby at_151) k) ?_
    show own_Go p e below s _ _ _ (T12.setTop (mkF m 152 #[.val (.int p0), .val (.int p1), .val (.int p2), .val (.int p3), .val (.int p4), .val (.int p5), .val (.int rf), .val (.int kk), .val (.ref b1), .val (.int (1 : Int32)), .val (.int ((1 : Int32) + (1 : Int32))), .val (.int (((1 : Int32) + (1 : Int32)) + (1 : Int32))), .val (.int r6), .val (.int f7), .val (.int r8), .val (.int f9), .val (.int r10), .val (.int f11), .val (.ref z12), .unset, .unset, .unset, .unset] [.null]))
    refine own_via (fun _ k => XS.goto X12.here hx rfl (pc0 := 152) (pc' := 162) rfl (hb hby at_152) (by decide) (by decide) k) ?_
    show own_Go p e below s _ _ _ (T12.setTop (mkF m 162 #[.val (.int p0), .val (.int p1), .val (.int p2), .val (.int p3), .val (.int p4), .val (.int p5), .val (.int rf), .val (.int kk), .val (.ref b1), .val (.int (1 : Int32)), .val (.int ((1 : Int32) + (1 : Int32))), .val (.int (((1 : Int32) + (1 : Int32)) + (1 : Int32))), .val (.int r6), .val (.int f7), .val (.int r8), .val (.int f9), .val (.int r10), .val (.int f11), .val (.ref z12), .unset, .unset, .unset, .unset] [.null]))
    refine own_via (fun _ k => XS.astore X12.here hx rfl (hb hby at_162) rfl rfl (l' := #[.val (.int p0), .val (.int p1), .val (.int p2), .val (.int p3), .val (.int p4), .val (.int p5), .val (.int rf), .val (.int kk), .val (.ref b1), .val (.int (1 : Int32)), .val (.int ((1 : Int32) + (1 : Int32))), .val (.int (((1 : Int32) + (1 : Int32)) + (1 : Int32))), .val (.int r6), .val (.int f7), .val (.int r8), .val (.int f9), .val (.int r10), .val (.int f11), .val (.ref z12), .val .null, .unset, .unset, .unset]) rfl k) ?_
    show own_Go p e below s _ _ _ (T12.setTop (mkF m 164 #[.val (.int p0), .val (.int p1), .val (.int p2), .val (.int p3), .val (.int p4), .val (.int p5), .val (.int rf), .val (.int kk), .val (.ref b1), .val (.int (1 : Int32)), .val (.int ((1 : Int32) + (1 : Int32))), .val (.int (((1 : Int32) + (1 : Int32)) + (1 : Int32))), .val (.int r6), .val (.int f7), .val (.int r8), .val (.int f9), .val (.int r10), .val (.int f11), .val (.ref z12), .val .null, .unset, .unset, .unset] []))
    refine own_via (fun _ k => XS.aload X12.here hx rfl (hb hby at_164) rfl rfl k) ?_
    show own_Go p e below s _ _ _ (T12.setTop (mkF m 166 #[.val (.int p0), .val (.int p1), .val (.int p2), .val (.int p3), .val (.int p4), .val (.int p5), .val (.int rf), .val (.int kk), .val (.ref b1), .val (.int (1 : Int32)), .val (.int ((1 : Int32) + (1 : Int32))), .val (.int (((1 : Int32) + (1 : Int32)) + (1 : Int32))), .val (.int r6), .val (.int f7), .val (.int r8), .val (.int f9), .val (.int r10), .val (.int f11), .val (.ref z12), .val .null, .unset, .unset, .unset] [(.ref b1)]))
    refine own_via (fun _ k => XS.iload X12.here hx rfl (hb hby at_166) rfl k) ?_
    show own_Go p e below s _ _ _ (T12.setTop (mkF m 168 #[.val (.int p0), .val (.int p1), .val (.int p2), .val (.int p3), .val (.int p4), .val (.int p5), .val (.int rf), .val (.int kk), .val (.ref b1), .val (.int (1 : Int32)), .val (.int ((1 : Int32) + (1 : Int32))), .val (.int (((1 : Int32) + (1 : Int32)) + (1 : Int32))), .val (.int r6), .val (.int f7), .val (.int r8), .val (.int f9), .val (.int r10), .val (.int f11), .val (.ref z12), .val .null, .unset, .unset, .unset] [(.int r6), (.ref b1)]))
    refine own_via (fun _ k => XS.iload X12.here hx rfl (hb hby at_168) rfl k) ?_
    show own_Go p e below s _ _ _ (T12.setTop (mkF m 170 #[.val (.int p0), .val (.int p1), .val (.int p2), .val (.int p3), .val (.int p4), .val (.int p5), .val (.int rf), .val (.int kk), .val (.ref b1), .val (.int (1 : Int32)), .val (.int ((1 : Int32) + (1 : Int32))), .val (.int (((1 : Int32) + (1 : Int32)) + (1 : Int32))), .val (.int r6), .val (.int f7), .val (.int r8), .val (.int f9), .val (.int r10), .val (.int f11), .val (.ref z12), .val .null, .unset, .unset, .unset] [(.int f7), (.int r6), (.ref b1)]))
    refine own_via (fun _ k => XS.aload X12.here hx rfl (hb hby at_170) rfl rfl k) ?_
    show own_Go p e below s _ _ _ (T12.setTop (mkF m 172 #[.val (.int p0), .val (.int p1), .val (.int p2), .val (.int p3), .val (.int p4), .val (.int p5), .val (.int rf), .val (.int kk), .val (.ref b1), .val (.int (1 : Int32)), .val (.int ((1 : Int32) + (1 : Int32))), .val (.int (((1 : Int32) + (1 : Int32)) + (1 : Int32))), .val (.int r6), .val (.int f7), .val (.int r8), .val (.int f9), .val (.int r10), .val (.int f11), .val (.ref z12), .val .null, .unset, .unset, .unset] [(.ref z12), (.int f7), (.int r6), (.ref b1)]))
    have ix28 : (((r6 &&& (4095 : Int32)) * rf) + f7).toInt = r6.toInt * rf.toInt + f7.toInt := own_ixR hrf hr6 hfb7
    obtain ⟨cq29, kq29, q29a, q29b, q29c⟩ := isOf hZ rfl OB_b1.1
    obtain ⟨_, _, ⟨T29, L29, k29, n29⟩, -, X29, ⟨Lc29, hQ29, l29, y29, z29⟩, st29⟩ := X12.virtualBack hx (y := (⟨"com/example/whenever/whenever/internal/engine/Rows", "setRef", "(IILjava/lang/Object;)V"⟩ : MethodName)) (z := (⟨"com/example/whenever/whenever/internal/engine/Rows", "setRef", "(IILjava/lang/Object;)V"⟩ : MethodName)) hown (mvT hZ (hw _ (List.mem_of_getElem? (i := 87) rfl))) (mvT hZ (hw _ (List.mem_of_getElem? (i := 88) rfl))) (notFace_of_selects (args := #[]) (mvT hZ (hw _ (List.mem_of_getElem? (i := 90) rfl)))) (mvT hZ (hw _ (List.mem_of_getElem? (i := 90) rfl))) (mvT hZ (hw _ (List.mem_of_getElem? (i := 89) rfl))) (by decide) (backOf (W := 0) (rm12_1 l Z a0 hw [] b1 A1 A2 I R k1 k2 ((((1 : Int32) + (1 : Int32)) + (1 : Int32)) + (1 : Int32)) kk rf cl r6 f7 (.ref z12) w0 w1 mr wc kw0 kw1 T12.heap n0 Z0 K0 OL rfl (own_blk hr6) (own_inx SR ix28 hr6 hfb7 (own_n8 hrf)) (Sto.ofV AR_R CR OVR_R (Ins.of_exa EX_z12 (hw _ (List.mem_of_getElem? (i := 92) rfl)))) ⟨OB_b1, V_A1, V_A2, OV_A1, OV_A2, ne_b1_A1, ne_b1_A2, ne_A1_A2, g_b1, g_A1, g_A2⟩ AR_R ne_b1_R ne_A1_R ne_A2_R g_R) hZ (hw _ (List.mem_of_getElem? (i := 91) rfl)) (hw _ (List.mem_of_getElem? (i := 2) rfl)) (by decide) (by decide)) q29a q29c (g := (mkF m 172 #[.val (.int p0), .val (.int p1), .val (.int p2), .val (.int p3), .val (.int p4), .val (.int p5), .val (.int rf), .val (.int kk), .val (.ref b1), .val (.int (1 : Int32)), .val (.int ((1 : Int32) + (1 : Int32))), .val (.int (((1 : Int32) + (1 : Int32)) + (1 : Int32))), .val (.int r6), .val (.int f7), .val (.int r8), .val (.int f9), .val (.int r10), .val (.int f11), .val (.ref z12), .val .null, .unset, .unset, .unset] [(.ref z12), (.int f7), (.int r6), (.ref b1)])) rfl (by rw [hml]; rfl) (Steps.refl _) (argsL := [(.int r6), (.int f7), (.ref z12)]) (rest := []) (lenOf pd8 rfl) rfl (by show 2 * 0 + _ ≤ _; exact Nat.le_of_eq rfl) (hb hby at_172) (fun _ _ => ⟨rfl, rfl, (by decide : 0 + 1 + 2 + 2 + 0 + 0 + 0 + 0 + 0 + 1 + 0 ≤ _), (by decide : 0 + 10 + 2 + 64 + 0 + 0 + 0 + 0 + 0 + 1 + 0 ≤ _)⟩)
    dsimp only [Pt.U, Pt.locs, Pt.cells, Pt.slots] at X29 l29 y29 z29 st29 hQ29
    subst l29 y29 z29
    obtain ⟨NQ29, OLq29, Zq29, KQ29, hP29⟩ := hQ29
    obtain ⟨rfl, -, ARq29⟩ := hP29
    have OB_b1 := OB_b1.keep KQ29 (ninS ne_b1_R nin0)
    have V_A1 := V_A1.keep KQ29 (ninS ne_A1_R nin0)
    have V_A2 := V_A2.keep KQ29 (ninS ne_A2_R nin0)
    have V_I := V_I.keep KQ29 (ninS ne_I_R nin0)
    have EX_z12 := EX_z12.keep KQ29
    have AR_R := ARq29
    skip
    have OL := OLq29
    have Z0 := Zq29
    refine own_tr st29 ?_
    show own_Go p e below s _ _ _ (T29.setTop (mkF m 175 #[.val (.int p0), .val (.int p1), .val (.int p2), .val (.int p3), .val (.int p4), .val (.int p5), .val (.int rf), .val (.int kk), .val (.ref b1), .val (.int (1 : Int32)), .val (.int ((1 : Int32) + (1 : Int32))), .val (.int (((1 : Int32) + (1 : Int32)) + (1 : Int32))), .val (.int r6), .val (.int f7), .val (.int r8), .val (.int f9), .val (.int r10), .val (.int f11), .val (.ref z12), .val .null, .unset, .unset, .unset] []))
    refine own_via (fun _ k => XS.aload X29.here hx rfl (hb hby at_175) rfl rfl k) ?_
    show own_Go p e below s _ _ _ (T29.setTop (mkF m 177 #[.val (.int p0), .val (.int p1), .val (.int p2), .val (.int p3), .val (.int p4), .val (.int p5), .val (.int rf), .val (.int kk), .val (.ref b1), .val (.int (1 : Int32)), .val (.int ((1 : Int32) + (1 : Int32))), .val (.int (((1 : Int32) + (1 : Int32)) + (1 : Int32))), .val (.int r6), .val (.int f7), .val (.int r8), .val (.int f9), .val (.int r10), .val (.int f11), .val (.ref z12), .val .null, .unset, .unset, .unset] [(.ref b1)]))
    refine own_via (fun _ k => XS.iload X29.here hx rfl (hb hby at_177) rfl k) ?_
    show own_Go p e below s _ _ _ (T29.setTop (mkF m 179 #[.val (.int p0), .val (.int p1), .val (.int p2), .val (.int p3), .val (.int p4), .val (.int p5), .val (.int rf), .val (.int kk), .val (.ref b1), .val (.int (1 : Int32)), .val (.int ((1 : Int32) + (1 : Int32))), .val (.int (((1 : Int32) + (1 : Int32)) + (1 : Int32))), .val (.int r6), .val (.int f7), .val (.int r8), .val (.int f9), .val (.int r10), .val (.int f11), .val (.ref z12), .val .null, .unset, .unset, .unset] [(.int r8), (.ref b1)]))
    refine own_via (fun _ k => XS.iload X29.here hx rfl (hb hby at_179) rfl k) ?_
    show own_Go p e below s _ _ _ (T29.setTop (mkF m 181 #[.val (.int p0), .val (.int p1), .val (.int p2), .val (.int p3), .val (.int p4), .val (.int p5), .val (.int rf), .val (.int kk), .val (.ref b1), .val (.int (1 : Int32)), .val (.int ((1 : Int32) + (1 : Int32))), .val (.int (((1 : Int32) + (1 : Int32)) + (1 : Int32))), .val (.int r6), .val (.int f7), .val (.int r8), .val (.int f9), .val (.int r10), .val (.int f11), .val (.ref z12), .val .null, .unset, .unset, .unset] [(.int f9), (.int r8), (.ref b1)]))
    refine own_via (fun _ k => XS.aload X29.here hx rfl (hb hby at_181) rfl rfl k) ?_
    show own_Go p e below s _ _ _ (T29.setTop (mkF m 183 #[.val (.int p0), .val (.int p1), .val (.int p2), .val (.int p3), .val (.int p4), .val (.int p5), .val (.int rf), .val (.int kk), .val (.ref b1), .val (.int (1 : Int32)), .val (.int ((1 : Int32) + (1 : Int32))), .val (.int (((1 : Int32) + (1 : Int32)) + (1 : Int32))), .val (.int r6), .val (.int f7), .val (.int r8), .val (.int f9), .val (.int r10), .val (.int f11), .val (.ref z12), .val .null, .unset, .unset, .unset] [.null, (.int f9), (.int r8), (.ref b1)]))
    have ix30 : (((r8 &&& (4095 : Int32)) * rf) + f9).toInt = r8.toInt * rf.toInt + f9.toInt := own_ixR hrf hr8 hfb9
    obtain ⟨cq31, kq31, q31a, q31b, q31c⟩ := isOf hZ rfl OB_b1.1
    obtain ⟨_, _, ⟨T31, L31, k31, n31⟩, -, X31, ⟨Lc31, hQ31, l31, y31, z31⟩, st31⟩ := X29.virtualBack hx (y := (⟨"com/example/whenever/whenever/internal/engine/Rows", "setRef", "(IILjava/lang/Object;)V"⟩ : MethodName)) (z := (⟨"com/example/whenever/whenever/internal/engine/Rows", "setRef", "(IILjava/lang/Object;)V"⟩ : MethodName)) hown (mvT hZ (hw _ (List.mem_of_getElem? (i := 87) rfl))) (mvT hZ (hw _ (List.mem_of_getElem? (i := 88) rfl))) (notFace_of_selects (args := #[]) (mvT hZ (hw _ (List.mem_of_getElem? (i := 90) rfl)))) (mvT hZ (hw _ (List.mem_of_getElem? (i := 90) rfl))) (mvT hZ (hw _ (List.mem_of_getElem? (i := 89) rfl))) (by decide) (backOf (W := 0) (rm12_1 l Z a0 hw [] b1 A1 A2 I R k1 k2 ((((1 : Int32) + (1 : Int32)) + (1 : Int32)) + (1 : Int32)) kk rf (cl.setSlot ((((r6 &&& (4095 : Int32)) * rf) + f7)).toNatClampNeg (.ref z12)) r8 f9 .null w0 w1 mr wc kw0 kw1 T29.heap n0 Z0 K0 OL rfl (own_blk hr8) (own_inx ((sz_set _ _ _).trans SR) ix30 hr8 hfb9 (own_n8 hrf)) (Or.inl rfl) ⟨OB_b1, V_A1, V_A2, OV_A1, OV_A2, ne_b1_A1, ne_b1_A2, ne_A1_A2, g_b1, g_A1, g_A2⟩ AR_R ne_b1_R ne_A1_R ne_A2_R g_R) hZ (hw _ (List.mem_of_getElem? (i := 91) rfl)) (hw _ (List.mem_of_getElem? (i := 2) rfl)) (by decide) (by decide)) q31a q31c (g := (mkF m 183 #[.val (.int p0), .val (.int p1), .val (.int p2), .val (.int p3), .val (.int p4), .val (.int p5), .val (.int rf), .val (.int kk), .val (.ref b1), .val (.int (1 : Int32)), .val (.int ((1 : Int32) + (1 : Int32))), .val (.int (((1 : Int32) + (1 : Int32)) + (1 : Int32))), .val (.int r6), .val (.int f7), .val (.int r8), .val (.int f9), .val (.int r10), .val (.int f11), .val (.ref z12), .val .null, .unset, .unset, .unset] [.null, (.int f9), (.int r8), (.ref b1)])) rfl (by rw [hml]; rfl) (Steps.refl _) (argsL := [(.int r8), (.int f9), .null]) (rest := []) (lenOf pd8 rfl) rfl (by show 2 * 0 + _ ≤ _; exact Nat.le_of_eq rfl) (hb hby at_183) (fun _ _ => ⟨rfl, rfl, (by decide : 0 + 1 + 2 + 2 + 0 + 0 + 0 + 0 + 0 + 1 + 0 + 0 ≤ _), (by decide : 0 + 10 + 2 + 64 + 0 + 0 + 0 + 0 + 0 + 1 + 0 + 0 ≤ _)⟩)
    dsimp only [Pt.U, Pt.locs, Pt.cells, Pt.slots] at X31 l31 y31 z31 st31 hQ31
    subst l31 y31 z31
    obtain ⟨NQ31, OLq31, Zq31, KQ31, hP31⟩ := hQ31
    obtain ⟨rfl, -, ARq31⟩ := hP31
    have OB_b1 := OB_b1.keep KQ31 (ninS ne_b1_R nin0)
    have V_A1 := V_A1.keep KQ31 (ninS ne_A1_R nin0)
    have V_A2 := V_A2.keep KQ31 (ninS ne_A2_R nin0)
    have V_I := V_I.keep KQ31 (ninS ne_I_R nin0)
    have EX_z12 := EX_z12.keep KQ31
    have AR_R := ARq31
    skip
    have OL := OLq31
    have Z0 := Zq31
    refine own_tr st31 ?_
    show own_Go p e below s _ _ _ (T31.setTop (mkF m 186 #[.val (.int p0), .val (.int p1), .val (.int p2), .val (.int p3), .val (.int p4), .val (.int p5), .val (.int rf), .val (.int kk), .val (.ref b1), .val (.int (1 : Int32)), .val (.int ((1 : Int32) + (1 : Int32))), .val (.int (((1 : Int32) + (1 : Int32)) + (1 : Int32))), .val (.int r6), .val (.int f7), .val (.int r8), .val (.int f9), .val (.int r10), .val (.int f11), .val (.ref z12), .val .null, .unset, .unset, .unset] []))
    refine own_via (fun _ k => XS.aload X31.here hx rfl (hb hby at_186) rfl rfl k) ?_
    show own_Go p e below s _ _ _ (T31.setTop (mkF m 188 #[.val (.int p0), .val (.int p1), .val (.int p2), .val (.int p3), .val (.int p4), .val (.int p5), .val (.int rf), .val (.int kk), .val (.ref b1), .val (.int (1 : Int32)), .val (.int ((1 : Int32) + (1 : Int32))), .val (.int (((1 : Int32) + (1 : Int32)) + (1 : Int32))), .val (.int r6), .val (.int f7), .val (.int r8), .val (.int f9), .val (.int r10), .val (.int f11), .val (.ref z12), .val .null, .unset, .unset, .unset] [(.ref b1)]))
    refine own_via (fun _ k => XS.iload X31.here hx rfl (hb hby at_188) rfl k) ?_
    show own_Go p e below s _ _ _ (T31.setTop (mkF m 190 #[.val (.int p0), .val (.int p1), .val (.int p2), .val (.int p3), .val (.int p4), .val (.int p5), .val (.int rf), .val (.int kk), .val (.ref b1), .val (.int (1 : Int32)), .val (.int ((1 : Int32) + (1 : Int32))), .val (.int (((1 : Int32) + (1 : Int32)) + (1 : Int32))), .val (.int r6), .val (.int f7), .val (.int r8), .val (.int f9), .val (.int r10), .val (.int f11), .val (.ref z12), .val .null, .unset, .unset, .unset] [(.int r6), (.ref b1)]))
    refine own_via (fun _ k => XS.iload X31.here hx rfl (hb hby at_190) rfl k) ?_
    show own_Go p e below s _ _ _ (T31.setTop (mkF m 192 #[.val (.int p0), .val (.int p1), .val (.int p2), .val (.int p3), .val (.int p4), .val (.int p5), .val (.int rf), .val (.int kk), .val (.ref b1), .val (.int (1 : Int32)), .val (.int ((1 : Int32) + (1 : Int32))), .val (.int (((1 : Int32) + (1 : Int32)) + (1 : Int32))), .val (.int r6), .val (.int f7), .val (.int r8), .val (.int f9), .val (.int r10), .val (.int f11), .val (.ref z12), .val .null, .unset, .unset, .unset] [(.int f7), (.int r6), (.ref b1)]))
    obtain ⟨gt32, eg32⟩ : ∃ z, z = own_exp r6 f7 r6 f7 (.ref z12) r8 f9 .null := ⟨_, rfl⟩
    have hat32 : ((cl.setSlot ((((r6 &&& (4095 : Int32)) * rf) + f7)).toNatClampNeg (.ref z12)).setSlot ((((r8 &&& (4095 : Int32)) * rf) + f9)).toNatClampNeg .null).slots[((((r6 &&& (4095 : Int32)) * rf) + f7)).toNatClampNeg]? = some gt32 := (own_at SR (own_n8 hrf) NR ix28 ix28 ix30 hr6 hfb7 hr6 hfb7 hr8 hfb9).trans (congrArg some eg32.symm)
    have ir_gt32 : gt32.isRef = true := by rw [eg32]; exact own_exp_ref rfl rfl
    obtain ⟨cq33, kq33, q33a, q33b, q33c⟩ := isOf hZ rfl OB_b1.1
    obtain ⟨_, _, ⟨T33, L33, k33, n33⟩, -, X33, ⟨Lc33, hQ33, l33, y33, z33⟩, st33⟩ := X31.virtualBack hx (y := (⟨"com/example/whenever/whenever/internal/engine/Rows", "getRef", "(II)Ljava/lang/Object;"⟩ : MethodName)) (z := (⟨"com/example/whenever/whenever/internal/engine/Rows", "getRef", "(II)Ljava/lang/Object;"⟩ : MethodName)) hown (mvT hZ (hw _ (List.mem_of_getElem? (i := 93) rfl))) (mvT hZ (hw _ (List.mem_of_getElem? (i := 94) rfl))) (notFace_of_selects (args := #[]) (mvT hZ (hw _ (List.mem_of_getElem? (i := 96) rfl)))) (mvT hZ (hw _ (List.mem_of_getElem? (i := 96) rfl))) (mvT hZ (hw _ (List.mem_of_getElem? (i := 95) rfl))) (by decide) (backOf (W := 0) (rm13_1 l Z a0 hw [] b1 A1 A2 I R k1 k2 ((((1 : Int32) + (1 : Int32)) + (1 : Int32)) + (1 : Int32)) kk rf ((cl.setSlot ((((r6 &&& (4095 : Int32)) * rf) + f7)).toNatClampNeg (.ref z12)).setSlot ((((r8 &&& (4095 : Int32)) * rf) + f9)).toNatClampNeg .null) r6 f7 gt32 w0 w1 mr wc kw0 kw1 T31.heap n0 Z0 K0 OL ir_gt32 (own_blk hr6) (own_inx ((sz_set _ _ _).trans ((sz_set _ _ _).trans SR)) ix28 hr6 hfb7 (own_n8 hrf)) hat32 ⟨OB_b1, V_A1, V_A2, OV_A1, OV_A2, ne_b1_A1, ne_b1_A2, ne_A1_A2, g_b1, g_A1, g_A2⟩ AR_R) hZ (hw _ (List.mem_of_getElem? (i := 97) rfl)) (hw _ (List.mem_of_getElem? (i := 2) rfl)) (by decide) (by decide)) q33a q33c (g := (mkF m 192 #[.val (.int p0), .val (.int p1), .val (.int p2), .val (.int p3), .val (.int p4), .val (.int p5), .val (.int rf), .val (.int kk), .val (.ref b1), .val (.int (1 : Int32)), .val (.int ((1 : Int32) + (1 : Int32))), .val (.int (((1 : Int32) + (1 : Int32)) + (1 : Int32))), .val (.int r6), .val (.int f7), .val (.int r8), .val (.int f9), .val (.int r10), .val (.int f11), .val (.ref z12), .val .null, .unset, .unset, .unset] [(.int f7), (.int r6), (.ref b1)])) rfl (by rw [hml]; rfl) (Steps.refl _) (argsL := [(.int r6), (.int f7)]) (rest := []) (lenOf pd9 rfl) rfl (by show 2 * 0 + _ ≤ _; exact Nat.le_of_eq rfl) (hb hby at_192) (fun _ _ => ⟨rfl, rfl, (by decide : 0 + 1 + 2 + 2 + 0 + 0 + 0 + 0 + 0 + 1 + 0 + 0 + 0 ≤ _), (by decide : 0 + 10 + 2 + 64 + 0 + 0 + 0 + 0 + 0 + 1 + 0 + 0 + 0 ≤ _)⟩)
    dsimp only [Pt.U, Pt.locs, Pt.cells, Pt.slots] at X33 l33 y33 z33 st33 hQ33
    subst l33 y33 z33
    obtain ⟨NQ33, OLq33, Zq33, KQ33, hP33⟩ := hQ33
    obtain rfl := hP33
    have OB_b1 := OB_b1.keep KQ33 nin0
    have V_A1 := V_A1.keep KQ33 nin0
    have V_A2 := V_A2.keep KQ33 nin0
    have V_I := V_I.keep KQ33 nin0
    have AR_R := own_arrKeep AR_R KQ33 nin0
    have EX_z12 := EX_z12.keep KQ33
    skip
    have OL := OLq33
    have Z0 := Zq33
    refine own_tr st33 ?_
    show own_Go p e below s _ _ _ (T33.setTop (mkF m 195 #[.val (.int p0), .val (.int p1), .val (.int p2), .val (.int p3), .val (.int p4), .val (.int p5), .val (.int rf), .val (.int kk), .val (.ref b1), .val (.int (1 : Int32)), .val (.int ((1 : Int32) + (1 : Int32))), .val (.int (((1 : Int32) + (1 : Int32)) + (1 : Int32))), .val (.int r6), .val (.int f7), .val (.int r8), .val (.int f9), .val (.int r10), .val (.int f11), .val (.ref z12), .val .null, .unset, .unset, .unset] [gt32]))
    refine own_via (fun _ k => XS.astore X33.here hx rfl (hb hby at_195) rfl ir_gt32 (l' := #[.val (.int p0), .val (.int p1), .val (.int p2), .val (.int p3), .val (.int p4), .val (.int p5), .val (.int rf), .val (.int kk), .val (.ref b1), .val (.int (1 : Int32)), .val (.int ((1 : Int32) + (1 : Int32))), .val (.int (((1 : Int32) + (1 : Int32)) + (1 : Int32))), .val (.int r6), .val (.int f7), .val (.int r8), .val (.int f9), .val (.int r10), .val (.int f11), .val (.ref z12), .val .null, .val gt32, .unset, .unset]) (own_store1 rfl ir_gt32 rfl) k) ?_
    show own_Go p e below s _ _ _ (T33.setTop (mkF m 197 #[.val (.int p0), .val (.int p1), .val (.int p2), .val (.int p3), .val (.int p4), .val (.int p5), .val (.int rf), .val (.int kk), .val (.ref b1), .val (.int (1 : Int32)), .val (.int ((1 : Int32) + (1 : Int32))), .val (.int (((1 : Int32) + (1 : Int32)) + (1 : Int32))), .val (.int r6), .val (.int f7), .val (.int r8), .val (.int f9), .val (.int r10), .val (.int f11), .val (.ref z12), .val .null, .val gt32, .unset, .unset] []))
    refine own_via (fun _ k => XS.aload X33.here hx rfl (hb hby at_197) rfl rfl k) ?_
    show own_Go p e below s _ _ _ (T33.setTop (mkF m 199 #[.val (.int p0), .val (.int p1), .val (.int p2), .val (.int p3), .val (.int p4), .val (.int p5), .val (.int rf), .val (.int kk), .val (.ref b1), .val (.int (1 : Int32)), .val (.int ((1 : Int32) + (1 : Int32))), .val (.int (((1 : Int32) + (1 : Int32)) + (1 : Int32))), .val (.int r6), .val (.int f7), .val (.int r8), .val (.int f9), .val (.int r10), .val (.int f11), .val (.ref z12), .val .null, .val gt32, .unset, .unset] [(.ref b1)]))
    refine own_via (fun _ k => XS.iload X33.here hx rfl (hb hby at_199) rfl k) ?_
    show own_Go p e below s _ _ _ (T33.setTop (mkF m 201 #[.val (.int p0), .val (.int p1), .val (.int p2), .val (.int p3), .val (.int p4), .val (.int p5), .val (.int rf), .val (.int kk), .val (.ref b1), .val (.int (1 : Int32)), .val (.int ((1 : Int32) + (1 : Int32))), .val (.int (((1 : Int32) + (1 : Int32)) + (1 : Int32))), .val (.int r6), .val (.int f7), .val (.int r8), .val (.int f9), .val (.int r10), .val (.int f11), .val (.ref z12), .val .null, .val gt32, .unset, .unset] [(.int r8), (.ref b1)]))
    refine own_via (fun _ k => XS.iload X33.here hx rfl (hb hby at_201) rfl k) ?_
    show own_Go p e below s _ _ _ (T33.setTop (mkF m 203 #[.val (.int p0), .val (.int p1), .val (.int p2), .val (.int p3), .val (.int p4), .val (.int p5), .val (.int rf), .val (.int kk), .val (.ref b1), .val (.int (1 : Int32)), .val (.int ((1 : Int32) + (1 : Int32))), .val (.int (((1 : Int32) + (1 : Int32)) + (1 : Int32))), .val (.int r6), .val (.int f7), .val (.int r8), .val (.int f9), .val (.int r10), .val (.int f11), .val (.ref z12), .val .null, .val gt32, .unset, .unset] [(.int f9), (.int r8), (.ref b1)]))
    have hat34 : ((cl.setSlot ((((r6 &&& (4095 : Int32)) * rf) + f7)).toNatClampNeg (.ref z12)).setSlot ((((r8 &&& (4095 : Int32)) * rf) + f9)).toNatClampNeg .null).slots[((((r8 &&& (4095 : Int32)) * rf) + f9)).toNatClampNeg]? = some .null := (own_at SR (own_n8 hrf) NR ix30 ix28 ix30 hr8 hfb9 hr6 hfb7 hr8 hfb9).trans (congrArg some (own_expB rfl rfl))
    obtain ⟨cq35, kq35, q35a, q35b, q35c⟩ := isOf hZ rfl OB_b1.1
    obtain ⟨_, _, ⟨T35, L35, k35, n35⟩, -, X35, ⟨Lc35, hQ35, l35, y35, z35⟩, st35⟩ := X33.virtualBack hx (y := (⟨"com/example/whenever/whenever/internal/engine/Rows", "getRef", "(II)Ljava/lang/Object;"⟩ : MethodName)) (z := (⟨"com/example/whenever/whenever/internal/engine/Rows", "getRef", "(II)Ljava/lang/Object;"⟩ : MethodName)) hown (mvT hZ (hw _ (List.mem_of_getElem? (i := 93) rfl))) (mvT hZ (hw _ (List.mem_of_getElem? (i := 94) rfl))) (notFace_of_selects (args := #[]) (mvT hZ (hw _ (List.mem_of_getElem? (i := 96) rfl)))) (mvT hZ (hw _ (List.mem_of_getElem? (i := 96) rfl))) (mvT hZ (hw _ (List.mem_of_getElem? (i := 95) rfl))) (by decide) (backOf (W := 0) (rm13_1 l Z a0 hw [] b1 A1 A2 I R k1 k2 ((((1 : Int32) + (1 : Int32)) + (1 : Int32)) + (1 : Int32)) kk rf ((cl.setSlot ((((r6 &&& (4095 : Int32)) * rf) + f7)).toNatClampNeg (.ref z12)).setSlot ((((r8 &&& (4095 : Int32)) * rf) + f9)).toNatClampNeg .null) r8 f9 .null w0 w1 mr wc kw0 kw1 T33.heap n0 Z0 K0 OL rfl (own_blk hr8) (own_inx ((sz_set _ _ _).trans ((sz_set _ _ _).trans SR)) ix30 hr8 hfb9 (own_n8 hrf)) hat34 ⟨OB_b1, V_A1, V_A2, OV_A1, OV_A2, ne_b1_A1, ne_b1_A2, ne_A1_A2, g_b1, g_A1, g_A2⟩ AR_R) hZ (hw _ (List.mem_of_getElem? (i := 97) rfl)) (hw _ (List.mem_of_getElem? (i := 2) rfl)) (by decide) (by decide)) q35a q35c (g := (mkF m 203 #[.val (.int p0), .val (.int p1), .val (.int p2), .val (.int p3), .val (.int p4), .val (.int p5), .val (.int rf), .val (.int kk), .val (.ref b1), .val (.int (1 : Int32)), .val (.int ((1 : Int32) + (1 : Int32))), .val (.int (((1 : Int32) + (1 : Int32)) + (1 : Int32))), .val (.int r6), .val (.int f7), .val (.int r8), .val (.int f9), .val (.int r10), .val (.int f11), .val (.ref z12), .val .null, .val gt32, .unset, .unset] [(.int f9), (.int r8), (.ref b1)])) rfl (by rw [hml]; rfl) (Steps.refl _) (argsL := [(.int r8), (.int f9)]) (rest := []) (lenOf pd9 rfl) rfl (by show 2 * 0 + _ ≤ _; exact Nat.le_of_eq rfl) (hb hby at_203) (fun _ _ => ⟨rfl, rfl, (by decide : 0 + 1 + 2 + 2 + 0 + 0 + 0 + 0 + 0 + 1 + 0 + 0 + 0 + 0 ≤ _), (by decide : 0 + 10 + 2 + 64 + 0 + 0 + 0 + 0 + 0 + 1 + 0 + 0 + 0 + 0 ≤ _)⟩)
    dsimp only [Pt.U, Pt.locs, Pt.cells, Pt.slots] at X35 l35 y35 z35 st35 hQ35
    subst l35 y35 z35
    obtain ⟨NQ35, OLq35, Zq35, KQ35, hP35⟩ := hQ35
    obtain rfl := hP35
    have OB_b1 := OB_b1.keep KQ35 nin0
    have V_A1 := V_A1.keep KQ35 nin0
    have V_A2 := V_A2.keep KQ35 nin0
    have V_I := V_I.keep KQ35 nin0
    have AR_R := own_arrKeep AR_R KQ35 nin0
    have EX_z12 := EX_z12.keep KQ35
    skip
    have OL := OLq35
    have Z0 := Zq35
    refine own_tr st35 ?_
    show own_Go p e below s _ _ _ (T35.setTop (mkF m 206 #[.val (.int p0), .val (.int p1), .val (.int p2), .val (.int p3), .val (.int p4), .val (.int p5), .val (.int rf), .val (.int kk), .val (.ref b1), .val (.int (1 : Int32)), .val (.int ((1 : Int32) + (1 : Int32))), .val (.int (((1 : Int32) + (1 : Int32)) + (1 : Int32))), .val (.int r6), .val (.int f7), .val (.int r8), .val (.int f9), .val (.int r10), .val (.int f11), .val (.ref z12), .val .null, .val gt32, .unset, .unset] [.null]))
    refine own_via (fun _ k => XS.astore X35.here hx rfl (hb hby at_206) rfl rfl (l' := #[.val (.int p0), .val (.int p1), .val (.int p2), .val (.int p3), .val (.int p4), .val (.int p5), .val (.int rf), .val (.int kk), .val (.ref b1), .val (.int (1 : Int32)), .val (.int ((1 : Int32) + (1 : Int32))), .val (.int (((1 : Int32) + (1 : Int32)) + (1 : Int32))), .val (.int r6), .val (.int f7), .val (.int r8), .val (.int f9), .val (.int r10), .val (.int f11), .val (.ref z12), .val .null, .val gt32, .val .null, .unset]) rfl k) ?_
    show own_Go p e below s _ _ _ (T35.setTop (mkF m 208 #[.val (.int p0), .val (.int p1), .val (.int p2), .val (.int p3), .val (.int p4), .val (.int p5), .val (.int rf), .val (.int kk), .val (.ref b1), .val (.int (1 : Int32)), .val (.int ((1 : Int32) + (1 : Int32))), .val (.int (((1 : Int32) + (1 : Int32)) + (1 : Int32))), .val (.int r6), .val (.int f7), .val (.int r8), .val (.int f9), .val (.int r10), .val (.int f11), .val (.ref z12), .val .null, .val gt32, .val .null, .unset] []))
    refine own_via (fun _ k => XS.aload X35.here hx rfl (hb hby at_208) rfl rfl k) ?_
    show own_Go p e below s _ _ _ (T35.setTop (mkF m 210 #[.val (.int p0), .val (.int p1), .val (.int p2), .val (.int p3), .val (.int p4), .val (.int p5), .val (.int rf), .val (.int kk), .val (.ref b1), .val (.int (1 : Int32)), .val (.int ((1 : Int32) + (1 : Int32))), .val (.int (((1 : Int32) + (1 : Int32)) + (1 : Int32))), .val (.int r6), .val (.int f7), .val (.int r8), .val (.int f9), .val (.int r10), .val (.int f11), .val (.ref z12), .val .null, .val gt32, .val .null, .unset] [(.ref b1)]))
    refine own_via (fun _ k => XS.iload X35.here hx rfl (hb hby at_210) rfl k) ?_
    show own_Go p e below s _ _ _ (T35.setTop (mkF m 212 #[.val (.int p0), .val (.int p1), .val (.int p2), .val (.int p3), .val (.int p4), .val (.int p5), .val (.int rf), .val (.int kk), .val (.ref b1), .val (.int (1 : Int32)), .val (.int ((1 : Int32) + (1 : Int32))), .val (.int (((1 : Int32) + (1 : Int32)) + (1 : Int32))), .val (.int r6), .val (.int f7), .val (.int r8), .val (.int f9), .val (.int r10), .val (.int f11), .val (.ref z12), .val .null, .val gt32, .val .null, .unset] [(.int r10), (.ref b1)]))
    refine own_via (fun _ k => XS.iload X35.here hx rfl (hb hby at_212) rfl k) ?_
    show own_Go p e below s _ _ _ (T35.setTop (mkF m 214 #[.val (.int p0), .val (.int p1), .val (.int p2), .val (.int p3), .val (.int p4), .val (.int p5), .val (.int rf), .val (.int kk), .val (.ref b1), .val (.int (1 : Int32)), .val (.int ((1 : Int32) + (1 : Int32))), .val (.int (((1 : Int32) + (1 : Int32)) + (1 : Int32))), .val (.int r6), .val (.int f7), .val (.int r8), .val (.int f9), .val (.int r10), .val (.int f11), .val (.ref z12), .val .null, .val gt32, .val .null, .unset] [(.int f11), (.int r10), (.ref b1)]))
    have ix36 : (((r10 &&& (4095 : Int32)) * rf) + f11).toInt = r10.toInt * rf.toInt + f11.toInt := own_ixR hrf hr10 hfb11
    obtain ⟨gt37, eg37⟩ : ∃ z, z = own_exp r10 f11 r6 f7 (.ref z12) r8 f9 .null := ⟨_, rfl⟩
    have hat37 : ((cl.setSlot ((((r6 &&& (4095 : Int32)) * rf) + f7)).toNatClampNeg (.ref z12)).setSlot ((((r8 &&& (4095 : Int32)) * rf) + f9)).toNatClampNeg .null).slots[((((r10 &&& (4095 : Int32)) * rf) + f11)).toNatClampNeg]? = some gt37 := (own_at SR (own_n8 hrf) NR ix36 ix28 ix30 hr10 hfb11 hr6 hfb7 hr8 hfb9).trans (congrArg some eg37.symm)
    have ir_gt37 : gt37.isRef = true := by rw [eg37]; exact own_exp_ref rfl rfl
    obtain ⟨cq38, kq38, q38a, q38b, q38c⟩ := isOf hZ rfl OB_b1.1
    obtain ⟨_, _, ⟨T38, L38, k38, n38⟩, -, X38, ⟨Lc38, hQ38, l38, y38, z38⟩, st38⟩ := X35.virtualBack hx (y := (⟨"com/example/whenever/whenever/internal/engine/Rows", "getRef", "(II)Ljava/lang/Object;"⟩ : MethodName)) (z := (⟨"com/example/whenever/whenever/internal/engine/Rows", "getRef", "(II)Ljava/lang/Object;"⟩ : MethodName)) hown (mvT hZ (hw _ (List.mem_of_getElem? (i := 93) rfl))) (mvT hZ (hw _ (List.mem_of_getElem? (i := 94) rfl))) (notFace_of_selects (args := #[]) (mvT hZ (hw _ (List.mem_of_getElem? (i := 96) rfl)))) (mvT hZ (hw _ (List.mem_of_getElem? (i := 96) rfl))) (mvT hZ (hw _ (List.mem_of_getElem? (i := 95) rfl))) (by decide) (backOf (W := 0) (rm13_1 l Z a0 hw [] b1 A1 A2 I R k1 k2 ((((1 : Int32) + (1 : Int32)) + (1 : Int32)) + (1 : Int32)) kk rf ((cl.setSlot ((((r6 &&& (4095 : Int32)) * rf) + f7)).toNatClampNeg (.ref z12)).setSlot ((((r8 &&& (4095 : Int32)) * rf) + f9)).toNatClampNeg .null) r10 f11 gt37 w0 w1 mr wc kw0 kw1 T35.heap n0 Z0 K0 OL ir_gt37 (own_blk hr10) (own_inx ((sz_set _ _ _).trans ((sz_set _ _ _).trans SR)) ix36 hr10 hfb11 (own_n8 hrf)) hat37 ⟨OB_b1, V_A1, V_A2, OV_A1, OV_A2, ne_b1_A1, ne_b1_A2, ne_A1_A2, g_b1, g_A1, g_A2⟩ AR_R) hZ (hw _ (List.mem_of_getElem? (i := 97) rfl)) (hw _ (List.mem_of_getElem? (i := 2) rfl)) (by decide) (by decide)) q38a q38c (g := (mkF m 214 #[.val (.int p0), .val (.int p1), .val (.int p2), .val (.int p3), .val (.int p4), .val (.int p5), .val (.int rf), .val (.int kk), .val (.ref b1), .val (.int (1 : Int32)), .val (.int ((1 : Int32) + (1 : Int32))), .val (.int (((1 : Int32) + (1 : Int32)) + (1 : Int32))), .val (.int r6), .val (.int f7), .val (.int r8), .val (.int f9), .val (.int r10), .val (.int f11), .val (.ref z12), .val .null, .val gt32, .val .null, .unset] [(.int f11), (.int r10), (.ref b1)])) rfl (by rw [hml]; rfl) (Steps.refl _) (argsL := [(.int r10), (.int f11)]) (rest := []) (lenOf pd9 rfl) rfl (by show 2 * 0 + _ ≤ _; exact Nat.le_of_eq rfl) (hb hby at_214) (fun _ _ => ⟨rfl, rfl, (by decide : 0 + 1 + 2 + 2 + 0 + 0 + 0 + 0 + 0 + 1 + 0 + 0 + 0 + 0 + 0 ≤ _), (by decide : 0 + 10 + 2 + 64 + 0 + 0 + 0 + 0 + 0 + 1 + 0 + 0 + 0 + 0 + 0 ≤ _)⟩)
    dsimp only [Pt.U, Pt.locs, Pt.cells, Pt.slots] at X38 l38 y38 z38 st38 hQ38
    subst l38 y38 z38
    obtain ⟨NQ38, OLq38, Zq38, KQ38, hP38⟩ := hQ38
    obtain rfl := hP38
    have OB_b1 := OB_b1.keep KQ38 nin0
    have V_A1 := V_A1.keep KQ38 nin0
    have V_A2 := V_A2.keep KQ38 nin0
    have V_I := V_I.keep KQ38 nin0
    have AR_R := own_arrKeep AR_R KQ38 nin0
    have EX_z12 := EX_z12.keep KQ38
    skip
    have OL := OLq38
    have Z0 := Zq38
    refine own_tr st38 ?_
    show own_Go p e below s _ _ _ (T38.setTop (mkF m 217 #[.val (.int p0), .val (.int p1), .val (.int p2), .val (.int p3), .val (.int p4), .val (.int p5), .val (.int rf), .val (.int kk), .val (.ref b1), .val (.int (1 : Int32)), .val (.int ((1 : Int32) + (1 : Int32))), .val (.int (((1 : Int32) + (1 : Int32)) + (1 : Int32))), .val (.int r6), .val (.int f7), .val (.int r8), .val (.int f9), .val (.int r10), .val (.int f11), .val (.ref z12), .val .null, .val gt32, .val .null, .unset] [gt37]))
    refine own_via (fun _ k => XS.astore X38.here hx rfl (hb hby at_217) rfl ir_gt37 (l' := #[.val (.int p0), .val (.int p1), .val (.int p2), .val (.int p3), .val (.int p4), .val (.int p5), .val (.int rf), .val (.int kk), .val (.ref b1), .val (.int (1 : Int32)), .val (.int ((1 : Int32) + (1 : Int32))), .val (.int (((1 : Int32) + (1 : Int32)) + (1 : Int32))), .val (.int r6), .val (.int f7), .val (.int r8), .val (.int f9), .val (.int r10), .val (.int f11), .val (.ref z12), .val .null, .val gt32, .val .null, .val gt37]) (own_store1 rfl ir_gt37 rfl) k) ?_
    show own_Go p e below s _ _ _ (T38.setTop (mkF m 219 #[.val (.int p0), .val (.int p1), .val (.int p2), .val (.int p3), .val (.int p4), .val (.int p5), .val (.int rf), .val (.int kk), .val (.ref b1), .val (.int (1 : Int32)), .val (.int ((1 : Int32) + (1 : Int32))), .val (.int (((1 : Int32) + (1 : Int32)) + (1 : Int32))), .val (.int r6), .val (.int f7), .val (.int r8), .val (.int f9), .val (.int r10), .val (.int f11), .val (.ref z12), .val .null, .val gt32, .val .null, .val gt37] []))
    refine own_via (fun _ k => XS.aload X38.here hx rfl (hb hby at_219) rfl ir_gt32 k) ?_
    show own_Go p e below s _ _ _ (T38.setTop (mkF m 221 #[.val (.int p0), .val (.int p1), .val (.int p2), .val (.int p3), .val (.int p4), .val (.int p5), .val (.int rf), .val (.int kk), .val (.ref b1), .val (.int (1 : Int32)), .val (.int ((1 : Int32) + (1 : Int32))), .val (.int (((1 : Int32) + (1 : Int32)) + (1 : Int32))), .val (.int r6), .val (.int f7), .val (.int r8), .val (.int f9), .val (.int r10), .val (.int f11), .val (.ref z12), .val .null, .val gt32, .val .null, .val gt37] [gt32]))
    refine own_via (fun _ k => XS.iload X38.here hx rfl (hb hby at_221) rfl k) ?_
    show own_Go p e below s _ _ _ (T38.setTop (mkF m 223 #[.val (.int p0), .val (.int p1), .val (.int p2), .val (.int p3), .val (.int p4), .val (.int p5), .val (.int rf), .val (.int kk), .val (.ref b1), .val (.int (1 : Int32)), .val (.int ((1 : Int32) + (1 : Int32))), .val (.int (((1 : Int32) + (1 : Int32)) + (1 : Int32))), .val (.int r6), .val (.int f7), .val (.int r8), .val (.int f9), .val (.int r10), .val (.int f11), .val (.ref z12), .val .null, .val gt32, .val .null, .val gt37] [(.int r6), gt32]))
    refine own_via (fun _ k => XS.iload X38.here hx rfl (hb hby at_223) rfl k) ?_
    show own_Go p e below s _ _ _ (T38.setTop (mkF m 225 #[.val (.int p0), .val (.int p1), .val (.int p2), .val (.int p3), .val (.int p4), .val (.int p5), .val (.int rf), .val (.int kk), .val (.ref b1), .val (.int (1 : Int32)), .val (.int ((1 : Int32) + (1 : Int32))), .val (.int (((1 : Int32) + (1 : Int32)) + (1 : Int32))), .val (.int r6), .val (.int f7), .val (.int r8), .val (.int f9), .val (.int r10), .val (.int f11), .val (.ref z12), .val .null, .val gt32, .val .null, .val gt37] [(.int f7), (.int r6), gt32]))
    refine own_via (fun _ k => XS.iload X38.here hx rfl (hb hby at_225) rfl k) ?_
    show own_Go p e below s _ _ _ (T38.setTop (mkF m 227 #[.val (.int p0), .val (.int p1), .val (.int p2), .val (.int p3), .val (.int p4), .val (.int p5), .val (.int rf), .val (.int kk), .val (.ref b1), .val (.int (1 : Int32)), .val (.int ((1 : Int32) + (1 : Int32))), .val (.int (((1 : Int32) + (1 : Int32)) + (1 : Int32))), .val (.int r6), .val (.int f7), .val (.int r8), .val (.int f9), .val (.int r10), .val (.int f11), .val (.ref z12), .val .null, .val gt32, .val .null, .val gt37] [(.int r6), (.int f7), (.int r6), gt32]))
    refine own_via (fun _ k => XS.iload X38.here hx rfl (hb hby at_227) rfl k) ?_
    show own_Go p e below s _ _ _ (T38.setTop (mkF m 229 #[.val (.int p0), .val (.int p1), .val (.int p2), .val (.int p3), .val (.int p4), .val (.int p5), .val (.int rf), .val (.int kk), .val (.ref b1), .val (.int (1 : Int32)), .val (.int ((1 : Int32) + (1 : Int32))), .val (.int (((1 : Int32) + (1 : Int32)) + (1 : Int32))), .val (.int r6), .val (.int f7), .val (.int r8), .val (.int f9), .val (.int r10), .val (.int f11), .val (.ref z12), .val .null, .val gt32, .val .null, .val gt37] [(.int f7), (.int r6), (.int f7), (.int r6), gt32]))
    refine own_via (fun _ k => XS.aload X38.here hx rfl (hb hby at_229) rfl rfl k) ?_
    show own_Go p e below s _ _ _ (T38.setTop (mkF m 231 #[.val (.int p0), .val (.int p1), .val (.int p2), .val (.int p3), .val (.int p4), .val (.int p5), .val (.int rf), .val (.int kk), .val (.ref b1), .val (.int (1 : Int32)), .val (.int ((1 : Int32) + (1 : Int32))), .val (.int (((1 : Int32) + (1 : Int32)) + (1 : Int32))), .val (.int r6), .val (.int f7), .val (.int r8), .val (.int f9), .val (.int r10), .val (.int f11), .val (.ref z12), .val .null, .val gt32, .val .null, .val gt37] [(.ref z12), (.int f7), (.int r6), (.int f7), (.int r6), gt32]))
    refine own_via (fun _ k => XS.iload X38.here hx rfl (hb hby at_231) rfl k) ?_
    show own_Go p e below s _ _ _ (T38.setTop (mkF m 233 #[.val (.int p0), .val (.int p1), .val (.int p2), .val (.int p3), .val (.int p4), .val (.int p5), .val (.int rf), .val (.int kk), .val (.ref b1), .val (.int (1 : Int32)), .val (.int ((1 : Int32) + (1 : Int32))), .val (.int (((1 : Int32) + (1 : Int32)) + (1 : Int32))), .val (.int r6), .val (.int f7), .val (.int r8), .val (.int f9), .val (.int r10), .val (.int f11), .val (.ref z12), .val .null, .val gt32, .val .null, .val gt37] [(.int r8), (.ref z12), (.int f7), (.int r6), (.int f7), (.int r6), gt32]))
    refine own_via (fun _ k => XS.iload X38.here hx rfl (hb hby at_233) rfl k) ?_
    show own_Go p e below s _ _ _ (T38.setTop (mkF m 235 #[.val (.int p0), .val (.int p1), .val (.int p2), .val (.int p3), .val (.int p4), .val (.int p5), .val (.int rf), .val (.int kk), .val (.ref b1), .val (.int (1 : Int32)), .val (.int ((1 : Int32) + (1 : Int32))), .val (.int (((1 : Int32) + (1 : Int32)) + (1 : Int32))), .val (.int r6), .val (.int f7), .val (.int r8), .val (.int f9), .val (.int r10), .val (.int f11), .val (.ref z12), .val .null, .val gt32, .val .null, .val gt37] [(.int f9), (.int r8), (.ref z12), (.int f7), (.int r6), (.int f7), (.int r6), gt32]))
    refine own_via (fun _ k => XS.aload X38.here hx rfl (hb hby at_235) rfl rfl k) ?_
    show own_Go p e below s _ _ _ (T38.setTop (mkF m 237 #[.val (.int p0), .val (.int p1), .val (.int p2), .val (.int p3), .val (.int p4), .val (.int p5), .val (.int rf), .val (.int kk), .val (.ref b1), .val (.int (1 : Int32)), .val (.int ((1 : Int32) + (1 : Int32))), .val (.int (((1 : Int32) + (1 : Int32)) + (1 : Int32))), .val (.int r6), .val (.int f7), .val (.int r8), .val (.int f9), .val (.int r10), .val (.int f11), .val (.ref z12), .val .null, .val gt32, .val .null, .val gt37] [.null, (.int f9), (.int r8), (.ref z12), (.int f7), (.int r6), (.int f7), (.int r6), gt32]))
    obtain ⟨_, _, ⟨T39, L39, k39, n39⟩, -, X39, ⟨Lc39, hQ39, l39, y39, z39⟩, st39⟩ := Jvm.LawKit.callS X38 hx (y := (⟨"com/example/whenever/whenever/internal/engine/RowsSetRefPinLaw", "expected", "(IIIILjava/lang/Object;IILjava/lang/Object;)Ljava/lang/Object;"⟩ : MethodName)) hown (mvT hZ (hw _ (List.mem_of_getElem? (i := 98) rfl))) (mvT hZ (hw _ (List.mem_of_getElem? (i := 99) rfl))) (mvT hZ (hw _ (List.mem_of_getElem? (i := 78) rfl))) (mvT hZ (hw _ (List.mem_of_getElem? (i := 100) rfl))) (by decide) (backOf (W := 1) (rm14_1 l Z a0 hw [] r6 f7 r6 f7 (.ref z12) r8 f9 .null w0 w1 mr wc kw0 kw1 T38.heap n0 Z0 K0 OL rfl rfl) hZ (hw _ (List.mem_of_getElem? (i := 100) rfl)) (hw _ (List.mem_of_getElem? (i := 78) rfl)) (by decide) (by decide)) (g := (mkF m 237 #[.val (.int p0), .val (.int p1), .val (.int p2), .val (.int p3), .val (.int p4), .val (.int p5), .val (.int rf), .val (.int kk), .val (.ref b1), .val (.int (1 : Int32)), .val (.int ((1 : Int32) + (1 : Int32))), .val (.int (((1 : Int32) + (1 : Int32)) + (1 : Int32))), .val (.int r6), .val (.int f7), .val (.int r8), .val (.int f9), .val (.int r10), .val (.int f11), .val (.ref z12), .val .null, .val gt32, .val .null, .val gt37] [.null, (.int f9), (.int r8), (.ref z12), (.int f7), (.int r6), (.int f7), (.int r6), gt32])) rfl (by rw [hml]; rfl) (argsL := [(.int r6), (.int f7), (.int r6), (.int f7), (.ref z12), (.int r8), (.int f9), .null]) (rest := [gt32]) (lenOf pd10 rfl) rfl (by show 2 * 0 + _ ≤ _; rcases ref_cases ir_gt32 with rfl | ⟨_, rfl⟩ <;> exact Nat.le_of_eq rfl) (hb hby at_237) (fun _ _ => ⟨rfl, rfl, (by decide : 0 + 1 + 2 + 2 + 0 + 0 + 0 + 0 + 0 + 1 + 0 + 0 + 0 + 0 + 0 + 0 ≤ _), (by decide : 0 + 10 + 2 + 64 + 0 + 0 + 0 + 0 + 0 + 1 + 0 + 0 + 0 + 0 + 0 + 0 ≤ _)⟩)
    dsimp only [Pt.U, Pt.locs, Pt.cells, Pt.slots] at X39 l39 y39 z39 st39 hQ39
    subst l39 y39 z39
    obtain ⟨NQ39, OLq39, Zq39, KQ39, hP39⟩ := hQ39
    have hP39 := hP39.trans (congrArg some eg32.symm)
    obtain rfl := hP39
    have OB_b1 := OB_b1.keep KQ39 nin0
    have V_A1 := V_A1.keep KQ39 nin0
    have V_A2 := V_A2.keep KQ39 nin0
    have V_I := V_I.keep KQ39 nin0
    have AR_R := own_arrKeep AR_R KQ39 nin0
    have EX_z12 := EX_z12.keep KQ39
    skip
    have OL := OLq39
    have Z0 := Zq39
    refine own_via st39 ?_
    show own_Go p e below s _ _ _ (T39.setTop (mkF m 240 #[.val (.int p0), .val (.int p1), .val (.int p2), .val (.int p3), .val (.int p4), .val (.int p5), .val (.int rf), .val (.int kk), .val (.ref b1), .val (.int (1 : Int32)), .val (.int ((1 : Int32) + (1 : Int32))), .val (.int (((1 : Int32) + (1 : Int32)) + (1 : Int32))), .val (.int r6), .val (.int f7), .val (.int r8), .val (.int f9), .val (.int r10), .val (.int f11), .val (.ref z12), .val .null, .val gt32, .val .null, .val gt37] [gt32, gt32]))
    refine own_via (fun _ k => Jvm.RoadKit.acmp (g := (mkF m 240 #[.val (.int p0), .val (.int p1), .val (.int p2), .val (.int p3), .val (.int p4), .val (.int p5), .val (.int rf), .val (.int kk), .val (.ref b1), .val (.int (1 : Int32)), .val (.int ((1 : Int32) + (1 : Int32))), .val (.int (((1 : Int32) + (1 : Int32)) + (1 : Int32))), .val (.int r6), .val (.int f7), .val (.int r8), .val (.int f9), .val (.int r10), .val (.int f11), .val (.ref z12), .val .null, .val gt32, .val .null, .val gt37] [gt32, gt32])) X39 hx rfl ir_gt32 ir_gt32 (pc0 := 240) (pc' := 243) (same := true) rfl (hb hby at_240) rfl (decide_eq_true rfl) (by decide) (by decide) k) ?_
    show own_Go p e below s _ _ _ (T39.setTop (mkF m 243 #[.val (.int p0), .val (.int p1), .val (.int p2), .val (.int p3), .val (.int p4), .val (.int p5), .val (.int rf), .val (.int kk), .val (.ref b1), .val (.int (1 : Int32)), .val (.int ((1 : Int32) + (1 : Int32))), .val (.int (((1 : Int32) + (1 : Int32)) + (1 : Int32))), .val (.int r6), .val (.int f7), .val (.int r8), .val (.int f9), .val (.int r10), .val (.int f11), .val (.ref z12), .val .null, .val gt32, .val .null, .val gt37] []))
    refine own_via (fun _ k => XS.aload X39.here hx rfl (hb hby at_243) rfl rfl k) ?_
    show own_Go p e below s _ _ _ (T39.setTop (mkF m 245 #[.val (.int p0), .val (.int p1), .val (.int p2), .val (.int p3), .val (.int p4), .val (.int p5), .val (.int rf), .val (.int kk), .val (.ref b1), .val (.int (1 : Int32)), .val (.int ((1 : Int32) + (1 : Int32))), .val (.int (((1 : Int32) + (1 : Int32)) + (1 : Int32))), .val (.int r6), .val (.int f7), .val (.int r8), .val (.int f9), .val (.int r10), .val (.int f11), .val (.ref z12), .val .null, .val gt32, .val .null, .val gt37] [.null]))
    refine own_via (fun _ k => XS.aload X39.here hx rfl (hb hby at_245) rfl rfl k) ?_
    show own_Go p e below s _ _ _ (T39.setTop (mkF m 247 #[.val (.int p0), .val (.int p1), .val (.int p2), .val (.int p3), .val (.int p4), .val (.int p5), .val (.int rf), .val (.int kk), .val (.ref b1), .val (.int (1 : Int32)), .val (.int ((1 : Int32) + (1 : Int32))), .val (.int (((1 : Int32) + (1 : Int32)) + (1 : Int32))), .val (.int r6), .val (.int f7), .val (.int r8), .val (.int f9), .val (.int r10), .val (.int f11), .val (.ref z12), .val .null, .val gt32, .val .null, .val gt37] [.null, .null]))
    refine own_via (fun _ k => Jvm.RoadKit.acmp (g := (mkF m 247 #[.val (.int p0), .val (.int p1), .val (.int p2), .val (.int p3), .val (.int p4), .val (.int p5), .val (.int rf), .val (.int kk), .val (.ref b1), .val (.int (1 : Int32)), .val (.int ((1 : Int32) + (1 : Int32))), .val (.int (((1 : Int32) + (1 : Int32)) + (1 : Int32))), .val (.int r6), .val (.int f7), .val (.int r8), .val (.int f9), .val (.int r10), .val (.int f11), .val (.ref z12), .val .null, .val gt32, .val .null, .val gt37] [.null, .null])) X39 hx rfl rfl rfl (pc0 := 247) (pc' := 250) (same := true) rfl (hb hby at_247) rfl (decide_eq_true rfl) (by decide) (by decide) k) ?_
    show own_Go p e below s _ _ _ (T39.setTop (mkF m 250 #[.val (.int p0), .val (.int p1), .val (.int p2), .val (.int p3), .val (.int p4), .val (.int p5), .val (.int rf), .val (.int kk), .val (.ref b1), .val (.int (1 : Int32)), .val (.int ((1 : Int32) + (1 : Int32))), .val (.int (((1 : Int32) + (1 : Int32)) + (1 : Int32))), .val (.int r6), .val (.int f7), .val (.int r8), .val (.int f9), .val (.int r10), .val (.int f11), .val (.ref z12), .val .null, .val gt32, .val .null, .val gt37] []))
    refine own_via (fun _ k => XS.aload X39.here hx rfl (hb hby at_250) rfl ir_gt37 k) ?_
    show own_Go p e below s _ _ _ (T39.setTop (mkF m 252 #[.val (.int p0), .val (.int p1), .val (.int p2), .val (.int p3), .val (.int p4), .val (.int p5), .val (.int rf), .val (.int kk), .val (.ref b1), .val (.int (1 : Int32)), .val (.int ((1 : Int32) + (1 : Int32))), .val (.int (((1 : Int32) + (1 : Int32)) + (1 : Int32))), .val (.int r6), .val (.int f7), .val (.int r8), .val (.int f9), .val (.int r10), .val (.int f11), .val (.ref z12), .val .null, .val gt32, .val .null, .val gt37] [gt37]))
    refine own_via (fun _ k => XS.iload X39.here hx rfl (hb hby at_252) rfl k) ?_
    show own_Go p e below s _ _ _ (T39.setTop (mkF m 254 #[.val (.int p0), .val (.int p1), .val (.int p2), .val (.int p3), .val (.int p4), .val (.int p5), .val (.int rf), .val (.int kk), .val (.ref b1), .val (.int (1 : Int32)), .val (.int ((1 : Int32) + (1 : Int32))), .val (.int (((1 : Int32) + (1 : Int32)) + (1 : Int32))), .val (.int r6), .val (.int f7), .val (.int r8), .val (.int f9), .val (.int r10), .val (.int f11), .val (.ref z12), .val .null, .val gt32, .val .null, .val gt37] [(.int r10), gt37]))
    refine own_via (fun _ k => XS.iload X39.here hx rfl (hb hby at_254) rfl k) ?_
    show own_Go p e below s _ _ _ (T39.setTop (mkF m 256 #[.val (.int p0), .val (.int p1), .val (.int p2), .val (.int p3), .val (.int p4), .val (.int p5), .val (.int rf), .val (.int kk), .val (.ref b1), .val (.int (1 : Int32)), .val (.int ((1 : Int32) + (1 : Int32))), .val (.int (((1 : Int32) + (1 : Int32)) + (1 : Int32))), .val (.int r6), .val (.int f7), .val (.int r8), .val (.int f9), .val (.int r10), .val (.int f11), .val (.ref z12), .val .null, .val gt32, .val .null, .val gt37] [(.int f11), (.int r10), gt37]))
    refine own_via (fun _ k => XS.iload X39.here hx rfl (hb hby at_256) rfl k) ?_
    show own_Go p e below s _ _ _ (T39.setTop (mkF m 258 #[.val (.int p0), .val (.int p1), .val (.int p2), .val (.int p3), .val (.int p4), .val (.int p5), .val (.int rf), .val (.int kk), .val (.ref b1), .val (.int (1 : Int32)), .val (.int ((1 : Int32) + (1 : Int32))), .val (.int (((1 : Int32) + (1 : Int32)) + (1 : Int32))), .val (.int r6), .val (.int f7), .val (.int r8), .val (.int f9), .val (.int r10), .val (.int f11), .val (.ref z12), .val .null, .val gt32, .val .null, .val gt37] [(.int r6), (.int f11), (.int r10), gt37]))
    refine own_via (fun _ k => XS.iload X39.here hx rfl (hb hby at_258) rfl k) ?_
    show own_Go p e below s _ _ _ (T39.setTop (mkF m 260 #[.val (.int p0), .val (.int p1), .val (.int p2), .val (.int p3), .val (.int p4), .val (.int p5), .val (.int rf), .val (.int kk), .val (.ref b1), .val (.int (1 : Int32)), .val (.int ((1 : Int32) + (1 : Int32))), .val (.int (((1 : Int32) + (1 : Int32)) + (1 : Int32))), .val (.int r6), .val (.int f7), .val (.int r8), .val (.int f9), .val (.int r10), .val (.int f11), .val (.ref z12), .val .null, .val gt32, .val .null, .val gt37] [(.int f7), (.int r6), (.int f11), (.int r10), gt37]))
    refine own_via (fun _ k => XS.aload X39.here hx rfl (hb hby at_260) rfl rfl k) ?_
    show own_Go p e below s _ _ _ (T39.setTop (mkF m 262 #[.val (.int p0), .val (.int p1), .val (.int p2), .val (.int p3), .val (.int p4), .val (.int p5), .val (.int rf), .val (.int kk), .val (.ref b1), .val (.int (1 : Int32)), .val (.int ((1 : Int32) + (1 : Int32))), .val (.int (((1 : Int32) + (1 : Int32)) + (1 : Int32))), .val (.int r6), .val (.int f7), .val (.int r8), .val (.int f9), .val (.int r10), .val (.int f11), .val (.ref z12), .val .null, .val gt32, .val .null, .val gt37] [(.ref z12), (.int f7), (.int r6), (.int f11), (.int r10), gt37]))
    refine own_via (fun _ k => XS.iload X39.here hx rfl (hb hby at_262) rfl k) ?_
    show own_Go p e below s _ _ _ (T39.setTop (mkF m 264 #[.val (.int p0), .val (.int p1), .val (.int p2), .val (.int p3), .val (.int p4), .val (.int p5), .val (.int rf), .val (.int kk), .val (.ref b1), .val (.int (1 : Int32)), .val (.int ((1 : Int32) + (1 : Int32))), .val (.int (((1 : Int32) + (1 : Int32)) + (1 : Int32))), .val (.int r6), .val (.int f7), .val (.int r8), .val (.int f9), .val (.int r10), .val (.int f11), .val (.ref z12), .val .null, .val gt32, .val .null, .val gt37] [(.int r8), (.ref z12), (.int f7), (.int r6), (.int f11), (.int r10), gt37]))
    refine own_via (fun _ k => XS.iload X39.here hx rfl (hb hby at_264) rfl k) ?_
    show own_Go p e below s _ _ _ (T39.setTop (mkF m 266 #[.val (.int p0), .val (.int p1), .val (.int p2), .val (.int p3), .val (.int p4), .val (.int p5), .val (.int rf), .val (.int kk), .val (.ref b1), .val (.int (1 : Int32)), .val (.int ((1 : Int32) + (1 : Int32))), .val (.int (((1 : Int32) + (1 : Int32)) + (1 : Int32))), .val (.int r6), .val (.int f7), .val (.int r8), .val (.int f9), .val (.int r10), .val (.int f11), .val (.ref z12), .val .null, .val gt32, .val .null, .val gt37] [(.int f9), (.int r8), (.ref z12), (.int f7), (.int r6), (.int f11), (.int r10), gt37]))
    refine own_via (fun _ k => XS.aload X39.here hx rfl (hb hby at_266) rfl rfl k) ?_
    show own_Go p e below s _ _ _ (T39.setTop (mkF m 268 #[.val (.int p0), .val (.int p1), .val (.int p2), .val (.int p3), .val (.int p4), .val (.int p5), .val (.int rf), .val (.int kk), .val (.ref b1), .val (.int (1 : Int32)), .val (.int ((1 : Int32) + (1 : Int32))), .val (.int (((1 : Int32) + (1 : Int32)) + (1 : Int32))), .val (.int r6), .val (.int f7), .val (.int r8), .val (.int f9), .val (.int r10), .val (.int f11), .val (.ref z12), .val .null, .val gt32, .val .null, .val gt37] [.null, (.int f9), (.int r8), (.ref z12), (.int f7), (.int r6), (.int f11), (.int r10), gt37]))
    obtain ⟨_, _, ⟨T40, L40, k40, n40⟩, -, X40, ⟨Lc40, hQ40, l40, y40, z40⟩, st40⟩ := Jvm.LawKit.callS X39 hx (y := (⟨"com/example/whenever/whenever/internal/engine/RowsSetRefPinLaw", "expected", "(IIIILjava/lang/Object;IILjava/lang/Object;)Ljava/lang/Object;"⟩ : MethodName)) hown (mvT hZ (hw _ (List.mem_of_getElem? (i := 98) rfl))) (mvT hZ (hw _ (List.mem_of_getElem? (i := 99) rfl))) (mvT hZ (hw _ (List.mem_of_getElem? (i := 78) rfl))) (mvT hZ (hw _ (List.mem_of_getElem? (i := 100) rfl))) (by decide) (backOf (W := 1) (rm14_1 l Z a0 hw [] r10 f11 r6 f7 (.ref z12) r8 f9 .null w0 w1 mr wc kw0 kw1 T39.heap n0 Z0 K0 OL rfl rfl) hZ (hw _ (List.mem_of_getElem? (i := 100) rfl)) (hw _ (List.mem_of_getElem? (i := 78) rfl)) (by decide) (by decide)) (g := (mkF m 268 #[.val (.int p0), .val (.int p1), .val (.int p2), .val (.int p3), .val (.int p4), .val (.int p5), .val (.int rf), .val (.int kk), .val (.ref b1), .val (.int (1 : Int32)), .val (.int ((1 : Int32) + (1 : Int32))), .val (.int (((1 : Int32) + (1 : Int32)) + (1 : Int32))), .val (.int r6), .val (.int f7), .val (.int r8), .val (.int f9), .val (.int r10), .val (.int f11), .val (.ref z12), .val .null, .val gt32, .val .null, .val gt37] [.null, (.int f9), (.int r8), (.ref z12), (.int f7), (.int r6), (.int f11), (.int r10), gt37])) rfl (by rw [hml]; rfl) (argsL := [(.int r10), (.int f11), (.int r6), (.int f7), (.ref z12), (.int r8), (.int f9), .null]) (rest := [gt37]) (lenOf pd10 rfl) rfl (by show 2 * 0 + _ ≤ _; rcases ref_cases ir_gt37 with rfl | ⟨_, rfl⟩ <;> exact Nat.le_of_eq rfl) (hb hby at_268) (fun _ _ => ⟨rfl, rfl, (by decide : 0 + 1 + 2 + 2 + 0 + 0 + 0 + 0 + 0 + 1 + 0 + 0 + 0 + 0 + 0 + 0 + 0 ≤ _), (by decide : 0 + 10 + 2 + 64 + 0 + 0 + 0 + 0 + 0 + 1 + 0 + 0 + 0 + 0 + 0 + 0 + 0 ≤ _)⟩)
    dsimp only [Pt.U, Pt.locs, Pt.cells, Pt.slots] at X40 l40 y40 z40 st40 hQ40
    subst l40 y40 z40
    obtain ⟨NQ40, OLq40, Zq40, KQ40, hP40⟩ := hQ40
    have hP40 := hP40.trans (congrArg some eg37.symm)
    obtain rfl := hP40
    have OB_b1 := OB_b1.keep KQ40 nin0
    have V_A1 := V_A1.keep KQ40 nin0
    have V_A2 := V_A2.keep KQ40 nin0
    have V_I := V_I.keep KQ40 nin0
    have AR_R := own_arrKeep AR_R KQ40 nin0
    have EX_z12 := EX_z12.keep KQ40
    skip
    have OL := OLq40
    have Z0 := Zq40
    refine own_via st40 ?_
    show own_Go p e below s _ _ _ (T40.setTop (mkF m 271 #[.val (.int p0), .val (.int p1), .val (.int p2), .val (.int p3), .val (.int p4), .val (.int p5), .val (.int rf), .val (.int kk), .val (.ref b1), .val (.int (1 : Int32)), .val (.int ((1 : Int32) + (1 : Int32))), .val (.int (((1 : Int32) + (1 : Int32)) + (1 : Int32))), .val (.int r6), .val (.int f7), .val (.int r8), .val (.int f9), .val (.int r10), .val (.int f11), .val (.ref z12), .val .null, .val gt32, .val .null, .val gt37] [gt37, gt37]))
    refine own_via (fun _ k => Jvm.RoadKit.acmp (g := (mkF m 271 #[.val (.int p0), .val (.int p1), .val (.int p2), .val (.int p3), .val (.int p4), .val (.int p5), .val (.int rf), .val (.int kk), .val (.ref b1), .val (.int (1 : Int32)), .val (.int ((1 : Int32) + (1 : Int32))), .val (.int (((1 : Int32) + (1 : Int32)) + (1 : Int32))), .val (.int r6), .val (.int f7), .val (.int r8), .val (.int f9), .val (.int r10), .val (.int f11), .val (.ref z12), .val .null, .val gt32, .val .null, .val gt37] [gt37, gt37])) X40 hx rfl ir_gt37 ir_gt37 (pc0 := 271) (pc' := 274) (same := true) rfl (hb hby at_271) rfl (decide_eq_true rfl) (by decide) (by decide) k) ?_
    show own_Go p e below s _ _ _ (T40.setTop (mkF m 274 #[.val (.int p0), .val (.int p1), .val (.int p2), .val (.int p3), .val (.int p4), .val (.int p5), .val (.int rf), .val (.int kk), .val (.ref b1), .val (.int (1 : Int32)), .val (.int ((1 : Int32) + (1 : Int32))), .val (.int (((1 : Int32) + (1 : Int32)) + (1 : Int32))), .val (.int r6), .val (.int f7), .val (.int r8), .val (.int f9), .val (.int r10), .val (.int f11), .val (.ref z12), .val .null, .val gt32, .val .null, .val gt37] []))
    refine own_via (fun _ k => XS.iconst X40.here hx rfl (hb hby at_274) k) ?_
    show own_Go p e below s _ _ _ (T40.setTop (mkF m 275 #[.val (.int p0), .val (.int p1), .val (.int p2), .val (.int p3), .val (.int p4), .val (.int p5), .val (.int rf), .val (.int kk), .val (.ref b1), .val (.int (1 : Int32)), .val (.int ((1 : Int32) + (1 : Int32))), .val (.int (((1 : Int32) + (1 : Int32)) + (1 : Int32))), .val (.int r6), .val (.int f7), .val (.int r8), .val (.int f9), .val (.int r10), .val (.int f11), .val (.ref z12), .val .null, .val gt32, .val .null, .val gt37] [(.int (1 : Int32))]))
    refine own_via (fun _ k => XS.goto X40.here hx rfl (pc0 := 275) (pc' := 279) rfl (hb hby at_275) (by decide) (by decide) k) ?_
    show own_Go p e below s _ _ _ (T40.setTop (mkF m 279 #[.val (.int p0), .val (.int p1), .val (.int p2), .val (.int p3), .val (.int p4), .val (.int p5), .val (.int rf), .val (.int kk), .val (.ref b1), .val (.int (1 : Int32)), .val (.int ((1 : Int32) + (1 : Int32))), .val (.int (((1 : Int32) + (1 : Int32)) + (1 : Int32))), .val (.int r6), .val (.int f7), .val (.int r8), .val (.int f9), .val (.int r10), .val (.int f11), .val (.ref z12), .val .null, .val gt32, .val .null, .val gt37] [(.int (1 : Int32))]))
    exact own_retZ X40 hx hlk (t := .boolean) Bd.returns (by simp) (hb hby at_279) (z' := (1 : Int32)) (by first | rfl | decide) ⟨rfl, (Fr.app (Fr.app (Fr.app (Fr.app (Fr.app (Fr.app (Fr.app (Fr.app (Fr.app (Fr.app (Fr.app (Fr.app (Fr.app (Fr.app (Fr.app (Fr.nil n0) NQ2) NQ3) NQ4) NQ5) NQ6) NQ8) NQ10) NQ12) NQ29) NQ31) NQ33) NQ35) NQ38) NQ39) NQ40)⟩ (by decide) (by decide)
set_option maxRecDepth 65536 in
set_option maxHeartbeats 40000000 in
theorem comes_1 {Post : Tables → Env → Array Value → State → Outcome → State → Prop} (hpost : ∀ tb e args s v u, (limb_1_1.after args s (.returned v) u = true ∧ limb_1_2.after args s (.returned v) u = true ∧ True) → FrameEnd s (.returned v) u (Jvm.fieldLocs frame_1_writes args s ++ Jvm.arrayLocs frame_1_arrays args s ++ Jvm.staticLocs frame_1_statics s) 24 256 → Post tb e args s (.returned v) u) :
    ArmFor flags0 classFile x code maxLocals ret World_1 tables_1 room_1 Calls_1 rest_1 Pre_1 Post := by
  intro l hfl _ _ p e ha hc hk s m args below hf hA hF happ hP
  obtain ⟨hcalls, hrest, hpre⟩ := hP
  obtain ⟨-, -, -, hnamed, -, -, -, hat⟩ := (Spec.applies_iff hf).mp happ
  obtain ⟨hg, hn⟩ := and_e (Cond.before_iff.mp (show (Jvm.Cond.and given_1 narrow_1).before args s = true from hpre))
  obtain ⟨g0, hg0⟩ := and_e hg
  obtain ⟨g1, hg1⟩ := and_e hg0
  obtain ⟨g2, hg2⟩ := and_e hg1
  obtain ⟨g3, hg3⟩ := and_e hg2
  obtain ⟨g4, hg4⟩ := and_e hg3
  obtain ⟨g5, hg5⟩ := and_e hg4
  obtain ⟨u0, u1, u2, u3, u4, u5, rfl⟩ : ∃ u0 u1 u2 u3 u4 u5 : Value, args = #[u0, u1, u2, u3, u4, u5] := by
    have hs : args.size = 6 := by simpa [Cond.value, given_1] using g0
    obtain ⟨L⟩ := args
    match L, hs with
    | [u0, u1, u2, u3, u4, u5], _ => exact ⟨u0, u1, u2, u3, u4, u5, rfl⟩
  have hw := fun d (hd : d ∈ tables_1) => atoms_spec (ws := Jvm.Cond.code x code maxLocals ret :: tables_1) hat d (List.mem_cons_of_mem _ hd)
  have hfit : Fit s := fun {y c} hc i hi => by
    obtain ⟨ha, rfl⟩ := Array.getElem?_eq_some_iff.mp hc
    have q := List.all_eq_true.mp ((Array.all_eq_true_iff_forall_mem.mp hF) _ (Array.getElem_mem ha)) i (List.mem_range.mpr hi)
    simpa [Array.getElem?_eq_getElem hi] using q
  obtain ⟨i0, ei0⟩ := is_v g1
  obtain rfl : u0 = (.int i0) := Option.some.inj ei0
  obtain ⟨i1, ei1⟩ := is_v g2
  obtain rfl : u1 = (.int i1) := Option.some.inj ei1
  obtain ⟨i2, ei2⟩ := is_v g3
  obtain rfl : u2 = (.int i2) := Option.some.inj ei2
  obtain ⟨i3, ei3⟩ := is_v g4
  obtain rfl : u3 = (.int i3) := Option.some.inj ei3
  obtain ⟨i4, ei4⟩ := is_v g5
  obtain rfl : u4 = (.int i4) := Option.some.inj ei4
  obtain ⟨i5, ei5⟩ := is_v hg5
  obtain rfl : u5 = (.int i5) := Option.some.inj ei5
  obtain ⟨t0, hn0⟩ := and_e hn
  obtain ⟨t1, hn1⟩ := and_e hn0
  obtain ⟨t2, hn2⟩ := and_e hn1
  obtain ⟨t3, hn3⟩ := and_e hn2
  obtain ⟨t4, hn4⟩ := and_e hn3
  obtain ⟨w0, v_w0⟩ := exa_v t1
  have E_w0 := Exa.start v_w0 t1
  have S_w0 := Sta.start v_w0 (Or.inr ⟨(hw _ (List.mem_of_getElem? (i := 2) rfl)), (hw _ (List.mem_of_getElem? (i := 12) rfl))⟩)
  obtain ⟨c_w0, A_w0⟩ := Arr.start v_w0 t0
  have V_w0 := own_empty (dv := (.int 0)) hfit A_w0 v_w0 t2
  obtain ⟨w1, v_w1⟩ := exa_v t4
  have E_w1 := Exa.start v_w1 t4
  have S_w1 := Sta.start v_w1 (Or.inr ⟨(hw _ (List.mem_of_getElem? (i := 2) rfl)), (hw _ (List.mem_of_getElem? (i := 19) rfl))⟩)
  obtain ⟨c_w1, A_w1⟩ := Arr.start v_w1 t3
  have V_w1 := own_empty (dv := .null) hfit A_w1 v_w1 hn4
  obtain ⟨mc, mk, mr, m1, m2, m3, m4⟩ := hcalls.1
  have hjs := (atoms_of jdkStatics_1 (own := restOwn_1) (show (jdkStatics_1.foldr Jvm.Cond.and restOwn_1).before _ s = true from hrest)).1
  obtain ⟨wc, S_wc, S_high, CA⟩ := own_cache hjs (hw _ (List.mem_of_getElem? (i := 85) rfl))
  obtain ⟨n, o, h1, h2, h3, _, L, rfl, ⟨rfl, N⟩, hq⟩ := rm0 l s _ hw tables_1 i0 i1 i2 i3 i4 i5 w0 w1 mr wc c_w0.cls c_w1.cls s.heap s.heap.size (Nat.le_refl _) ⟨S_w0, S_w1, E_w0, E_w1, V_w0, V_w1, ⟨mc, mk, m1, m2, m3, m4⟩, S_wc, S_high, CA⟩ (Old.start s) p e ha hc hk s m _ below hf ((Spec.applies_iff_loose hf).mp happ).1 ⟨rfl, State.Warmed39.refl s, rfl⟩ trivial
  refine ⟨n, _, h1, h2, h3, hpost _ _ _ _ _ _ ⟨Cond.after_iff.mpr rfl, Cond.after_iff.mpr (eq_i res_at (Term.int_eval (1)) rfl), trivial⟩ ⟨hq.1, hq.2.1, (hq.2.2.sift fun y hy => Or.inr (N y hy)).mono (by decide) (by decide)⟩⟩
theorem main_1_1 : Claimed_1_1 := comes_1 fun _ _ _ _ _ _ h hF => ⟨h.1, hF⟩
theorem main_1_2 : Claimed_1_2 := comes_1 fun _ _ _ _ _ _ h hF => ⟨h.2.1, hF⟩
end Jvm.Pilot.@@N@@
namespace Jvm.Pilot.@@N@@
open Jvm Jvm.ClassFile Sem Op Lib Jvm.Free Jvm.Stand Jvm.Pilot.@@N@@.Jvm.D
/-! MADE BY PROGRAM (witnessworld.py) out of the Statement's table words and the real class files: 21 classes; the members and pool entries that the words name. The judged class is class 1, her method 1. -/
namespace start1
open Jvm.ClassFile
def u (s : String) : CpInfo := .utf8 (stringToUtf16 s)
/-- a pool by its gaps: so many unusable entries, then the entry; so many at the end -/
def gap : Nat → List CpInfo → List CpInfo
  | 0, r => r
  | n + 1, r => .unusable :: gap n r
def poolList (es : List (Nat × CpInfo)) (last : Nat) : List CpInfo := es.foldr (fun e r => gap e.1 (e.2 :: r)) (gap last [])
def pool (es : List (Nat × CpInfo)) (last : Nat) : Array CpInfo := ⟨poolList es last⟩
def fileOf (pool : Array CpInfo) (this : Nat) (attrs : Array Attribute := #[]) (ms : Array MethodInfo := #[]) (fl : Nat := 33) (sup : Nat := 0) (ifs : Array Nat := #[]) (fds : Array FieldInfo := #[]) : ClassFile where
  minorVersion := 0
  majorVersion := 65
  constantPool := pool
  accessFlags := fl
  thisClass := this
  superClass := sup
  interfaces := ifs
  fields := fds
  methods := ms
  attributes := attrs
def plain (name : String) (sup : Option ClassId) : Class where
  name := name
  kind := .ordinary
  loader := none
  accessFlags := 33
  super := sup
  interfaces := #[]
  cf := none
  fields := #[]
  methods := #[]
  instanceTypes := #[]
  staticTypes := #[]
  resolved := #[]
  callSites := []
  init := .initialized
  statics := none
  mirror := none

def pool0 : Array CpInfo := pool [(5, u "<init>"), (0, u "()V"), (1, .class_ 10), (1, u "java/lang/Object"), (0, u "getClass"), (0, u "()Ljava/lang/Class;")] 111

def k0c0 : Code := { maxStack := 0, maxLocals := 1, code := object_method_1_code, exceptionTable := #[], attributes := #[] }
def k0m0 : Method := { name := "<init>", desc := "()V", sig := { parameters := [], returnType := none }, accessFlags := 1, code := some k0c0 }
def k0m1 : Method := { name := "getClass", desc := "()Ljava/lang/Class;", sig := { parameters := [], returnType := some (.object "java/lang/Class") }, accessFlags := 273, code := none }
/-- java/lang/Object -/
def k0 : Class := { plain "java/lang/Object" none with
  accessFlags := 33
  interfaces := #[]
  cf := some (fileOf pool0 8 #[] #[{ accessFlags := 1, nameIndex := 5, descriptorIndex := 6, attributes := #[] }, { accessFlags := 273, nameIndex := 11, descriptorIndex := 12, attributes := #[] }] 33 0 #[] #[])
  fields := #[]
  methods := #[k0m0, k0m1]
  instanceTypes := #[]
  staticTypes := #[]
  resolved := Array.replicate 124 none
  statics := none }

def pool1 : Array CpInfo := pool [(2, .class_ 4), (1, u "java/lang/Object"), (0, u "<init>"), (0, u "()V"), (0, .class_ 8), (0, u "com/example/whenever/whenever/internal/engine/Rows"), (0, .methodref 7 10), (0, .nameAndType 5 11), (0, u "(II)V"), (0, .methodref 7 13), (0, .nameAndType 14 15), (0, u "add"), (0, u "()I"), (0, .methodref 17 18), (0, .class_ 19), (0, .nameAndType 20 21), (0, u "com/example/whenever/whenever/internal/engine/RowsSetRefPinLaw"), (0, u "pick"), (0, u "(IIII)I"), (0, .methodref 23 24), (0, .class_ 25), (0, .nameAndType 26 27), (0, u "java/lang/Integer"), (0, u "valueOf"), (0, u "(I)Ljava/lang/Integer;"), (0, .methodref 7 29), (0, .nameAndType 30 31), (0, u "setRef"), (0, u "(IILjava/lang/Object;)V"), (0, .methodref 7 33), (0, .nameAndType 34 35), (0, u "getRef"), (0, u "(II)Ljava/lang/Object;"), (0, .methodref 17 37), (0, .nameAndType 38 39), (0, u "expected"), (0, u "(IIIILjava/lang/Object;IILjava/lang/Object;)Ljava/lang/Object;"), (2, u "law"), (0, u "(IIIIII)Z")] 3

def k1m0 : Method := { name := "<init>", desc := "()V", sig := { parameters := [], returnType := none }, accessFlags := 1, code := none }
def k1c1 : Code := { maxStack := 9, maxLocals := 23, code := code, exceptionTable := #[], attributes := #[] }
def k1m1 : Method := { name := "law", desc := "(IIIIII)Z", sig := { parameters := [.int, .int, .int, .int, .int, .int], returnType := some .boolean }, accessFlags := 9, code := some k1c1 }
def k1c2 : Code := { maxStack := 2, maxLocals := 5, code := method_3_code, exceptionTable := #[], attributes := #[] }
def k1m2 : Method := { name := "pick", desc := "(IIII)I", sig := { parameters := [.int, .int, .int, .int], returnType := some .int }, accessFlags := 10, code := some k1c2 }
def k1c3 : Code := { maxStack := 2, maxLocals := 8, code := method_4_code, exceptionTable := #[], attributes := #[] }
def k1m3 : Method := { name := "expected", desc := "(IIIILjava/lang/Object;IILjava/lang/Object;)Ljava/lang/Object;", sig := { parameters := [.int, .int, .int, .int, (.object "java/lang/Object"), .int, .int, (.object "java/lang/Object")], returnType := some (.object "java/lang/Object") }, accessFlags := 10, code := some k1c3 }
/-- com/example/whenever/whenever/internal/engine/RowsSetRefPinLaw -/
def k1 : Class := { plain "com/example/whenever/whenever/internal/engine/RowsSetRefPinLaw" (some 0) with
  accessFlags := 49
  interfaces := #[]
  cf := some (fileOf pool1 17 #[] #[{ accessFlags := 1, nameIndex := 5, descriptorIndex := 6, attributes := #[] }, { accessFlags := 9, nameIndex := 42, descriptorIndex := 43, attributes := #[] }, { accessFlags := 10, nameIndex := 20, descriptorIndex := 21, attributes := #[] }, { accessFlags := 10, nameIndex := 38, descriptorIndex := 39, attributes := #[] }] 49 2 #[] #[])
  fields := #[]
  methods := #[k1m0, k1m1, k1m2, k1m3]
  instanceTypes := #[]
  staticTypes := #[]
  resolved := Array.replicate 47 none
  statics := none }

def pool2 : Array CpInfo := pool [(1, .class_ 2), (0, u "com/example/whenever/whenever/internal/engine/Rows"), (0, .methodref 4 5), (0, .class_ 6), (0, .nameAndType 7 8), (0, u "java/lang/Object"), (0, u "<init>"), (0, u "()V"), (0, .class_ 10), (0, u "[I"), (0, .fieldref 1 12), (0, .nameAndType 13 10), (0, u "NO_INTS"), (0, .fieldref 1 15), (0, .nameAndType 16 17), (0, u "ints"), (0, u "[[I"), (0, .class_ 19), (0, u "[Ljava/lang/Object;"), (0, .fieldref 1 21), (0, .nameAndType 22 19), (0, u "NO_REFS"), (0, .fieldref 1 24), (0, .nameAndType 25 26), (0, u "refs"), (0, u "[[Ljava/lang/Object;"), (0, .fieldref 1 28), (0, .nameAndType 29 30), (0, u "end"), (0, u "I"), (0, .fieldref 1 32), (0, .nameAndType 33 10), (0, u "removed"), (7, .fieldref 1 42), (0, .nameAndType 43 30), (0, u "intFields"), (0, .fieldref 1 45), (0, .nameAndType 46 30), (0, u "refFields"), (0, .fieldref 1 48), (0, .nameAndType 49 30), (0, u "firstFreeOfFirst"), (3, u "(II)I"), (0, .fieldref 1 55), (0, .nameAndType 56 57), (0, u "later"), (0, u "Lcom/example/whenever/whenever/internal/engine/Rows$LaterBlocks;"), (1, .class_ 61), (1, u "com/example/whenever/whenever/internal/engine/Rows$LaterBlocks"), (0, u "add"), (0, u "()I"), (0, .fieldref 1 65), (0, .nameAndType 66 30), (0, u "capacity"), (0, .methodref 1 68), (0, .nameAndType 69 8), (0, u "grow"), (3, .methodref 74 75), (0, .class_ 76), (0, .nameAndType 77 53), (0, u "java/lang/Math"), (0, u "max"), (0, .methodref 79 80), (0, .class_ 81), (0, .nameAndType 82 83), (0, u "java/util/Arrays"), (0, u "copyOf"), (0, u "([II)[I"), (0, .methodref 79 85), (0, .nameAndType 82 86), (0, u "([Ljava/lang/Object;I)[Ljava/lang/Object;"), (10, u "removedCount"), (11, u "(II)V"), (0, u "NONE"), (2, u "BLOCK_BITS"), (1, u "BLOCK"), (1, u "FIRST_ROWS"), (1, u "FIRST_BLOCKS"), (1, u "NEXT_FREE"), (5, u "getRef"), (0, u "(II)Ljava/lang/Object;"), (0, u "setRef"), (0, u "(IILjava/lang/Object;)V")] 6

def k2c0 : Code := { maxStack := 5, maxLocals := 3, code := prog_105_method_1_code, exceptionTable := #[], attributes := #[] }
def k2m0 : Method := { name := "<init>", desc := "(II)V", sig := { parameters := [.int, .int], returnType := none }, accessFlags := 0, code := some k2c0 }
def k2c1 : Code := { maxStack := 4, maxLocals := 2, code := prog_105_method_2_code, exceptionTable := #[], attributes := #[] }
def k2m1 : Method := { name := "add", desc := "()I", sig := { parameters := [], returnType := some .int }, accessFlags := 0, code := some k2c1 }
def k2c2 : Code := { maxStack := 5, maxLocals := 2, code := prog_105_method_3_code, exceptionTable := #[], attributes := #[] }
def k2m2 : Method := { name := "grow", desc := "()V", sig := { parameters := [], returnType := none }, accessFlags := 2, code := some k2c2 }
def k2c3 : Code := { maxStack := 3, maxLocals := 3, code := prog_105_method_9_code, exceptionTable := #[], attributes := #[] }
def k2m3 : Method := { name := "getRef", desc := "(II)Ljava/lang/Object;", sig := { parameters := [.int, .int], returnType := some (.object "java/lang/Object") }, accessFlags := 0, code := some k2c3 }
def k2c4 : Code := { maxStack := 3, maxLocals := 4, code := prog_105_method_10_code, exceptionTable := #[], attributes := #[] }
def k2m4 : Method := { name := "setRef", desc := "(IILjava/lang/Object;)V", sig := { parameters := [.int, .int, (.object "java/lang/Object")], returnType := none }, accessFlags := 0, code := some k2c4 }
/-- com/example/whenever/whenever/internal/engine/Rows -/
def k2 : Class := { plain "com/example/whenever/whenever/internal/engine/Rows" (some 0) with
  accessFlags := 48
  interfaces := #[]
  cf := some (fileOf pool2 1 #[.nestMembers #[59]] #[{ accessFlags := 0, nameIndex := 7, descriptorIndex := 109, attributes := #[] }, { accessFlags := 0, nameIndex := 62, descriptorIndex := 63, attributes := #[] }, { accessFlags := 2, nameIndex := 69, descriptorIndex := 8, attributes := #[] }, { accessFlags := 0, nameIndex := 127, descriptorIndex := 128, attributes := #[] }, { accessFlags := 0, nameIndex := 129, descriptorIndex := 130, attributes := #[] }] 48 4 #[] #[{ accessFlags := 24, nameIndex := 110, descriptorIndex := 30, attributes := #[] }, { accessFlags := 26, nameIndex := 113, descriptorIndex := 30, attributes := #[] }, { accessFlags := 26, nameIndex := 115, descriptorIndex := 30, attributes := #[] }, { accessFlags := 26, nameIndex := 117, descriptorIndex := 30, attributes := #[] }, { accessFlags := 26, nameIndex := 119, descriptorIndex := 30, attributes := #[] }, { accessFlags := 26, nameIndex := 13, descriptorIndex := 10, attributes := #[] }, { accessFlags := 26, nameIndex := 22, descriptorIndex := 19, attributes := #[] }, { accessFlags := 26, nameIndex := 121, descriptorIndex := 30, attributes := #[] }, { accessFlags := 18, nameIndex := 43, descriptorIndex := 30, attributes := #[] }, { accessFlags := 18, nameIndex := 46, descriptorIndex := 30, attributes := #[] }, { accessFlags := 2, nameIndex := 16, descriptorIndex := 17, attributes := #[] }, { accessFlags := 2, nameIndex := 25, descriptorIndex := 26, attributes := #[] }, { accessFlags := 2, nameIndex := 66, descriptorIndex := 30, attributes := #[] }, { accessFlags := 2, nameIndex := 29, descriptorIndex := 30, attributes := #[] }, { accessFlags := 2, nameIndex := 49, descriptorIndex := 30, attributes := #[] }, { accessFlags := 2, nameIndex := 56, descriptorIndex := 57, attributes := #[] }, { accessFlags := 2, nameIndex := 33, descriptorIndex := 10, attributes := #[] }, { accessFlags := 2, nameIndex := 97, descriptorIndex := 30, attributes := #[] }])
  fields := #[{ name := "NONE", type := .int, accessFlags := 24, slot := 0, constantValue := 0 }, { name := "BLOCK_BITS", type := .int, accessFlags := 26, slot := 1, constantValue := 0 }, { name := "BLOCK", type := .int, accessFlags := 26, slot := 2, constantValue := 0 }, { name := "FIRST_ROWS", type := .int, accessFlags := 26, slot := 3, constantValue := 0 }, { name := "FIRST_BLOCKS", type := .int, accessFlags := 26, slot := 4, constantValue := 0 }, { name := "NO_INTS", type := (.array .int), accessFlags := 26, slot := 5, constantValue := 0 }, { name := "NO_REFS", type := (.array (.object "java/lang/Object")), accessFlags := 26, slot := 6, constantValue := 0 }, { name := "NEXT_FREE", type := .int, accessFlags := 26, slot := 7, constantValue := 0 }, { name := "intFields", type := .int, accessFlags := 18, slot := 0, constantValue := 0 }, { name := "refFields", type := .int, accessFlags := 18, slot := 1, constantValue := 0 }, { name := "ints", type := (.array (.array .int)), accessFlags := 2, slot := 2, constantValue := 0 }, { name := "refs", type := (.array (.array (.object "java/lang/Object"))), accessFlags := 2, slot := 3, constantValue := 0 }, { name := "capacity", type := .int, accessFlags := 2, slot := 4, constantValue := 0 }, { name := "end", type := .int, accessFlags := 2, slot := 5, constantValue := 0 }, { name := "firstFreeOfFirst", type := .int, accessFlags := 2, slot := 6, constantValue := 0 }, { name := "later", type := (.object "com/example/whenever/whenever/internal/engine/Rows$LaterBlocks"), accessFlags := 2, slot := 7, constantValue := 0 }, { name := "removed", type := (.array .int), accessFlags := 2, slot := 8, constantValue := 0 }, { name := "removedCount", type := .int, accessFlags := 2, slot := 9, constantValue := 0 }]
  methods := #[k2m0, k2m1, k2m2, k2m3, k2m4]
  instanceTypes := #[.int, .int, (.array (.array .int)), (.array (.array (.object "java/lang/Object"))), .int, .int, .int, (.object "com/example/whenever/whenever/internal/engine/Rows$LaterBlocks"), (.array .int), .int]
  staticTypes := #[.int, .int, .int, .int, .int, (.array .int), (.array (.object "java/lang/Object")), .int]
  resolved := Array.replicate 137 none
  statics := some 0 }

def pool3 : Array CpInfo := pool [(1, .class_ 2), (0, u "java/lang/Math"), (1, .class_ 6), (1, u "java/lang/Object"), (0, u "<init>"), (0, u "()V"), (89, .class_ 100), (1, u "java/lang/Math$RandomNumberGeneratorHolder"), (71, u "negativeZeroFloatBits"), (0, u "J"), (2, u "negativeZeroDoubleBits"), (21, u "max"), (2, u "min"), (43, u "$assertionsDisabled"), (0, u "Z"), (88, u "(II)I"), (2, u "twoToTheDoubleScaleDown"), (0, u "D"), (4, u "twoToTheDoubleScaleUp"), (9, u "E"), (3, u "PI"), (2, u "TAU"), (2, u "DEGREES_TO_RADIANS"), (0, u "RADIANS_TO_DEGREES")] 94

def k3m0 : Method := { name := "<init>", desc := "()V", sig := { parameters := [], returnType := none }, accessFlags := 2, code := none }
def k3c1 : Code := { maxStack := 2, maxLocals := 2, code := jdk_29_method_65_code, exceptionTable := #[], attributes := #[] }
def k3m1 : Method := { name := "max", desc := "(II)I", sig := { parameters := [.int, .int], returnType := some .int }, accessFlags := 9, code := some k3c1 }
def k3c2 : Code := { maxStack := 2, maxLocals := 2, code := jdk_29_method_69_code, exceptionTable := #[], attributes := #[] }
def k3m2 : Method := { name := "min", desc := "(II)I", sig := { parameters := [.int, .int], returnType := some .int }, accessFlags := 9, code := some k3c2 }
/-- java/lang/Math -/
def k3 : Class := { plain "java/lang/Math" (some 0) with
  accessFlags := 49
  interfaces := #[]
  cf := some (fileOf pool3 1 #[.nestMembers #[98]] #[{ accessFlags := 2, nameIndex := 7, descriptorIndex := 8, attributes := #[] }, { accessFlags := 9, nameIndex := 198, descriptorIndex := 335, attributes := #[] }, { accessFlags := 9, nameIndex := 201, descriptorIndex := 335, attributes := #[] }] 49 4 #[] #[{ accessFlags := 25, nameIndex := 354, descriptorIndex := 339, attributes := #[] }, { accessFlags := 25, nameIndex := 358, descriptorIndex := 339, attributes := #[] }, { accessFlags := 25, nameIndex := 361, descriptorIndex := 339, attributes := #[] }, { accessFlags := 26, nameIndex := 364, descriptorIndex := 339, attributes := #[] }, { accessFlags := 26, nameIndex := 365, descriptorIndex := 339, attributes := #[] }, { accessFlags := 26, nameIndex := 172, descriptorIndex := 173, attributes := #[] }, { accessFlags := 26, nameIndex := 176, descriptorIndex := 173, attributes := #[] }, { accessFlags := 8, nameIndex := 344, descriptorIndex := 339, attributes := #[] }, { accessFlags := 8, nameIndex := 338, descriptorIndex := 339, attributes := #[] }, { accessFlags := 4120, nameIndex := 245, descriptorIndex := 246, attributes := #[] }])
  fields := #[{ name := "E", type := .double, accessFlags := 25, slot := 0, constantValue := 0 }, { name := "PI", type := .double, accessFlags := 25, slot := 1, constantValue := 0 }, { name := "TAU", type := .double, accessFlags := 25, slot := 2, constantValue := 0 }, { name := "DEGREES_TO_RADIANS", type := .double, accessFlags := 26, slot := 3, constantValue := 0 }, { name := "RADIANS_TO_DEGREES", type := .double, accessFlags := 26, slot := 4, constantValue := 0 }, { name := "negativeZeroFloatBits", type := .long, accessFlags := 26, slot := 5, constantValue := 0 }, { name := "negativeZeroDoubleBits", type := .long, accessFlags := 26, slot := 6, constantValue := 0 }, { name := "twoToTheDoubleScaleUp", type := .double, accessFlags := 8, slot := 7, constantValue := 0 }, { name := "twoToTheDoubleScaleDown", type := .double, accessFlags := 8, slot := 8, constantValue := 0 }, { name := "$assertionsDisabled", type := .boolean, accessFlags := 4120, slot := 9, constantValue := 0 }]
  methods := #[k3m0, k3m1, k3m2]
  instanceTypes := #[]
  staticTypes := #[.double, .double, .double, .double, .double, .long, .long, .double, .double, .boolean]
  resolved := Array.replicate 460 none
  statics := none }

def pool4 : Array CpInfo := pool [(2, .class_ 4), (1, u "java/lang/Object"), (0, u "<init>"), (0, u "()V"), (7, .class_ 16), (1, u "java/util/Arrays"), (57, .class_ 76), (1, u "java/util/Arrays$NaturalOrder"), (9, .methodref 2 87), (0, .nameAndType 88 89), (0, u "getClass"), (0, u "()Ljava/lang/Class;"), (20, .class_ 111), (0, u "[Ljava/lang/Object;"), (1, .class_ 115), (1, u "java/util/Arrays$LegacyMergeSort"), (1, u "Z"), (32, .methodref 151 152), (0, .class_ 153), (0, .nameAndType 154 155), (0, u "java/lang/System"), (0, u "arraycopy"), (0, u "(Ljava/lang/Object;ILjava/lang/Object;II)V"), (144, .methodref 14 301), (0, .nameAndType 302 303), (0, u "copyOf"), (0, u "([Ljava/lang/Object;ILjava/lang/Class;)[Ljava/lang/Object;"), (0, .methodref 305 306), (0, .class_ 307), (0, .nameAndType 308 309), (0, u "java/lang/Math"), (0, u "min"), (0, u "(II)I"), (65, .class_ 376), (0, u "java/util/Arrays$ArrayList"), (68, u "$assertionsDisabled"), (269, u "MIN_ARRAY_SORT_GRAN"), (0, u "I"), (2, u "INSERTIONSORT_THRESHOLD"), (140, u "([Ljava/lang/Object;I)[Ljava/lang/Object;"), (10, u "([II)[I"), (103, .class_ 976), (0, u "java/util/Arrays$ArrayItr")] 52

def k4m0 : Method := { name := "<init>", desc := "()V", sig := { parameters := [], returnType := none }, accessFlags := 2, code := none }
def k4c1 : Code := { maxStack := 3, maxLocals := 2, code := jdk_65_method_119_code, exceptionTable := #[], attributes := #[] }
def k4m1 : Method := { name := "copyOf", desc := "([Ljava/lang/Object;I)[Ljava/lang/Object;", sig := { parameters := [(.array (.object "java/lang/Object")), .int], returnType := some (.array (.object "java/lang/Object")) }, accessFlags := 9, code := some k4c1 }
def k4c2 : Code := { maxStack := 6, maxLocals := 4, code := jdk_65_method_120_code, exceptionTable := #[], attributes := #[] }
def k4m2 : Method := { name := "copyOf", desc := "([Ljava/lang/Object;ILjava/lang/Class;)[Ljava/lang/Object;", sig := { parameters := [(.array (.object "java/lang/Object")), .int, (.object "java/lang/Class")], returnType := some (.array (.object "java/lang/Object")) }, accessFlags := 9, code := some k4c2 }
def k4c3 : Code := { maxStack := 6, maxLocals := 3, code := jdk_65_method_123_code, exceptionTable := #[], attributes := #[] }
def k4m3 : Method := { name := "copyOf", desc := "([II)[I", sig := { parameters := [(.array .int), .int], returnType := some (.array .int) }, accessFlags := 9, code := some k4c3 }
/-- java/util/Arrays -/
def k4 : Class := { plain "java/util/Arrays" (some 0) with
  accessFlags := 49
  interfaces := #[]
  cf := some (fileOf pool4 14 #[.nestMembers #[975, 375, 113, 74]] #[{ accessFlags := 2, nameIndex := 5, descriptorIndex := 6, attributes := #[] }, { accessFlags := 9, nameIndex := 302, descriptorIndex := 860, attributes := #[] }, { accessFlags := 9, nameIndex := 302, descriptorIndex := 303, attributes := #[] }, { accessFlags := 9, nameIndex := 302, descriptorIndex := 871, attributes := #[] }] 49 2 #[] #[{ accessFlags := 26, nameIndex := 715, descriptorIndex := 716, attributes := #[] }, { accessFlags := 26, nameIndex := 719, descriptorIndex := 716, attributes := #[] }, { accessFlags := 4120, nameIndex := 445, descriptorIndex := 117, attributes := #[] }])
  fields := #[{ name := "MIN_ARRAY_SORT_GRAN", type := .int, accessFlags := 26, slot := 0, constantValue := 0 }, { name := "INSERTIONSORT_THRESHOLD", type := .int, accessFlags := 26, slot := 1, constantValue := 0 }, { name := "$assertionsDisabled", type := .boolean, accessFlags := 4120, slot := 2, constantValue := 0 }]
  methods := #[k4m0, k4m1, k4m2, k4m3]
  instanceTypes := #[]
  staticTypes := #[.int, .int, .boolean]
  resolved := Array.replicate 1029 none
  statics := none }

def pool5 : Array CpInfo := pool [(2, .class_ 4), (1, u "java/lang/Object"), (0, u "<init>"), (0, u "()V"), (1, .class_ 10), (1, u "java/lang/System"), (0, u "allowSecurityManager"), (0, u "I"), (16, u "cons"), (0, u "Ljava/io/Console;"), (77, .class_ 110), (1, u "java/lang/System$CallersHolder"), (43, u "initialErrStream"), (0, u "Ljava/io/PrintStream;"), (19, u "security"), (0, u "Ljava/lang/SecurityManager;"), (31, .class_ 209), (0, u "java/lang/System$1"), (7, u "props"), (0, u "Ljava/util/Properties;"), (2, u "lineSeparator"), (0, u "Ljava/lang/String;"), (96, .class_ 321), (1, u "java/lang/System$LoggerFinder"), (5, .class_ 328), (0, u "java/lang/System$Logger"), (67, u "err"), (2, u "out"), (91, u "notSupportedJnuEncoding"), (15, u "in"), (17, u "initialIn"), (0, u "Ljava/io/InputStream;"), (35, u "bootLayer"), (0, u "Ljava/lang/ModuleLayer;"), (99, .class_ 664), (0, u "java/lang/System$2"), (9, u "NEVER"), (2, u "MAYBE"), (49, u "arraycopy"), (0, u "(Ljava/lang/Object;ILjava/lang/Object;II)V"), (72, .class_ 802), (0, u "java/lang/System$Logger$Level")] 31

def k5m0 : Method := { name := "<init>", desc := "()V", sig := { parameters := [], returnType := none }, accessFlags := 2, code := none }
def k5m1 : Method := { name := "arraycopy", desc := "(Ljava/lang/Object;ILjava/lang/Object;II)V", sig := { parameters := [(.object "java/lang/Object"), .int, (.object "java/lang/Object"), .int, .int], returnType := none }, accessFlags := 265, code := none }
/-- java/lang/System -/
def k5 : Class := { plain "java/lang/System" (some 0) with
  accessFlags := 49
  interfaces := #[]
  cf := some (fileOf pool5 8 #[.nestMembers #[319, 327, 801, 108, 663, 208]] #[{ accessFlags := 2, nameIndex := 5, descriptorIndex := 6, attributes := #[] }, { accessFlags := 265, nameIndex := 727, descriptorIndex := 728, attributes := #[] }] 49 2 #[] #[{ accessFlags := 25, nameIndex := 507, descriptorIndex := 526, attributes := #[] }, { accessFlags := 25, nameIndex := 399, descriptorIndex := 155, attributes := #[] }, { accessFlags := 25, nameIndex := 396, descriptorIndex := 155, attributes := #[] }, { accessFlags := 10, nameIndex := 525, descriptorIndex := 526, attributes := #[] }, { accessFlags := 26, nameIndex := 674, descriptorIndex := 12, attributes := #[] }, { accessFlags := 26, nameIndex := 677, descriptorIndex := 12, attributes := #[] }, { accessFlags := 10, nameIndex := 11, descriptorIndex := 12, attributes := #[] }, { accessFlags := 74, nameIndex := 175, descriptorIndex := 176, attributes := #[] }, { accessFlags := 10, nameIndex := 491, descriptorIndex := 222, attributes := #[] }, { accessFlags := 74, nameIndex := 29, descriptorIndex := 30, attributes := #[] }, { accessFlags := 74, nameIndex := 154, descriptorIndex := 155, attributes := #[] }, { accessFlags := 10, nameIndex := 217, descriptorIndex := 218, attributes := #[] }, { accessFlags := 10, nameIndex := 221, descriptorIndex := 222, attributes := #[] }, { accessFlags := 8, nameIndex := 562, descriptorIndex := 563, attributes := #[] }])
  fields := #[{ name := "in", type := (.object "java/io/InputStream"), accessFlags := 25, slot := 0, constantValue := 0 }, { name := "out", type := (.object "java/io/PrintStream"), accessFlags := 25, slot := 1, constantValue := 0 }, { name := "err", type := (.object "java/io/PrintStream"), accessFlags := 25, slot := 2, constantValue := 0 }, { name := "initialIn", type := (.object "java/io/InputStream"), accessFlags := 10, slot := 3, constantValue := 0 }, { name := "NEVER", type := .int, accessFlags := 26, slot := 4, constantValue := 0 }, { name := "MAYBE", type := .int, accessFlags := 26, slot := 5, constantValue := 0 }, { name := "allowSecurityManager", type := .int, accessFlags := 10, slot := 6, constantValue := 0 }, { name := "security", type := (.object "java/lang/SecurityManager"), accessFlags := 74, slot := 7, constantValue := 0 }, { name := "notSupportedJnuEncoding", type := (.object "java/lang/String"), accessFlags := 10, slot := 8, constantValue := 0 }, { name := "cons", type := (.object "java/io/Console"), accessFlags := 74, slot := 9, constantValue := 0 }, { name := "initialErrStream", type := (.object "java/io/PrintStream"), accessFlags := 74, slot := 10, constantValue := 0 }, { name := "props", type := (.object "java/util/Properties"), accessFlags := 10, slot := 11, constantValue := 0 }, { name := "lineSeparator", type := (.object "java/lang/String"), accessFlags := 10, slot := 12, constantValue := 0 }, { name := "bootLayer", type := (.object "java/lang/ModuleLayer"), accessFlags := 8, slot := 13, constantValue := 0 }]
  methods := #[k5m0, k5m1]
  instanceTypes := #[]
  staticTypes := #[(.object "java/io/InputStream"), (.object "java/io/PrintStream"), (.object "java/io/PrintStream"), (.object "java/io/InputStream"), .int, .int, .int, (.object "java/lang/SecurityManager"), (.object "java/lang/String"), (.object "java/io/Console"), (.object "java/io/PrintStream"), (.object "java/util/Properties"), (.object "java/lang/String"), (.object "java/lang/ModuleLayer")]
  resolved := Array.replicate 834 none
  statics := none }

def pool6 : Array CpInfo := pool [(1, .class_ 2), (0, u "java/io/Serializable"), (0, .class_ 4), (0, u "java/lang/Object")] 2

/-- java/io/Serializable -/
def k6 : Class := { plain "java/io/Serializable" (some 0) with
  accessFlags := 1537
  interfaces := #[]
  cf := some (fileOf pool6 1 #[] #[] 1537 3 #[] #[])
  fields := #[]
  methods := #[]
  instanceTypes := #[]
  staticTypes := #[]
  resolved := Array.replicate 7 none
  statics := none }

def pool7 : Array CpInfo := pool [(1, .methodref 2 3), (0, .class_ 4), (0, .nameAndType 5 6), (0, u "java/lang/Object"), (0, u "<init>"), (0, u "()V"), (1, .class_ 10), (1, u "java/lang/Number"), (2, .class_ 14), (0, u "java/io/Serializable"), (0, u "serialVersionUID"), (0, u "J")] 20

def k7c0 : Code := { maxStack := 1, maxLocals := 1, code := jdk_18_method_1_code, exceptionTable := #[], attributes := #[] }
def k7m0 : Method := { name := "<init>", desc := "()V", sig := { parameters := [], returnType := none }, accessFlags := 1, code := some k7c0 }
/-- java/lang/Number -/
def k7 : Class := { plain "java/lang/Number" (some 0) with
  accessFlags := 1057
  interfaces := #[6]
  cf := some (fileOf pool7 8 #[] #[{ accessFlags := 1, nameIndex := 5, descriptorIndex := 6, attributes := #[] }] 1057 2 #[13] #[{ accessFlags := 26, nameIndex := 15, descriptorIndex := 16, attributes := #[] }])
  fields := #[{ name := "serialVersionUID", type := .long, accessFlags := 26, slot := 0, constantValue := 0 }]
  methods := #[k7m0]
  instanceTypes := #[]
  staticTypes := #[.long]
  resolved := Array.replicate 37 none
  statics := none }

def pool8 : Array CpInfo := pool [(1, .class_ 2), (0, u "java/lang/Comparable"), (0, .class_ 4), (0, u "java/lang/Object")] 7

/-- java/lang/Comparable -/
def k8 : Class := { plain "java/lang/Comparable" (some 0) with
  accessFlags := 1537
  interfaces := #[]
  cf := some (fileOf pool8 1 #[] #[] 1537 3 #[] #[])
  fields := #[]
  methods := #[]
  instanceTypes := #[]
  staticTypes := #[]
  resolved := Array.replicate 12 none
  statics := none }

def pool9 : Array CpInfo := pool [(1, .class_ 2), (0, u "java/lang/constant/Constable"), (0, .class_ 4), (0, u "java/lang/Object")] 6

/-- java/lang/constant/Constable -/
def k9 : Class := { plain "java/lang/constant/Constable" (some 0) with
  accessFlags := 1537
  interfaces := #[]
  cf := some (fileOf pool9 1 #[] #[] 1537 3 #[] #[])
  fields := #[]
  methods := #[]
  instanceTypes := #[]
  staticTypes := #[]
  resolved := Array.replicate 11 none
  statics := none }

def pool10 : Array CpInfo := pool [(1, .class_ 2), (0, u "java/lang/constant/ConstantDesc"), (0, .class_ 4), (0, u "java/lang/Object")] 32

/-- java/lang/constant/ConstantDesc -/
def k10 : Class := { plain "java/lang/constant/ConstantDesc" (some 0) with
  accessFlags := 1537
  interfaces := #[]
  cf := some (fileOf pool10 1 #[] #[] 1537 3 #[] #[])
  fields := #[]
  methods := #[]
  instanceTypes := #[]
  staticTypes := #[]
  resolved := Array.replicate 37 none
  statics := none }

def pool11 : Array CpInfo := pool [(1, .class_ 2), (0, u "java/lang/Integer"), (16, u "digits"), (0, u "[C"), (46, u "<init>"), (17, u "DigitOnes"), (0, u "[B"), (2, u "DigitTens"), (10, .nameAndType 67 101), (0, u "()V"), (85, u "valueOf"), (0, u "(I)Ljava/lang/Integer;"), (0, .class_ 190), (0, u "java/lang/Integer$IntegerCache"), (0, .fieldref 189 192), (0, .nameAndType 193 194), (0, u "high"), (0, u "I"), (0, .fieldref 189 196), (0, .nameAndType 197 198), (0, u "cache"), (0, u "[Ljava/lang/Integer;"), (0, .methodref 1 200), (0, .nameAndType 67 201), (0, u "(I)V"), (0, .methodref 203 100), (0, .class_ 204), (0, u "java/lang/Number"), (0, .fieldref 1 206), (0, .nameAndType 207 194), (0, u "value"), (94, u "TYPE"), (0, u "Ljava/lang/Class;"), (0, .class_ 305), (0, u "java/lang/Comparable"), (0, .class_ 307), (0, u "java/lang/constant/Constable"), (0, .class_ 309), (0, u "java/lang/constant/ConstantDesc"), (0, u "MIN_VALUE"), (1, u "MAX_VALUE"), (3, u "SIZE"), (1, u "BYTES"), (1, u "serialVersionUID"), (0, u "J")] 131

def k11c0 : Code := { maxStack := 3, maxLocals := 1, code := jdk_33_method_22_code, exceptionTable := #[], attributes := #[] }
def k11m0 : Method := { name := "valueOf", desc := "(I)Ljava/lang/Integer;", sig := { parameters := [.int], returnType := some (.object "java/lang/Integer") }, accessFlags := 9, code := some k11c0 }
def k11c1 : Code := { maxStack := 2, maxLocals := 2, code := jdk_33_method_23_code, exceptionTable := #[], attributes := #[] }
def k11m1 : Method := { name := "<init>", desc := "(I)V", sig := { parameters := [.int], returnType := none }, accessFlags := 1, code := some k11c1 }
/-- java/lang/Integer -/
def k11 : Class := { plain "java/lang/Integer" (some 7) with
  accessFlags := 49
  interfaces := #[8, 9, 10]
  cf := some (fileOf pool11 1 #[.nestMembers #[189]] #[{ accessFlags := 9, nameIndex := 187, descriptorIndex := 188, attributes := #[] }, { accessFlags := 1, nameIndex := 67, descriptorIndex := 201, attributes := #[] }] 49 203 #[304, 306, 308] #[{ accessFlags := 25, nameIndex := 310, descriptorIndex := 194, attributes := #[] }, { accessFlags := 25, nameIndex := 312, descriptorIndex := 194, attributes := #[] }, { accessFlags := 25, nameIndex := 302, descriptorIndex := 303, attributes := #[] }, { accessFlags := 24, nameIndex := 19, descriptorIndex := 20, attributes := #[] }, { accessFlags := 24, nameIndex := 89, descriptorIndex := 86, attributes := #[] }, { accessFlags := 24, nameIndex := 85, descriptorIndex := 86, attributes := #[] }, { accessFlags := 18, nameIndex := 207, descriptorIndex := 194, attributes := #[] }, { accessFlags := 25, nameIndex := 316, descriptorIndex := 194, attributes := #[] }, { accessFlags := 25, nameIndex := 318, descriptorIndex := 194, attributes := #[] }, { accessFlags := 26, nameIndex := 320, descriptorIndex := 321, attributes := #[] }])
  fields := #[{ name := "MIN_VALUE", type := .int, accessFlags := 25, slot := 0, constantValue := 0 }, { name := "MAX_VALUE", type := .int, accessFlags := 25, slot := 1, constantValue := 0 }, { name := "TYPE", type := (.object "java/lang/Class"), accessFlags := 25, slot := 2, constantValue := 0 }, { name := "digits", type := (.array .char), accessFlags := 24, slot := 3, constantValue := 0 }, { name := "DigitTens", type := (.array .byte), accessFlags := 24, slot := 4, constantValue := 0 }, { name := "DigitOnes", type := (.array .byte), accessFlags := 24, slot := 5, constantValue := 0 }, { name := "value", type := .int, accessFlags := 18, slot := 0, constantValue := 0 }, { name := "SIZE", type := .int, accessFlags := 25, slot := 6, constantValue := 0 }, { name := "BYTES", type := .int, accessFlags := 25, slot := 7, constantValue := 0 }, { name := "serialVersionUID", type := .long, accessFlags := 26, slot := 8, constantValue := 0 }]
  methods := #[k11m0, k11m1]
  instanceTypes := #[.int]
  staticTypes := #[.int, .int, (.object "java/lang/Class"), (.array .char), (.array .byte), (.array .byte), .int, .int, .long]
  resolved := Array.replicate 453 none
  statics := none }

def pool12 : Array CpInfo := pool [(2, .class_ 4), (1, u "java/lang/Object"), (0, u "<init>"), (0, u "()V"), (0, .class_ 8), (0, u "java/lang/Integer"), (7, .class_ 18), (1, u "java/lang/Integer$IntegerCache"), (0, u "$assertionsDisabled"), (0, u "Z"), (26, u "high"), (0, u "I"), (8, u "archivedCache"), (0, u "[Ljava/lang/Integer;"), (12, u "cache"), (0, u "low")] 27

def k12m0 : Method := { name := "<init>", desc := "()V", sig := { parameters := [], returnType := none }, accessFlags := 2, code := none }
/-- java/lang/Integer$IntegerCache -/
def k12 : Class := { plain "java/lang/Integer$IntegerCache" (some 0) with
  accessFlags := 48
  interfaces := #[]
  cf := some (fileOf pool12 16 #[.nestHost 7] #[{ accessFlags := 2, nameIndex := 5, descriptorIndex := 6, attributes := #[] }] 48 2 #[] #[{ accessFlags := 24, nameIndex := 72, descriptorIndex := 48, attributes := #[] }, { accessFlags := 24, nameIndex := 47, descriptorIndex := 48, attributes := #[] }, { accessFlags := 24, nameIndex := 71, descriptorIndex := 58, attributes := #[] }, { accessFlags := 8, nameIndex := 57, descriptorIndex := 58, attributes := #[] }, { accessFlags := 4120, nameIndex := 19, descriptorIndex := 20, attributes := #[] }])
  fields := #[{ name := "low", type := .int, accessFlags := 24, slot := 0, constantValue := 0 }, { name := "high", type := .int, accessFlags := 24, slot := 1, constantValue := 0 }, { name := "cache", type := (.array (.object "java/lang/Integer")), accessFlags := 24, slot := 2, constantValue := 0 }, { name := "archivedCache", type := (.array (.object "java/lang/Integer")), accessFlags := 8, slot := 3, constantValue := 0 }, { name := "$assertionsDisabled", type := .boolean, accessFlags := 4120, slot := 4, constantValue := 0 }]
  methods := #[k12m0]
  instanceTypes := #[]
  staticTypes := #[.int, .int, (.array (.object "java/lang/Integer")), (.array (.object "java/lang/Integer")), .boolean]
  resolved := Array.replicate 100 none
  statics := some 1 }

def pool13 : Array CpInfo := pool [(1, .class_ 2), (0, u "java/lang/Class"), (0, .class_ 4), (0, u "java/lang/Object")] 0

/-- java/lang/Class -/
def k13 : Class := { plain "java/lang/Class" (some 0) with
  accessFlags := 49
  interfaces := #[]
  cf := some (fileOf pool13 1 #[] #[] 49 3 #[] #[])
  fields := #[]
  methods := #[]
  instanceTypes := #[]
  staticTypes := #[]
  resolved := Array.replicate 5 none
  statics := none }

def pool14 : Array CpInfo := pool [(1, u "java/lang/Cloneable"), (0, .class_ 1), (0, u "java/lang/Object"), (0, .class_ 3)] 3

/-- java/lang/Cloneable -/
def k14 : Class := { plain "java/lang/Cloneable" (some 0) with
  accessFlags := 1537
  interfaces := #[]
  cf := some (fileOf pool14 2 #[] #[] 1537 4 #[] #[])
  fields := #[]
  methods := #[]
  instanceTypes := #[]
  staticTypes := #[]
  resolved := Array.replicate 8 none
  statics := none }

/-- the primitive byte -/
def k15 : Class := { plain "byte" none with kind := .primitive 'B', accessFlags := 0x411 }
/-- [B -/
def k16 : Class := { plain "[B" (some 0) with kind := .array 15 .byte, interfaces := #[14, 6], accessFlags := 1041 }

/-- the primitive int -/
def k17 : Class := { plain "int" none with kind := .primitive 'I', accessFlags := 0x411 }
/-- [I -/
def k18 : Class := { plain "[I" (some 0) with kind := .array 17 .int, interfaces := #[14, 6], accessFlags := 1041 }

/-- [Ljava/lang/Integer; -/
def k19 : Class := { plain "[Ljava/lang/Integer;" (some 0) with kind := .array 11 (.object "java/lang/Integer"), interfaces := #[14, 6], accessFlags := 1041 }

/-- [Ljava/lang/Object; -/
def k20 : Class := { plain "[Ljava/lang/Object;" (some 0) with mirror := some 2, kind := .array 0 (.object "java/lang/Object"), interfaces := #[14, 6], accessFlags := 1041 }

/-- [[I -/
def k21 : Class := { plain "[[I" (some 0) with kind := .array 18 (.array .int), interfaces := #[14, 6], accessFlags := 1041 }
/-- [[Ljava/lang/Object; -/
def k22 : Class := { plain "[[Ljava/lang/Object;" (some 0) with kind := .array 20 (.array (.object "java/lang/Object")), interfaces := #[14, 6], accessFlags := 1041 }
def heap : Heap := #[{ cls := 2, slots := #[.int 0, .int 0, .int 0, .int 0, .int 0, .ref 3, .ref 4, .int 0], vm := .statics 2 },
  { cls := 12, slots := #[.int 0, .int 127, .ref 261, .null, .int 0], vm := .statics 12 },
  { cls := 13, slots := #[], vm := .mirror 20 },
  { cls := 18, slots := #[], vm := .none },
  { cls := 20, slots := #[], vm := .none },
  { cls := 11, slots := #[.int (-128)], vm := .none },
  { cls := 11, slots := #[.int (-127)], vm := .none },
  { cls := 11, slots := #[.int (-126)], vm := .none },
  { cls := 11, slots := #[.int (-125)], vm := .none },
  { cls := 11, slots := #[.int (-124)], vm := .none },
  { cls := 11, slots := #[.int (-123)], vm := .none },
  { cls := 11, slots := #[.int (-122)], vm := .none },
  { cls := 11, slots := #[.int (-121)], vm := .none },
  { cls := 11, slots := #[.int (-120)], vm := .none },
  { cls := 11, slots := #[.int (-119)], vm := .none },
  { cls := 11, slots := #[.int (-118)], vm := .none },
  { cls := 11, slots := #[.int (-117)], vm := .none },
  { cls := 11, slots := #[.int (-116)], vm := .none },
  { cls := 11, slots := #[.int (-115)], vm := .none },
  { cls := 11, slots := #[.int (-114)], vm := .none },
  { cls := 11, slots := #[.int (-113)], vm := .none },
  { cls := 11, slots := #[.int (-112)], vm := .none },
  { cls := 11, slots := #[.int (-111)], vm := .none },
  { cls := 11, slots := #[.int (-110)], vm := .none },
  { cls := 11, slots := #[.int (-109)], vm := .none },
  { cls := 11, slots := #[.int (-108)], vm := .none },
  { cls := 11, slots := #[.int (-107)], vm := .none },
  { cls := 11, slots := #[.int (-106)], vm := .none },
  { cls := 11, slots := #[.int (-105)], vm := .none },
  { cls := 11, slots := #[.int (-104)], vm := .none },
  { cls := 11, slots := #[.int (-103)], vm := .none },
  { cls := 11, slots := #[.int (-102)], vm := .none },
  { cls := 11, slots := #[.int (-101)], vm := .none },
  { cls := 11, slots := #[.int (-100)], vm := .none },
  { cls := 11, slots := #[.int (-99)], vm := .none },
  { cls := 11, slots := #[.int (-98)], vm := .none },
  { cls := 11, slots := #[.int (-97)], vm := .none },
  { cls := 11, slots := #[.int (-96)], vm := .none },
  { cls := 11, slots := #[.int (-95)], vm := .none },
  { cls := 11, slots := #[.int (-94)], vm := .none },
  { cls := 11, slots := #[.int (-93)], vm := .none },
  { cls := 11, slots := #[.int (-92)], vm := .none },
  { cls := 11, slots := #[.int (-91)], vm := .none },
  { cls := 11, slots := #[.int (-90)], vm := .none },
  { cls := 11, slots := #[.int (-89)], vm := .none },
  { cls := 11, slots := #[.int (-88)], vm := .none },
  { cls := 11, slots := #[.int (-87)], vm := .none },
  { cls := 11, slots := #[.int (-86)], vm := .none },
  { cls := 11, slots := #[.int (-85)], vm := .none },
  { cls := 11, slots := #[.int (-84)], vm := .none },
  { cls := 11, slots := #[.int (-83)], vm := .none },
  { cls := 11, slots := #[.int (-82)], vm := .none },
  { cls := 11, slots := #[.int (-81)], vm := .none },
  { cls := 11, slots := #[.int (-80)], vm := .none },
  { cls := 11, slots := #[.int (-79)], vm := .none },
  { cls := 11, slots := #[.int (-78)], vm := .none },
  { cls := 11, slots := #[.int (-77)], vm := .none },
  { cls := 11, slots := #[.int (-76)], vm := .none },
  { cls := 11, slots := #[.int (-75)], vm := .none },
  { cls := 11, slots := #[.int (-74)], vm := .none },
  { cls := 11, slots := #[.int (-73)], vm := .none },
  { cls := 11, slots := #[.int (-72)], vm := .none },
  { cls := 11, slots := #[.int (-71)], vm := .none },
  { cls := 11, slots := #[.int (-70)], vm := .none },
  { cls := 11, slots := #[.int (-69)], vm := .none },
  { cls := 11, slots := #[.int (-68)], vm := .none },
  { cls := 11, slots := #[.int (-67)], vm := .none },
  { cls := 11, slots := #[.int (-66)], vm := .none },
  { cls := 11, slots := #[.int (-65)], vm := .none },
  { cls := 11, slots := #[.int (-64)], vm := .none },
  { cls := 11, slots := #[.int (-63)], vm := .none },
  { cls := 11, slots := #[.int (-62)], vm := .none },
  { cls := 11, slots := #[.int (-61)], vm := .none },
  { cls := 11, slots := #[.int (-60)], vm := .none },
  { cls := 11, slots := #[.int (-59)], vm := .none },
  { cls := 11, slots := #[.int (-58)], vm := .none },
  { cls := 11, slots := #[.int (-57)], vm := .none },
  { cls := 11, slots := #[.int (-56)], vm := .none },
  { cls := 11, slots := #[.int (-55)], vm := .none },
  { cls := 11, slots := #[.int (-54)], vm := .none },
  { cls := 11, slots := #[.int (-53)], vm := .none },
  { cls := 11, slots := #[.int (-52)], vm := .none },
  { cls := 11, slots := #[.int (-51)], vm := .none },
  { cls := 11, slots := #[.int (-50)], vm := .none },
  { cls := 11, slots := #[.int (-49)], vm := .none },
  { cls := 11, slots := #[.int (-48)], vm := .none },
  { cls := 11, slots := #[.int (-47)], vm := .none },
  { cls := 11, slots := #[.int (-46)], vm := .none },
  { cls := 11, slots := #[.int (-45)], vm := .none },
  { cls := 11, slots := #[.int (-44)], vm := .none },
  { cls := 11, slots := #[.int (-43)], vm := .none },
  { cls := 11, slots := #[.int (-42)], vm := .none },
  { cls := 11, slots := #[.int (-41)], vm := .none },
  { cls := 11, slots := #[.int (-40)], vm := .none },
  { cls := 11, slots := #[.int (-39)], vm := .none },
  { cls := 11, slots := #[.int (-38)], vm := .none },
  { cls := 11, slots := #[.int (-37)], vm := .none },
  { cls := 11, slots := #[.int (-36)], vm := .none },
  { cls := 11, slots := #[.int (-35)], vm := .none },
  { cls := 11, slots := #[.int (-34)], vm := .none },
  { cls := 11, slots := #[.int (-33)], vm := .none },
  { cls := 11, slots := #[.int (-32)], vm := .none },
  { cls := 11, slots := #[.int (-31)], vm := .none },
  { cls := 11, slots := #[.int (-30)], vm := .none },
  { cls := 11, slots := #[.int (-29)], vm := .none },
  { cls := 11, slots := #[.int (-28)], vm := .none },
  { cls := 11, slots := #[.int (-27)], vm := .none },
  { cls := 11, slots := #[.int (-26)], vm := .none },
  { cls := 11, slots := #[.int (-25)], vm := .none },
  { cls := 11, slots := #[.int (-24)], vm := .none },
  { cls := 11, slots := #[.int (-23)], vm := .none },
  { cls := 11, slots := #[.int (-22)], vm := .none },
  { cls := 11, slots := #[.int (-21)], vm := .none },
  { cls := 11, slots := #[.int (-20)], vm := .none },
  { cls := 11, slots := #[.int (-19)], vm := .none },
  { cls := 11, slots := #[.int (-18)], vm := .none },
  { cls := 11, slots := #[.int (-17)], vm := .none },
  { cls := 11, slots := #[.int (-16)], vm := .none },
  { cls := 11, slots := #[.int (-15)], vm := .none },
  { cls := 11, slots := #[.int (-14)], vm := .none },
  { cls := 11, slots := #[.int (-13)], vm := .none },
  { cls := 11, slots := #[.int (-12)], vm := .none },
  { cls := 11, slots := #[.int (-11)], vm := .none },
  { cls := 11, slots := #[.int (-10)], vm := .none },
  { cls := 11, slots := #[.int (-9)], vm := .none },
  { cls := 11, slots := #[.int (-8)], vm := .none },
  { cls := 11, slots := #[.int (-7)], vm := .none },
  { cls := 11, slots := #[.int (-6)], vm := .none },
  { cls := 11, slots := #[.int (-5)], vm := .none },
  { cls := 11, slots := #[.int (-4)], vm := .none },
  { cls := 11, slots := #[.int (-3)], vm := .none },
  { cls := 11, slots := #[.int (-2)], vm := .none },
  { cls := 11, slots := #[.int (-1)], vm := .none },
  { cls := 11, slots := #[.int 0], vm := .none },
  { cls := 11, slots := #[.int 1], vm := .none },
  { cls := 11, slots := #[.int 2], vm := .none },
  { cls := 11, slots := #[.int 3], vm := .none },
  { cls := 11, slots := #[.int 4], vm := .none },
  { cls := 11, slots := #[.int 5], vm := .none },
  { cls := 11, slots := #[.int 6], vm := .none },
  { cls := 11, slots := #[.int 7], vm := .none },
  { cls := 11, slots := #[.int 8], vm := .none },
  { cls := 11, slots := #[.int 9], vm := .none },
  { cls := 11, slots := #[.int 10], vm := .none },
  { cls := 11, slots := #[.int 11], vm := .none },
  { cls := 11, slots := #[.int 12], vm := .none },
  { cls := 11, slots := #[.int 13], vm := .none },
  { cls := 11, slots := #[.int 14], vm := .none },
  { cls := 11, slots := #[.int 15], vm := .none },
  { cls := 11, slots := #[.int 16], vm := .none },
  { cls := 11, slots := #[.int 17], vm := .none },
  { cls := 11, slots := #[.int 18], vm := .none },
  { cls := 11, slots := #[.int 19], vm := .none },
  { cls := 11, slots := #[.int 20], vm := .none },
  { cls := 11, slots := #[.int 21], vm := .none },
  { cls := 11, slots := #[.int 22], vm := .none },
  { cls := 11, slots := #[.int 23], vm := .none },
  { cls := 11, slots := #[.int 24], vm := .none },
  { cls := 11, slots := #[.int 25], vm := .none },
  { cls := 11, slots := #[.int 26], vm := .none },
  { cls := 11, slots := #[.int 27], vm := .none },
  { cls := 11, slots := #[.int 28], vm := .none },
  { cls := 11, slots := #[.int 29], vm := .none },
  { cls := 11, slots := #[.int 30], vm := .none },
  { cls := 11, slots := #[.int 31], vm := .none },
  { cls := 11, slots := #[.int 32], vm := .none },
  { cls := 11, slots := #[.int 33], vm := .none },
  { cls := 11, slots := #[.int 34], vm := .none },
  { cls := 11, slots := #[.int 35], vm := .none },
  { cls := 11, slots := #[.int 36], vm := .none },
  { cls := 11, slots := #[.int 37], vm := .none },
  { cls := 11, slots := #[.int 38], vm := .none },
  { cls := 11, slots := #[.int 39], vm := .none },
  { cls := 11, slots := #[.int 40], vm := .none },
  { cls := 11, slots := #[.int 41], vm := .none },
  { cls := 11, slots := #[.int 42], vm := .none },
  { cls := 11, slots := #[.int 43], vm := .none },
  { cls := 11, slots := #[.int 44], vm := .none },
  { cls := 11, slots := #[.int 45], vm := .none },
  { cls := 11, slots := #[.int 46], vm := .none },
  { cls := 11, slots := #[.int 47], vm := .none },
  { cls := 11, slots := #[.int 48], vm := .none },
  { cls := 11, slots := #[.int 49], vm := .none },
  { cls := 11, slots := #[.int 50], vm := .none },
  { cls := 11, slots := #[.int 51], vm := .none },
  { cls := 11, slots := #[.int 52], vm := .none },
  { cls := 11, slots := #[.int 53], vm := .none },
  { cls := 11, slots := #[.int 54], vm := .none },
  { cls := 11, slots := #[.int 55], vm := .none },
  { cls := 11, slots := #[.int 56], vm := .none },
  { cls := 11, slots := #[.int 57], vm := .none },
  { cls := 11, slots := #[.int 58], vm := .none },
  { cls := 11, slots := #[.int 59], vm := .none },
  { cls := 11, slots := #[.int 60], vm := .none },
  { cls := 11, slots := #[.int 61], vm := .none },
  { cls := 11, slots := #[.int 62], vm := .none },
  { cls := 11, slots := #[.int 63], vm := .none },
  { cls := 11, slots := #[.int 64], vm := .none },
  { cls := 11, slots := #[.int 65], vm := .none },
  { cls := 11, slots := #[.int 66], vm := .none },
  { cls := 11, slots := #[.int 67], vm := .none },
  { cls := 11, slots := #[.int 68], vm := .none },
  { cls := 11, slots := #[.int 69], vm := .none },
  { cls := 11, slots := #[.int 70], vm := .none },
  { cls := 11, slots := #[.int 71], vm := .none },
  { cls := 11, slots := #[.int 72], vm := .none },
  { cls := 11, slots := #[.int 73], vm := .none },
  { cls := 11, slots := #[.int 74], vm := .none },
  { cls := 11, slots := #[.int 75], vm := .none },
  { cls := 11, slots := #[.int 76], vm := .none },
  { cls := 11, slots := #[.int 77], vm := .none },
  { cls := 11, slots := #[.int 78], vm := .none },
  { cls := 11, slots := #[.int 79], vm := .none },
  { cls := 11, slots := #[.int 80], vm := .none },
  { cls := 11, slots := #[.int 81], vm := .none },
  { cls := 11, slots := #[.int 82], vm := .none },
  { cls := 11, slots := #[.int 83], vm := .none },
  { cls := 11, slots := #[.int 84], vm := .none },
  { cls := 11, slots := #[.int 85], vm := .none },
  { cls := 11, slots := #[.int 86], vm := .none },
  { cls := 11, slots := #[.int 87], vm := .none },
  { cls := 11, slots := #[.int 88], vm := .none },
  { cls := 11, slots := #[.int 89], vm := .none },
  { cls := 11, slots := #[.int 90], vm := .none },
  { cls := 11, slots := #[.int 91], vm := .none },
  { cls := 11, slots := #[.int 92], vm := .none },
  { cls := 11, slots := #[.int 93], vm := .none },
  { cls := 11, slots := #[.int 94], vm := .none },
  { cls := 11, slots := #[.int 95], vm := .none },
  { cls := 11, slots := #[.int 96], vm := .none },
  { cls := 11, slots := #[.int 97], vm := .none },
  { cls := 11, slots := #[.int 98], vm := .none },
  { cls := 11, slots := #[.int 99], vm := .none },
  { cls := 11, slots := #[.int 100], vm := .none },
  { cls := 11, slots := #[.int 101], vm := .none },
  { cls := 11, slots := #[.int 102], vm := .none },
  { cls := 11, slots := #[.int 103], vm := .none },
  { cls := 11, slots := #[.int 104], vm := .none },
  { cls := 11, slots := #[.int 105], vm := .none },
  { cls := 11, slots := #[.int 106], vm := .none },
  { cls := 11, slots := #[.int 107], vm := .none },
  { cls := 11, slots := #[.int 108], vm := .none },
  { cls := 11, slots := #[.int 109], vm := .none },
  { cls := 11, slots := #[.int 110], vm := .none },
  { cls := 11, slots := #[.int 111], vm := .none },
  { cls := 11, slots := #[.int 112], vm := .none },
  { cls := 11, slots := #[.int 113], vm := .none },
  { cls := 11, slots := #[.int 114], vm := .none },
  { cls := 11, slots := #[.int 115], vm := .none },
  { cls := 11, slots := #[.int 116], vm := .none },
  { cls := 11, slots := #[.int 117], vm := .none },
  { cls := 11, slots := #[.int 118], vm := .none },
  { cls := 11, slots := #[.int 119], vm := .none },
  { cls := 11, slots := #[.int 120], vm := .none },
  { cls := 11, slots := #[.int 121], vm := .none },
  { cls := 11, slots := #[.int 122], vm := .none },
  { cls := 11, slots := #[.int 123], vm := .none },
  { cls := 11, slots := #[.int 124], vm := .none },
  { cls := 11, slots := #[.int 125], vm := .none },
  { cls := 11, slots := #[.int 126], vm := .none },
  { cls := 11, slots := #[.int 127], vm := .none },
  { cls := 19, slots := #[.ref 5, .ref 6, .ref 7, .ref 8, .ref 9, .ref 10, .ref 11, .ref 12, .ref 13, .ref 14, .ref 15, .ref 16, .ref 17, .ref 18, .ref 19, .ref 20, .ref 21, .ref 22, .ref 23, .ref 24, .ref 25, .ref 26, .ref 27, .ref 28, .ref 29, .ref 30, .ref 31, .ref 32, .ref 33, .ref 34, .ref 35, .ref 36, .ref 37, .ref 38, .ref 39, .ref 40, .ref 41, .ref 42, .ref 43, .ref 44, .ref 45, .ref 46, .ref 47, .ref 48, .ref 49, .ref 50, .ref 51, .ref 52, .ref 53, .ref 54, .ref 55, .ref 56, .ref 57, .ref 58, .ref 59, .ref 60, .ref 61, .ref 62, .ref 63, .ref 64, .ref 65, .ref 66, .ref 67, .ref 68, .ref 69, .ref 70, .ref 71, .ref 72, .ref 73, .ref 74, .ref 75, .ref 76, .ref 77, .ref 78, .ref 79, .ref 80, .ref 81, .ref 82, .ref 83, .ref 84, .ref 85, .ref 86, .ref 87, .ref 88, .ref 89, .ref 90, .ref 91, .ref 92, .ref 93, .ref 94, .ref 95, .ref 96, .ref 97, .ref 98, .ref 99, .ref 100, .ref 101, .ref 102, .ref 103, .ref 104, .ref 105, .ref 106, .ref 107, .ref 108, .ref 109, .ref 110, .ref 111, .ref 112, .ref 113, .ref 114, .ref 115, .ref 116, .ref 117, .ref 118, .ref 119, .ref 120, .ref 121, .ref 122, .ref 123, .ref 124, .ref 125, .ref 126, .ref 127, .ref 128, .ref 129, .ref 130, .ref 131, .ref 132, .ref 133, .ref 134, .ref 135, .ref 136, .ref 137, .ref 138, .ref 139, .ref 140, .ref 141, .ref 142, .ref 143, .ref 144, .ref 145, .ref 146, .ref 147, .ref 148, .ref 149, .ref 150, .ref 151, .ref 152, .ref 153, .ref 154, .ref 155, .ref 156, .ref 157, .ref 158, .ref 159, .ref 160, .ref 161, .ref 162, .ref 163, .ref 164, .ref 165, .ref 166, .ref 167, .ref 168, .ref 169, .ref 170, .ref 171, .ref 172, .ref 173, .ref 174, .ref 175, .ref 176, .ref 177, .ref 178, .ref 179, .ref 180, .ref 181, .ref 182, .ref 183, .ref 184, .ref 185, .ref 186, .ref 187, .ref 188, .ref 189, .ref 190, .ref 191, .ref 192, .ref 193, .ref 194, .ref 195, .ref 196, .ref 197, .ref 198, .ref 199, .ref 200, .ref 201, .ref 202, .ref 203, .ref 204, .ref 205, .ref 206, .ref 207, .ref 208, .ref 209, .ref 210, .ref 211, .ref 212, .ref 213, .ref 214, .ref 215, .ref 216, .ref 217, .ref 218, .ref 219, .ref 220, .ref 221, .ref 222, .ref 223, .ref 224, .ref 225, .ref 226, .ref 227, .ref 228, .ref 229, .ref 230, .ref 231, .ref 232, .ref 233, .ref 234, .ref 235, .ref 236, .ref 237, .ref 238, .ref 239, .ref 240, .ref 241, .ref 242, .ref 243, .ref 244, .ref 245, .ref 246, .ref 247, .ref 248, .ref 249, .ref 250, .ref 251, .ref 252, .ref 253, .ref 254, .ref 255, .ref 256, .ref 257, .ref 258, .ref 259, .ref 260], vm := .none }]
def classes : Array Class := #[k0, k1, k2, k3, k4, k5, k6, k7, k8, k9, k10, k11, k12, k13, k14, k15, k16, k17, k18, k19, k20, k21, k22]
def interned : List (Array UInt16 × Addr) := []
def slotsUsed : Nat := 525
def theMethod : MethodId := ⟨1, 1⟩
def args0 : Array Value := #[.int 5, .int 5, .int 5, .int 5, .int 5, .int 5]
def aboutOver (below : List Frame) : State where
  vm := { classes := classes, interned := interned.toArray }
  heap := heap
  slotsUsed := slotsUsed
  threads := #[{ frames := .invoking theMethod args0 :: below }]
def below0 : List Frame := [.native { method := ⟨0, 0⟩, args := #[] }]
def about1 : State := aboutOver below0
def p0 : Program := .bare "" "" ""
def e0 : Env := launch0.env 0 0 0
theorem w_frames : about1.frames = Frame.invoking theMethod args0 :: below0 := rfl
set_option maxRecDepth 65536 in
theorem w_args : argsFit about1.vm theMethod args0 = true := by decide +kernel
set_option maxRecDepth 65536 in
theorem w_heap : heapFits about1 = true := by decide +kernel
set_option maxRecDepth 65536 in
theorem w_runnable : about1.curStatus? = some .runnable := by decide +kernel
set_option maxRecDepth 65536 in
theorem w_alone : about1.alone = true := by decide +kernel
set_option maxRecDepth 65536 in
theorem w_named : about1.methodNamed? x = some theMethod := by decide +kernel
set_option maxRecDepth 65536 in
theorem w_hears : about1.hears theMethod below0 = true := by decide +kernel
set_option maxRecDepth 65536 in
theorem w_ripe : about1.ripe theMethod args0 below0 = true := by decide +kernel
theorem w_running : about1.status = .running := rfl
set_option maxRecDepth 65536 in
theorem w_room : about1.hasRoom e0.platform room_1 = true :=
  launch0.hasRoom_least _ room_1 (by decide +kernel) (by decide +kernel) (by decide +kernel) (by decide +kernel) (by decide +kernel) (by decide +kernel)
theorem allAtoms_all (ts : List Jvm.Cond) (a : Array Jvm.Value) (st : Jvm.State) : (allAtoms ts).before a st = ts.all (fun c => c.before a st) := by
  induction ts with
  | nil => rfl
  | cons c t ih =>
    show (Jvm.Cond.and c (allAtoms t)).before a st = _
    rw [Jvm.Cond.before_and, ih, List.all_cons]
def words1 : List Jvm.Cond := Jvm.Cond.code x code maxLocals ret :: tables_1
/-- a 'code' word, met by the world's own term for the bytes: nothing is compared byte by byte -/
theorem code_word {y : MethodName} {bytes : ByteArray} {mx : Nat} {rt : Option FieldType} {a : Array Value} {s : State} {m : MethodId} {meth : Method} {c : Code} (h1 : s.methodNamed? y = some m) (h2 : s.vm.method? m = some meth) (h3 : meth.code = some c) (h4 : c.code = bytes)
    (h5 : (c.maxLocals == mx && c.exceptionTable.isEmpty && decide (c.maxStack ≤ mostOperands) && decide (meth.sig.returnType = rt) && !meth.locks && decide (parseMethodDescriptor y.desc = some meth.sig)) = true) : (Jvm.Cond.code y bytes mx rt).before a s = true := by
  simp only [Bool.and_eq_true, beq_iff_eq, Bool.not_eq_true', decide_eq_true_eq] at h5
  obtain ⟨⟨⟨⟨⟨g1, g2⟩, g3⟩, g4⟩, g5⟩, g6⟩ := h5
  simp [Cond.before, Cond.holds, Cond.value, h1, h2, h3, h4, g1, g2, g3, g4, g5, g6]
def isCode : Jvm.Cond → Bool
  | .code _ _ _ _ => true
  | _ => false
theorem all_split {L : List Jvm.Cond} {P : Jvm.Cond → Bool} (h1 : L.all (fun c => isCode c || P c) = true) (h2 : ∀ c ∈ L.filter isCode, P c = true) : L.all P = true := by
  refine List.all_eq_true.mpr fun c hc => ?_
  have h := List.all_eq_true.mp h1 c hc
  rcases Bool.eq_false_or_eq_true (isCode c) with hi | hi
  · exact h2 c (List.mem_filter.mpr ⟨hc, hi⟩)
  · simpa [hi] using h
set_option maxRecDepth 65536 in
theorem w_c0 : (Jvm.Cond.code x code maxLocals ret).before args0 about1 = true := code_word (m := ⟨1, 1⟩) (meth := k1m1) (c := k1c1) (by decide +kernel) rfl rfl rfl (by decide +kernel)
set_option maxRecDepth 65536 in
theorem w_c1 : (Jvm.Cond.code ({ cls := "com/example/whenever/whenever/internal/engine/Rows", name := "<init>", desc := "(II)V" } : Jvm.MethodName) prog_105_method_1_code (3 : Nat) (Option.none : Option Jvm.ClassFile.FieldType)).before args0 about1 = true := code_word (m := ⟨2, 0⟩) (meth := k2m0) (c := k2c0) (by decide +kernel) rfl rfl rfl (by decide +kernel)
set_option maxRecDepth 65536 in
theorem w_c2 : (Jvm.Cond.code ({ cls := "java/lang/Object", name := "<init>", desc := "()V" } : Jvm.MethodName) object_method_1_code (1 : Nat) (Option.none : Option Jvm.ClassFile.FieldType)).before args0 about1 = true := code_word (m := ⟨0, 0⟩) (meth := k0m0) (c := k0c0) (by decide +kernel) rfl rfl rfl (by decide +kernel)
set_option maxRecDepth 65536 in
theorem w_c3 : (Jvm.Cond.code ({ cls := "com/example/whenever/whenever/internal/engine/Rows", name := "add", desc := "()I" } : Jvm.MethodName) prog_105_method_2_code (2 : Nat) (Option.some Jvm.ClassFile.FieldType.int)).before args0 about1 = true := code_word (m := ⟨2, 1⟩) (meth := k2m1) (c := k2c1) (by decide +kernel) rfl rfl rfl (by decide +kernel)
set_option maxRecDepth 65536 in
theorem w_c4 : (Jvm.Cond.code ({ cls := "com/example/whenever/whenever/internal/engine/Rows", name := "grow", desc := "()V" } : Jvm.MethodName) prog_105_method_3_code (2 : Nat) (Option.none : Option Jvm.ClassFile.FieldType)).before args0 about1 = true := code_word (m := ⟨2, 2⟩) (meth := k2m2) (c := k2c2) (by decide +kernel) rfl rfl rfl (by decide +kernel)
set_option maxRecDepth 65536 in
theorem w_c5 : (Jvm.Cond.code ({ cls := "java/lang/Math", name := "max", desc := "(II)I" } : Jvm.MethodName) jdk_29_method_65_code (2 : Nat) (Option.some Jvm.ClassFile.FieldType.int)).before args0 about1 = true := code_word (m := ⟨3, 1⟩) (meth := k3m1) (c := k3c1) (by decide +kernel) rfl rfl rfl (by decide +kernel)
set_option maxRecDepth 65536 in
theorem w_c6 : (Jvm.Cond.code ({ cls := "java/util/Arrays", name := "copyOf", desc := "([II)[I" } : Jvm.MethodName) jdk_65_method_123_code (3 : Nat) (Option.some (Jvm.ClassFile.FieldType.array Jvm.ClassFile.FieldType.int))).before args0 about1 = true := code_word (m := ⟨4, 3⟩) (meth := k4m3) (c := k4c3) (by decide +kernel) rfl rfl rfl (by decide +kernel)
set_option maxRecDepth 65536 in
theorem w_c7 : (Jvm.Cond.code ({ cls := "java/lang/Math", name := "min", desc := "(II)I" } : Jvm.MethodName) jdk_29_method_69_code (2 : Nat) (Option.some Jvm.ClassFile.FieldType.int)).before args0 about1 = true := code_word (m := ⟨3, 2⟩) (meth := k3m2) (c := k3c2) (by decide +kernel) rfl rfl rfl (by decide +kernel)
set_option maxRecDepth 65536 in
theorem w_c8 : (Jvm.Cond.code ({ cls := "java/util/Arrays", name := "copyOf", desc := "([Ljava/lang/Object;I)[Ljava/lang/Object;" } : Jvm.MethodName) jdk_65_method_119_code (2 : Nat) (Option.some (Jvm.ClassFile.FieldType.array (Jvm.ClassFile.FieldType.object "java/lang/Object")))).before args0 about1 = true := code_word (m := ⟨4, 1⟩) (meth := k4m1) (c := k4c1) (by decide +kernel) rfl rfl rfl (by decide +kernel)
set_option maxRecDepth 65536 in
theorem w_c9 : (Jvm.Cond.code ({ cls := "java/util/Arrays", name := "copyOf", desc := "([Ljava/lang/Object;ILjava/lang/Class;)[Ljava/lang/Object;" } : Jvm.MethodName) jdk_65_method_120_code (4 : Nat) (Option.some (Jvm.ClassFile.FieldType.array (Jvm.ClassFile.FieldType.object "java/lang/Object")))).before args0 about1 = true := code_word (m := ⟨4, 2⟩) (meth := k4m2) (c := k4c2) (by decide +kernel) rfl rfl rfl (by decide +kernel)
set_option maxRecDepth 65536 in
theorem w_c10 : (Jvm.Cond.code ({ cls := "com/example/whenever/whenever/internal/engine/RowsSetRefPinLaw", name := "pick", desc := "(IIII)I" } : Jvm.MethodName) method_3_code (5 : Nat) (Option.some Jvm.ClassFile.FieldType.int)).before args0 about1 = true := code_word (m := ⟨1, 2⟩) (meth := k1m2) (c := k1c2) (by decide +kernel) rfl rfl rfl (by decide +kernel)
set_option maxRecDepth 65536 in
theorem w_c11 : (Jvm.Cond.code ({ cls := "java/lang/Integer", name := "valueOf", desc := "(I)Ljava/lang/Integer;" } : Jvm.MethodName) jdk_33_method_22_code (1 : Nat) (Option.some (Jvm.ClassFile.FieldType.object "java/lang/Integer"))).before args0 about1 = true := code_word (m := ⟨11, 0⟩) (meth := k11m0) (c := k11c0) (by decide +kernel) rfl rfl rfl (by decide +kernel)
set_option maxRecDepth 65536 in
theorem w_c12 : (Jvm.Cond.code ({ cls := "com/example/whenever/whenever/internal/engine/Rows", name := "setRef", desc := "(IILjava/lang/Object;)V" } : Jvm.MethodName) prog_105_method_10_code (4 : Nat) (Option.none : Option Jvm.ClassFile.FieldType)).before args0 about1 = true := code_word (m := ⟨2, 4⟩) (meth := k2m4) (c := k2c4) (by decide +kernel) rfl rfl rfl (by decide +kernel)
set_option maxRecDepth 65536 in
theorem w_c13 : (Jvm.Cond.code ({ cls := "com/example/whenever/whenever/internal/engine/Rows", name := "getRef", desc := "(II)Ljava/lang/Object;" } : Jvm.MethodName) prog_105_method_9_code (3 : Nat) (Option.some (Jvm.ClassFile.FieldType.object "java/lang/Object"))).before args0 about1 = true := code_word (m := ⟨2, 3⟩) (meth := k2m3) (c := k2c3) (by decide +kernel) rfl rfl rfl (by decide +kernel)
set_option maxRecDepth 65536 in
theorem w_c14 : (Jvm.Cond.code ({ cls := "com/example/whenever/whenever/internal/engine/RowsSetRefPinLaw", name := "expected", desc := "(IIIILjava/lang/Object;IILjava/lang/Object;)Ljava/lang/Object;" } : Jvm.MethodName) method_4_code (8 : Nat) (Option.some (Jvm.ClassFile.FieldType.object "java/lang/Object"))).before args0 about1 = true := code_word (m := ⟨1, 3⟩) (meth := k1m3) (c := k1c3) (by decide +kernel) rfl rfl rfl (by decide +kernel)
set_option maxRecDepth 65536 in
theorem w_c15 : (Jvm.Cond.code ({ cls := "java/lang/Integer", name := "<init>", desc := "(I)V" } : Jvm.MethodName) jdk_33_method_23_code (2 : Nat) (Option.none : Option Jvm.ClassFile.FieldType)).before args0 about1 = true := code_word (m := ⟨11, 1⟩) (meth := k11m1) (c := k11c1) (by decide +kernel) rfl rfl rfl (by decide +kernel)
set_option maxRecDepth 65536 in
theorem w_c16 : (Jvm.Cond.code ({ cls := "java/lang/Number", name := "<init>", desc := "()V" } : Jvm.MethodName) jdk_18_method_1_code (1 : Nat) (Option.none : Option Jvm.ClassFile.FieldType)).before args0 about1 = true := code_word (m := ⟨7, 0⟩) (meth := k7m0) (c := k7c0) (by decide +kernel) rfl rfl rfl (by decide +kernel)
def codes1 : List Jvm.Cond := [Jvm.Cond.code x code maxLocals ret, Jvm.Cond.code ({ cls := "com/example/whenever/whenever/internal/engine/Rows", name := "<init>", desc := "(II)V" } : Jvm.MethodName) prog_105_method_1_code (3 : Nat) (Option.none : Option Jvm.ClassFile.FieldType), Jvm.Cond.code ({ cls := "java/lang/Object", name := "<init>", desc := "()V" } : Jvm.MethodName) object_method_1_code (1 : Nat) (Option.none : Option Jvm.ClassFile.FieldType), Jvm.Cond.code ({ cls := "com/example/whenever/whenever/internal/engine/Rows", name := "add", desc := "()I" } : Jvm.MethodName) prog_105_method_2_code (2 : Nat) (Option.some Jvm.ClassFile.FieldType.int), Jvm.Cond.code ({ cls := "com/example/whenever/whenever/internal/engine/Rows", name := "grow", desc := "()V" } : Jvm.MethodName) prog_105_method_3_code (2 : Nat) (Option.none : Option Jvm.ClassFile.FieldType), Jvm.Cond.code ({ cls := "java/lang/Math", name := "max", desc := "(II)I" } : Jvm.MethodName) jdk_29_method_65_code (2 : Nat) (Option.some Jvm.ClassFile.FieldType.int), Jvm.Cond.code ({ cls := "java/util/Arrays", name := "copyOf", desc := "([II)[I" } : Jvm.MethodName) jdk_65_method_123_code (3 : Nat) (Option.some (Jvm.ClassFile.FieldType.array Jvm.ClassFile.FieldType.int)), Jvm.Cond.code ({ cls := "java/lang/Math", name := "min", desc := "(II)I" } : Jvm.MethodName) jdk_29_method_69_code (2 : Nat) (Option.some Jvm.ClassFile.FieldType.int), Jvm.Cond.code ({ cls := "java/util/Arrays", name := "copyOf", desc := "([Ljava/lang/Object;I)[Ljava/lang/Object;" } : Jvm.MethodName) jdk_65_method_119_code (2 : Nat) (Option.some (Jvm.ClassFile.FieldType.array (Jvm.ClassFile.FieldType.object "java/lang/Object"))), Jvm.Cond.code ({ cls := "java/util/Arrays", name := "copyOf", desc := "([Ljava/lang/Object;ILjava/lang/Class;)[Ljava/lang/Object;" } : Jvm.MethodName) jdk_65_method_120_code (4 : Nat) (Option.some (Jvm.ClassFile.FieldType.array (Jvm.ClassFile.FieldType.object "java/lang/Object"))), Jvm.Cond.code ({ cls := "com/example/whenever/whenever/internal/engine/RowsSetRefPinLaw", name := "pick", desc := "(IIII)I" } : Jvm.MethodName) method_3_code (5 : Nat) (Option.some Jvm.ClassFile.FieldType.int), Jvm.Cond.code ({ cls := "java/lang/Integer", name := "valueOf", desc := "(I)Ljava/lang/Integer;" } : Jvm.MethodName) jdk_33_method_22_code (1 : Nat) (Option.some (Jvm.ClassFile.FieldType.object "java/lang/Integer")), Jvm.Cond.code ({ cls := "com/example/whenever/whenever/internal/engine/Rows", name := "setRef", desc := "(IILjava/lang/Object;)V" } : Jvm.MethodName) prog_105_method_10_code (4 : Nat) (Option.none : Option Jvm.ClassFile.FieldType), Jvm.Cond.code ({ cls := "com/example/whenever/whenever/internal/engine/Rows", name := "getRef", desc := "(II)Ljava/lang/Object;" } : Jvm.MethodName) prog_105_method_9_code (3 : Nat) (Option.some (Jvm.ClassFile.FieldType.object "java/lang/Object")), Jvm.Cond.code ({ cls := "com/example/whenever/whenever/internal/engine/RowsSetRefPinLaw", name := "expected", desc := "(IIIILjava/lang/Object;IILjava/lang/Object;)Ljava/lang/Object;" } : Jvm.MethodName) method_4_code (8 : Nat) (Option.some (Jvm.ClassFile.FieldType.object "java/lang/Object")), Jvm.Cond.code ({ cls := "java/lang/Integer", name := "<init>", desc := "(I)V" } : Jvm.MethodName) jdk_33_method_23_code (2 : Nat) (Option.none : Option Jvm.ClassFile.FieldType), Jvm.Cond.code ({ cls := "java/lang/Number", name := "<init>", desc := "()V" } : Jvm.MethodName) jdk_18_method_1_code (1 : Nat) (Option.none : Option Jvm.ClassFile.FieldType)]
set_option maxRecDepth 65536 in
theorem codes_eq : words1.filter isCode = codes1 := rfl
theorem w_codes : ∀ c ∈ words1.filter isCode, c.before args0 about1 = true := by
  rw [codes_eq]
  intro c hc
  simp only [codes1, List.mem_cons, List.not_mem_nil, or_false] at hc
  rcases hc with rfl | rfl | rfl | rfl | rfl | rfl | rfl | rfl | rfl | rfl | rfl | rfl | rfl | rfl | rfl | rfl | rfl
  · exact w_c0
  · exact w_c1
  · exact w_c2
  · exact w_c3
  · exact w_c4
  · exact w_c5
  · exact w_c6
  · exact w_c7
  · exact w_c8
  · exact w_c9
  · exact w_c10
  · exact w_c11
  · exact w_c12
  · exact w_c13
  · exact w_c14
  · exact w_c15
  · exact w_c16
set_option maxRecDepth 65536 in
theorem w_t1 : (words1.take 24).all (fun c => isCode c || c.before args0 about1) = true := by decide +kernel
set_option maxRecDepth 65536 in
theorem w_t2 : ((words1.drop 24).take 24).all (fun c => isCode c || c.before args0 about1) = true := by decide +kernel
set_option maxRecDepth 65536 in
theorem w_t3 : (((words1.drop 24).drop 24).take 24).all (fun c => isCode c || c.before args0 about1) = true := by decide +kernel
set_option maxRecDepth 65536 in
theorem w_t4 : ((((words1.drop 24).drop 24).drop 24).take 24).all (fun c => isCode c || c.before args0 about1) = true := by decide +kernel
set_option maxRecDepth 65536 in
theorem w_t5 : ((((words1.drop 24).drop 24).drop 24).drop 24).all (fun c => isCode c || c.before args0 about1) = true := by decide +kernel
theorem w_tables : (allAtoms (Jvm.Cond.code x code maxLocals ret :: tables_1)).before args0 about1 = true := by
  rw [allAtoms_all]
  show words1.all (fun c => c.before args0 about1) = true
  refine all_split ?_ w_codes
  rw [← List.take_append_drop 24 words1, List.all_append, w_t1, ← List.take_append_drop 24 (words1.drop 24), List.all_append, w_t2, ← List.take_append_drop 24 ((words1.drop 24).drop 24), List.all_append, w_t3, ← List.take_append_drop 24 (((words1.drop 24).drop 24).drop 24), List.all_append, w_t4, w_t5]
  rfl
set_option maxRecDepth 65536 in
theorem w_rest : rest_1_c.before args0 about1 = true := by decide +kernel
set_option maxRecDepth 65536 in
theorem w_case : (Jvm.Cond.and given_1 narrow_1).before args0 about1 = true := by decide +kernel
theorem w_applies : (headSpec (Jvm.Cond.code x code maxLocals ret :: tables_1) room_1).applies x e0.platform about1 = true :=
  (Spec.applies_iff w_frames).mpr ⟨w_running, w_runnable, w_alone, w_named, w_hears, w_ripe, w_room, w_tables⟩
set_option maxRecDepth 65536 in
theorem atStart : AtStart classFile x code maxLocals ret World_1 tables_1 room_1 Calls_1 rest_1 Pre_1 launch0 p0 e0 about1 theMethod args0 below0 :=
  ⟨lists_1, trivial, launch0.admits_env _ _ _, launch0.least_env, fairChoices_fair.cas, fairChoices_fair.clock, w_frames, w_args, w_heap, w_applies, ⟨⟨20, k20, 2, by decide +kernel, rfl, rfl, _, rfl, rfl⟩, trivial⟩, w_rest, w_case⟩
end start1
theorem witness_1 : WitnessClaimed_1 := ⟨start1.p0, start1.e0, start1.about1, start1.theMethod, start1.args0, start1.below0, start1.atStart⟩
end Jvm.Pilot.@@N@@
