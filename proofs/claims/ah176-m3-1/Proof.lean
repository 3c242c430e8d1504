import JvmDerived
import JvmDerived.Pilot.@@N@@Statement
import JvmDerived.Pilot.@@N@@Code
set_option linter.unusedVariables false
set_option linter.unusedSimpArgs false
@@BLOCK:NumsL.lean.txt@@
namespace Jvm.Pilot.@@N@@
open Jvm Jvm.ClassFile Sem Op Lib Jvm.Free Jvm.Stand Jvm.LawKit Jvm.RoadKit Bundle Jvm.Pilot.@@N@@.Jvm.D
theorem own_ne {k : Int32} {n : Int} (z : Int32) (hl : z.toInt = n) (h : ¬ k = z) : n ≠ k.toInt := fun e => h (Int32.toInt_inj.mp (by rw [hl]; exact e.symm))
theorem own_ext {Z : State} {n0 : Nat} {h : Heap} (O : Old Z n0 h) : Ext Z.heap h := O.2
theorem own_sz {Z : State} {n0 : Nat} {h : Heap} (O : Old Z n0 h) : n0 ≤ h.size := by have := O.2.1; rw [O.1] at this; exact this
def own_Ends (p : Program) (e : Env) (below : List Frame) (s : State) (Q : Option Value → Heap → List Loc → Prop) (k n : Nat) (A : State) : Prop :=
  ∃ (U : State) (o : Outcome), Steps p.tables e below A U ∧ U.status = .running ∧ Ended U below o ∧ ∃ v L, o = .returned v ∧ Q v U.heap L ∧ FrameEnd s o U L k n
section OwnKit
variable {p : Program} {l : Launch} {e : Env} {R : Room} {s : State} {m : MethodId} {args : Array Value} {below : List Frame} {meth : Method} {c : Code} {T : State} {locs : List Loc} {cells slots k n : Nat} {Q : Option Value → Heap → List Loc → Prop} {A B : State}
theorem own_go (h : ∀ t, Steps p.tables e below B t → Steps p.tables e below A t) (K : own_Ends p e below s Q k n B) : own_Ends p e below s Q k n A := by
  obtain ⟨U, o, h1, r⟩ := K
  exact ⟨U, o, h U h1, r⟩
theorem own_ret (X : Stand p l e R s m args below meth c T locs cells slots) (hx : p.tables.exec = Jvm.exec) (hlk : meth.locks = false) {pc : Nat} {Ls : Array Slot} {w : Value} {t : FieldType} {i : Instr} {rest : List Value} (hret : meth.sig.returnType = some t) (hn : narrow t w = w)
    (hi : (i = .ireturn ∧ (t = .int ∨ t = .boolean ∨ t = .byte ∨ t = .char ∨ t = .short) ∧ ∃ z, w = .int z) ∨ (i = .lreturn ∧ t = .long ∧ ∃ z, w = .long z) ∨ (i = .dreturn ∧ t = .double ∧ ∃ z, w = .double z) ∨ (i = .freturn ∧ t = .float ∧ ∃ z, w = .float z) ∨ (i = .areturn ∧ t.isReference = true ∧ w.isRef = true))
    (hd : decode c.code pc = .ok (i, 1)) (hk : cells ≤ k) (hs : slots ≤ n) (hQ : Q (some w) T.heap locs) : own_Ends p e below s Q k n (T.setTop (mkF m pc Ls (w :: rest))) := by
  obtain ⟨fs, hr, hrun, hended, hW, hsame⟩ := X.leave (v := some w) (fun h => by rw [hret] at h; cases h) hlk
  exact ⟨_, _, retOut X hx hret hn hi hd hr, hrun, hended, _, _, rfl, hQ, ⟨_, rfl⟩, hW, hsame.mono hk hs⟩
theorem own_retI (X : Stand p l e R s m args below meth c T locs cells slots) (hx : p.tables.exec = Jvm.exec) (hlk : meth.locks = false) {pc : Nat} {Ls : Array Slot} {z : Int32} {rest : List Value} (hret : meth.sig.returnType = some .int) (hd : decode c.code pc = .ok (.ireturn, 1)) (hk : cells ≤ k) (hs : slots ≤ n) (hQ : Q (some (.int z)) T.heap locs) : own_Ends p e below s Q k n (T.setTop (mkF m pc Ls (.int z :: rest))) :=
  own_ret X hx hlk hret rfl (Or.inl ⟨rfl, Or.inl rfl, _, rfl⟩) hd hk hs hQ
theorem own_retJ (X : Stand p l e R s m args below meth c T locs cells slots) (hx : p.tables.exec = Jvm.exec) (hlk : meth.locks = false) {pc : Nat} {Ls : Array Slot} {z : Int64} {rest : List Value} (hret : meth.sig.returnType = some .long) (hd : decode c.code pc = .ok (.lreturn, 1)) (hk : cells ≤ k) (hs : slots ≤ n) (hQ : Q (some (.long z)) T.heap locs) : own_Ends p e below s Q k n (T.setTop (mkF m pc Ls (.long z :: rest))) :=
  own_ret X hx hlk hret rfl (Or.inr (Or.inl ⟨rfl, rfl, _, rfl⟩)) hd hk hs hQ
theorem own_retD (X : Stand p l e R s m args below meth c T locs cells slots) (hx : p.tables.exec = Jvm.exec) (hlk : meth.locks = false) {pc : Nat} {Ls : Array Slot} {z : UInt64} {rest : List Value} (hret : meth.sig.returnType = some .double) (hd : decode c.code pc = .ok (.dreturn, 1)) (hk : cells ≤ k) (hs : slots ≤ n) (hQ : Q (some (.double z)) T.heap locs) : own_Ends p e below s Q k n (T.setTop (mkF m pc Ls (.double z :: rest))) :=
  own_ret X hx hlk hret rfl (Or.inr (Or.inr (Or.inl ⟨rfl, rfl, _, rfl⟩))) hd hk hs hQ
theorem own_retA (X : Stand p l e R s m args below meth c T locs cells slots) (hx : p.tables.exec = Jvm.exec) (hlk : meth.locks = false) {pc : Nat} {Ls : Array Slot} {w : Value} {t : FieldType} {rest : List Value} (hret : meth.sig.returnType = some t) (ht : t.isReference = true) (hw : w.isRef = true) (hn : narrow t w = w) (hd : decode c.code pc = .ok (.areturn, 1)) (hk : cells ≤ k) (hs : slots ≤ n) (hQ : Q (some w) T.heap locs) : own_Ends p e below s Q k n (T.setTop (mkF m pc Ls (w :: rest))) :=
  own_ret X hx hlk hret hn (Or.inr (Or.inr (Or.inr (Or.inr ⟨rfl, ht, hw⟩)))) hd hk hs hQ
theorem own_retN (X : Stand p l e R s m args below meth c T locs cells slots) (hx : p.tables.exec = Jvm.exec) (hlk : meth.locks = false) {pc : Nat} {Ls : Array Slot} {z : Int32} {t : FieldType} {rest : List Value} (hret : meth.sig.returnType = some t) (ht : t = .boolean ∨ t = .byte ∨ t = .char ∨ t = .short) (hd : decode c.code pc = .ok (.ireturn, 1)) (hk : cells ≤ k) (hs : slots ≤ n) (hQ : Q (some (.int (nar t z))) T.heap locs) : own_Ends p e below s Q k n (T.setTop (mkF m pc Ls (.int z :: rest))) := by
  obtain ⟨fs, hr, hrun, hended, hW, hsame⟩ := X.leave (v := some (.int (nar t z))) (fun h => by rw [hret] at h; cases h) hlk
  exact ⟨_, _, retN X hx hret ht hd hr, hrun, hended, _, _, rfl, hQ, ⟨_, rfl⟩, hW, hsame.mono hk hs⟩
theorem own_retV (X : Stand p l e R s m args below meth c T locs cells slots) (hx : p.tables.exec = Jvm.exec) (hlk : meth.locks = false) {pc : Nat} {Ls : Array Slot} (hret : meth.sig.returnType = none) (hd : decode c.code pc = .ok (.return_, 1)) (hk : cells ≤ k) (hs : slots ≤ n) (hQ : Q none T.heap locs) : own_Ends p e below s Q k n (T.setTop (mkF m pc Ls [])) := by
  obtain ⟨fs, hr, hrun, hended, hW, hsame⟩ := X.leave (v := none) (fun _ => rfl) hlk
  exact ⟨_, _, X.returnOut hx hret hd hr, hrun, hended, _, _, rfl, hQ, ⟨_, rfl⟩, hW, hsame.mono hk hs⟩
end OwnKit

def own_Ar (Z : State) (h : Heap) (a : Addr) (ty : FieldType) (n : Nat) (f : Nat → Value) : Prop := ∃ c : Cell, Arr Z h a c ty ∧ c.slots.size = n ∧ ∀ i, i < n → c.slots[i]? = some (f i)
section OwnArr
variable {Z : State} {h h' : Heap} {a b : Addr} {ty : FieldType} {n sl : Nat} {f : Nat → Value} {v : Value} {ws : List Addr}
theorem own_Ar.lt (F : own_Ar Z h a ty n f) : a < h.size := by obtain ⟨c, A, -⟩ := F; exact A.lt
theorem own_Ar.ext (F : own_Ar Z h a ty n f) (E : Ext h h') : own_Ar Z h' a ty n f := by obtain ⟨c, A, r⟩ := F; exact ⟨c, A.ext E, r⟩
theorem own_Ar.other (F : own_Ar Z h b ty n f) (W : Wr h h' a sl v) (q : b ≠ a) : own_Ar Z h' b ty n f := by obtain ⟨c, A, r⟩ := F; exact ⟨c, A.other W q, r⟩
theorem own_Ar.keep (F : own_Ar Z h a ty n f) (K : Keep h h' ws) (q : a ∉ ws) : own_Ar Z h' a ty n f := by obtain ⟨c, A, r⟩ := F; exact ⟨c, ⟨K.2.1 a c A.1 q, A.2⟩, r⟩
theorem own_Ar.at (F : own_Ar Z h a ty n f) (j : Int32) (h0 : ¬ j < 0) (h1 : j.toNatClampNeg < n) : ∃ c : Cell, Arr Z h a c ty ∧ ¬ (j < 0 ∨ c.slots.size ≤ j.toNatClampNeg) ∧ c.slots[j.toNatClampNeg]? = some (f j.toNatClampNeg) := by
  obtain ⟨c, A, e, r⟩ := F
  exact ⟨c, A, fun q => q.elim h0 (fun z => by omega), r _ h1⟩
theorem own_Ar.len (F : own_Ar Z h a ty n f) : ∃ c : Cell, Arr Z h a c ty ∧ c.slots.size.toInt32 = Int32.ofNat n := by
  obtain ⟨c, A, e, r⟩ := F
  exact ⟨c, A, by rw [e]⟩
theorem own_Ar.newI {k : ClassId} {z : Int32} (A : Arr Z h a (newA k ty z) ty) (hz : z.toNatClampNeg = n) (hd : defaultValue ty = .int 0) : own_Ar Z h a ty n (fun _ => .int 0) :=
  ⟨_, A, by rw [sz_new]; exact hz, fun i hi => by simp [newA, hz, hi, hd]⟩
theorem own_Ar.newJ {k : ClassId} {z : Int32} (A : Arr Z h a (newA k .long z) .long) (hz : z.toNatClampNeg = n) : own_Ar Z h a .long n (fun _ => .long 0) :=
  ⟨_, A, by rw [sz_new]; exact hz, fun i hi => by simp [newA, hz, hi, defaultValue]⟩
theorem own_Ar.set (F : own_Ar Z h a ty n f) (W : Wr h h' a sl v) {f' : Nat → Value} (hf : ∀ i, i < n → f' i = if i = sl then v else f i) : own_Ar Z h' a ty n f' := by
  obtain ⟨c, A, e, r⟩ := F
  refine ⟨_, A.same W, by simp [Cell.setSlot, e], fun i hi => ?_⟩
  obtain ⟨c', w1, -, w3, w4⟩ := W
  cases A.1.symm.trans w1
  rw [hf i hi]
  by_cases q : i = sl
  · subst q; simp [Cell.setSlot, w3]
  · rw [if_neg q, ← r i hi]; exact Array.getElem?_setIfInBounds_ne (Ne.symm q)
theorem own_Ar.setI {G : Nat → Int32} {x : Int32} (F : own_Ar Z h a ty n (fun i => .int (G i))) (W : Wr h h' a sl (.int x)) : own_Ar Z h' a ty n (fun i => .int (if i = sl then x else G i)) :=
  F.set W fun i _ => by by_cases q : i = sl <;> simp [q]
theorem own_Ar.setJ {G : Nat → Int64} {x : Int64} (F : own_Ar Z h a ty n (fun i => .long (G i))) (W : Wr h h' a sl (.long x)) : own_Ar Z h' a ty n (fun i => .long (if i = sl then x else G i)) :=
  F.set W fun i _ => by by_cases q : i = sl <;> simp [q]
theorem own_Ar.cong (F : own_Ar Z h a ty n f) {f' : Nat → Value} (hf : ∀ i, i < n → f' i = f i) : own_Ar Z h a ty n f' := by
  obtain ⟨c, A, e, r⟩ := F
  exact ⟨c, A, e, fun i hi => by rw [hf i hi]; exact r i hi⟩
end OwnArr
/-! doubles that are exact: x is the number n * 2^(E - 1074) -/
abbrev own_z (x : UInt64) : Int := FP.Core.zval FP.Core.b64 (FP.Core.val64 x)
def own_D (n : Int) (E : Nat) (x : UInt64) : Prop := FP.Core.DFin x ∧ own_z x = n * 2 ^ E
theorem own_rep (n : Int) (E : Nat) (hn : n.natAbs < 2 ^ 53) (h1 : 52 ≤ E) (h2 : E ≤ 2000) : ∃ V, FP.Core.fits FP.Core.b64 V ∧ V ≠ .nan ∧ FP.Core.zval FP.Core.b64 V = n * 2 ^ E := by
  have qm : FP.Core.b64.qmin = -1074 := by decide
  have qM : FP.Core.b64.qmax = 971 := by decide
  have tl : FP.Core.b64.tails = 2 ^ 52 := by decide
  by_cases h0 : n = 0
  · refine ⟨.fin false 0 FP.Core.b64.qmin, ⟨by decide, Int.le_refl _, by decide, Or.inl rfl⟩, by simp, ?_⟩
    rw [h0, Int.zero_mul]
    simp [FP.Core.zval, FP.Core.zmag, FP.Core.sgn, FP.Core.signed, FP.Core.inUnits]
  · obtain ⟨c, hc⟩ : ∃ c, c = n.natAbs := ⟨_, rfl⟩
    have c0 : c ≠ 0 := by omega
    have l1 := Nat.log2_self_le c0
    have l2 := Nat.lt_log2_self (n := c)
    have l3 : c.log2 < 53 := (Nat.log2_lt c0).mpr (by omega)
    obtain ⟨j, hj⟩ : ∃ j, j = 52 - c.log2 := ⟨_, rfl⟩
    have b1 : c * 2 ^ j < 2 ^ 53 := by
      have : c * 2 ^ j < 2 ^ (c.log2 + 1) * 2 ^ j := Nat.mul_lt_mul_of_pos_right l2 (Nat.two_pow_pos _)
      rwa [← Nat.pow_add, show c.log2 + 1 + j = 53 by omega] at this
    have b2 : 2 ^ 52 ≤ c * 2 ^ j := by
      have : 2 ^ c.log2 * 2 ^ j ≤ c * 2 ^ j := Nat.mul_le_mul_right _ l1
      rwa [← Nat.pow_add, show c.log2 + j = 52 by omega] at this
    refine ⟨.fin (decide (n < 0)) (c * 2 ^ j) ((E : Int) - 1074 - j), ⟨b1, by rw [qm]; omega, by rw [qM]; omega, Or.inr (by rw [tl]; exact b2)⟩, by simp, ?_⟩
    have e : FP.Core.inUnits (c * 2 ^ j) ((E : Int) - 1074 - j) FP.Core.b64.qmin = c * 2 ^ E := by
      rw [FP.Core.inUnits, qm, show ((E : Int) - 1074 - j - -1074).toNat = E - j by omega, Nat.mul_assoc, ← Nat.pow_add, show j + (E - j) = E by omega]
    show FP.Core.signed (decide (n < 0)) (FP.Core.inUnits (c * 2 ^ j) ((E : Int) - 1074 - j) FP.Core.b64.qmin) = _
    rw [e, FP.Core.signed]
    by_cases s : n < 0
    · rw [if_pos (by simpa using s)]
      have : n = -(c : Int) := by omega
      rw [this, Int.neg_mul]; simp
    · rw [if_neg (by simpa using s)]
      have : n = (c : Int) := by omega
      rw [this]; simp
theorem own_fin_of {d : FP.Core.Datum} {n : Int} {E : Nat} (hn : n.natAbs < 2 ^ 53) (hE : E ≤ 2000) (h0 : d ≠ .nan) (h : FP.Core.zval FP.Core.b64 d = n * 2 ^ E) : ∃ s c q, d = .fin s c q := by
  cases d with
  | nan => exact absurd rfl h0
  | fin s c q => exact ⟨s, c, q, rfl⟩
  | inf s =>
    exfalso
    have h1 : (FP.Core.zval FP.Core.b64 (.inf s)).natAbs = 2 ^ 2098 := by cases s <;> decide +kernel
    rw [h, Int.natAbs_mul, Int.natAbs_pow] at h1
    have h2 : n.natAbs * (2 : Int).natAbs ^ E < 2 ^ 53 * 2 ^ 2000 := Nat.mul_lt_mul_of_lt_of_le hn (Nat.pow_le_pow_right (by decide) hE) (Nat.two_pow_pos _)
    rw [h1, ← Nat.pow_add] at h2
    exact absurd h2 (Nat.not_lt.mpr (Nat.pow_le_pow_right (by decide) (by decide)))
theorem own_nn {x : UInt64} (h : FP.Core.DFin x) : FP.Core.val64 x ≠ .nan := by obtain ⟨s, c, q, e⟩ := h; rw [e]; simp
theorem own_D.of {n : Int} {k : Nat} {x : UInt64} (hn : n.natAbs < 2 ^ 53) (hk : k ≤ 2000) (h0 : FP.Core.val64 x ≠ .nan) (h : own_z x = n * 2 ^ k) : own_D n k x := ⟨own_fin_of hn hk h0 h, h⟩
theorem own_D.add {n m : Int} {k : Nat} {x y : UInt64} (hx : own_D n k x) (hy : own_D m k y) (h : (n + m).natAbs < 2 ^ 53) (hk1 : 52 ≤ k := by omega) (hk : k ≤ 2000 := by omega) : own_D (n + m) k (FP.dadd x y) := by
  obtain ⟨V, fV, nV, zV⟩ := own_rep (n + m) k h hk1 hk
  have fx := FP.Core.val64_fits x
  have fy := FP.Core.val64_fits y
  have e : own_z x + own_z y = FP.Core.zval FP.Core.b64 V := by rw [hx.2, hy.2, zV, Int.add_mul]
  have e1 := FP.Core.sum_le FP.Core.good_b64 hx.1 hy.1 fx fy fV nV (Int.le_of_eq e)
  have e2 := FP.Core.sum_ge FP.Core.good_b64 hx.1 hy.1 fx fy fV nV (Int.le_of_eq e.symm)
  refine own_D.of h hk ?_ ?_
  · exact (FP.Core.notNaN_iff _).mp (FP.Core.dadd_out ((FP.Core.notNaN_iff _).mpr (own_nn hx.1)) hy.1)
  · show FP.Core.zval FP.Core.b64 (FP.Core.val64 (FP.Core.dadd x y)) = _
    rw [FP.Core.val64_dadd, ← zV]; omega
theorem own_D.sub {n m : Int} {k : Nat} {x y : UInt64} (hx : own_D n k x) (hy : own_D m k y) (h : (n - m).natAbs < 2 ^ 53) (hk1 : 52 ≤ k := by omega) (hk : k ≤ 2000 := by omega) : own_D (n - m) k (FP.dsub x y) := by
  obtain ⟨V, fV, nV, zV⟩ := own_rep (n - m) k h hk1 hk
  have fx := FP.Core.val64_fits x
  have fy := FP.Core.negate_fits (FP.Core.val64_fits y)
  have hyn : ∃ s c q, FP.Core.negate (FP.Core.val64 y) = .fin s c q := by obtain ⟨s, c, q, e⟩ := hy.1; exact ⟨!s, c, q, by rw [e]; rfl⟩
  have e : own_z x + FP.Core.zval FP.Core.b64 (FP.Core.negate (FP.Core.val64 y)) = FP.Core.zval FP.Core.b64 V := by
    have hy2 : FP.Core.zval FP.Core.b64 (FP.Core.val64 y) = m * 2 ^ k := hy.2
    rw [FP.Core.zval_negate, hx.2, zV, Int.sub_mul, hy2]; omega
  have e1 := FP.Core.sum_le FP.Core.good_b64 hx.1 hyn fx fy fV nV (Int.le_of_eq e)
  have e2 := FP.Core.sum_ge FP.Core.good_b64 hx.1 hyn fx fy fV nV (Int.le_of_eq e.symm)
  refine own_D.of h hk ?_ ?_
  · exact (FP.Core.notNaN_iff _).mp (FP.Core.dsub_out ((FP.Core.notNaN_iff _).mpr (own_nn hx.1)) hy.1)
  · show FP.Core.zval FP.Core.b64 (FP.Core.val64 (FP.Core.dsub x y)) = _
    rw [FP.Core.val64_dsub, ← zV]; omega
theorem own_signed (s t : Bool) (a b : Nat) : FP.Core.signed (s != t) (a * b) = FP.Core.signed s a * FP.Core.signed t b := by
  cases s <;> cases t <;> simp [FP.Core.signed, Int.mul_neg, Int.neg_mul]
theorem own_pw (a b : Nat) : (2 : Int) ^ a * 2 ^ b = 2 ^ (a + b) := (Int.pow_add 2 a b).symm
theorem own_D.mul {n m : Int} {k j g : Nat} {x y : UInt64} (hx : own_D n k x) (hy : own_D m j y) (h : (n * m).natAbs < 2 ^ 53) (hg : g + 1074 = k + j) (hk1 : 52 ≤ g := by omega) (hk : g ≤ 2000 := by omega) : own_D (n * m) g (FP.dmul x y) := by
  obtain ⟨V, fV, nV, zV⟩ := own_rep (n * m) g h hk1 hk
  have fx := FP.Core.val64_fits x
  have fy := FP.Core.val64_fits y
  obtain ⟨⟨s, c, q, ex⟩, zx⟩ := hx
  obtain ⟨⟨t, d, r, ey⟩, zy⟩ := hy
  have nn : FP.Core.val64 (FP.Core.dmul x y) ≠ .nan := (FP.Core.notNaN_iff _).mp (FP.Core.dmul_out ⟨s, c, q, ex⟩ ⟨t, d, r, ey⟩)
  have qm : FP.Core.b64.qmin = -1074 := by decide
  refine own_D.of h hk nn ?_
  show FP.Core.zval FP.Core.b64 (FP.Core.val64 (FP.Core.dmul x y)) = _
  rw [FP.Core.val64_dmul, ex, ey]
  rw [ex] at fx; rw [ey] at fy
  obtain ⟨p1, p2, p3⟩ := FP.Core.product_units fx fy
  have zz : FP.Core.signed (s != t) (FP.Core.inUnits (c * d) (q + r) (2 * FP.Core.b64.qmin)) = FP.Core.zval FP.Core.b64 V * ((2 ^ (FP.Core.b64.qmin - 2 * FP.Core.b64.qmin).toNat : Nat) : Int) := by
    have a1 : FP.Core.signed s (FP.Core.zmag FP.Core.b64 (.fin s c q)) = n * 2 ^ k := by rw [← zx, own_z, ex]; rfl
    have a2 : FP.Core.signed t (FP.Core.zmag FP.Core.b64 (.fin t d r)) = m * 2 ^ j := by rw [← zy, own_z, ey]; rfl
    rw [p3, own_signed, a1, a2, zV, qm, show ((-1074 : Int) - 2 * -1074).toNat = 1074 by decide, Int.natCast_pow]
    show n * 2 ^ k * (m * 2 ^ j) = n * m * 2 ^ g * 2 ^ 1074
    rw [Int.mul_assoc (n * m), own_pw, hg, ← own_pw]
    simp only [Int.mul_assoc, Int.mul_left_comm]
  have e1 := FP.Core.zval_round_le FP.Core.good_b64 fV nV (by rw [qm]; decide) p2 (Int.le_of_eq zz)
  have e2 := FP.Core.zval_round_ge FP.Core.good_b64 fV nV (by rw [qm]; decide) p2 (Int.le_of_eq zz.symm)
  rw [p1, ← zV]; omega
theorem own_zdiv {x y : UInt64} {s t : Bool} {c d : Nat} {q r : Int} (ex : FP.Core.val64 x = .fin s c q) (ey : FP.Core.val64 y = .fin t d r) (hd : d ≠ 0) :
    FP.Core.val64 (FP.Core.ddiv x y) = FP.Core.roundRatio FP.Core.b64 (s != t) (FP.Core.zmag FP.Core.b64 (FP.Core.val64 x)) (FP.Core.zmag FP.Core.b64 (FP.Core.val64 y)) 0 := by
  have fx := FP.Core.val64_fits x
  have fy := FP.Core.val64_fits y
  rw [ex] at fx; rw [ey] at fy
  have h1 := fx.2.1
  have h2 := fy.2.1
  rw [FP.Core.val64_ddiv, ex, ey, FP.Core.quotient, if_neg hd]
  have hz : 0 < FP.Core.zmag FP.Core.b64 (.fin t d r) := Nat.mul_pos (Nat.pos_of_ne_zero hd) (Nat.two_pow_pos _)
  refine FP.Core.roundRatio_congr (Nat.pos_of_ne_zero hd) hz ?_
  show c * (d * 2 ^ (r - FP.Core.b64.qmin).toNat) * 2 ^ (q - r - 0).toNat = c * 2 ^ (q - FP.Core.b64.qmin).toNat * d * 2 ^ (0 - (q - r)).toNat
  have hp : 2 ^ (r - FP.Core.b64.qmin).toNat * 2 ^ (q - r - 0).toNat = 2 ^ (q - FP.Core.b64.qmin).toNat * 2 ^ (0 - (q - r)).toNat := by
    rw [← Nat.pow_add, ← Nat.pow_add]; congr 1; omega
  generalize 2 ^ (r - FP.Core.b64.qmin).toNat = P1 at *
  generalize 2 ^ (q - r - 0).toNat = P2 at *
  generalize 2 ^ (q - FP.Core.b64.qmin).toNat = P3 at *
  generalize 2 ^ (0 - (q - r)).toNat = P4 at *
  rw [show c * (d * P1) * P2 = c * d * (P1 * P2) by ac_rfl, hp]
  ac_rfl
theorem own_ab (s : Bool) (m : Nat) : (FP.Core.signed s m).natAbs = m := by cases s <;> simp [FP.Core.signed]
theorem own_zm {a : Int} {k : Nat} {x : UInt64} (h : own_D a k x) : FP.Core.zmag FP.Core.b64 (FP.Core.val64 x) = a.natAbs * 2 ^ k := by
  rw [← own_ab (FP.Core.sgn (FP.Core.val64 x)) (FP.Core.zmag FP.Core.b64 (FP.Core.val64 x))]
  show (FP.Core.zval FP.Core.b64 (FP.Core.val64 x)).natAbs = _
  rw [show FP.Core.zval FP.Core.b64 (FP.Core.val64 x) = a * 2 ^ k from h.2, Int.natAbs_mul, Int.natAbs_pow]; rfl
/-- an exact quotient -/
theorem own_D.div {a b g : Int} {k j i : Nat} {x y : UInt64} (hx : own_D a k x) (hy : own_D b j y) (hb : b ≠ 0) (hg : g.natAbs < 2 ^ 53) (h : a * 2 ^ k * 2 ^ 1074 = g * 2 ^ i * (b * 2 ^ j)) (hi1 : 52 ≤ i := by omega) (hi : i ≤ 2000 := by omega) : own_D g i (FP.ddiv x y) := by
  obtain ⟨V, fV, nV, zV⟩ := own_rep g i hg hi1 hi
  have x1 := own_zm hx
  have y1 := own_zm hy
  obtain ⟨⟨s, c, q, ex⟩, zx⟩ := hx
  obtain ⟨⟨t, d, r, ey⟩, zy⟩ := hy
  have zx' : FP.Core.signed s (FP.Core.zmag FP.Core.b64 (FP.Core.val64 x)) = a * 2 ^ k := by rw [← zx, own_z, FP.Core.zval, ex]; rfl
  have zy' : FP.Core.signed t (FP.Core.zmag FP.Core.b64 (FP.Core.val64 y)) = b * 2 ^ j := by rw [← zy, own_z, FP.Core.zval, ey]; rfl
  have hd : d ≠ 0 := fun z => by
    rw [ey, z] at zy'
    have : FP.Core.signed t (FP.Core.zmag FP.Core.b64 (.fin t 0 r)) = 0 := by simp [FP.Core.signed, FP.Core.zmag, FP.Core.inUnits]
    rw [this] at zy'
    rcases Int.mul_eq_zero.mp zy'.symm with z | z
    · exact hb z
    · exact absurd z (Int.ne_of_gt (Int.pow_pos (by decide)))
  have e := own_zdiv ex ey hd
  have qm : FP.Core.b64.qmin = -1074 := by decide
  obtain ⟨X, hX⟩ : ∃ X, X = FP.Core.zmag FP.Core.b64 (FP.Core.val64 x) := ⟨_, rfl⟩
  obtain ⟨Y, hY⟩ : ∃ Y, Y = FP.Core.zmag FP.Core.b64 (FP.Core.val64 y) := ⟨_, rfl⟩
  rw [← hX] at zx' e x1; rw [← hY] at zy' e y1
  have hY0 : 0 < Y := by rw [hY, ey]; exact Nat.mul_pos (Nat.pos_of_ne_zero hd) (Nat.two_pow_pos _)
  obtain ⟨M, hM⟩ : ∃ M, M = FP.Core.zmag FP.Core.b64 V := ⟨_, rfl⟩
  have m1 : M = g.natAbs * 2 ^ i := by
    rw [hM, ← own_ab (FP.Core.sgn V) (FP.Core.zmag FP.Core.b64 V)]
    show (FP.Core.zval FP.Core.b64 V).natAbs = _
    rw [zV, Int.natAbs_mul, Int.natAbs_pow]; rfl
  have key : X * 2 ^ 1074 = M * Y := by
    have := congrArg Int.natAbs h
    rw [Int.natAbs_mul, Int.natAbs_mul, Int.natAbs_mul, Int.natAbs_mul, Int.natAbs_mul, Int.natAbs_pow, Int.natAbs_pow, Int.natAbs_pow, Int.natAbs_pow] at this
    rw [x1, y1, m1]; exact this
  have u : FP.Core.inUnits X 0 FP.Core.b64.qmin = FP.Core.zmag FP.Core.b64 V * 2 ^ (FP.Core.b64.qmin - FP.Core.b64.qmin).toNat * Y := by
    rw [FP.Core.inUnits, qm, show ((0 : Int) - -1074).toNat = 1074 by decide, show ((-1074 : Int) - -1074).toNat = 0 by decide, Nat.pow_zero, Nat.mul_one, key, hM]
  have r1 := FP.Core.zmag_roundRatio_le FP.Core.good_b64 (s := (s != t)) hY0 fV nV (Int.le_refl _) (by rw [qm]; decide) (Nat.le_of_eq u)
  have r2 := FP.Core.zmag_roundRatio_ge FP.Core.good_b64 (s := (s != t)) hY0 fV (Int.le_refl _) (by rw [qm]; decide) (Nat.le_of_eq u.symm)
  refine own_D.of hg hi ?_ ?_
  · show FP.Core.val64 (FP.Core.ddiv x y) ≠ _
    rw [e]; exact FP.Core.roundRatio_ne_nan _ _ _ _ _
  · show FP.Core.zval FP.Core.b64 (FP.Core.val64 (FP.Core.ddiv x y)) = _
    rw [e, FP.Core.zval, FP.Core.sgn_roundRatio, show FP.Core.zmag FP.Core.b64 (FP.Core.roundRatio FP.Core.b64 (s != t) X Y 0) = M by rw [hM]; omega]
    have c1 : FP.Core.signed (s != t) M * FP.Core.signed t Y = FP.Core.signed s X * 2 ^ 1074 := by
      have := own_signed (s != t) t M Y
      rw [show ((s != t) != t) = s by cases s <;> cases t <;> rfl, ← key] at this
      rw [← this]
      cases s <;> simp [FP.Core.signed, Int.neg_mul]
    have hy0 : FP.Core.signed t Y ≠ 0 := fun z => by have := own_ab t Y; rw [z] at this; simp at this; omega
    apply Int.eq_of_mul_eq_mul_right hy0
    rw [c1, zx', zy', h]
theorem own_sgn {b : Int} {j : Nat} {y : UInt64} (hy : own_D b j y) (hb : b ≠ 0) : FP.Core.sgn (FP.Core.val64 y) = decide (b < 0) := by
  have z : FP.Core.signed (FP.Core.sgn (FP.Core.val64 y)) (FP.Core.zmag FP.Core.b64 (FP.Core.val64 y)) = b * 2 ^ j := hy.2
  have p : (0 : Int) < 2 ^ j := Int.pow_pos (by decide)
  generalize FP.Core.zmag FP.Core.b64 (FP.Core.val64 y) = M at *
  rcases Int.lt_or_gt_of_ne hb with q | q
  · have : b * 2 ^ j < 0 := Int.mul_neg_of_neg_of_pos q p
    cases hs : FP.Core.sgn (FP.Core.val64 y)
    · rw [hs] at z; simp [FP.Core.signed] at z; omega
    · simp [q]
  · have : 0 < b * 2 ^ j := Int.mul_pos q p
    cases hs : FP.Core.sgn (FP.Core.val64 y)
    · simp; omega
    · rw [hs] at z; simp [FP.Core.signed] at z; omega
/-- two quotients of one worth -/
theorem own_quot {a b a' b' : Int} {k j k' j' : Nat} {x y x' y' : UInt64} (hx : own_D a k x) (hy : own_D b j y) (hx' : own_D a' k' x') (hy' : own_D b' j' y') (hb : 0 < b) (hb' : 0 < b') (h : a * 2 ^ k * (b' * 2 ^ j') = a' * 2 ^ k' * (b * 2 ^ j)) : own_z (FP.ddiv x y) = own_z (FP.ddiv x' y') ∧ FP.Core.val64 (FP.ddiv x y) ≠ .nan ∧ FP.Core.val64 (FP.ddiv x' y') ≠ .nan := by
  have p : ∀ n : Nat, (0 : Int) < 2 ^ n := fun n => Int.pow_pos (by decide)
  have x1 := own_zm hx
  have y1 := own_zm hy
  have x1' := own_zm hx'
  have y1' := own_zm hy'
  have sy := own_sgn hy (by omega)
  have sy' := own_sgn hy' (by omega)
  have sx := fun q => own_sgn hx q
  have sx' := fun q => own_sgn hx' q
  obtain ⟨⟨s, c, q, ex⟩, zx⟩ := hx
  obtain ⟨⟨t, d, r, ey⟩, zy⟩ := hy
  obtain ⟨⟨s', c', q', ex'⟩, zx'⟩ := hx'
  obtain ⟨⟨t', d', r', ey'⟩, zy'⟩ := hy'
  have nz : ∀ {b : Int} {j : Nat} {y : UInt64} {t : Bool} {d : Nat} {r : Int}, FP.Core.val64 y = .fin t d r → FP.Core.zmag FP.Core.b64 (FP.Core.val64 y) = b.natAbs * 2 ^ j → 0 < b → d ≠ 0 := fun {b j y t d r} ey y1 hb z => by
    rw [ey, z] at y1
    have : FP.Core.zmag FP.Core.b64 (.fin t 0 r) = 0 := by simp [FP.Core.zmag, FP.Core.inUnits]
    rw [this] at y1
    have : 0 < b.natAbs * 2 ^ j := Nat.mul_pos (by omega) (Nat.two_pow_pos _)
    omega
  have e := own_zdiv ex ey (nz ey y1 hb)
  have e' := own_zdiv ex' ey' (nz ey' y1' hb')
  rw [x1, y1] at e
  rw [x1', y1'] at e'
  rw [ey] at sy; rw [ey'] at sy'; rw [ex] at sx; rw [ex'] at sx'
  have t0 : t = false := by rw [show t = decide (b < 0) from sy]; simp; omega
  have t0' : t' = false := by rw [show t' = decide (b' < 0) from sy']; simp; omega
  refine ⟨?_, by show FP.Core.val64 (FP.Core.ddiv x y) ≠ _; rw [e]; exact FP.Core.roundRatio_ne_nan _ _ _ _ _, by show FP.Core.val64 (FP.Core.ddiv x' y') ≠ _; rw [e']; exact FP.Core.roundRatio_ne_nan _ _ _ _ _⟩
  show FP.Core.zval FP.Core.b64 (FP.Core.val64 (FP.Core.ddiv x y)) = FP.Core.zval FP.Core.b64 (FP.Core.val64 (FP.Core.ddiv x' y'))
  rw [e, e']
  have B0 : 0 < b.natAbs * 2 ^ j := Nat.mul_pos (by omega) (Nat.two_pow_pos _)
  have B0' : 0 < b'.natAbs * 2 ^ j' := Nat.mul_pos (by omega) (Nat.two_pow_pos _)
  have P := Int.mul_pos hb' (p j')
  have P' := Int.mul_pos hb (p j)
  have hn : a.natAbs * 2 ^ k * (b'.natAbs * 2 ^ j') = a'.natAbs * 2 ^ k' * (b.natAbs * 2 ^ j) := by
    have := congrArg Int.natAbs h
    rw [Int.natAbs_mul, Int.natAbs_mul, Int.natAbs_mul, Int.natAbs_mul, Int.natAbs_mul, Int.natAbs_mul, Int.natAbs_pow, Int.natAbs_pow, Int.natAbs_pow, Int.natAbs_pow] at this
    exact this
  by_cases a0 : a = 0
  · have a0' : a' = 0 := by
      rw [a0, Int.zero_mul, Int.zero_mul] at h
      rcases Int.mul_eq_zero.mp h.symm with z | z
      · rcases Int.mul_eq_zero.mp z with z | z
        · exact z
        · have := p k'; omega
      · omega
    subst a0 a0'
    simp [FP.Core.roundRatio, FP.Core.zval, FP.Core.zmag, FP.Core.inUnits, FP.Core.signed]
  · have a0' : a' ≠ 0 := fun z => by
      rw [z, Int.zero_mul, Int.zero_mul] at h
      rcases Int.mul_eq_zero.mp h with z | z
      · rcases Int.mul_eq_zero.mp z with z | z
        · exact a0 z
        · have := p k; omega
      · omega
    have ss : s = s' := by
      rw [show s = decide (a < 0) from sx a0, show s' = decide (a' < 0) from sx' a0']
      rcases Int.lt_or_gt_of_ne a0 with z | z
      · have l : a * 2 ^ k * (b' * 2 ^ j') < 0 := Int.mul_neg_of_neg_of_pos (Int.mul_neg_of_neg_of_pos z (p k)) P
        rcases Int.lt_or_gt_of_ne a0' with z' | z'
        · simp [z, z']
        · have := Int.mul_pos (Int.mul_pos z' (p k')) P'; omega
      · have l : 0 < a * 2 ^ k * (b' * 2 ^ j') := Int.mul_pos (Int.mul_pos z (p k)) P
        rcases Int.lt_or_gt_of_ne a0' with z' | z'
        · have := Int.mul_neg_of_neg_of_pos (Int.mul_neg_of_neg_of_pos z' (p k')) P'; omega
        · have q1 : ¬ a < 0 := by omega
          have q2 : ¬ a' < 0 := by omega
          simp [q1, q2]
    rw [t0, t0', ss]
    congr 1
    refine FP.Core.roundRatio_congr B0 B0' ?_
    rw [Int.sub_self]; simpa using hn
theorem own_D.l2d {a : Int64} (h : a.toInt.natAbs < 2 ^ 53) : own_D a.toInt 1074 (FP.l2d a) := by
  have w := FP.Core.l2d_whole (a := a) ⟨by omega, by omega⟩
  refine own_D.of h (by decide) (FP.Core.Whole.ne_nan w) ?_
  exact FP.Core.DInt_zval w
theorem own_D.i2d (a : Int32) : own_D a.toInt 1074 (FP.i2d a) := by
  have h1 := Int32.toInt_lt a
  have h2 := Int32.le_toInt a
  have := own_D.l2d (a := a.toInt64) (by rw [Int32.toInt_toInt64]; omega)
  rw [Int32.toInt_toInt64, ← i2d_w] at this
  exact this
theorem own_D.noNaN {n : Int} {k : Nat} {x : UInt64} (h : own_D n k x) : Jvm.Free.Fl.NoNaN64 x := (Jvm.Free.Fl.fin64_core.mpr h.1).noNaN
theorem own_D.up {n : Int} {k j : Nat} {x : UInt64} (h : own_D n (k + j) x) : own_D (n * 2 ^ j) k x := ⟨h.1, by rw [h.2, Int.mul_assoc, own_pw, Nat.add_comm]⟩
theorem own_dcmp {x y : UInt64} (hx : FP.Core.val64 x ≠ .nan) (hy : FP.Core.val64 y ≠ .nan) (h : own_z x = own_z y) (o : CmpOp) : cmpValue (FP.dcmp x y) o = (0 : Int32) := by
  have : FP.dcmp x y = some .eq := by
    show FP.Core.dcmp x y = _
    rw [FP.Core.dcmp_zval hx hy]
    show some (compare (own_z x) (own_z y)) = _
    rw [h, FP.Core.compare_ite]; simp
  rw [this]; cases o <;> rfl
theorem own_four : own_D 4 1074 (4616189618054758400 : UInt64) := by
  have := own_D.l2d (a := 4) (by decide)
  rw [show FP.l2d 4 = 4616189618054758400 by decide +kernel, show (4 : Int64).toInt = 4 by decide] at this; exact this
theorem own_one1 : own_D 1 1074 (4607182418800017408 : UInt64) := by
  have := own_D.l2d (a := 1) (by decide)
  rw [show FP.l2d 1 = 4607182418800017408 by decide +kernel, show (1 : Int64).toInt = 1 by decide] at this; exact this
theorem own_quarter (k : Int32) : own_D k.toInt 1072 (FP.ddiv (FP.i2d k) (4616189618054758400 : UInt64)) := by
  have h1 := Int32.toInt_lt k
  have h2 := Int32.le_toInt k
  refine own_D.div (own_D.i2d k) own_four (by decide) (by omega) ?_ (by decide) (by decide)
  rw [Int.mul_assoc, Int.mul_assoc, own_pw, show (2 : Int) ^ 1072 * (4 * 2 ^ 1074) = 2 ^ (1074 + 1074) by rw [show (4 : Int) = 2 ^ 2 by decide, own_pw, own_pw]]
theorem own_nab {a b : Int} {A B : Nat} (ha : a.natAbs ≤ A) (hb : b.natAbs ≤ B) : (a * b).natAbs ≤ A * B := by rw [Int.natAbs_mul]; exact Nat.mul_le_mul ha hb
theorem own_D.down {n : Int} {k j : Nat} {x : UInt64} (h : own_D (n * 2 ^ j) k x) : own_D n (k + j) x := ⟨h.1, by rw [h.2, Int.mul_assoc, own_pw, Nat.add_comm]⟩
theorem own_pe {e : Nat} (he : e ≤ 10) : (1 : Int) ≤ 2 ^ e ∧ (2 : Int) ^ e ≤ 1024 := by
  have : e < 11 := by omega
  have h : ∀ i : Fin 11, (1 : Int) ≤ 2 ^ i.val ∧ (2 : Int) ^ i.val ≤ 1024 := by decide
  exact h ⟨e, this⟩
section Bm
variable {p0 kq bq t2 : Int32} {ln av : Int64} {e : Nat}
abbrev own_k1 (kq : Int32) : UInt64 := FP.ddiv (FP.i2d kq) (4616189618054758400 : UInt64)
/-- what weight reckons -/
theorem own_chain (hk : 0 ≤ kq.toInt ∧ kq.toInt ≤ 15) (hbq : 0 ≤ bq.toInt ∧ bq.toInt ≤ 4) (he : e ≤ 10) (hav : av.toInt = 2 ^ e) (ht : 1 ≤ t2.toInt ∧ t2.toInt ≤ 1024) (hl : 0 ≤ ln.toInt ∧ ln.toInt < 2 ^ 31) :
    own_D (p0.toInt * t2.toInt) 1074 (FP.dmul (FP.i2d p0) (FP.i2d t2)) ∧
    own_D (kq.toInt + 1 * 2 ^ 2) 1072 (FP.dadd (own_k1 kq) (4607182418800017408 : UInt64)) ∧
    own_D (p0.toInt * t2.toInt * (kq.toInt + 1 * 2 ^ 2)) 1072 (FP.dmul (FP.dmul (FP.i2d p0) (FP.i2d t2)) (FP.dadd (own_k1 kq) (4607182418800017408 : UInt64))) ∧
    own_D (1 * 2 ^ 2 - bq.toInt) 1072 (FP.dsub (4607182418800017408 : UInt64) (own_k1 bq)) ∧
    own_D (bq.toInt * ln.toInt) 1072 (FP.dmul (own_k1 bq) (FP.l2d ln)) ∧
    own_D (bq.toInt * ln.toInt) (1072 - e) (FP.ddiv (FP.dmul (own_k1 bq) (FP.l2d ln)) (FP.l2d av)) ∧
    own_D ((1 * 2 ^ 2 - bq.toInt) * 2 ^ e + bq.toInt * ln.toInt) (1072 - e) (FP.dadd (FP.dsub (4607182418800017408 : UInt64) (own_k1 bq)) (FP.ddiv (FP.dmul (own_k1 bq) (FP.l2d ln)) (FP.l2d av))) ∧
    own_D (kq.toInt * ((1 * 2 ^ 2 - bq.toInt) * 2 ^ e + bq.toInt * ln.toInt)) (1070 - e) (FP.dmul (own_k1 kq) (FP.dadd (FP.dsub (4607182418800017408 : UInt64) (own_k1 bq)) (FP.ddiv (FP.dmul (own_k1 bq) (FP.l2d ln)) (FP.l2d av)))) ∧
    own_D (t2.toInt * 2 ^ (4 + e) + kq.toInt * ((1 * 2 ^ 2 - bq.toInt) * 2 ^ e + bq.toInt * ln.toInt)) (1070 - e) (FP.dadd (FP.i2d t2) (FP.dmul (own_k1 kq) (FP.dadd (FP.dsub (4607182418800017408 : UInt64) (own_k1 bq)) (FP.ddiv (FP.dmul (own_k1 bq) (FP.l2d ln)) (FP.l2d av))))) := by
  have i1 := Int32.toInt_lt p0
  have i2 := Int32.le_toInt p0
  have pe : (1 : Int) ≤ 2 ^ e ∧ (2 : Int) ^ e ≤ 1024 := own_pe he
  have n1 : (p0.toInt * t2.toInt).natAbs ≤ 2147483648 * 1024 := own_nab (by omega) (by omega)
  have d1 := (own_D.i2d p0).mul (own_D.i2d t2) (g := 1074) (by omega) rfl (by decide) (by decide)
  have o2 : own_D (1 * 2 ^ 2) 1072 (4607182418800017408 : UInt64) := own_D.up (k := 1072) (j := 2) own_one1
  have d2 := (own_quarter kq).add o2 (by omega) (by decide) (by decide)
  have n3 : (p0.toInt * t2.toInt * (kq.toInt + 1 * 2 ^ 2)).natAbs ≤ 2147483648 * 1024 * 19 := own_nab n1 (by omega)
  have d3 := d1.mul d2 (g := 1072) (by omega) rfl (by decide) (by decide)
  have d4 := o2.sub (own_quarter bq) (by omega) (by decide) (by decide)
  have n5 : (bq.toInt * ln.toInt).natAbs ≤ 4 * 2147483648 := own_nab (by omega) (by omega)
  have d5 := (own_quarter bq).mul (own_D.l2d (a := ln) (by omega)) (g := 1072) (by omega) rfl (by decide) (by decide)
  have d6 : own_D (bq.toInt * ln.toInt) (1072 - e) (FP.ddiv (FP.dmul (own_k1 bq) (FP.l2d ln)) (FP.l2d av)) := by
    refine d5.div (own_D.l2d (a := av) (by omega)) (by omega) (by omega) ?_ (by omega) (by omega)
    rw [hav, Int.mul_assoc (bq.toInt * ln.toInt), own_pw, Int.mul_assoc (bq.toInt * ln.toInt), own_pw, own_pw, show 1072 - e + (e + 1074) = 1072 + 1074 by omega]
  have d4' : own_D ((1 * 2 ^ 2 - bq.toInt) * 2 ^ e) (1072 - e) (FP.dsub (4607182418800017408 : UInt64) (own_k1 bq)) := own_D.up (by rw [Nat.sub_add_cancel (by omega)]; exact d4)
  have n7 : ((1 * 2 ^ 2 - bq.toInt) * 2 ^ e).natAbs ≤ 4 * 1024 := own_nab (by omega) (by omega)
  have d7 := d4'.add d6 (by omega) (by omega) (by omega)
  have n8 : (kq.toInt * ((1 * 2 ^ 2 - bq.toInt) * 2 ^ e + bq.toInt * ln.toInt)).natAbs ≤ 15 * (4 * 1024 + 4 * 2147483648) := own_nab (by omega) (by omega)
  have d8 := (own_quarter kq).mul d7 (g := 1070 - e) (by omega) (by omega) (by omega) (by omega)
  have dt : own_D (t2.toInt * 2 ^ (4 + e)) (1070 - e) (FP.i2d t2) := own_D.up (by rw [show 1070 - e + (4 + e) = 1074 by omega]; exact own_D.i2d t2)
  have n9 : (t2.toInt * 2 ^ (4 + e)).natAbs ≤ 1024 * 16384 := own_nab (by omega) (by rw [← own_pw]; omega)
  have d9 := dt.add d8 (by omega) (by omega) (by omega)
  exact ⟨d1, d2, d3, d4, d5, d6, d7, d8, d9⟩
end Bm
theorem own_rem {p z k : Int32} {K : Int} (hK : k.toInt = K) (h0 : 0 < K) (h : z = (p &&& 2147483647) % k) : 0 ≤ z.toInt ∧ z.toInt < K := by
  have e : (p &&& 2147483647).toInt = p.toInt % 2 ^ 31 := Jvm.Kit.i32_mask p 2147483647 (k := 31) (by decide) (by decide)
  have e0 : 0 ≤ (p &&& 2147483647).toInt := by rw [e]; exact Int.emod_nonneg _ (by decide)
  rw [h, Jvm.Kit.i32_rem_nonneg e0, hK]
  exact ⟨Int.emod_nonneg _ (by omega), Int.emod_lt_of_pos _ h0⟩
theorem own_shl : ∀ i : Fin 11, ((1 : Int64) <<< (Int32.ofNat i.val &&& 0x3f).toInt64).toInt = 2 ^ i.val := by decide +kernel
theorem own_o32 {n : Nat} (h : n < 2 ^ 31) : (Int32.ofNat n).toInt = n := Int32.toInt_ofNat_of_lt h
def own_In (p0 kq bq : Int32) (tf ln av tp bt : Int64) (e : Nat) : Prop := (0 ≤ kq.toInt ∧ kq.toInt ≤ 15) ∧ (0 ≤ bq.toInt ∧ bq.toInt ≤ 4) ∧ (e ≤ 10) ∧ (av.toInt = 2 ^ e) ∧ (1 ≤ tf.toInt32.toInt ∧ tf.toInt32.toInt ≤ 1024) ∧ (0 ≤ ln.toInt ∧ ln.toInt < 2 ^ 31) ∧ (tp.toInt = p0.toInt * tf.toInt32.toInt * (kq.toInt + 1 * 2 ^ 2)) ∧ (bt.toInt = tf.toInt32.toInt * 2 ^ (4 + e) + kq.toInt * ((1 * 2 ^ 2 - bq.toInt) * 2 ^ e + bq.toInt * ln.toInt))
theorem own_In.k {p0 kq bq : Int32} {tf ln av tp bt : Int64} {e : Nat} (h : own_In p0 kq bq tf ln av tp bt e) : 0 ≤ kq.toInt ∧ kq.toInt ≤ 15 := h.1
theorem own_In.b {p0 kq bq : Int32} {tf ln av tp bt : Int64} {e : Nat} (h : own_In p0 kq bq tf ln av tp bt e) : 0 ≤ bq.toInt ∧ bq.toInt ≤ 4 := h.2.1
theorem own_In.e {p0 kq bq : Int32} {tf ln av tp bt : Int64} {e : Nat} (h : own_In p0 kq bq tf ln av tp bt e) : e ≤ 10 := h.2.2.1
theorem own_In.a {p0 kq bq : Int32} {tf ln av tp bt : Int64} {e : Nat} (h : own_In p0 kq bq tf ln av tp bt e) : av.toInt = 2 ^ e := h.2.2.2.1
theorem own_In.t {p0 kq bq : Int32} {tf ln av tp bt : Int64} {e : Nat} (h : own_In p0 kq bq tf ln av tp bt e) : 1 ≤ tf.toInt32.toInt ∧ tf.toInt32.toInt ≤ 1024 := h.2.2.2.2.1
theorem own_In.l {p0 kq bq : Int32} {tf ln av tp bt : Int64} {e : Nat} (h : own_In p0 kq bq tf ln av tp bt e) : 0 ≤ ln.toInt ∧ ln.toInt < 2 ^ 31 := h.2.2.2.2.2.1
theorem own_In.p {p0 kq bq : Int32} {tf ln av tp bt : Int64} {e : Nat} (h : own_In p0 kq bq tf ln av tp bt e) : tp.toInt = p0.toInt * tf.toInt32.toInt * (kq.toInt + 1 * 2 ^ 2) := h.2.2.2.2.2.2.1
theorem own_In.q {p0 kq bq : Int32} {tf ln av tp bt : Int64} {e : Nat} (h : own_In p0 kq bq tf ln av tp bt e) : bt.toInt = tf.toInt32.toInt * 2 ^ (4 + e) + kq.toInt * ((1 * 2 ^ 2 - bq.toInt) * 2 ^ e + bq.toInt * ln.toInt) := h.2.2.2.2.2.2.2
section BmIn
variable {p0 p1 p2 p3 p4 p5 kq bq ze : Int32} {tf ln av tp bt : Int64}
theorem own_in0 (hkq : kq = (p4 &&& (15 : Int32))) (hbq : bq = ((p5 &&& (2147483647 : Int32)) % (5 : Int32))) (hze : ze = ((p3 &&& (2147483647 : Int32)) % (11 : Int32))) (htf : tf = (((p1 &&& (1023 : Int32)) + (1 : Int32)).toInt64)) (hln : ln = ((p2.toInt64) &&& (2147483647 : Int64))) (hav : av = ((1 : Int64) <<< (ze &&& 0x3f).toInt64)) :
    ∃ e : Nat, ∀ tp bt : Int64, tp = ((p0.toInt64 * tf) * ((kq + (4 : Int32)).toInt64)) → bt = ((((16 : Int64) * av) * tf) + ((kq.toInt64) * (((((4 : Int32) - bq).toInt64) * av) + ((bq.toInt64) * ln)))) → own_In p0 kq bq tf ln av tp bt e := by
  have i1 := Int32.toInt_lt p0
  have i2 := Int32.le_toInt p0
  have k1 : kq.toInt = p4.toInt % 2 ^ 4 := by rw [hkq]; exact Jvm.Kit.i32_mask p4 15 (k := 4) (by decide) (by decide)
  have k2 : 0 ≤ kq.toInt ∧ kq.toInt ≤ 15 := by omega
  have b1 := own_rem (K := 5) (by decide) (by decide) hbq
  have z1 := own_rem (K := 11) (by decide) (by decide) hze
  have t0 : (p1 &&& 1023).toInt = p1.toInt % 2 ^ 10 := Jvm.Kit.i32_mask p1 1023 (k := 10) (by decide) (by decide)
  have c1 : (1 : Int32).toInt = 1 := by decide
  have c4 : (4 : Int32).toInt = 4 := by decide
  have t1 : ((p1 &&& (1023 : Int32)) + (1 : Int32)).toInt = p1.toInt % 2 ^ 10 + 1 := by rw [Jvm.Kit.i32_add (by rw [t0, c1]; omega) (by rw [t0, c1]; omega), t0, c1]
  have t2 : tf.toInt32 = (p1 &&& (1023 : Int32)) + (1 : Int32) := by rw [htf]; exact Int32.toInt32_toInt64 _
  have t3 : tf.toInt = tf.toInt32.toInt := by rw [t2, htf, Int32.toInt_toInt64]
  have l1 : ln.toInt = p2.toInt64.toInt % 2 ^ 31 := by rw [hln]; exact Jvm.Kit.i64_mask _ _ (k := 31) (by decide) (by decide)
  obtain ⟨e, he⟩ : ∃ e, e = ze.toInt.toNat := ⟨_, rfl⟩
  have hz : ze = Int32.ofNat e := Int32.toInt_inj.mp (by rw [own_o32 (by omega)]; omega)
  have a1 : av.toInt = 2 ^ e := by rw [hav, hz]; exact own_shl ⟨e, by omega⟩
  have pe := own_pe (e := e) (by omega)
  have tb : 1 ≤ tf.toInt32.toInt ∧ tf.toInt32.toInt ≤ 1024 := by rw [t2, t1]; omega
  have lb : 0 ≤ ln.toInt ∧ ln.toInt < 2 ^ 31 := by omega
  refine ⟨e, fun tp bt htp hbt => ⟨k2, by omega, by omega, a1, tb, lb, ?_, ?_⟩⟩
  · have n1 : (p0.toInt * tf.toInt32.toInt).natAbs ≤ 2147483648 * 1024 := own_nab (by omega) (by omega)
    have n2 : (p0.toInt * tf.toInt32.toInt * (kq.toInt + 4)).natAbs ≤ 2147483648 * 1024 * 19 := own_nab n1 (by omega)
    have e1 : (p0.toInt64 * tf).toInt = p0.toInt * tf.toInt32.toInt := by
      have q : p0.toInt64.toInt * tf.toInt = p0.toInt * tf.toInt32.toInt := by rw [Int32.toInt_toInt64, t3]
      rw [Jvm.Kit.i64_mul (by rw [q]; omega) (by rw [q]; omega), q]
    have e2 : (kq + (4 : Int32)).toInt64.toInt = kq.toInt + 4 := by rw [Int32.toInt_toInt64, Jvm.Kit.i32_add (by rw [c4]; omega) (by rw [c4]; omega), c4]
    rw [htp, Jvm.Kit.i64_mul (by rw [e1, e2]; omega) (by rw [e1, e2]; omega), e1, e2]; rfl
  · have c16 : (16 : Int64).toInt = 16 := by decide
    have e1 : ((16 : Int64) * av).toInt = 16 * 2 ^ e := by rw [Jvm.Kit.i64_mul (by rw [c16, a1]; omega) (by rw [c16, a1]; omega), c16, a1]
    have n1 : (16 * (2 : Int) ^ e * tf.toInt32.toInt).natAbs ≤ 16384 * 1024 := own_nab (by omega) (by omega)
    have e2 : ((16 : Int64) * av * tf).toInt = 16 * 2 ^ e * tf.toInt32.toInt := by rw [Jvm.Kit.i64_mul (by rw [e1, t3]; omega) (by rw [e1, t3]; omega), e1, t3]
    have e3 : (((4 : Int32) - bq).toInt64).toInt = 4 - bq.toInt := by rw [Int32.toInt_toInt64, Jvm.Kit.i32_sub (by rw [c4]; omega) (by rw [c4]; omega), c4]
    have n3 : ((4 - bq.toInt) * 2 ^ e).natAbs ≤ 4 * 1024 := own_nab (by omega) (by omega)
    have e4 : ((((4 : Int32) - bq).toInt64) * av).toInt = (4 - bq.toInt) * 2 ^ e := by rw [Jvm.Kit.i64_mul (by rw [e3, a1]; omega) (by rw [e3, a1]; omega), e3, a1]
    have n4 : (bq.toInt * ln.toInt).natAbs ≤ 4 * 2147483648 := own_nab (by omega) (by omega)
    have e5 : (bq.toInt64 * ln).toInt = bq.toInt * ln.toInt := by rw [Jvm.Kit.i64_mul (by rw [Int32.toInt_toInt64]; omega) (by rw [Int32.toInt_toInt64]; omega), Int32.toInt_toInt64]
    have e6 : (((((4 : Int32) - bq).toInt64) * av) + (bq.toInt64 * ln)).toInt = (4 - bq.toInt) * 2 ^ e + bq.toInt * ln.toInt := by rw [Jvm.Kit.i64_add (by rw [e4, e5]; omega) (by rw [e4, e5]; omega), e4, e5]
    have n6 : (kq.toInt * ((4 - bq.toInt) * 2 ^ e + bq.toInt * ln.toInt)).natAbs ≤ 15 * (4 * 1024 + 4 * 2147483648) := own_nab (by omega) (by omega)
    have e7 : (kq.toInt64 * (((((4 : Int32) - bq).toInt64) * av) + (bq.toInt64 * ln))).toInt = kq.toInt * ((4 - bq.toInt) * 2 ^ e + bq.toInt * ln.toInt) := by rw [Jvm.Kit.i64_mul (by rw [Int32.toInt_toInt64, e6]; omega) (by rw [Int32.toInt_toInt64, e6]; omega), Int32.toInt_toInt64, e6]
    rw [hbt, Jvm.Kit.i64_add (by rw [e2, e7]; omega) (by rw [e2, e7]; omega), e2, e7]
    congr 1
    rw [← own_pw, show (2 : Int) ^ 4 = 16 by decide, Int.mul_comm]
end BmIn
theorem own_mm (a b c d : Int) : a * c * (b * d) = a * b * (c * d) := by ac_rfl
section BmEnd
variable {p0 kq bq : Int32} {tf ln av tp bt : Int64} {e : Nat}
abbrev own_F : UInt64 := 4616189618054758400
theorem own_nk (k : Int32) : Jvm.Free.Fl.NoNaN64 (FP.ddiv (FP.i2d k) own_F) := (own_quarter k).noNaN
theorem own_fa (h : own_In p0 kq bq tf ln av tp bt e) : own_D 4 (1074 + e) (FP.dmul own_F (FP.l2d av)) := by
  have pe := own_pe h.e
  have a := h.a
  have := own_four.mul (own_D.l2d (a := av) (by omega)) (g := 1074) (by rw [a]; omega) rfl (by decide) (by decide)
  rw [a] at this; exact this.down
theorem own_tpb (h : own_In p0 kq bq tf ln av tp bt e) : tp.toInt.natAbs ≤ 2147483648 * 1024 * 19 := by
  have i1 := Int32.toInt_lt p0
  have i2 := Int32.le_toInt p0
  have := h.k
  have := h.t
  rw [h.p]; exact own_nab (own_nab (by omega) (by omega)) (by omega)
theorem own_btb (h : own_In p0 kq bq tf ln av tp bt e) : 0 < bt.toInt ∧ bt.toInt < 2 ^ 53 := by
  have k := h.k
  have b := h.b
  have l := h.l
  have t := h.t
  have pe := own_pe h.e
  have n3 : ((1 * 2 ^ 2 - bq.toInt) * 2 ^ e).natAbs ≤ 4 * 1024 := own_nab (by omega) (by omega)
  have n4 : (bq.toInt * ln.toInt).natAbs ≤ 4 * 2147483648 := own_nab (by omega) (by omega)
  have n6 : (kq.toInt * ((1 * 2 ^ 2 - bq.toInt) * 2 ^ e + bq.toInt * ln.toInt)).natAbs ≤ 15 * (4 * 1024 + 4 * 2147483648) := own_nab (by omega) (by omega)
  have n7 : (tf.toInt32.toInt * 2 ^ (4 + e)).natAbs ≤ 1024 * 16384 := own_nab (by omega) (by rw [← own_pw]; omega)
  have p3 : 0 ≤ (1 * 2 ^ 2 - bq.toInt) * 2 ^ e := Int.mul_nonneg (by omega) (by omega)
  have p4 : 0 ≤ bq.toInt * ln.toInt := Int.mul_nonneg (by omega) (by omega)
  have p6 : 0 ≤ kq.toInt * ((1 * 2 ^ 2 - bq.toInt) * 2 ^ e + bq.toInt * ln.toInt) := Int.mul_nonneg (by omega) (by omega)
  have p7 : 0 < tf.toInt32.toInt * 2 ^ (4 + e) := Int.mul_pos (by omega) (Int.pow_pos (by decide))
  rw [h.q]; omega
theorem own_tq (h : own_In p0 kq bq tf ln av tp bt e) : own_D (tp.toInt * 4) (1074 + e) (FP.dmul (FP.l2d tp) (FP.dmul own_F (FP.l2d av))) := by
  have := own_tpb h
  have := h.e
  exact (own_D.l2d (a := tp) (by omega)).mul (own_fa h) (g := 1074 + e) (by omega) (by omega) (by omega) (by omega)
theorem own_bd (h : own_In p0 kq bq tf ln av tp bt e) : own_D bt.toInt 1074 (FP.l2d bt) := own_D.l2d (by have := own_btb h; omega)
abbrev own_W (p0 kq bq : Int32) (tf ln av : Int64) : UInt64 := FP.ddiv (FP.dmul (FP.dmul (FP.i2d p0) (FP.i2d tf.toInt32)) (FP.dadd (own_k1 kq) (4607182418800017408 : UInt64))) (FP.dadd (FP.i2d tf.toInt32) (FP.dmul (own_k1 kq) (FP.dadd (FP.dsub (4607182418800017408 : UInt64) (own_k1 bq)) (FP.ddiv (FP.dmul (own_k1 bq) (FP.l2d ln)) (FP.l2d av)))))
abbrev own_X (av tp bt : Int64) : UInt64 := FP.ddiv (FP.dmul (FP.l2d tp) (FP.dmul own_F (FP.l2d av))) (FP.l2d bt)
theorem own_same (h : own_In p0 kq bq tf ln av tp bt e) : own_z (own_W p0 kq bq tf ln av) = own_z (own_X av tp bt) ∧ FP.Core.val64 (own_W p0 kq bq tf ln av) ≠ .nan ∧ FP.Core.val64 (own_X av tp bt) ≠ .nan := by
  have he := h.e
  obtain ⟨-, -, d3, -, -, -, -, -, d9⟩ := own_chain (p0 := p0) h.k h.b h.e h.a h.t h.l
  have bb := own_btb h
  rw [← h.q] at d9
  rw [← h.p] at d3
  refine own_quot d3 d9 (own_tq h) (own_bd h) bb.1 bb.1 ?_
  have f4 : (4 : Int) = 2 ^ 2 := by decide
  rw [show tp.toInt * 4 * 2 ^ (1074 + e) = tp.toInt * 2 ^ (2 + (1074 + e)) by rw [f4, Int.mul_assoc, own_pw]]
  rw [own_mm tp.toInt bt.toInt, own_mm tp.toInt bt.toInt, own_pw, own_pw, show 2 + (1074 + e) + (1070 - e) = 1072 + 1074 by omega]
theorem own_no {x : UInt64} (h : FP.Core.val64 x ≠ .nan) : Jvm.Free.Fl.NoNaN64 x := Jvm.Free.Fl.noNaN64_no.mpr ((FP.Core.notNaN_iff _).mpr h)
end BmEnd
section BmC
variable {p4 p5 kq bq : Int32}
theorem own_ge0 {x y : UInt64} (hx : FP.Core.val64 x ≠ .nan) (hy : FP.Core.val64 y ≠ .nan) (h : own_z y ≤ own_z x) (o : CmpOp) : ¬ cmpValue (FP.dcmp x y) o < (0 : Int32) := by
  show ¬ cmpValue (FP.Core.dcmp x y) o < (0 : Int32)
  rw [FP.Core.dcmp_zval hx hy, show compare (FP.Core.zval FP.Core.b64 (FP.Core.val64 x)) (FP.Core.zval FP.Core.b64 (FP.Core.val64 y)) = compare (own_z x) (own_z y) from rfl, FP.Core.compare_ite, if_neg (by omega)]
  by_cases q : own_z x = own_z y
  · rw [if_pos q]; cases o <;> decide
  · rw [if_neg q]; cases o <;> decide
theorem own_le0 {x y : UInt64} (hx : FP.Core.val64 x ≠ .nan) (hy : FP.Core.val64 y ≠ .nan) (h : own_z x ≤ own_z y) (o : CmpOp) : ¬ (0 : Int32) < cmpValue (FP.dcmp x y) o := by
  show ¬ (0 : Int32) < cmpValue (FP.Core.dcmp x y) o
  rw [FP.Core.dcmp_zval hx hy, show compare (FP.Core.zval FP.Core.b64 (FP.Core.val64 x)) (FP.Core.zval FP.Core.b64 (FP.Core.val64 y)) = compare (own_z x) (own_z y) from rfl, FP.Core.compare_ite]
  by_cases q : own_z x < own_z y
  · rw [if_pos q]; cases o <;> decide
  · rw [if_neg q, if_pos (by omega)]; cases o <;> decide
theorem own_zero : own_z (0 : UInt64) = 0 ∧ FP.Core.val64 (0 : UInt64) ≠ .nan := by
  have := own_D.l2d (a := 0) (by decide)
  rw [show FP.l2d 0 = 0 by decide +kernel, show (0 : Int64).toInt = 0 by decide] at this
  exact ⟨by rw [this.2, Int.zero_mul], own_nn this.1⟩
theorem own_cnn {k : Int32} (h : 0 ≤ k.toInt) : ¬ (cmpValue (FP.dcmp (FP.ddiv (FP.i2d k) (4616189618054758400 : UInt64)) (0 : UInt64)) .l) < (0 : Int32) :=
  own_ge0 (own_nn (own_quarter k).1) own_zero.2 (by rw [own_zero.1, (own_quarter k).2]; exact Int.mul_nonneg h (Int.le_of_lt (Int.pow_pos (by decide)))) _
theorem own_c7 (h : kq = (p4 &&& (15 : Int32))) : ¬ (cmpValue (FP.dcmp (FP.ddiv (FP.i2d kq) (4616189618054758400 : UInt64)) (0 : UInt64)) .l) < (0 : Int32) := by
  have k1 : kq.toInt = p4.toInt % 2 ^ 4 := by rw [h]; exact Jvm.Kit.i32_mask p4 15 (k := 4) (by decide) (by decide)
  exact own_cnn (by omega)
theorem own_c27 (h : bq = ((p5 &&& (2147483647 : Int32)) % (5 : Int32))) : ¬ (cmpValue (FP.dcmp (FP.ddiv (FP.i2d bq) (4616189618054758400 : UInt64)) (0 : UInt64)) .l) < (0 : Int32) := own_cnn (own_rem (K := 5) (by decide) (by decide) h).1
theorem own_c33 (h : bq = ((p5 &&& (2147483647 : Int32)) % (5 : Int32))) : ¬ (0 : Int32) < (cmpValue (FP.dcmp (FP.ddiv (FP.i2d bq) (4616189618054758400 : UInt64)) (4607182418800017408 : UInt64)) .g) := by
  have b := own_rem (K := 5) (by decide) (by decide) h
  have o2 : own_D (1 * 2 ^ 2) 1072 (4607182418800017408 : UInt64) := own_D.up (k := 1072) (j := 2) own_one1
  refine own_le0 (own_nn (own_quarter bq).1) (own_nn o2.1) ?_ _
  rw [(own_quarter bq).2, o2.2]
  exact Int.mul_le_mul_of_nonneg_right (by omega) (Int.le_of_lt (Int.pow_pos (by decide)))
end BmC
theorem d1_0 : decode prog_5_method_1_code 0 = .ok (.aload_n 0, 1) := by decide +kernel
theorem d1_1 : decode prog_5_method_1_code 1 = .ok (.invokespecial 1, 3) := by decide +kernel
theorem d1_4 : decode prog_5_method_1_code 4 = .ok (.dload_n 1, 1) := by decide +kernel
theorem d1_5 : decode prog_5_method_1_code 5 = .ok (.dconst 0, 1) := by decide +kernel
theorem d1_6 : decode prog_5_method_1_code 6 = .ok (.dcmp .l, 1) := by decide +kernel
theorem d1_7 : decode prog_5_method_1_code 7 = .ok (.ifCond .ge 17, 3) := by decide +kernel
theorem d1_24 : decode prog_5_method_1_code 24 = .ok (.dload_n 3, 1) := by decide +kernel
theorem d1_25 : decode prog_5_method_1_code 25 = .ok (.dconst 0, 1) := by decide +kernel
theorem d1_26 : decode prog_5_method_1_code 26 = .ok (.dcmp .l, 1) := by decide +kernel
theorem d1_27 : decode prog_5_method_1_code 27 = .ok (.ifCond .lt 9, 3) := by decide +kernel
theorem d1_30 : decode prog_5_method_1_code 30 = .ok (.dload_n 3, 1) := by decide +kernel
theorem d1_31 : decode prog_5_method_1_code 31 = .ok (.dconst 1, 1) := by decide +kernel
theorem d1_32 : decode prog_5_method_1_code 32 = .ok (.dcmp .g, 1) := by decide +kernel
theorem d1_33 : decode prog_5_method_1_code 33 = .ok (.ifCond .le 17, 3) := by decide +kernel
theorem d1_50 : decode prog_5_method_1_code 50 = .ok (.aload_n 0, 1) := by decide +kernel
theorem d1_51 : decode prog_5_method_1_code 51 = .ok (.dload_n 1, 1) := by decide +kernel
theorem d1_52 : decode prog_5_method_1_code 52 = .ok (.putfield 17, 3) := by decide +kernel
theorem d1_55 : decode prog_5_method_1_code 55 = .ok (.aload_n 0, 1) := by decide +kernel
theorem d1_56 : decode prog_5_method_1_code 56 = .ok (.dload_n 3, 1) := by decide +kernel
theorem d1_57 : decode prog_5_method_1_code 57 = .ok (.putfield 23, 3) := by decide +kernel
theorem d1_60 : decode prog_5_method_1_code 60 = .ok (.return_, 1) := by decide +kernel
theorem pn1 : plainName "com/example/cumaea/cumaea/Bm25" = true := by first | (simp [plainName, overriddenIn]; done) | decide +kernel
theorem ef1 (m : MethodId) (a0 : Addr) (d1 : UInt64) (d2 : UInt64) : entryFrame m #[(.ref a0), (.double d1), (.double d2)] 5 = mkF m 0 #[.val (.ref a0), .val (.double d1), .second, .val (.double d2), .second] [] := by first | (simp [entryFrame, mkF, argsToLocals, Value.category]; done) | rfl
def Q1 (Z : State) (a0 : Addr) (d1 : UInt64) (d2 : UInt64) (u_k1_a0 : Value) (u_b_a0 : Value) (h0 : Heap) (n0 : Nat) (v : Option Value) (h : Heap) (L : List Loc) : Prop := v = none ∧ Fr n0 L ∧ Keep h0 h [a0] ∧ Exa Z h a0 "com/example/cumaea/cumaea/Bm25" ∧ Fld Z h a0 "com/example/cumaea/cumaea/Bm25" "k1" "D" (.double d1) ∧ Fld Z h a0 "com/example/cumaea/cumaea/Bm25" "b" "D" (.double d2)
set_option maxRecDepth 65536 in
set_option maxHeartbeats 40000000 in
theorem rm1 (l : Launch) (Z : State) (ar : Array Value) (hw : ∀ d ∈ tables_1, d.before ar Z = true) (ws : List Jvm.Cond) (a0 : Addr) (d1 : UInt64) (d2 : UInt64) (u_k1_a0 : Value) (u_b_a0 : Value) (h0 : Heap) (n0 : Nat) (O0 : Old Z n0 h0) (E_a0 : Exa Z h0 a0 "com/example/cumaea/cumaea/Bm25") (g_a0 : n0 ≤ a0) (F_k1_a0 : Fld Z h0 a0 "com/example/cumaea/cumaea/Bm25" "k1" "D" u_k1_a0) (F_b_a0 : Fld Z h0 a0 "com/example/cumaea/cumaea/Bm25" "b" "D" u_b_a0) (c7 : ¬ (cmpValue (FP.dcmp d1 (0 : UInt64)) .l) < (0 : Int32)) (c27 : ¬ (cmpValue (FP.dcmp d2 (0 : UInt64)) .l) < (0 : Int32)) (c33 : ¬ (0 : Int32) < (cmpValue (FP.dcmp d2 (4607182418800017408 : UInt64)) .g)) :
    MetFree l (⟨"com/example/cumaea/cumaea/Bm25", "<init>", "(DD)V"⟩ : MethodName) (head1 (Jvm.Cond.code (⟨"com/example/cumaea/cumaea/Bm25", "<init>", "(DD)V"⟩ : MethodName) prog_5_method_1_code 5 none :: ws) ({ frames := 1, cells := 0, slots := 0, locals := 12 } : Room)) (fun a U => a = #[(.ref a0), (.double d1), (.double d2)] ∧ Z.Warmed39 U.vm ∧ U.heap = h0) (fun _ _ _ _ _ => True) (fun _ U o U' => ∃ v L, o = .returned v ∧ Q1 Z a0 d1 d2 u_k1_a0 u_b_a0 h0 n0 v U'.heap L ∧ FrameEnd U o U' L ({ frames := 1, cells := 0, slots := 0, locals := 12 } : Room).cells ({ frames := 1, cells := 0, slots := 0, locals := 12 } : Room).slots) := by
  refine MetFree.of_bodySF (plainFor_of_name pn1) hisR ?_
  intro p e s m args below meth c s₁ Bd hml0 hP hK
  obtain ⟨rfl, hZ, hh⟩ := hP
  have hx := Bd.exec
  have hby := Bd.bytes
  have hml : c.maxLocals = 5 := hml0
  have hown : s.vm.findClass "com/example/cumaea/cumaea/Bm25" = some m.cls := findClass_of_methodNamed Bd.named
  have hnm := (name_of_methodNamed Bd.named Bd.method).1
  have hlk : meth.locks = false := BodyLoose.notSynchronized Bd
  have X0 : Stand p l e ({ frames := 1, cells := 0, slots := 0, locals := 12 } : Room) s m #[(.ref a0), (.double d1), (.double d2)] below meth c s₁ [] 0 0 := Stand.of_body Bd
  have e0 : s₁.heap = h0 := by rw [← hh, Bd.state]; rfl
  have N0 := Fr.nil n0
  suffices hmain : own_Ends p e below s (Q1 Z a0 d1 d2 u_k1_a0 u_b_a0 h0 n0) 0 0 (s₁.setTop (mkF m 0 #[.val (.ref a0), .val (.double d1), .second, .val (.double d2), .second] [])) by
    obtain ⟨U, o, h1, r⟩ := hmain
    exact ⟨U, o, castTop (ef1 m a0 d1 d2) h1, r⟩
  show own_Ends _ _ _ _ _ _ _ (s₁.setTop (mkF m 0 #[.val (.ref a0), .val (.double d1), .second, .val (.double d2), .second] []))
  refine own_go (fun _ k => XS.aloadN X0.here hx rfl (hb hby d1_0) rfl rfl k) ?_
  show own_Ends _ _ _ _ _ _ _ (s₁.setTop (mkF m 1 #[.val (.ref a0), .val (.double d1), .second, .val (.double d2), .second] [(.ref a0)]))
  obtain ⟨T1, X1, e1, st1⟩ := initO X0 hx hZ hown (hw _ (List.mem_of_getElem? (i := 9) rfl)) (hw _ (List.mem_of_getElem? (i := 10) rfl)) (hw _ (List.mem_of_getElem? (i := 11) rfl)) e0 (g := (mkF m 1 #[.val (.ref a0), .val (.double d1), .second, .val (.double d2), .second] [(.ref a0)])) rfl (by rw [hml]; rfl) rfl (hb hby d1_1) (by decide) (W := 0) (by show 2 * 0 + _ ≤ _; exact Nat.le_of_eq rfl) (by decide)
  refine own_go (fun _ k => st1 _ k) ?_
  show own_Ends _ _ _ _ _ _ _ (T1.setTop (mkF m 4 #[.val (.ref a0), .val (.double d1), .second, .val (.double d2), .second] []))
  refine own_go (fun _ k => XS.dloadN X1.here hx rfl (hb hby d1_4) rfl k) ?_
  show own_Ends _ _ _ _ _ _ _ (T1.setTop (mkF m 5 #[.val (.ref a0), .val (.double d1), .second, .val (.double d2), .second] [(.double d1)]))
  refine own_go (fun _ k => XS.dconst0 X1.here hx rfl (hb hby d1_5) (v := (0 : UInt64)) (by decide) k) ?_
  show own_Ends _ _ _ _ _ _ _ (T1.setTop (mkF m 6 #[.val (.ref a0), .val (.double d1), .second, .val (.double d2), .second] [(.double (0 : UInt64)), (.double d1)]))
  refine own_go (fun _ k => XS.dcmpS X1.here hx rfl (hb hby d1_6) rfl rfl k) ?_
  show own_Ends _ _ _ _ _ _ _ (T1.setTop (mkF m 7 #[.val (.ref a0), .val (.double d1), .second, .val (.double d2), .second] [(.int (cmpValue (FP.dcmp d1 (0 : UInt64)) .l))]))
  refine own_go (fun _ k => XS.ifYes X1.here hx rfl (pc0 := 7) (pc' := 24) rfl (hb hby d1_7) rfl ((if0 _ _).trans (flt c7).2.1) (by decide) (by decide) k) ?_
  show own_Ends _ _ _ _ _ _ _ (T1.setTop (mkF m 24 #[.val (.ref a0), .val (.double d1), .second, .val (.double d2), .second] []))
  refine own_go (fun _ k => XS.dloadN X1.here hx rfl (hb hby d1_24) rfl k) ?_
  show own_Ends _ _ _ _ _ _ _ (T1.setTop (mkF m 25 #[.val (.ref a0), .val (.double d1), .second, .val (.double d2), .second] [(.double d2)]))
  refine own_go (fun _ k => XS.dconst0 X1.here hx rfl (hb hby d1_25) (v := (0 : UInt64)) (by decide) k) ?_
  show own_Ends _ _ _ _ _ _ _ (T1.setTop (mkF m 26 #[.val (.ref a0), .val (.double d1), .second, .val (.double d2), .second] [(.double (0 : UInt64)), (.double d2)]))
  refine own_go (fun _ k => XS.dcmpS X1.here hx rfl (hb hby d1_26) rfl rfl k) ?_
  show own_Ends _ _ _ _ _ _ _ (T1.setTop (mkF m 27 #[.val (.ref a0), .val (.double d1), .second, .val (.double d2), .second] [(.int (cmpValue (FP.dcmp d2 (0 : UInt64)) .l))]))
  refine own_go (fun _ k => XS.ifNo X1.here hx rfl (hb hby d1_27) rfl ((if0 _ _).trans (flt c27).1) k) ?_
  show own_Ends _ _ _ _ _ _ _ (T1.setTop (mkF m 30 #[.val (.ref a0), .val (.double d1), .second, .val (.double d2), .second] []))
  refine own_go (fun _ k => XS.dloadN X1.here hx rfl (hb hby d1_30) rfl k) ?_
  show own_Ends _ _ _ _ _ _ _ (T1.setTop (mkF m 31 #[.val (.ref a0), .val (.double d1), .second, .val (.double d2), .second] [(.double d2)]))
  refine own_go (fun _ k => XS.dconst1 X1.here hx rfl (hb hby d1_31) (v := (4607182418800017408 : UInt64)) (by decide) k) ?_
  show own_Ends _ _ _ _ _ _ _ (T1.setTop (mkF m 32 #[.val (.ref a0), .val (.double d1), .second, .val (.double d2), .second] [(.double (4607182418800017408 : UInt64)), (.double d2)]))
  refine own_go (fun _ k => XS.dcmpS X1.here hx rfl (hb hby d1_32) rfl rfl k) ?_
  show own_Ends _ _ _ _ _ _ _ (T1.setTop (mkF m 33 #[.val (.ref a0), .val (.double d1), .second, .val (.double d2), .second] [(.int (cmpValue (FP.dcmp d2 (4607182418800017408 : UInt64)) .g))]))
  refine own_go (fun _ k => XS.ifYes X1.here hx rfl (pc0 := 33) (pc' := 50) rfl (hb hby d1_33) rfl ((if0 _ _).trans (flt c33).2.2.2) (by decide) (by decide) k) ?_
  show own_Ends _ _ _ _ _ _ _ (T1.setTop (mkF m 50 #[.val (.ref a0), .val (.double d1), .second, .val (.double d2), .second] []))
  refine own_go (fun _ k => XS.aloadN X1.here hx rfl (hb hby d1_50) rfl rfl k) ?_
  show own_Ends _ _ _ _ _ _ _ (T1.setTop (mkF m 51 #[.val (.ref a0), .val (.double d1), .second, .val (.double d2), .second] [(.ref a0)]))
  refine own_go (fun _ k => XS.dloadN X1.here hx rfl (hb hby d1_51) rfl k) ?_
  show own_Ends _ _ _ _ _ _ _ (T1.setTop (mkF m 52 #[.val (.ref a0), .val (.double d1), .second, .val (.double d2), .second] [(.double d1), (.ref a0)]))
  obtain ⟨T2, h2, X2, e2, W2, st2⟩ := putF X1 hx hZ hown (host := "") (Or.inl (hw _ (List.mem_of_getElem? (i := 12) rfl))) Via.refl e1 F_k1_a0 E_a0 (Or.inr ⟨(hw _ (List.mem_of_getElem? (i := 13) rfl)), rfl, hnm⟩) (hw _ (List.mem_of_getElem? (i := 3) rfl)) (ty := .double) (by decide) rfl rfl (g := (mkF m 52 #[.val (.ref a0), .val (.double d1), .second, .val (.double d2), .second] [(.double d1), (.ref a0)])) rfl rfl (hb hby d1_52)
  refine own_go (fun _ k => st2 _ k) ?_
  have N2 := Fr.snoc X2 N0 g_a0
  have F3 : Exa Z h2 a0 "com/example/cumaea/cumaea/Bm25" := (Exa.wr W2 E_a0)
  have F4 : Fld Z h2 a0 "com/example/cumaea/cumaea/Bm25" "b" "D" u_b_a0 := (Fld.other W2 F_b_a0 (Or.inr (slot_ne (Or.inr (hw _ (List.mem_of_getElem? (i := 15) rfl))) (Or.inr (hw _ (List.mem_of_getElem? (i := 13) rfl))) (by decide) (t := .double) (t' := .double) (by decide) (by decide))))
  have F5 : Old Z n0 h2 := (O0.wr W2 g_a0)
  have F6 : Fld Z h2 a0 "com/example/cumaea/cumaea/Bm25" "k1" "D" (.double d1) := Fld.same W2 F_k1_a0
  have K7 : Keep h0 h2 [a0] := (Keep.refl h0 [a0]).wr W2 (Or.inl (List.mem_of_getElem? (i := 0) rfl))
  show own_Ends _ _ _ _ _ _ _ (T2.setTop (mkF m 55 #[.val (.ref a0), .val (.double d1), .second, .val (.double d2), .second] []))
  refine own_go (fun _ k => XS.aloadN X2.here hx rfl (hb hby d1_55) rfl rfl k) ?_
  show own_Ends _ _ _ _ _ _ _ (T2.setTop (mkF m 56 #[.val (.ref a0), .val (.double d1), .second, .val (.double d2), .second] [(.ref a0)]))
  refine own_go (fun _ k => XS.dloadN X2.here hx rfl (hb hby d1_56) rfl k) ?_
  show own_Ends _ _ _ _ _ _ _ (T2.setTop (mkF m 57 #[.val (.ref a0), .val (.double d1), .second, .val (.double d2), .second] [(.double d2), (.ref a0)]))
  obtain ⟨T8, h8, X8, e8, W8, st8⟩ := putF X2 hx hZ hown (host := "") (Or.inl (hw _ (List.mem_of_getElem? (i := 14) rfl))) Via.refl e2 F4 F3 (Or.inr ⟨(hw _ (List.mem_of_getElem? (i := 15) rfl)), rfl, hnm⟩) (hw _ (List.mem_of_getElem? (i := 3) rfl)) (ty := .double) (by decide) rfl rfl (g := (mkF m 57 #[.val (.ref a0), .val (.double d1), .second, .val (.double d2), .second] [(.double d2), (.ref a0)])) rfl rfl (hb hby d1_57)
  refine own_go (fun _ k => st8 _ k) ?_
  have N8 := Fr.snoc X8 N2 g_a0
  have F9 : Exa Z h8 a0 "com/example/cumaea/cumaea/Bm25" := (Exa.wr W8 F3)
  have F10 : Fld Z h8 a0 "com/example/cumaea/cumaea/Bm25" "k1" "D" (.double d1) := (Fld.other W8 F6 (Or.inr (slot_ne (Or.inr (hw _ (List.mem_of_getElem? (i := 13) rfl))) (Or.inr (hw _ (List.mem_of_getElem? (i := 15) rfl))) (by decide) (t := .double) (t' := .double) (by decide) (by decide))))
  have F11 : Old Z n0 h8 := (F5.wr W8 g_a0)
  have F12 : Fld Z h8 a0 "com/example/cumaea/cumaea/Bm25" "b" "D" (.double d2) := Fld.same W8 F4
  have K13 : Keep h0 h8 [a0] := K7.wr W8 (Or.inl (List.mem_of_getElem? (i := 0) rfl))
  show own_Ends _ _ _ _ _ _ _ (T8.setTop (mkF m 60 #[.val (.ref a0), .val (.double d1), .second, .val (.double d2), .second] []))
  exact own_retV X8 hx hlk Bd.returns (hb hby d1_60) (by decide) (by decide) (by rw [e8]; exact ⟨rfl, N8, K13, F9, F10, F12⟩)
theorem d3_0 : decode prog_5_method_5_code 0 = .ok (.dload_n 1, 1) := by decide +kernel
theorem d3_1 : decode prog_5_method_5_code 1 = .ok (.iload_n 3, 1) := by decide +kernel
theorem d3_2 : decode prog_5_method_5_code 2 = .ok (.i2d, 1) := by decide +kernel
theorem d3_3 : decode prog_5_method_5_code 3 = .ok (.dmul, 1) := by decide +kernel
theorem d3_4 : decode prog_5_method_5_code 4 = .ok (.aload_n 0, 1) := by decide +kernel
theorem d3_5 : decode prog_5_method_5_code 5 = .ok (.getfield 17, 3) := by decide +kernel
theorem d3_8 : decode prog_5_method_5_code 8 = .ok (.dconst 1, 1) := by decide +kernel
theorem d3_9 : decode prog_5_method_5_code 9 = .ok (.dadd, 1) := by decide +kernel
theorem d3_10 : decode prog_5_method_5_code 10 = .ok (.dmul, 1) := by decide +kernel
theorem d3_11 : decode prog_5_method_5_code 11 = .ok (.iload_n 3, 1) := by decide +kernel
theorem d3_12 : decode prog_5_method_5_code 12 = .ok (.i2d, 1) := by decide +kernel
theorem d3_13 : decode prog_5_method_5_code 13 = .ok (.aload_n 0, 1) := by decide +kernel
theorem d3_14 : decode prog_5_method_5_code 14 = .ok (.getfield 17, 3) := by decide +kernel
theorem d3_17 : decode prog_5_method_5_code 17 = .ok (.dconst 1, 1) := by decide +kernel
theorem d3_18 : decode prog_5_method_5_code 18 = .ok (.aload_n 0, 1) := by decide +kernel
theorem d3_19 : decode prog_5_method_5_code 19 = .ok (.getfield 23, 3) := by decide +kernel
theorem d3_22 : decode prog_5_method_5_code 22 = .ok (.dsub, 1) := by decide +kernel
theorem d3_23 : decode prog_5_method_5_code 23 = .ok (.aload_n 0, 1) := by decide +kernel
theorem d3_24 : decode prog_5_method_5_code 24 = .ok (.getfield 23, 3) := by decide +kernel
theorem d3_27 : decode prog_5_method_5_code 27 = .ok (.lload 4, 2) := by decide +kernel
theorem d3_29 : decode prog_5_method_5_code 29 = .ok (.l2d, 1) := by decide +kernel
theorem d3_30 : decode prog_5_method_5_code 30 = .ok (.dmul, 1) := by decide +kernel
theorem d3_31 : decode prog_5_method_5_code 31 = .ok (.dload 6, 2) := by decide +kernel
theorem d3_33 : decode prog_5_method_5_code 33 = .ok (.ddiv, 1) := by decide +kernel
theorem d3_34 : decode prog_5_method_5_code 34 = .ok (.dadd, 1) := by decide +kernel
theorem d3_35 : decode prog_5_method_5_code 35 = .ok (.dmul, 1) := by decide +kernel
theorem d3_36 : decode prog_5_method_5_code 36 = .ok (.dadd, 1) := by decide +kernel
theorem d3_37 : decode prog_5_method_5_code 37 = .ok (.ddiv, 1) := by decide +kernel
theorem d3_38 : decode prog_5_method_5_code 38 = .ok (.dreturn, 1) := by decide +kernel
theorem pn3 : plainName "com/example/cumaea/cumaea/Bm25" = true := by first | (simp [plainName, overriddenIn]; done) | decide +kernel
theorem ef3 (m : MethodId) (a0 : Addr) (d1 : UInt64) (p2 : Int32) (q3 : Int64) (d4 : UInt64) : entryFrame m #[(.ref a0), (.double d1), (.int p2), (.long q3), (.double d4)] 8 = mkF m 0 #[.val (.ref a0), .val (.double d1), .second, .val (.int p2), .val (.long q3), .second, .val (.double d4), .second] [] := by first | (simp [entryFrame, mkF, argsToLocals, Value.category]; done) | rfl
def f3 (a0 : Addr) (d1 : UInt64) (p2 : Int32) (q3 : Int64) (d4 : UInt64) (v_k1_a0 : UInt64) (v_b_a0 : UInt64) : UInt64 := (FP.ddiv (FP.dmul (FP.dmul d1 (FP.i2d p2)) (FP.dadd v_k1_a0 (4607182418800017408 : UInt64))) (FP.dadd (FP.i2d p2) (FP.dmul v_k1_a0 (FP.dadd (FP.dsub (4607182418800017408 : UInt64) v_b_a0) (FP.ddiv (FP.dmul v_b_a0 (FP.l2d q3)) d4)))))
def Q3 (Z : State) (a0 : Addr) (d1 : UInt64) (p2 : Int32) (q3 : Int64) (d4 : UInt64) (v_k1_a0 : UInt64) (v_b_a0 : UInt64) (h0 : Heap) (n0 : Nat) (v : Option Value) (h : Heap) (L : List Loc) : Prop := v = some (.double (f3 a0 d1 p2 q3 d4 v_k1_a0 v_b_a0)) ∧ Fr n0 L ∧ h = h0
set_option maxRecDepth 65536 in
set_option maxHeartbeats 40000000 in
theorem rm3 (l : Launch) (Z : State) (ar : Array Value) (hw : ∀ d ∈ tables_1, d.before ar Z = true) (ws : List Jvm.Cond) (a0 : Addr) (d1 : UInt64) (p2 : Int32) (q3 : Int64) (d4 : UInt64) (v_k1_a0 : UInt64) (v_b_a0 : UInt64) (h0 : Heap) (n0 : Nat) (O0 : Old Z n0 h0) (n3 : Jvm.Free.Fl.NoNaN64 (FP.dmul d1 (FP.i2d p2))) (F_k1_a0 : Fld Z h0 a0 "com/example/cumaea/cumaea/Bm25" "k1" "D" (.double v_k1_a0)) (n9 : Jvm.Free.Fl.NoNaN64 (FP.dadd v_k1_a0 (4607182418800017408 : UInt64))) (n10 : Jvm.Free.Fl.NoNaN64 (FP.dmul (FP.dmul d1 (FP.i2d p2)) (FP.dadd v_k1_a0 (4607182418800017408 : UInt64)))) (F_b_a0 : Fld Z h0 a0 "com/example/cumaea/cumaea/Bm25" "b" "D" (.double v_b_a0)) (n22 : Jvm.Free.Fl.NoNaN64 (FP.dsub (4607182418800017408 : UInt64) v_b_a0)) (n30 : Jvm.Free.Fl.NoNaN64 (FP.dmul v_b_a0 (FP.l2d q3))) (n33 : Jvm.Free.Fl.NoNaN64 (FP.ddiv (FP.dmul v_b_a0 (FP.l2d q3)) d4)) (n34 : Jvm.Free.Fl.NoNaN64 (FP.dadd (FP.dsub (4607182418800017408 : UInt64) v_b_a0) (FP.ddiv (FP.dmul v_b_a0 (FP.l2d q3)) d4))) (n35 : Jvm.Free.Fl.NoNaN64 (FP.dmul v_k1_a0 (FP.dadd (FP.dsub (4607182418800017408 : UInt64) v_b_a0) (FP.ddiv (FP.dmul v_b_a0 (FP.l2d q3)) d4)))) (n36 : Jvm.Free.Fl.NoNaN64 (FP.dadd (FP.i2d p2) (FP.dmul v_k1_a0 (FP.dadd (FP.dsub (4607182418800017408 : UInt64) v_b_a0) (FP.ddiv (FP.dmul v_b_a0 (FP.l2d q3)) d4))))) (n37 : Jvm.Free.Fl.NoNaN64 (FP.ddiv (FP.dmul (FP.dmul d1 (FP.i2d p2)) (FP.dadd v_k1_a0 (4607182418800017408 : UInt64))) (FP.dadd (FP.i2d p2) (FP.dmul v_k1_a0 (FP.dadd (FP.dsub (4607182418800017408 : UInt64) v_b_a0) (FP.ddiv (FP.dmul v_b_a0 (FP.l2d q3)) d4)))))) :
    MetFree l (⟨"com/example/cumaea/cumaea/Bm25", "weight", "(DIJD)D"⟩ : MethodName) (head1 (Jvm.Cond.code (⟨"com/example/cumaea/cumaea/Bm25", "weight", "(DIJD)D"⟩ : MethodName) prog_5_method_5_code 8 (some .double) :: ws) ({ frames := 0, cells := 0, slots := 0, locals := 0 } : Room)) (fun a U => a = #[(.ref a0), (.double d1), (.int p2), (.long q3), (.double d4)] ∧ Z.Warmed39 U.vm ∧ U.heap = h0) (fun _ _ _ _ _ => True) (fun _ U o U' => ∃ v L, o = .returned v ∧ Q3 Z a0 d1 p2 q3 d4 v_k1_a0 v_b_a0 h0 n0 v U'.heap L ∧ FrameEnd U o U' L ({ frames := 0, cells := 0, slots := 0, locals := 0 } : Room).cells ({ frames := 0, cells := 0, slots := 0, locals := 0 } : Room).slots) := by
  refine MetFree.of_bodySF (plainFor_of_name pn3) hisR ?_
  intro p e s m args below meth c s₁ Bd hml0 hP hK
  obtain ⟨rfl, hZ, hh⟩ := hP
  have hx := Bd.exec
  have hby := Bd.bytes
  have hml : c.maxLocals = 8 := hml0
  have hown : s.vm.findClass "com/example/cumaea/cumaea/Bm25" = some m.cls := findClass_of_methodNamed Bd.named
  have hnm := (name_of_methodNamed Bd.named Bd.method).1
  have hlk : meth.locks = false := BodyLoose.notSynchronized Bd
  have X0 : Stand p l e ({ frames := 0, cells := 0, slots := 0, locals := 0 } : Room) s m #[(.ref a0), (.double d1), (.int p2), (.long q3), (.double d4)] below meth c s₁ [] 0 0 := Stand.of_body Bd
  have e0 : s₁.heap = h0 := by rw [← hh, Bd.state]; rfl
  have N0 := Fr.nil n0
  suffices hmain : own_Ends p e below s (Q3 Z a0 d1 p2 q3 d4 v_k1_a0 v_b_a0 h0 n0) 0 0 (s₁.setTop (mkF m 0 #[.val (.ref a0), .val (.double d1), .second, .val (.int p2), .val (.long q3), .second, .val (.double d4), .second] [])) by
    obtain ⟨U, o, h1, r⟩ := hmain
    exact ⟨U, o, castTop (ef3 m a0 d1 p2 q3 d4) h1, r⟩
  show own_Ends _ _ _ _ _ _ _ (s₁.setTop (mkF m 0 #[.val (.ref a0), .val (.double d1), .second, .val (.int p2), .val (.long q3), .second, .val (.double d4), .second] []))
  refine own_go (fun _ k => XS.dloadN X0.here hx rfl (hb hby d3_0) rfl k) ?_
  show own_Ends _ _ _ _ _ _ _ (s₁.setTop (mkF m 1 #[.val (.ref a0), .val (.double d1), .second, .val (.int p2), .val (.long q3), .second, .val (.double d4), .second] [(.double d1)]))
  refine own_go (fun _ k => XS.iloadN X0.here hx rfl (hb hby d3_1) rfl k) ?_
  show own_Ends _ _ _ _ _ _ _ (s₁.setTop (mkF m 2 #[.val (.ref a0), .val (.double d1), .second, .val (.int p2), .val (.long q3), .second, .val (.double d4), .second] [(.int p2), (.double d1)]))
  refine own_go (fun _ k => XS.i2dS X0.here hx rfl (hb hby d3_2) rfl rfl k) ?_
  show own_Ends _ _ _ _ _ _ _ (s₁.setTop (mkF m 3 #[.val (.ref a0), .val (.double d1), .second, .val (.int p2), .val (.long q3), .second, .val (.double d4), .second] [(.double (FP.i2d p2)), (.double d1)]))
  refine own_go (fun _ k => XS.dmulS X0.here hx rfl (hb hby d3_3) rfl n3 rfl k) ?_
  show own_Ends _ _ _ _ _ _ _ (s₁.setTop (mkF m 4 #[.val (.ref a0), .val (.double d1), .second, .val (.int p2), .val (.long q3), .second, .val (.double d4), .second] [(.double (FP.dmul d1 (FP.i2d p2)))]))
  refine own_go (fun _ k => XS.aloadN X0.here hx rfl (hb hby d3_4) rfl rfl k) ?_
  show own_Ends _ _ _ _ _ _ _ (s₁.setTop (mkF m 5 #[.val (.ref a0), .val (.double d1), .second, .val (.int p2), .val (.long q3), .second, .val (.double d4), .second] [(.ref a0), (.double (FP.dmul d1 (FP.i2d p2)))]))
  obtain ⟨T1, X1, e1, st1⟩ := getF X0 hx hZ hown (host := "") (Or.inl (hw _ (List.mem_of_getElem? (i := 12) rfl))) Via.refl e0 F_k1_a0 (g := (mkF m 5 #[.val (.ref a0), .val (.double d1), .second, .val (.int p2), .val (.long q3), .second, .val (.double d4), .second] [(.ref a0), (.double (FP.dmul d1 (FP.i2d p2)))])) rfl rfl (hb hby d3_5)
  refine own_go (fun _ k => st1 _ k) ?_
  show own_Ends _ _ _ _ _ _ _ (T1.setTop (mkF m 8 #[.val (.ref a0), .val (.double d1), .second, .val (.int p2), .val (.long q3), .second, .val (.double d4), .second] [(.double v_k1_a0), (.double (FP.dmul d1 (FP.i2d p2)))]))
  refine own_go (fun _ k => XS.dconst1 X1.here hx rfl (hb hby d3_8) (v := (4607182418800017408 : UInt64)) (by decide) k) ?_
  show own_Ends _ _ _ _ _ _ _ (T1.setTop (mkF m 9 #[.val (.ref a0), .val (.double d1), .second, .val (.int p2), .val (.long q3), .second, .val (.double d4), .second] [(.double (4607182418800017408 : UInt64)), (.double v_k1_a0), (.double (FP.dmul d1 (FP.i2d p2)))]))
  refine own_go (fun _ k => XS.daddS X1.here hx rfl (hb hby d3_9) rfl n9 rfl k) ?_
  show own_Ends _ _ _ _ _ _ _ (T1.setTop (mkF m 10 #[.val (.ref a0), .val (.double d1), .second, .val (.int p2), .val (.long q3), .second, .val (.double d4), .second] [(.double (FP.dadd v_k1_a0 (4607182418800017408 : UInt64))), (.double (FP.dmul d1 (FP.i2d p2)))]))
  refine own_go (fun _ k => XS.dmulS X1.here hx rfl (hb hby d3_10) rfl n10 rfl k) ?_
  show own_Ends _ _ _ _ _ _ _ (T1.setTop (mkF m 11 #[.val (.ref a0), .val (.double d1), .second, .val (.int p2), .val (.long q3), .second, .val (.double d4), .second] [(.double (FP.dmul (FP.dmul d1 (FP.i2d p2)) (FP.dadd v_k1_a0 (4607182418800017408 : UInt64))))]))
  refine own_go (fun _ k => XS.iloadN X1.here hx rfl (hb hby d3_11) rfl k) ?_
  show own_Ends _ _ _ _ _ _ _ (T1.setTop (mkF m 12 #[.val (.ref a0), .val (.double d1), .second, .val (.int p2), .val (.long q3), .second, .val (.double d4), .second] [(.int p2), (.double (FP.dmul (FP.dmul d1 (FP.i2d p2)) (FP.dadd v_k1_a0 (4607182418800017408 : UInt64))))]))
  refine own_go (fun _ k => XS.i2dS X1.here hx rfl (hb hby d3_12) rfl rfl k) ?_
  show own_Ends _ _ _ _ _ _ _ (T1.setTop (mkF m 13 #[.val (.ref a0), .val (.double d1), .second, .val (.int p2), .val (.long q3), .second, .val (.double d4), .second] [(.double (FP.i2d p2)), (.double (FP.dmul (FP.dmul d1 (FP.i2d p2)) (FP.dadd v_k1_a0 (4607182418800017408 : UInt64))))]))
  refine own_go (fun _ k => XS.aloadN X1.here hx rfl (hb hby d3_13) rfl rfl k) ?_
  show own_Ends _ _ _ _ _ _ _ (T1.setTop (mkF m 14 #[.val (.ref a0), .val (.double d1), .second, .val (.int p2), .val (.long q3), .second, .val (.double d4), .second] [(.ref a0), (.double (FP.i2d p2)), (.double (FP.dmul (FP.dmul d1 (FP.i2d p2)) (FP.dadd v_k1_a0 (4607182418800017408 : UInt64))))]))
  obtain ⟨T2, X2, e2, st2⟩ := getF X1 hx hZ hown (host := "") (Or.inl (hw _ (List.mem_of_getElem? (i := 12) rfl))) Via.refl e1 F_k1_a0 (g := (mkF m 14 #[.val (.ref a0), .val (.double d1), .second, .val (.int p2), .val (.long q3), .second, .val (.double d4), .second] [(.ref a0), (.double (FP.i2d p2)), (.double (FP.dmul (FP.dmul d1 (FP.i2d p2)) (FP.dadd v_k1_a0 (4607182418800017408 : UInt64))))])) rfl rfl (hb hby d3_14)
  refine own_go (fun _ k => st2 _ k) ?_
  show own_Ends _ _ _ _ _ _ _ (T2.setTop (mkF m 17 #[.val (.ref a0), .val (.double d1), .second, .val (.int p2), .val (.long q3), .second, .val (.double d4), .second] [(.double v_k1_a0), (.double (FP.i2d p2)), (.double (FP.dmul (FP.dmul d1 (FP.i2d p2)) (FP.dadd v_k1_a0 (4607182418800017408 : UInt64))))]))
  refine own_go (fun _ k => XS.dconst1 X2.here hx rfl (hb hby d3_17) (v := (4607182418800017408 : UInt64)) (by decide) k) ?_
  show own_Ends _ _ _ _ _ _ _ (T2.setTop (mkF m 18 #[.val (.ref a0), .val (.double d1), .second, .val (.int p2), .val (.long q3), .second, .val (.double d4), .second] [(.double (4607182418800017408 : UInt64)), (.double v_k1_a0), (.double (FP.i2d p2)), (.double (FP.dmul (FP.dmul d1 (FP.i2d p2)) (FP.dadd v_k1_a0 (4607182418800017408 : UInt64))))]))
  refine own_go (fun _ k => XS.aloadN X2.here hx rfl (hb hby d3_18) rfl rfl k) ?_
  show own_Ends _ _ _ _ _ _ _ (T2.setTop (mkF m 19 #[.val (.ref a0), .val (.double d1), .second, .val (.int p2), .val (.long q3), .second, .val (.double d4), .second] [(.ref a0), (.double (4607182418800017408 : UInt64)), (.double v_k1_a0), (.double (FP.i2d p2)), (.double (FP.dmul (FP.dmul d1 (FP.i2d p2)) (FP.dadd v_k1_a0 (4607182418800017408 : UInt64))))]))
  obtain ⟨T3, X3, e3, st3⟩ := getF X2 hx hZ hown (host := "") (Or.inl (hw _ (List.mem_of_getElem? (i := 14) rfl))) Via.refl e2 F_b_a0 (g := (mkF m 19 #[.val (.ref a0), .val (.double d1), .second, .val (.int p2), .val (.long q3), .second, .val (.double d4), .second] [(.ref a0), (.double (4607182418800017408 : UInt64)), (.double v_k1_a0), (.double (FP.i2d p2)), (.double (FP.dmul (FP.dmul d1 (FP.i2d p2)) (FP.dadd v_k1_a0 (4607182418800017408 : UInt64))))])) rfl rfl (hb hby d3_19)
  refine own_go (fun _ k => st3 _ k) ?_
  show own_Ends _ _ _ _ _ _ _ (T3.setTop (mkF m 22 #[.val (.ref a0), .val (.double d1), .second, .val (.int p2), .val (.long q3), .second, .val (.double d4), .second] [(.double v_b_a0), (.double (4607182418800017408 : UInt64)), (.double v_k1_a0), (.double (FP.i2d p2)), (.double (FP.dmul (FP.dmul d1 (FP.i2d p2)) (FP.dadd v_k1_a0 (4607182418800017408 : UInt64))))]))
  refine own_go (fun _ k => XS.dsubS X3.here hx rfl (hb hby d3_22) rfl n22 rfl k) ?_
  show own_Ends _ _ _ _ _ _ _ (T3.setTop (mkF m 23 #[.val (.ref a0), .val (.double d1), .second, .val (.int p2), .val (.long q3), .second, .val (.double d4), .second] [(.double (FP.dsub (4607182418800017408 : UInt64) v_b_a0)), (.double v_k1_a0), (.double (FP.i2d p2)), (.double (FP.dmul (FP.dmul d1 (FP.i2d p2)) (FP.dadd v_k1_a0 (4607182418800017408 : UInt64))))]))
  refine own_go (fun _ k => XS.aloadN X3.here hx rfl (hb hby d3_23) rfl rfl k) ?_
  show own_Ends _ _ _ _ _ _ _ (T3.setTop (mkF m 24 #[.val (.ref a0), .val (.double d1), .second, .val (.int p2), .val (.long q3), .second, .val (.double d4), .second] [(.ref a0), (.double (FP.dsub (4607182418800017408 : UInt64) v_b_a0)), (.double v_k1_a0), (.double (FP.i2d p2)), (.double (FP.dmul (FP.dmul d1 (FP.i2d p2)) (FP.dadd v_k1_a0 (4607182418800017408 : UInt64))))]))
  obtain ⟨T4, X4, e4, st4⟩ := getF X3 hx hZ hown (host := "") (Or.inl (hw _ (List.mem_of_getElem? (i := 14) rfl))) Via.refl e3 F_b_a0 (g := (mkF m 24 #[.val (.ref a0), .val (.double d1), .second, .val (.int p2), .val (.long q3), .second, .val (.double d4), .second] [(.ref a0), (.double (FP.dsub (4607182418800017408 : UInt64) v_b_a0)), (.double v_k1_a0), (.double (FP.i2d p2)), (.double (FP.dmul (FP.dmul d1 (FP.i2d p2)) (FP.dadd v_k1_a0 (4607182418800017408 : UInt64))))])) rfl rfl (hb hby d3_24)
  refine own_go (fun _ k => st4 _ k) ?_
  show own_Ends _ _ _ _ _ _ _ (T4.setTop (mkF m 27 #[.val (.ref a0), .val (.double d1), .second, .val (.int p2), .val (.long q3), .second, .val (.double d4), .second] [(.double v_b_a0), (.double (FP.dsub (4607182418800017408 : UInt64) v_b_a0)), (.double v_k1_a0), (.double (FP.i2d p2)), (.double (FP.dmul (FP.dmul d1 (FP.i2d p2)) (FP.dadd v_k1_a0 (4607182418800017408 : UInt64))))]))
  refine own_go (fun _ k => XS.lload X4.here hx rfl (hb hby d3_27) rfl k) ?_
  show own_Ends _ _ _ _ _ _ _ (T4.setTop (mkF m 29 #[.val (.ref a0), .val (.double d1), .second, .val (.int p2), .val (.long q3), .second, .val (.double d4), .second] [(.long q3), (.double v_b_a0), (.double (FP.dsub (4607182418800017408 : UInt64) v_b_a0)), (.double v_k1_a0), (.double (FP.i2d p2)), (.double (FP.dmul (FP.dmul d1 (FP.i2d p2)) (FP.dadd v_k1_a0 (4607182418800017408 : UInt64))))]))
  refine own_go (fun _ k => XS.l2dS X4.here hx rfl (hb hby d3_29) rfl rfl k) ?_
  show own_Ends _ _ _ _ _ _ _ (T4.setTop (mkF m 30 #[.val (.ref a0), .val (.double d1), .second, .val (.int p2), .val (.long q3), .second, .val (.double d4), .second] [(.double (FP.l2d q3)), (.double v_b_a0), (.double (FP.dsub (4607182418800017408 : UInt64) v_b_a0)), (.double v_k1_a0), (.double (FP.i2d p2)), (.double (FP.dmul (FP.dmul d1 (FP.i2d p2)) (FP.dadd v_k1_a0 (4607182418800017408 : UInt64))))]))
  refine own_go (fun _ k => XS.dmulS X4.here hx rfl (hb hby d3_30) rfl n30 rfl k) ?_
  show own_Ends _ _ _ _ _ _ _ (T4.setTop (mkF m 31 #[.val (.ref a0), .val (.double d1), .second, .val (.int p2), .val (.long q3), .second, .val (.double d4), .second] [(.double (FP.dmul v_b_a0 (FP.l2d q3))), (.double (FP.dsub (4607182418800017408 : UInt64) v_b_a0)), (.double v_k1_a0), (.double (FP.i2d p2)), (.double (FP.dmul (FP.dmul d1 (FP.i2d p2)) (FP.dadd v_k1_a0 (4607182418800017408 : UInt64))))]))
  refine own_go (fun _ k => XS.dload X4.here hx rfl (hb hby d3_31) rfl k) ?_
  show own_Ends _ _ _ _ _ _ _ (T4.setTop (mkF m 33 #[.val (.ref a0), .val (.double d1), .second, .val (.int p2), .val (.long q3), .second, .val (.double d4), .second] [(.double d4), (.double (FP.dmul v_b_a0 (FP.l2d q3))), (.double (FP.dsub (4607182418800017408 : UInt64) v_b_a0)), (.double v_k1_a0), (.double (FP.i2d p2)), (.double (FP.dmul (FP.dmul d1 (FP.i2d p2)) (FP.dadd v_k1_a0 (4607182418800017408 : UInt64))))]))
  refine own_go (fun _ k => XS.ddivS X4.here hx rfl (hb hby d3_33) rfl n33 rfl k) ?_
  show own_Ends _ _ _ _ _ _ _ (T4.setTop (mkF m 34 #[.val (.ref a0), .val (.double d1), .second, .val (.int p2), .val (.long q3), .second, .val (.double d4), .second] [(.double (FP.ddiv (FP.dmul v_b_a0 (FP.l2d q3)) d4)), (.double (FP.dsub (4607182418800017408 : UInt64) v_b_a0)), (.double v_k1_a0), (.double (FP.i2d p2)), (.double (FP.dmul (FP.dmul d1 (FP.i2d p2)) (FP.dadd v_k1_a0 (4607182418800017408 : UInt64))))]))
  refine own_go (fun _ k => XS.daddS X4.here hx rfl (hb hby d3_34) rfl n34 rfl k) ?_
  show own_Ends _ _ _ _ _ _ _ (T4.setTop (mkF m 35 #[.val (.ref a0), .val (.double d1), .second, .val (.int p2), .val (.long q3), .second, .val (.double d4), .second] [(.double (FP.dadd (FP.dsub (4607182418800017408 : UInt64) v_b_a0) (FP.ddiv (FP.dmul v_b_a0 (FP.l2d q3)) d4))), (.double v_k1_a0), (.double (FP.i2d p2)), (.double (FP.dmul (FP.dmul d1 (FP.i2d p2)) (FP.dadd v_k1_a0 (4607182418800017408 : UInt64))))]))
  refine own_go (fun _ k => XS.dmulS X4.here hx rfl (hb hby d3_35) rfl n35 rfl k) ?_
  show own_Ends _ _ _ _ _ _ _ (T4.setTop (mkF m 36 #[.val (.ref a0), .val (.double d1), .second, .val (.int p2), .val (.long q3), .second, .val (.double d4), .second] [(.double (FP.dmul v_k1_a0 (FP.dadd (FP.dsub (4607182418800017408 : UInt64) v_b_a0) (FP.ddiv (FP.dmul v_b_a0 (FP.l2d q3)) d4)))), (.double (FP.i2d p2)), (.double (FP.dmul (FP.dmul d1 (FP.i2d p2)) (FP.dadd v_k1_a0 (4607182418800017408 : UInt64))))]))
  refine own_go (fun _ k => XS.daddS X4.here hx rfl (hb hby d3_36) rfl n36 rfl k) ?_
  show own_Ends _ _ _ _ _ _ _ (T4.setTop (mkF m 37 #[.val (.ref a0), .val (.double d1), .second, .val (.int p2), .val (.long q3), .second, .val (.double d4), .second] [(.double (FP.dadd (FP.i2d p2) (FP.dmul v_k1_a0 (FP.dadd (FP.dsub (4607182418800017408 : UInt64) v_b_a0) (FP.ddiv (FP.dmul v_b_a0 (FP.l2d q3)) d4))))), (.double (FP.dmul (FP.dmul d1 (FP.i2d p2)) (FP.dadd v_k1_a0 (4607182418800017408 : UInt64))))]))
  refine own_go (fun _ k => XS.ddivS X4.here hx rfl (hb hby d3_37) rfl n37 rfl k) ?_
  show own_Ends _ _ _ _ _ _ _ (T4.setTop (mkF m 38 #[.val (.ref a0), .val (.double d1), .second, .val (.int p2), .val (.long q3), .second, .val (.double d4), .second] [(.double (FP.ddiv (FP.dmul (FP.dmul d1 (FP.i2d p2)) (FP.dadd v_k1_a0 (4607182418800017408 : UInt64))) (FP.dadd (FP.i2d p2) (FP.dmul v_k1_a0 (FP.dadd (FP.dsub (4607182418800017408 : UInt64) v_b_a0) (FP.ddiv (FP.dmul v_b_a0 (FP.l2d q3)) d4))))))]))
  exact own_retD X4 hx hlk Bd.returns (hb hby d3_38) (by decide) (by decide) ⟨congrArg (fun z => some (Value.double z)) (by exact rfl), N0, e4⟩
theorem pn0 : plainName "com/example/cumaea/cumaea/Bm25WeightPinLaw" = true := by first | (simp [plainName, overriddenIn]; done) | decide +kernel
theorem pd0_0 : parseMethodDescriptor "(DD)V" = some ⟨[.double, .double], none⟩ := by decide +kernel
theorem pd0_1 : parseMethodDescriptor "(DIJD)D" = some ⟨[.double, .int, .long, .double], some .double⟩ := by decide +kernel
theorem ef0 (m : MethodId) (p0 : Int32) (p1 : Int32) (p2 : Int32) (p3 : Int32) (p4 : Int32) (p5 : Int32) : entryFrame m #[(.int p0), (.int p1), (.int p2), (.int p3), (.int p4), (.int p5)] maxLocals = mkF m 0 #[.val (.int p0), .val (.int p1), .val (.int p2), .val (.int p3), .val (.int p4), .val (.int p5), .unset, .unset, .unset, .unset, .unset, .unset, .unset, .unset, .unset, .unset, .unset, .unset, .unset, .unset, .unset, .unset, .unset, .unset] [] := by first | (simp [entryFrame, mkF, argsToLocals, Value.category, maxLocals]; done) | rfl
def Q0 (Z : State) (p0 : Int32) (p1 : Int32) (p2 : Int32) (p3 : Int32) (p4 : Int32) (p5 : Int32) (h0 : Heap) (n0 : Nat) (v : Option Value) (h : Heap) (L : List Loc) : Prop := v = some (.int 1) ∧ Fr n0 L
set_option maxRecDepth 65536 in
set_option maxHeartbeats 40000000 in
theorem rm0 (l : Launch) (Z : State) (ar : Array Value) (hw : ∀ d ∈ tables_1, d.before ar Z = true) (ws : List Jvm.Cond) (p0 : Int32) (p1 : Int32) (p2 : Int32) (p3 : Int32) (p4 : Int32) (p5 : Int32) (h0 : Heap) (n0 : Nat) (O0 : Old Z n0 h0) :
    MetFree l x (head1 (Jvm.Cond.code x code maxLocals ret :: ws) room_1) (fun a U => a = #[(.int p0), (.int p1), (.int p2), (.int p3), (.int p4), (.int p5)] ∧ Z.Warmed39 U.vm ∧ U.heap = h0) (fun _ _ _ _ _ => True) (fun _ U o U' => ∃ v L, o = .returned v ∧ Q0 Z p0 p1 p2 p3 p4 p5 h0 n0 v U'.heap L ∧ FrameEnd U o U' L room_1.cells room_1.slots) := by
  refine MetFree.of_bodySF (plainFor_of_name pn0) hisR ?_
  intro p e s m args below meth c s₁ Bd hml0 hP hK
  obtain ⟨rfl, hZ, hh⟩ := hP
  have hx := Bd.exec
  have hby := Bd.bytes
  have hml : c.maxLocals = 24 := hml0
  have hown : s.vm.findClass "com/example/cumaea/cumaea/Bm25WeightPinLaw" = some m.cls := findClass_of_methodNamed Bd.named
  have hnm := (name_of_methodNamed Bd.named Bd.method).1
  have hlk : meth.locks = false := BodyLoose.notSynchronized Bd
  have X0 : Stand p l e room_1 s m #[(.int p0), (.int p1), (.int p2), (.int p3), (.int p4), (.int p5)] below meth c s₁ [] 0 0 := Stand.of_body Bd
  have e0 : s₁.heap = h0 := by rw [← hh, Bd.state]; rfl
  have N0 := Fr.nil n0
  suffices hmain : own_Ends p e below s (Q0 Z p0 p1 p2 p3 p4 p5 h0 n0) 16 128 (s₁.setTop (mkF m 0 #[.val (.int p0), .val (.int p1), .val (.int p2), .val (.int p3), .val (.int p4), .val (.int p5), .unset, .unset, .unset, .unset, .unset, .unset, .unset, .unset, .unset, .unset, .unset, .unset, .unset, .unset, .unset, .unset, .unset, .unset] [])) by
    obtain ⟨U, o, h1, r⟩ := hmain
    exact ⟨U, o, castTop (ef0 m p0 p1 p2 p3 p4 p5) h1, r⟩
  show own_Ends _ _ _ _ _ _ _ (s₁.setTop (mkF m 0 #[.val (.int p0), .val (.int p1), .val (.int p2), .val (.int p3), .val (.int p4), .val (.int p5), .unset, .unset, .unset, .unset, .unset, .unset, .unset, .unset, .unset, .unset, .unset, .unset, .unset, .unset, .unset, .unset, .unset, .unset] []))
  refine own_go (fun _ k => XS.iload X0.here hx rfl (hb hby at_0) rfl k) ?_
  show own_Ends _ _ _ _ _ _ _ (s₁.setTop (mkF m 2 #[.val (.int p0), .val (.int p1), .val (.int p2), .val (.int p3), .val (.int p4), .val (.int p5), .unset, .unset, .unset, .unset, .unset, .unset, .unset, .unset, .unset, .unset, .unset, .unset, .unset, .unset, .unset, .unset, .unset, .unset] [(.int p4)]))
  refine own_go (fun _ k => XS.bipush X0.here hx rfl (hb hby at_2) k) ?_
  show own_Ends _ _ _ _ _ _ _ (s₁.setTop (mkF m 4 #[.val (.int p0), .val (.int p1), .val (.int p2), .val (.int p3), .val (.int p4), .val (.int p5), .unset, .unset, .unset, .unset, .unset, .unset, .unset, .unset, .unset, .unset, .unset, .unset, .unset, .unset, .unset, .unset, .unset, .unset] [(.int (15 : Int32)), (.int p4)]))
  refine own_go (fun _ k => XS.iand X0.here hx rfl (hb hby at_4) rfl k) ?_
  show own_Ends _ _ _ _ _ _ _ (s₁.setTop (mkF m 5 #[.val (.int p0), .val (.int p1), .val (.int p2), .val (.int p3), .val (.int p4), .val (.int p5), .unset, .unset, .unset, .unset, .unset, .unset, .unset, .unset, .unset, .unset, .unset, .unset, .unset, .unset, .unset, .unset, .unset, .unset] [(.int (p4 &&& (15 : Int32)))]))
  refine own_go (fun _ k => XS.istore X0.here hx rfl (hb hby at_5) rfl (l' := #[.val (.int p0), .val (.int p1), .val (.int p2), .val (.int p3), .val (.int p4), .val (.int p5), .val (.int (p4 &&& (15 : Int32))), .unset, .unset, .unset, .unset, .unset, .unset, .unset, .unset, .unset, .unset, .unset, .unset, .unset, .unset, .unset, .unset, .unset]) rfl k) ?_
  suffices hjkq : ∀ kq : Int32, kq = (p4 &&& (15 : Int32)) → own_Ends p e below s (Q0 Z p0 p1 p2 p3 p4 p5 h0 n0) 16 128 (s₁.setTop (mkF m 7 #[.val (.int p0), .val (.int p1), .val (.int p2), .val (.int p3), .val (.int p4), .val (.int p5), .val (.int kq), .unset, .unset, .unset, .unset, .unset, .unset, .unset, .unset, .unset, .unset, .unset, .unset, .unset, .unset, .unset, .unset, .unset] [])) by exact hjkq _ rfl
  intro kq hkq
  show own_Ends _ _ _ _ _ _ _ (s₁.setTop (mkF m 7 #[.val (.int p0), .val (.int p1), .val (.int p2), .val (.int p3), .val (.int p4), .val (.int p5), .val (.int kq), .unset, .unset, .unset, .unset, .unset, .unset, .unset, .unset, .unset, .unset, .unset, .unset, .unset, .unset, .unset, .unset, .unset] []))
  refine own_go (fun _ k => XS.iload X0.here hx rfl (hb hby at_7) rfl k) ?_
  show own_Ends _ _ _ _ _ _ _ (s₁.setTop (mkF m 9 #[.val (.int p0), .val (.int p1), .val (.int p2), .val (.int p3), .val (.int p4), .val (.int p5), .val (.int kq), .unset, .unset, .unset, .unset, .unset, .unset, .unset, .unset, .unset, .unset, .unset, .unset, .unset, .unset, .unset, .unset, .unset] [(.int p5)]))
  refine own_go (fun _ k => X0.ldcInt hx hown (mvT hZ (hw _ (List.mem_of_getElem? (i := 0) rfl))) (g := (mkF m 9 #[.val (.int p0), .val (.int p1), .val (.int p2), .val (.int p3), .val (.int p4), .val (.int p5), .val (.int kq), .unset, .unset, .unset, .unset, .unset, .unset, .unset, .unset, .unset, .unset, .unset, .unset, .unset, .unset, .unset, .unset, .unset] [(.int p5)])) rfl (hb hby at_9) _ k) ?_
  show own_Ends _ _ _ _ _ _ _ (s₁.setTop (mkF m 11 #[.val (.int p0), .val (.int p1), .val (.int p2), .val (.int p3), .val (.int p4), .val (.int p5), .val (.int kq), .unset, .unset, .unset, .unset, .unset, .unset, .unset, .unset, .unset, .unset, .unset, .unset, .unset, .unset, .unset, .unset, .unset] [(.int (2147483647 : Int32)), (.int p5)]))
  refine own_go (fun _ k => XS.iand X0.here hx rfl (hb hby at_11) rfl k) ?_
  show own_Ends _ _ _ _ _ _ _ (s₁.setTop (mkF m 12 #[.val (.int p0), .val (.int p1), .val (.int p2), .val (.int p3), .val (.int p4), .val (.int p5), .val (.int kq), .unset, .unset, .unset, .unset, .unset, .unset, .unset, .unset, .unset, .unset, .unset, .unset, .unset, .unset, .unset, .unset, .unset] [(.int (p5 &&& (2147483647 : Int32)))]))
  refine own_go (fun _ k => XS.iconst X0.here hx rfl (hb hby at_12) k) ?_
  show own_Ends _ _ _ _ _ _ _ (s₁.setTop (mkF m 13 #[.val (.int p0), .val (.int p1), .val (.int p2), .val (.int p3), .val (.int p4), .val (.int p5), .val (.int kq), .unset, .unset, .unset, .unset, .unset, .unset, .unset, .unset, .unset, .unset, .unset, .unset, .unset, .unset, .unset, .unset, .unset] [(.int (5 : Int32)), (.int (p5 &&& (2147483647 : Int32)))]))
  refine own_go (fun _ k => iremM X0 hx rfl (hb hby at_13) rfl (by decide) k) ?_
  show own_Ends _ _ _ _ _ _ _ (s₁.setTop (mkF m 14 #[.val (.int p0), .val (.int p1), .val (.int p2), .val (.int p3), .val (.int p4), .val (.int p5), .val (.int kq), .unset, .unset, .unset, .unset, .unset, .unset, .unset, .unset, .unset, .unset, .unset, .unset, .unset, .unset, .unset, .unset, .unset] [(.int ((p5 &&& (2147483647 : Int32)) % (5 : Int32)))]))
  refine own_go (fun _ k => XS.istore X0.here hx rfl (hb hby at_14) rfl (l' := #[.val (.int p0), .val (.int p1), .val (.int p2), .val (.int p3), .val (.int p4), .val (.int p5), .val (.int kq), .val (.int ((p5 &&& (2147483647 : Int32)) % (5 : Int32))), .unset, .unset, .unset, .unset, .unset, .unset, .unset, .unset, .unset, .unset, .unset, .unset, .unset, .unset, .unset, .unset]) rfl k) ?_
  suffices hjbq : ∀ bq : Int32, bq = ((p5 &&& (2147483647 : Int32)) % (5 : Int32)) → own_Ends p e below s (Q0 Z p0 p1 p2 p3 p4 p5 h0 n0) 16 128 (s₁.setTop (mkF m 16 #[.val (.int p0), .val (.int p1), .val (.int p2), .val (.int p3), .val (.int p4), .val (.int p5), .val (.int kq), .val (.int bq), .unset, .unset, .unset, .unset, .unset, .unset, .unset, .unset, .unset, .unset, .unset, .unset, .unset, .unset, .unset, .unset] [])) by exact hjbq _ rfl
  intro bq hbq
  show own_Ends _ _ _ _ _ _ _ (s₁.setTop (mkF m 16 #[.val (.int p0), .val (.int p1), .val (.int p2), .val (.int p3), .val (.int p4), .val (.int p5), .val (.int kq), .val (.int bq), .unset, .unset, .unset, .unset, .unset, .unset, .unset, .unset, .unset, .unset, .unset, .unset, .unset, .unset, .unset, .unset] []))
  refine own_go (fun _ k => XS.iloadN X0.here hx rfl (hb hby at_16) rfl k) ?_
  show own_Ends _ _ _ _ _ _ _ (s₁.setTop (mkF m 17 #[.val (.int p0), .val (.int p1), .val (.int p2), .val (.int p3), .val (.int p4), .val (.int p5), .val (.int kq), .val (.int bq), .unset, .unset, .unset, .unset, .unset, .unset, .unset, .unset, .unset, .unset, .unset, .unset, .unset, .unset, .unset, .unset] [(.int p3)]))
  refine own_go (fun _ k => X0.ldcInt hx hown (mvT hZ (hw _ (List.mem_of_getElem? (i := 0) rfl))) (g := (mkF m 17 #[.val (.int p0), .val (.int p1), .val (.int p2), .val (.int p3), .val (.int p4), .val (.int p5), .val (.int kq), .val (.int bq), .unset, .unset, .unset, .unset, .unset, .unset, .unset, .unset, .unset, .unset, .unset, .unset, .unset, .unset, .unset, .unset] [(.int p3)])) rfl (hb hby at_17) _ k) ?_
  show own_Ends _ _ _ _ _ _ _ (s₁.setTop (mkF m 19 #[.val (.int p0), .val (.int p1), .val (.int p2), .val (.int p3), .val (.int p4), .val (.int p5), .val (.int kq), .val (.int bq), .unset, .unset, .unset, .unset, .unset, .unset, .unset, .unset, .unset, .unset, .unset, .unset, .unset, .unset, .unset, .unset] [(.int (2147483647 : Int32)), (.int p3)]))
  refine own_go (fun _ k => XS.iand X0.here hx rfl (hb hby at_19) rfl k) ?_
  show own_Ends _ _ _ _ _ _ _ (s₁.setTop (mkF m 20 #[.val (.int p0), .val (.int p1), .val (.int p2), .val (.int p3), .val (.int p4), .val (.int p5), .val (.int kq), .val (.int bq), .unset, .unset, .unset, .unset, .unset, .unset, .unset, .unset, .unset, .unset, .unset, .unset, .unset, .unset, .unset, .unset] [(.int (p3 &&& (2147483647 : Int32)))]))
  refine own_go (fun _ k => XS.bipush X0.here hx rfl (hb hby at_20) k) ?_
  show own_Ends _ _ _ _ _ _ _ (s₁.setTop (mkF m 22 #[.val (.int p0), .val (.int p1), .val (.int p2), .val (.int p3), .val (.int p4), .val (.int p5), .val (.int kq), .val (.int bq), .unset, .unset, .unset, .unset, .unset, .unset, .unset, .unset, .unset, .unset, .unset, .unset, .unset, .unset, .unset, .unset] [(.int (11 : Int32)), (.int (p3 &&& (2147483647 : Int32)))]))
  refine own_go (fun _ k => iremM X0 hx rfl (hb hby at_22) rfl (by decide) k) ?_
  show own_Ends _ _ _ _ _ _ _ (s₁.setTop (mkF m 23 #[.val (.int p0), .val (.int p1), .val (.int p2), .val (.int p3), .val (.int p4), .val (.int p5), .val (.int kq), .val (.int bq), .unset, .unset, .unset, .unset, .unset, .unset, .unset, .unset, .unset, .unset, .unset, .unset, .unset, .unset, .unset, .unset] [(.int ((p3 &&& (2147483647 : Int32)) % (11 : Int32)))]))
  refine own_go (fun _ k => XS.istore X0.here hx rfl (hb hby at_23) rfl (l' := #[.val (.int p0), .val (.int p1), .val (.int p2), .val (.int p3), .val (.int p4), .val (.int p5), .val (.int kq), .val (.int bq), .val (.int ((p3 &&& (2147483647 : Int32)) % (11 : Int32))), .unset, .unset, .unset, .unset, .unset, .unset, .unset, .unset, .unset, .unset, .unset, .unset, .unset, .unset, .unset]) rfl k) ?_
  suffices hjze : ∀ ze : Int32, ze = ((p3 &&& (2147483647 : Int32)) % (11 : Int32)) → own_Ends p e below s (Q0 Z p0 p1 p2 p3 p4 p5 h0 n0) 16 128 (s₁.setTop (mkF m 25 #[.val (.int p0), .val (.int p1), .val (.int p2), .val (.int p3), .val (.int p4), .val (.int p5), .val (.int kq), .val (.int bq), .val (.int ze), .unset, .unset, .unset, .unset, .unset, .unset, .unset, .unset, .unset, .unset, .unset, .unset, .unset, .unset, .unset] [])) by exact hjze _ rfl
  intro ze hze
  show own_Ends _ _ _ _ _ _ _ (s₁.setTop (mkF m 25 #[.val (.int p0), .val (.int p1), .val (.int p2), .val (.int p3), .val (.int p4), .val (.int p5), .val (.int kq), .val (.int bq), .val (.int ze), .unset, .unset, .unset, .unset, .unset, .unset, .unset, .unset, .unset, .unset, .unset, .unset, .unset, .unset, .unset] []))
  refine own_go (fun _ k => XS.iloadN X0.here hx rfl (hb hby at_25) rfl k) ?_
  show own_Ends _ _ _ _ _ _ _ (s₁.setTop (mkF m 26 #[.val (.int p0), .val (.int p1), .val (.int p2), .val (.int p3), .val (.int p4), .val (.int p5), .val (.int kq), .val (.int bq), .val (.int ze), .unset, .unset, .unset, .unset, .unset, .unset, .unset, .unset, .unset, .unset, .unset, .unset, .unset, .unset, .unset] [(.int p1)]))
  refine own_go (fun _ k => XS.sipush X0.here hx rfl (hb hby at_26) k) ?_
  show own_Ends _ _ _ _ _ _ _ (s₁.setTop (mkF m 29 #[.val (.int p0), .val (.int p1), .val (.int p2), .val (.int p3), .val (.int p4), .val (.int p5), .val (.int kq), .val (.int bq), .val (.int ze), .unset, .unset, .unset, .unset, .unset, .unset, .unset, .unset, .unset, .unset, .unset, .unset, .unset, .unset, .unset] [(.int (1023 : Int32)), (.int p1)]))
  refine own_go (fun _ k => XS.iand X0.here hx rfl (hb hby at_29) rfl k) ?_
  show own_Ends _ _ _ _ _ _ _ (s₁.setTop (mkF m 30 #[.val (.int p0), .val (.int p1), .val (.int p2), .val (.int p3), .val (.int p4), .val (.int p5), .val (.int kq), .val (.int bq), .val (.int ze), .unset, .unset, .unset, .unset, .unset, .unset, .unset, .unset, .unset, .unset, .unset, .unset, .unset, .unset, .unset] [(.int (p1 &&& (1023 : Int32)))]))
  refine own_go (fun _ k => XS.iconst X0.here hx rfl (hb hby at_30) k) ?_
  show own_Ends _ _ _ _ _ _ _ (s₁.setTop (mkF m 31 #[.val (.int p0), .val (.int p1), .val (.int p2), .val (.int p3), .val (.int p4), .val (.int p5), .val (.int kq), .val (.int bq), .val (.int ze), .unset, .unset, .unset, .unset, .unset, .unset, .unset, .unset, .unset, .unset, .unset, .unset, .unset, .unset, .unset] [(.int (1 : Int32)), (.int (p1 &&& (1023 : Int32)))]))
  refine own_go (fun _ k => XS.iadd X0.here hx rfl (hb hby at_31) rfl k) ?_
  show own_Ends _ _ _ _ _ _ _ (s₁.setTop (mkF m 32 #[.val (.int p0), .val (.int p1), .val (.int p2), .val (.int p3), .val (.int p4), .val (.int p5), .val (.int kq), .val (.int bq), .val (.int ze), .unset, .unset, .unset, .unset, .unset, .unset, .unset, .unset, .unset, .unset, .unset, .unset, .unset, .unset, .unset] [(.int ((p1 &&& (1023 : Int32)) + (1 : Int32)))]))
  refine own_go (fun _ k => XS.i2l X0.here hx rfl (hb hby at_32) rfl k) ?_
  show own_Ends _ _ _ _ _ _ _ (s₁.setTop (mkF m 33 #[.val (.int p0), .val (.int p1), .val (.int p2), .val (.int p3), .val (.int p4), .val (.int p5), .val (.int kq), .val (.int bq), .val (.int ze), .unset, .unset, .unset, .unset, .unset, .unset, .unset, .unset, .unset, .unset, .unset, .unset, .unset, .unset, .unset] [(.long (((p1 &&& (1023 : Int32)) + (1 : Int32)).toInt64))]))
  refine own_go (fun _ k => XS.lstore X0.here hx rfl (hb hby at_33) rfl (l' := #[.val (.int p0), .val (.int p1), .val (.int p2), .val (.int p3), .val (.int p4), .val (.int p5), .val (.int kq), .val (.int bq), .val (.int ze), .val (.long (((p1 &&& (1023 : Int32)) + (1 : Int32)).toInt64)), .second, .unset, .unset, .unset, .unset, .unset, .unset, .unset, .unset, .unset, .unset, .unset, .unset, .unset]) rfl k) ?_
  suffices hjtf : ∀ tf : Int64, tf = (((p1 &&& (1023 : Int32)) + (1 : Int32)).toInt64) → own_Ends p e below s (Q0 Z p0 p1 p2 p3 p4 p5 h0 n0) 16 128 (s₁.setTop (mkF m 35 #[.val (.int p0), .val (.int p1), .val (.int p2), .val (.int p3), .val (.int p4), .val (.int p5), .val (.int kq), .val (.int bq), .val (.int ze), .val (.long tf), .second, .unset, .unset, .unset, .unset, .unset, .unset, .unset, .unset, .unset, .unset, .unset, .unset, .unset] [])) by exact hjtf _ rfl
  intro tf htf
  show own_Ends _ _ _ _ _ _ _ (s₁.setTop (mkF m 35 #[.val (.int p0), .val (.int p1), .val (.int p2), .val (.int p3), .val (.int p4), .val (.int p5), .val (.int kq), .val (.int bq), .val (.int ze), .val (.long tf), .second, .unset, .unset, .unset, .unset, .unset, .unset, .unset, .unset, .unset, .unset, .unset, .unset, .unset] []))
  refine own_go (fun _ k => XS.iloadN X0.here hx rfl (hb hby at_35) rfl k) ?_
  show own_Ends _ _ _ _ _ _ _ (s₁.setTop (mkF m 36 #[.val (.int p0), .val (.int p1), .val (.int p2), .val (.int p3), .val (.int p4), .val (.int p5), .val (.int kq), .val (.int bq), .val (.int ze), .val (.long tf), .second, .unset, .unset, .unset, .unset, .unset, .unset, .unset, .unset, .unset, .unset, .unset, .unset, .unset] [(.int p2)]))
  refine own_go (fun _ k => XS.i2l X0.here hx rfl (hb hby at_36) rfl k) ?_
  show own_Ends _ _ _ _ _ _ _ (s₁.setTop (mkF m 37 #[.val (.int p0), .val (.int p1), .val (.int p2), .val (.int p3), .val (.int p4), .val (.int p5), .val (.int kq), .val (.int bq), .val (.int ze), .val (.long tf), .second, .unset, .unset, .unset, .unset, .unset, .unset, .unset, .unset, .unset, .unset, .unset, .unset, .unset] [(.long (p2.toInt64))]))
  refine own_go (fun _ k => X0.ldc2Long hx hown (mvT hZ (hw _ (List.mem_of_getElem? (i := 1) rfl))) (g := (mkF m 37 #[.val (.int p0), .val (.int p1), .val (.int p2), .val (.int p3), .val (.int p4), .val (.int p5), .val (.int kq), .val (.int bq), .val (.int ze), .val (.long tf), .second, .unset, .unset, .unset, .unset, .unset, .unset, .unset, .unset, .unset, .unset, .unset, .unset, .unset] [(.long (p2.toInt64))])) rfl (hb hby at_37) _ k) ?_
  show own_Ends _ _ _ _ _ _ _ (s₁.setTop (mkF m 40 #[.val (.int p0), .val (.int p1), .val (.int p2), .val (.int p3), .val (.int p4), .val (.int p5), .val (.int kq), .val (.int bq), .val (.int ze), .val (.long tf), .second, .unset, .unset, .unset, .unset, .unset, .unset, .unset, .unset, .unset, .unset, .unset, .unset, .unset] [(.long (2147483647 : Int64)), (.long (p2.toInt64))]))
  refine own_go (fun _ k => XS.land X0.here hx rfl (hb hby at_40) rfl k) ?_
  show own_Ends _ _ _ _ _ _ _ (s₁.setTop (mkF m 41 #[.val (.int p0), .val (.int p1), .val (.int p2), .val (.int p3), .val (.int p4), .val (.int p5), .val (.int kq), .val (.int bq), .val (.int ze), .val (.long tf), .second, .unset, .unset, .unset, .unset, .unset, .unset, .unset, .unset, .unset, .unset, .unset, .unset, .unset] [(.long ((p2.toInt64) &&& (2147483647 : Int64)))]))
  refine own_go (fun _ k => XS.lstore X0.here hx rfl (hb hby at_41) rfl (l' := #[.val (.int p0), .val (.int p1), .val (.int p2), .val (.int p3), .val (.int p4), .val (.int p5), .val (.int kq), .val (.int bq), .val (.int ze), .val (.long tf), .second, .val (.long ((p2.toInt64) &&& (2147483647 : Int64))), .second, .unset, .unset, .unset, .unset, .unset, .unset, .unset, .unset, .unset, .unset, .unset]) rfl k) ?_
  suffices hjln : ∀ ln : Int64, ln = ((p2.toInt64) &&& (2147483647 : Int64)) → own_Ends p e below s (Q0 Z p0 p1 p2 p3 p4 p5 h0 n0) 16 128 (s₁.setTop (mkF m 43 #[.val (.int p0), .val (.int p1), .val (.int p2), .val (.int p3), .val (.int p4), .val (.int p5), .val (.int kq), .val (.int bq), .val (.int ze), .val (.long tf), .second, .val (.long ln), .second, .unset, .unset, .unset, .unset, .unset, .unset, .unset, .unset, .unset, .unset, .unset] [])) by exact hjln _ rfl
  intro ln hln
  show own_Ends _ _ _ _ _ _ _ (s₁.setTop (mkF m 43 #[.val (.int p0), .val (.int p1), .val (.int p2), .val (.int p3), .val (.int p4), .val (.int p5), .val (.int kq), .val (.int bq), .val (.int ze), .val (.long tf), .second, .val (.long ln), .second, .unset, .unset, .unset, .unset, .unset, .unset, .unset, .unset, .unset, .unset, .unset] []))
  refine own_go (fun _ k => XS.lconst X0.here hx rfl (hb hby at_43) k) ?_
  show own_Ends _ _ _ _ _ _ _ (s₁.setTop (mkF m 44 #[.val (.int p0), .val (.int p1), .val (.int p2), .val (.int p3), .val (.int p4), .val (.int p5), .val (.int kq), .val (.int bq), .val (.int ze), .val (.long tf), .second, .val (.long ln), .second, .unset, .unset, .unset, .unset, .unset, .unset, .unset, .unset, .unset, .unset, .unset] [(.long (1 : Int64))]))
  refine own_go (fun _ k => XS.iload X0.here hx rfl (hb hby at_44) rfl k) ?_
  show own_Ends _ _ _ _ _ _ _ (s₁.setTop (mkF m 46 #[.val (.int p0), .val (.int p1), .val (.int p2), .val (.int p3), .val (.int p4), .val (.int p5), .val (.int kq), .val (.int bq), .val (.int ze), .val (.long tf), .second, .val (.long ln), .second, .unset, .unset, .unset, .unset, .unset, .unset, .unset, .unset, .unset, .unset, .unset] [(.int ze), (.long (1 : Int64))]))
  refine own_go (fun _ k => XS.lshl X0.here hx rfl (hb hby at_46) rfl k) ?_
  show own_Ends _ _ _ _ _ _ _ (s₁.setTop (mkF m 47 #[.val (.int p0), .val (.int p1), .val (.int p2), .val (.int p3), .val (.int p4), .val (.int p5), .val (.int kq), .val (.int bq), .val (.int ze), .val (.long tf), .second, .val (.long ln), .second, .unset, .unset, .unset, .unset, .unset, .unset, .unset, .unset, .unset, .unset, .unset] [(.long ((1 : Int64) <<< (ze &&& 0x3f).toInt64))]))
  refine own_go (fun _ k => XS.lstore X0.here hx rfl (hb hby at_47) rfl (l' := #[.val (.int p0), .val (.int p1), .val (.int p2), .val (.int p3), .val (.int p4), .val (.int p5), .val (.int kq), .val (.int bq), .val (.int ze), .val (.long tf), .second, .val (.long ln), .second, .val (.long ((1 : Int64) <<< (ze &&& 0x3f).toInt64)), .second, .unset, .unset, .unset, .unset, .unset, .unset, .unset, .unset, .unset]) rfl k) ?_
  suffices hjav : ∀ av : Int64, av = ((1 : Int64) <<< (ze &&& 0x3f).toInt64) → own_Ends p e below s (Q0 Z p0 p1 p2 p3 p4 p5 h0 n0) 16 128 (s₁.setTop (mkF m 49 #[.val (.int p0), .val (.int p1), .val (.int p2), .val (.int p3), .val (.int p4), .val (.int p5), .val (.int kq), .val (.int bq), .val (.int ze), .val (.long tf), .second, .val (.long ln), .second, .val (.long av), .second, .unset, .unset, .unset, .unset, .unset, .unset, .unset, .unset, .unset] [])) by exact hjav _ rfl
  intro av hav
  obtain ⟨ee, hIn⟩ := own_in0 (p0 := p0) hkq hbq hze htf hln hav
  have hI0 := hIn _ _ rfl rfl
  obtain ⟨w1, w2, w3, w4, w5, w6, w7, w8, w9⟩ := own_chain (p0 := p0) hI0.k hI0.b hI0.e hI0.a hI0.t hI0.l
  have hW := And.intro w1.noNaN (And.intro w2.noNaN (And.intro w3.noNaN (And.intro w4.noNaN (And.intro w5.noNaN (And.intro w6.noNaN (And.intro w7.noNaN (And.intro w8.noNaN (And.intro w9.noNaN (own_no (own_same hI0).2.1)))))))))
  show own_Ends _ _ _ _ _ _ _ (s₁.setTop (mkF m 49 #[.val (.int p0), .val (.int p1), .val (.int p2), .val (.int p3), .val (.int p4), .val (.int p5), .val (.int kq), .val (.int bq), .val (.int ze), .val (.long tf), .second, .val (.long ln), .second, .val (.long av), .second, .unset, .unset, .unset, .unset, .unset, .unset, .unset, .unset, .unset] []))
  obtain ⟨T1, h1, X1, e1, E1, A1, D1, -, st1⟩ := newO X0 hx hZ hown (hw _ (List.mem_of_getElem? (i := 2) rfl)) (hw _ (List.mem_of_getElem? (i := 3) rfl)) (hw _ (List.mem_of_getElem? (i := 4) rfl)) e0 (g := (mkF m 49 #[.val (.int p0), .val (.int p1), .val (.int p2), .val (.int p3), .val (.int p4), .val (.int p5), .val (.int kq), .val (.int bq), .val (.int ze), .val (.long tf), .second, .val (.long ln), .second, .val (.long av), .second, .unset, .unset, .unset, .unset, .unset, .unset, .unset, .unset, .unset] [])) rfl (hb hby at_49) (by decide) (by decide)
  obtain ⟨b1, q_b1⟩ : ∃ z, z = h0.size := ⟨_, rfl⟩
  rw [← q_b1] at A1 D1 st1
  have g_b1 : n0 ≤ b1 := Nat.le_trans (own_sz O0) (Nat.le_of_eq q_b1.symm)
  refine own_go (fun _ k => st1 _ k) ?_
  have F2 : Old Z n0 h1 := (O0.ext E1)
  have F3 : Fld Z h1 b1 "com/example/cumaea/cumaea/Bm25" "k1" "D" (.double (0 : UInt64)) := D1 (Or.inr (hw _ (List.mem_of_getElem? (i := 13) rfl))) (ty := .double) (by decide)
  have F4 : Fld Z h1 b1 "com/example/cumaea/cumaea/Bm25" "b" "D" (.double (0 : UInt64)) := D1 (Or.inr (hw _ (List.mem_of_getElem? (i := 15) rfl))) (ty := .double) (by decide)
  show own_Ends _ _ _ _ _ _ _ (T1.setTop (mkF m 52 #[.val (.int p0), .val (.int p1), .val (.int p2), .val (.int p3), .val (.int p4), .val (.int p5), .val (.int kq), .val (.int bq), .val (.int ze), .val (.long tf), .second, .val (.long ln), .second, .val (.long av), .second, .unset, .unset, .unset, .unset, .unset, .unset, .unset, .unset, .unset] [(.ref b1)]))
  refine own_go (fun _ k => XS.dup X1.here hx rfl (hb hby at_52) rfl rfl k) ?_
  show own_Ends _ _ _ _ _ _ _ (T1.setTop (mkF m 53 #[.val (.int p0), .val (.int p1), .val (.int p2), .val (.int p3), .val (.int p4), .val (.int p5), .val (.int kq), .val (.int bq), .val (.int ze), .val (.long tf), .second, .val (.long ln), .second, .val (.long av), .second, .unset, .unset, .unset, .unset, .unset, .unset, .unset, .unset, .unset] [(.ref b1), (.ref b1)]))
  refine own_go (fun _ k => XS.iload X1.here hx rfl (hb hby at_53) rfl k) ?_
  show own_Ends _ _ _ _ _ _ _ (T1.setTop (mkF m 55 #[.val (.int p0), .val (.int p1), .val (.int p2), .val (.int p3), .val (.int p4), .val (.int p5), .val (.int kq), .val (.int bq), .val (.int ze), .val (.long tf), .second, .val (.long ln), .second, .val (.long av), .second, .unset, .unset, .unset, .unset, .unset, .unset, .unset, .unset, .unset] [(.int kq), (.ref b1), (.ref b1)]))
  refine own_go (fun _ k => XS.i2dS X1.here hx rfl (hb hby at_55) rfl rfl k) ?_
  show own_Ends _ _ _ _ _ _ _ (T1.setTop (mkF m 56 #[.val (.int p0), .val (.int p1), .val (.int p2), .val (.int p3), .val (.int p4), .val (.int p5), .val (.int kq), .val (.int bq), .val (.int ze), .val (.long tf), .second, .val (.long ln), .second, .val (.long av), .second, .unset, .unset, .unset, .unset, .unset, .unset, .unset, .unset, .unset] [(.double (FP.i2d kq)), (.ref b1), (.ref b1)]))
  refine own_go (fun _ k => X1.ldc2DoubleC hx hown (mvT hZ (hw _ (List.mem_of_getElem? (i := 5) rfl))) (g := (mkF m 56 #[.val (.int p0), .val (.int p1), .val (.int p2), .val (.int p3), .val (.int p4), .val (.int p5), .val (.int kq), .val (.int bq), .val (.int ze), .val (.long tf), .second, .val (.long ln), .second, .val (.long av), .second, .unset, .unset, .unset, .unset, .unset, .unset, .unset, .unset, .unset] [(.double (FP.i2d kq)), (.ref b1), (.ref b1)])) rfl (hb hby at_56) _ k) ?_
  show own_Ends _ _ _ _ _ _ _ (T1.setTop (mkF m 59 #[.val (.int p0), .val (.int p1), .val (.int p2), .val (.int p3), .val (.int p4), .val (.int p5), .val (.int kq), .val (.int bq), .val (.int ze), .val (.long tf), .second, .val (.long ln), .second, .val (.long av), .second, .unset, .unset, .unset, .unset, .unset, .unset, .unset, .unset, .unset] [(.double (4616189618054758400 : UInt64)), (.double (FP.i2d kq)), (.ref b1), (.ref b1)]))
  refine own_go (fun _ k => XS.ddivS X1.here hx rfl (hb hby at_59) rfl (own_nk _) rfl k) ?_
  show own_Ends _ _ _ _ _ _ _ (T1.setTop (mkF m 60 #[.val (.int p0), .val (.int p1), .val (.int p2), .val (.int p3), .val (.int p4), .val (.int p5), .val (.int kq), .val (.int bq), .val (.int ze), .val (.long tf), .second, .val (.long ln), .second, .val (.long av), .second, .unset, .unset, .unset, .unset, .unset, .unset, .unset, .unset, .unset] [(.double (FP.ddiv (FP.i2d kq) (4616189618054758400 : UInt64))), (.ref b1), (.ref b1)]))
  refine own_go (fun _ k => XS.iload X1.here hx rfl (hb hby at_60) rfl k) ?_
  show own_Ends _ _ _ _ _ _ _ (T1.setTop (mkF m 62 #[.val (.int p0), .val (.int p1), .val (.int p2), .val (.int p3), .val (.int p4), .val (.int p5), .val (.int kq), .val (.int bq), .val (.int ze), .val (.long tf), .second, .val (.long ln), .second, .val (.long av), .second, .unset, .unset, .unset, .unset, .unset, .unset, .unset, .unset, .unset] [(.int bq), (.double (FP.ddiv (FP.i2d kq) (4616189618054758400 : UInt64))), (.ref b1), (.ref b1)]))
  refine own_go (fun _ k => XS.i2dS X1.here hx rfl (hb hby at_62) rfl rfl k) ?_
  show own_Ends _ _ _ _ _ _ _ (T1.setTop (mkF m 63 #[.val (.int p0), .val (.int p1), .val (.int p2), .val (.int p3), .val (.int p4), .val (.int p5), .val (.int kq), .val (.int bq), .val (.int ze), .val (.long tf), .second, .val (.long ln), .second, .val (.long av), .second, .unset, .unset, .unset, .unset, .unset, .unset, .unset, .unset, .unset] [(.double (FP.i2d bq)), (.double (FP.ddiv (FP.i2d kq) (4616189618054758400 : UInt64))), (.ref b1), (.ref b1)]))
  refine own_go (fun _ k => X1.ldc2DoubleC hx hown (mvT hZ (hw _ (List.mem_of_getElem? (i := 5) rfl))) (g := (mkF m 63 #[.val (.int p0), .val (.int p1), .val (.int p2), .val (.int p3), .val (.int p4), .val (.int p5), .val (.int kq), .val (.int bq), .val (.int ze), .val (.long tf), .second, .val (.long ln), .second, .val (.long av), .second, .unset, .unset, .unset, .unset, .unset, .unset, .unset, .unset, .unset] [(.double (FP.i2d bq)), (.double (FP.ddiv (FP.i2d kq) (4616189618054758400 : UInt64))), (.ref b1), (.ref b1)])) rfl (hb hby at_63) _ k) ?_
  show own_Ends _ _ _ _ _ _ _ (T1.setTop (mkF m 66 #[.val (.int p0), .val (.int p1), .val (.int p2), .val (.int p3), .val (.int p4), .val (.int p5), .val (.int kq), .val (.int bq), .val (.int ze), .val (.long tf), .second, .val (.long ln), .second, .val (.long av), .second, .unset, .unset, .unset, .unset, .unset, .unset, .unset, .unset, .unset] [(.double (4616189618054758400 : UInt64)), (.double (FP.i2d bq)), (.double (FP.ddiv (FP.i2d kq) (4616189618054758400 : UInt64))), (.ref b1), (.ref b1)]))
  refine own_go (fun _ k => XS.ddivS X1.here hx rfl (hb hby at_66) rfl (own_nk _) rfl k) ?_
  show own_Ends _ _ _ _ _ _ _ (T1.setTop (mkF m 67 #[.val (.int p0), .val (.int p1), .val (.int p2), .val (.int p3), .val (.int p4), .val (.int p5), .val (.int kq), .val (.int bq), .val (.int ze), .val (.long tf), .second, .val (.long ln), .second, .val (.long av), .second, .unset, .unset, .unset, .unset, .unset, .unset, .unset, .unset, .unset] [(.double (FP.ddiv (FP.i2d bq) (4616189618054758400 : UInt64))), (.double (FP.ddiv (FP.i2d kq) (4616189618054758400 : UInt64))), (.ref b1), (.ref b1)]))
  obtain ⟨_, _, ⟨T5, L5, k5, n5⟩, -, X5, ⟨Lc5, hQ5, l5, y5, z5⟩, st5⟩ := X1.specialBack hx (y := (⟨"com/example/cumaea/cumaea/Bm25", "<init>", "(DD)V"⟩ : MethodName)) rfl hown (mvT hZ (hw _ (List.mem_of_getElem? (i := 6) rfl))) (mvT hZ (hw _ (List.mem_of_getElem? (i := 7) rfl))) (mvT hZ (hw _ (List.mem_of_getElem? (i := 8) rfl))) (by decide) (backOf (W := 1) (rm1 l Z ar hw [] b1 (FP.ddiv (FP.i2d kq) (4616189618054758400 : UInt64)) (FP.ddiv (FP.i2d bq) (4616189618054758400 : UInt64)) ((.double (0 : UInt64))) ((.double (0 : UInt64))) h1 n0 F2 A1 g_b1 F3 F4 (own_c7 hkq) (own_c27 hbq) (own_c33 hbq)) hZ (hw _ (List.mem_of_getElem? (i := 8) rfl)) (hw _ (List.mem_of_getElem? (i := 4) rfl)) (by decide) (by decide)) (g := (mkF m 67 #[.val (.int p0), .val (.int p1), .val (.int p2), .val (.int p3), .val (.int p4), .val (.int p5), .val (.int kq), .val (.int bq), .val (.int ze), .val (.long tf), .second, .val (.long ln), .second, .val (.long av), .second, .unset, .unset, .unset, .unset, .unset, .unset, .unset, .unset, .unset] [(.double (FP.ddiv (FP.i2d bq) (4616189618054758400 : UInt64))), (.double (FP.ddiv (FP.i2d kq) (4616189618054758400 : UInt64))), (.ref b1), (.ref b1)])) rfl (by rw [hml]; rfl) (Steps.refl _) (a := b1) (argsL := [(.double (FP.ddiv (FP.i2d kq) (4616189618054758400 : UInt64))), (.double (FP.ddiv (FP.i2d bq) (4616189618054758400 : UInt64)))]) (rest := [(.ref b1)]) (lenOf pd0_0 rfl) rfl (by show 2 * 0 + _ ≤ _; exact Nat.le_of_eq rfl) (hb hby at_67) (fun _ _ => ⟨rfl, e1, (by decide : 1 + 0 ≤ _), (by decide : 2 + 0 ≤ _)⟩)
  dsimp only [Pt.U, Pt.locs, Pt.cells, Pt.slots] at X5 l5 y5 z5 st5 hQ5
  subst l5 y5 z5
  obtain ⟨rfl, N5q, K5, E5_0, F5_0, F5_1⟩ := hQ5
  have N5 := Fr.app N0 N5q
  have F6 : Old Z n0 T5.heap := (F2.keep K5 (allS g_b1 all0))
  refine own_go (fun _ k => st5.trans k) ?_
  show own_Ends _ _ _ _ _ _ _ (T5.setTop (mkF m 70 #[.val (.int p0), .val (.int p1), .val (.int p2), .val (.int p3), .val (.int p4), .val (.int p5), .val (.int kq), .val (.int bq), .val (.int ze), .val (.long tf), .second, .val (.long ln), .second, .val (.long av), .second, .unset, .unset, .unset, .unset, .unset, .unset, .unset, .unset, .unset] [(.ref b1)]))
  refine own_go (fun _ k => XS.astore X5.here hx rfl (hb hby at_70) rfl rfl (l' := #[.val (.int p0), .val (.int p1), .val (.int p2), .val (.int p3), .val (.int p4), .val (.int p5), .val (.int kq), .val (.int bq), .val (.int ze), .val (.long tf), .second, .val (.long ln), .second, .val (.long av), .second, .val (.ref b1), .unset, .unset, .unset, .unset, .unset, .unset, .unset, .unset]) rfl k) ?_
  show own_Ends _ _ _ _ _ _ _ (T5.setTop (mkF m 72 #[.val (.int p0), .val (.int p1), .val (.int p2), .val (.int p3), .val (.int p4), .val (.int p5), .val (.int kq), .val (.int bq), .val (.int ze), .val (.long tf), .second, .val (.long ln), .second, .val (.long av), .second, .val (.ref b1), .unset, .unset, .unset, .unset, .unset, .unset, .unset, .unset] []))
  refine own_go (fun _ k => XS.aload X5.here hx rfl (hb hby at_72) rfl rfl k) ?_
  show own_Ends _ _ _ _ _ _ _ (T5.setTop (mkF m 74 #[.val (.int p0), .val (.int p1), .val (.int p2), .val (.int p3), .val (.int p4), .val (.int p5), .val (.int kq), .val (.int bq), .val (.int ze), .val (.long tf), .second, .val (.long ln), .second, .val (.long av), .second, .val (.ref b1), .unset, .unset, .unset, .unset, .unset, .unset, .unset, .unset] [(.ref b1)]))
  refine own_go (fun _ k => XS.iloadN X5.here hx rfl (hb hby at_74) rfl k) ?_
  show own_Ends _ _ _ _ _ _ _ (T5.setTop (mkF m 75 #[.val (.int p0), .val (.int p1), .val (.int p2), .val (.int p3), .val (.int p4), .val (.int p5), .val (.int kq), .val (.int bq), .val (.int ze), .val (.long tf), .second, .val (.long ln), .second, .val (.long av), .second, .val (.ref b1), .unset, .unset, .unset, .unset, .unset, .unset, .unset, .unset] [(.int p0), (.ref b1)]))
  refine own_go (fun _ k => XS.i2dS X5.here hx rfl (hb hby at_75) rfl rfl k) ?_
  show own_Ends _ _ _ _ _ _ _ (T5.setTop (mkF m 76 #[.val (.int p0), .val (.int p1), .val (.int p2), .val (.int p3), .val (.int p4), .val (.int p5), .val (.int kq), .val (.int bq), .val (.int ze), .val (.long tf), .second, .val (.long ln), .second, .val (.long av), .second, .val (.ref b1), .unset, .unset, .unset, .unset, .unset, .unset, .unset, .unset] [(.double (FP.i2d p0)), (.ref b1)]))
  refine own_go (fun _ k => XS.lload X5.here hx rfl (hb hby at_76) rfl k) ?_
  show own_Ends _ _ _ _ _ _ _ (T5.setTop (mkF m 78 #[.val (.int p0), .val (.int p1), .val (.int p2), .val (.int p3), .val (.int p4), .val (.int p5), .val (.int kq), .val (.int bq), .val (.int ze), .val (.long tf), .second, .val (.long ln), .second, .val (.long av), .second, .val (.ref b1), .unset, .unset, .unset, .unset, .unset, .unset, .unset, .unset] [(.long tf), (.double (FP.i2d p0)), (.ref b1)]))
  refine own_go (fun _ k => XS.l2i X5.here hx rfl (hb hby at_78) rfl k) ?_
  show own_Ends _ _ _ _ _ _ _ (T5.setTop (mkF m 79 #[.val (.int p0), .val (.int p1), .val (.int p2), .val (.int p3), .val (.int p4), .val (.int p5), .val (.int kq), .val (.int bq), .val (.int ze), .val (.long tf), .second, .val (.long ln), .second, .val (.long av), .second, .val (.ref b1), .unset, .unset, .unset, .unset, .unset, .unset, .unset, .unset] [(.int (tf.toInt32)), (.double (FP.i2d p0)), (.ref b1)]))
  refine own_go (fun _ k => XS.lload X5.here hx rfl (hb hby at_79) rfl k) ?_
  show own_Ends _ _ _ _ _ _ _ (T5.setTop (mkF m 81 #[.val (.int p0), .val (.int p1), .val (.int p2), .val (.int p3), .val (.int p4), .val (.int p5), .val (.int kq), .val (.int bq), .val (.int ze), .val (.long tf), .second, .val (.long ln), .second, .val (.long av), .second, .val (.ref b1), .unset, .unset, .unset, .unset, .unset, .unset, .unset, .unset] [(.long ln), (.int (tf.toInt32)), (.double (FP.i2d p0)), (.ref b1)]))
  refine own_go (fun _ k => XS.lload X5.here hx rfl (hb hby at_81) rfl k) ?_
  show own_Ends _ _ _ _ _ _ _ (T5.setTop (mkF m 83 #[.val (.int p0), .val (.int p1), .val (.int p2), .val (.int p3), .val (.int p4), .val (.int p5), .val (.int kq), .val (.int bq), .val (.int ze), .val (.long tf), .second, .val (.long ln), .second, .val (.long av), .second, .val (.ref b1), .unset, .unset, .unset, .unset, .unset, .unset, .unset, .unset] [(.long av), (.long ln), (.int (tf.toInt32)), (.double (FP.i2d p0)), (.ref b1)]))
  refine own_go (fun _ k => XS.l2dS X5.here hx rfl (hb hby at_83) rfl rfl k) ?_
  show own_Ends _ _ _ _ _ _ _ (T5.setTop (mkF m 84 #[.val (.int p0), .val (.int p1), .val (.int p2), .val (.int p3), .val (.int p4), .val (.int p5), .val (.int kq), .val (.int bq), .val (.int ze), .val (.long tf), .second, .val (.long ln), .second, .val (.long av), .second, .val (.ref b1), .unset, .unset, .unset, .unset, .unset, .unset, .unset, .unset] [(.double (FP.l2d av)), (.long ln), (.int (tf.toInt32)), (.double (FP.i2d p0)), (.ref b1)]))
  obtain ⟨cq7, kq7, q7a, q7b, q7c⟩ := isOf hZ rfl E5_0
  obtain ⟨_, _, ⟨T7, L7, k7, n7⟩, -, X7, ⟨Lc7, hQ7, l7, y7, z7⟩, st7⟩ := X5.virtualBack hx (y := (⟨"com/example/cumaea/cumaea/Bm25", "weight", "(DIJD)D"⟩ : MethodName)) (z := (⟨"com/example/cumaea/cumaea/Bm25", "weight", "(DIJD)D"⟩ : MethodName)) hown (mvT hZ (hw _ (List.mem_of_getElem? (i := 16) rfl))) (mvT hZ (hw _ (List.mem_of_getElem? (i := 17) rfl))) (notFace_of_selects (args := #[]) (mvT hZ (hw _ (List.mem_of_getElem? (i := 19) rfl)))) (mvT hZ (hw _ (List.mem_of_getElem? (i := 19) rfl))) (mvT hZ (hw _ (List.mem_of_getElem? (i := 18) rfl))) (by decide) (backOf (W := 0) (rm3 l Z ar hw [] b1 (FP.i2d p0) (tf.toInt32) ln (FP.l2d av) (FP.ddiv (FP.i2d kq) (4616189618054758400 : UInt64)) (FP.ddiv (FP.i2d bq) (4616189618054758400 : UInt64)) T5.heap n0 F6 hW.1 F5_0 hW.2.1 hW.2.2.1 F5_1 hW.2.2.2.1 hW.2.2.2.2.1 hW.2.2.2.2.2.1 hW.2.2.2.2.2.2.1 hW.2.2.2.2.2.2.2.1 hW.2.2.2.2.2.2.2.2.1 hW.2.2.2.2.2.2.2.2.2) hZ (hw _ (List.mem_of_getElem? (i := 20) rfl)) (hw _ (List.mem_of_getElem? (i := 4) rfl)) (by decide) (by decide)) q7a q7c (g := (mkF m 84 #[.val (.int p0), .val (.int p1), .val (.int p2), .val (.int p3), .val (.int p4), .val (.int p5), .val (.int kq), .val (.int bq), .val (.int ze), .val (.long tf), .second, .val (.long ln), .second, .val (.long av), .second, .val (.ref b1), .unset, .unset, .unset, .unset, .unset, .unset, .unset, .unset] [(.double (FP.l2d av)), (.long ln), (.int (tf.toInt32)), (.double (FP.i2d p0)), (.ref b1)])) rfl (by rw [hml]; rfl) (Steps.refl _) (argsL := [(.double (FP.i2d p0)), (.int (tf.toInt32)), (.long ln), (.double (FP.l2d av))]) (rest := []) (lenOf pd0_1 rfl) rfl (by show 2 * 0 + _ ≤ _; exact Nat.le_of_eq rfl) (hb hby at_84) (fun _ _ => ⟨rfl, rfl, (by decide : 1 + 0 ≤ _), (by decide : 2 + 0 ≤ _)⟩)
  dsimp only [Pt.U, Pt.locs, Pt.cells, Pt.slots] at X7 l7 y7 z7 st7 hQ7
  subst l7 y7 z7
  obtain ⟨rfl, N7q, eq7⟩ := hQ7
  have e7 : T7.heap = T5.heap := eq7
  have N7 := Fr.app N5 N7q
  refine own_go (fun _ k => st7.trans k) ?_
  show own_Ends _ _ _ _ _ _ _ (T7.setTop (mkF m 87 #[.val (.int p0), .val (.int p1), .val (.int p2), .val (.int p3), .val (.int p4), .val (.int p5), .val (.int kq), .val (.int bq), .val (.int ze), .val (.long tf), .second, .val (.long ln), .second, .val (.long av), .second, .val (.ref b1), .unset, .unset, .unset, .unset, .unset, .unset, .unset, .unset] [(.double (f3 b1 (FP.i2d p0) (tf.toInt32) ln (FP.l2d av) (FP.ddiv (FP.i2d kq) (4616189618054758400 : UInt64)) (FP.ddiv (FP.i2d bq) (4616189618054758400 : UInt64))))]))
  refine own_go (fun _ k => XS.dstore X7.here hx rfl (hb hby at_87) rfl (l' := #[.val (.int p0), .val (.int p1), .val (.int p2), .val (.int p3), .val (.int p4), .val (.int p5), .val (.int kq), .val (.int bq), .val (.int ze), .val (.long tf), .second, .val (.long ln), .second, .val (.long av), .second, .val (.ref b1), .val (.double (f3 b1 (FP.i2d p0) (tf.toInt32) ln (FP.l2d av) (FP.ddiv (FP.i2d kq) (4616189618054758400 : UInt64)) (FP.ddiv (FP.i2d bq) (4616189618054758400 : UInt64)))), .second, .unset, .unset, .unset, .unset, .unset, .unset]) rfl k) ?_
  suffices hjwv : ∀ wv : UInt64, wv = (f3 b1 (FP.i2d p0) (tf.toInt32) ln (FP.l2d av) (FP.ddiv (FP.i2d kq) (4616189618054758400 : UInt64)) (FP.ddiv (FP.i2d bq) (4616189618054758400 : UInt64))) → own_Ends p e below s (Q0 Z p0 p1 p2 p3 p4 p5 h0 n0) 16 128 (T7.setTop (mkF m 89 #[.val (.int p0), .val (.int p1), .val (.int p2), .val (.int p3), .val (.int p4), .val (.int p5), .val (.int kq), .val (.int bq), .val (.int ze), .val (.long tf), .second, .val (.long ln), .second, .val (.long av), .second, .val (.ref b1), .val (.double wv), .second, .unset, .unset, .unset, .unset, .unset, .unset] [])) by exact hjwv _ rfl
  intro wv hwv
  show own_Ends _ _ _ _ _ _ _ (T7.setTop (mkF m 89 #[.val (.int p0), .val (.int p1), .val (.int p2), .val (.int p3), .val (.int p4), .val (.int p5), .val (.int kq), .val (.int bq), .val (.int ze), .val (.long tf), .second, .val (.long ln), .second, .val (.long av), .second, .val (.ref b1), .val (.double wv), .second, .unset, .unset, .unset, .unset, .unset, .unset] []))
  refine own_go (fun _ k => XS.iloadN X7.here hx rfl (hb hby at_89) rfl k) ?_
  show own_Ends _ _ _ _ _ _ _ (T7.setTop (mkF m 90 #[.val (.int p0), .val (.int p1), .val (.int p2), .val (.int p3), .val (.int p4), .val (.int p5), .val (.int kq), .val (.int bq), .val (.int ze), .val (.long tf), .second, .val (.long ln), .second, .val (.long av), .second, .val (.ref b1), .val (.double wv), .second, .unset, .unset, .unset, .unset, .unset, .unset] [(.int p0)]))
  refine own_go (fun _ k => XS.i2l X7.here hx rfl (hb hby at_90) rfl k) ?_
  show own_Ends _ _ _ _ _ _ _ (T7.setTop (mkF m 91 #[.val (.int p0), .val (.int p1), .val (.int p2), .val (.int p3), .val (.int p4), .val (.int p5), .val (.int kq), .val (.int bq), .val (.int ze), .val (.long tf), .second, .val (.long ln), .second, .val (.long av), .second, .val (.ref b1), .val (.double wv), .second, .unset, .unset, .unset, .unset, .unset, .unset] [(.long (p0.toInt64))]))
  refine own_go (fun _ k => XS.lload X7.here hx rfl (hb hby at_91) rfl k) ?_
  show own_Ends _ _ _ _ _ _ _ (T7.setTop (mkF m 93 #[.val (.int p0), .val (.int p1), .val (.int p2), .val (.int p3), .val (.int p4), .val (.int p5), .val (.int kq), .val (.int bq), .val (.int ze), .val (.long tf), .second, .val (.long ln), .second, .val (.long av), .second, .val (.ref b1), .val (.double wv), .second, .unset, .unset, .unset, .unset, .unset, .unset] [(.long tf), (.long (p0.toInt64))]))
  refine own_go (fun _ k => XS.lmul X7.here hx rfl (hb hby at_93) rfl k) ?_
  show own_Ends _ _ _ _ _ _ _ (T7.setTop (mkF m 94 #[.val (.int p0), .val (.int p1), .val (.int p2), .val (.int p3), .val (.int p4), .val (.int p5), .val (.int kq), .val (.int bq), .val (.int ze), .val (.long tf), .second, .val (.long ln), .second, .val (.long av), .second, .val (.ref b1), .val (.double wv), .second, .unset, .unset, .unset, .unset, .unset, .unset] [(.long ((p0.toInt64) * tf))]))
  refine own_go (fun _ k => XS.iload X7.here hx rfl (hb hby at_94) rfl k) ?_
  show own_Ends _ _ _ _ _ _ _ (T7.setTop (mkF m 96 #[.val (.int p0), .val (.int p1), .val (.int p2), .val (.int p3), .val (.int p4), .val (.int p5), .val (.int kq), .val (.int bq), .val (.int ze), .val (.long tf), .second, .val (.long ln), .second, .val (.long av), .second, .val (.ref b1), .val (.double wv), .second, .unset, .unset, .unset, .unset, .unset, .unset] [(.int kq), (.long ((p0.toInt64) * tf))]))
  refine own_go (fun _ k => XS.iconst X7.here hx rfl (hb hby at_96) k) ?_
  show own_Ends _ _ _ _ _ _ _ (T7.setTop (mkF m 97 #[.val (.int p0), .val (.int p1), .val (.int p2), .val (.int p3), .val (.int p4), .val (.int p5), .val (.int kq), .val (.int bq), .val (.int ze), .val (.long tf), .second, .val (.long ln), .second, .val (.long av), .second, .val (.ref b1), .val (.double wv), .second, .unset, .unset, .unset, .unset, .unset, .unset] [(.int (4 : Int32)), (.int kq), (.long ((p0.toInt64) * tf))]))
  refine own_go (fun _ k => XS.iadd X7.here hx rfl (hb hby at_97) rfl k) ?_
  show own_Ends _ _ _ _ _ _ _ (T7.setTop (mkF m 98 #[.val (.int p0), .val (.int p1), .val (.int p2), .val (.int p3), .val (.int p4), .val (.int p5), .val (.int kq), .val (.int bq), .val (.int ze), .val (.long tf), .second, .val (.long ln), .second, .val (.long av), .second, .val (.ref b1), .val (.double wv), .second, .unset, .unset, .unset, .unset, .unset, .unset] [(.int (kq + (4 : Int32))), (.long ((p0.toInt64) * tf))]))
  refine own_go (fun _ k => XS.i2l X7.here hx rfl (hb hby at_98) rfl k) ?_
  show own_Ends _ _ _ _ _ _ _ (T7.setTop (mkF m 99 #[.val (.int p0), .val (.int p1), .val (.int p2), .val (.int p3), .val (.int p4), .val (.int p5), .val (.int kq), .val (.int bq), .val (.int ze), .val (.long tf), .second, .val (.long ln), .second, .val (.long av), .second, .val (.ref b1), .val (.double wv), .second, .unset, .unset, .unset, .unset, .unset, .unset] [(.long ((kq + (4 : Int32)).toInt64)), (.long ((p0.toInt64) * tf))]))
  refine own_go (fun _ k => XS.lmul X7.here hx rfl (hb hby at_99) rfl k) ?_
  show own_Ends _ _ _ _ _ _ _ (T7.setTop (mkF m 100 #[.val (.int p0), .val (.int p1), .val (.int p2), .val (.int p3), .val (.int p4), .val (.int p5), .val (.int kq), .val (.int bq), .val (.int ze), .val (.long tf), .second, .val (.long ln), .second, .val (.long av), .second, .val (.ref b1), .val (.double wv), .second, .unset, .unset, .unset, .unset, .unset, .unset] [(.long (((p0.toInt64) * tf) * ((kq + (4 : Int32)).toInt64)))]))
  refine own_go (fun _ k => XS.lstore X7.here hx rfl (hb hby at_100) rfl (l' := #[.val (.int p0), .val (.int p1), .val (.int p2), .val (.int p3), .val (.int p4), .val (.int p5), .val (.int kq), .val (.int bq), .val (.int ze), .val (.long tf), .second, .val (.long ln), .second, .val (.long av), .second, .val (.ref b1), .val (.double wv), .second, .val (.long (((p0.toInt64) * tf) * ((kq + (4 : Int32)).toInt64))), .second, .unset, .unset, .unset, .unset]) rfl k) ?_
  suffices hjtp : ∀ tp : Int64, tp = (((p0.toInt64) * tf) * ((kq + (4 : Int32)).toInt64)) → own_Ends p e below s (Q0 Z p0 p1 p2 p3 p4 p5 h0 n0) 16 128 (T7.setTop (mkF m 102 #[.val (.int p0), .val (.int p1), .val (.int p2), .val (.int p3), .val (.int p4), .val (.int p5), .val (.int kq), .val (.int bq), .val (.int ze), .val (.long tf), .second, .val (.long ln), .second, .val (.long av), .second, .val (.ref b1), .val (.double wv), .second, .val (.long tp), .second, .unset, .unset, .unset, .unset] [])) by exact hjtp _ rfl
  intro tp htp
  show own_Ends _ _ _ _ _ _ _ (T7.setTop (mkF m 102 #[.val (.int p0), .val (.int p1), .val (.int p2), .val (.int p3), .val (.int p4), .val (.int p5), .val (.int kq), .val (.int bq), .val (.int ze), .val (.long tf), .second, .val (.long ln), .second, .val (.long av), .second, .val (.ref b1), .val (.double wv), .second, .val (.long tp), .second, .unset, .unset, .unset, .unset] []))
  refine own_go (fun _ k => X7.ldc2Long hx hown (mvT hZ (hw _ (List.mem_of_getElem? (i := 21) rfl))) (g := (mkF m 102 #[.val (.int p0), .val (.int p1), .val (.int p2), .val (.int p3), .val (.int p4), .val (.int p5), .val (.int kq), .val (.int bq), .val (.int ze), .val (.long tf), .second, .val (.long ln), .second, .val (.long av), .second, .val (.ref b1), .val (.double wv), .second, .val (.long tp), .second, .unset, .unset, .unset, .unset] [])) rfl (hb hby at_102) _ k) ?_
  show own_Ends _ _ _ _ _ _ _ (T7.setTop (mkF m 105 #[.val (.int p0), .val (.int p1), .val (.int p2), .val (.int p3), .val (.int p4), .val (.int p5), .val (.int kq), .val (.int bq), .val (.int ze), .val (.long tf), .second, .val (.long ln), .second, .val (.long av), .second, .val (.ref b1), .val (.double wv), .second, .val (.long tp), .second, .unset, .unset, .unset, .unset] [(.long (16 : Int64))]))
  refine own_go (fun _ k => XS.lload X7.here hx rfl (hb hby at_105) rfl k) ?_
  show own_Ends _ _ _ _ _ _ _ (T7.setTop (mkF m 107 #[.val (.int p0), .val (.int p1), .val (.int p2), .val (.int p3), .val (.int p4), .val (.int p5), .val (.int kq), .val (.int bq), .val (.int ze), .val (.long tf), .second, .val (.long ln), .second, .val (.long av), .second, .val (.ref b1), .val (.double wv), .second, .val (.long tp), .second, .unset, .unset, .unset, .unset] [(.long av), (.long (16 : Int64))]))
  refine own_go (fun _ k => XS.lmul X7.here hx rfl (hb hby at_107) rfl k) ?_
  show own_Ends _ _ _ _ _ _ _ (T7.setTop (mkF m 108 #[.val (.int p0), .val (.int p1), .val (.int p2), .val (.int p3), .val (.int p4), .val (.int p5), .val (.int kq), .val (.int bq), .val (.int ze), .val (.long tf), .second, .val (.long ln), .second, .val (.long av), .second, .val (.ref b1), .val (.double wv), .second, .val (.long tp), .second, .unset, .unset, .unset, .unset] [(.long ((16 : Int64) * av))]))
  refine own_go (fun _ k => XS.lload X7.here hx rfl (hb hby at_108) rfl k) ?_
  show own_Ends _ _ _ _ _ _ _ (T7.setTop (mkF m 110 #[.val (.int p0), .val (.int p1), .val (.int p2), .val (.int p3), .val (.int p4), .val (.int p5), .val (.int kq), .val (.int bq), .val (.int ze), .val (.long tf), .second, .val (.long ln), .second, .val (.long av), .second, .val (.ref b1), .val (.double wv), .second, .val (.long tp), .second, .unset, .unset, .unset, .unset] [(.long tf), (.long ((16 : Int64) * av))]))
  refine own_go (fun _ k => XS.lmul X7.here hx rfl (hb hby at_110) rfl k) ?_
  show own_Ends _ _ _ _ _ _ _ (T7.setTop (mkF m 111 #[.val (.int p0), .val (.int p1), .val (.int p2), .val (.int p3), .val (.int p4), .val (.int p5), .val (.int kq), .val (.int bq), .val (.int ze), .val (.long tf), .second, .val (.long ln), .second, .val (.long av), .second, .val (.ref b1), .val (.double wv), .second, .val (.long tp), .second, .unset, .unset, .unset, .unset] [(.long (((16 : Int64) * av) * tf))]))
  refine own_go (fun _ k => XS.iload X7.here hx rfl (hb hby at_111) rfl k) ?_
  show own_Ends _ _ _ _ _ _ _ (T7.setTop (mkF m 113 #[.val (.int p0), .val (.int p1), .val (.int p2), .val (.int p3), .val (.int p4), .val (.int p5), .val (.int kq), .val (.int bq), .val (.int ze), .val (.long tf), .second, .val (.long ln), .second, .val (.long av), .second, .val (.ref b1), .val (.double wv), .second, .val (.long tp), .second, .unset, .unset, .unset, .unset] [(.int kq), (.long (((16 : Int64) * av) * tf))]))
  refine own_go (fun _ k => XS.i2l X7.here hx rfl (hb hby at_113) rfl k) ?_
  show own_Ends _ _ _ _ _ _ _ (T7.setTop (mkF m 114 #[.val (.int p0), .val (.int p1), .val (.int p2), .val (.int p3), .val (.int p4), .val (.int p5), .val (.int kq), .val (.int bq), .val (.int ze), .val (.long tf), .second, .val (.long ln), .second, .val (.long av), .second, .val (.ref b1), .val (.double wv), .second, .val (.long tp), .second, .unset, .unset, .unset, .unset] [(.long (kq.toInt64)), (.long (((16 : Int64) * av) * tf))]))
  refine own_go (fun _ k => XS.iconst X7.here hx rfl (hb hby at_114) k) ?_
  show own_Ends _ _ _ _ _ _ _ (T7.setTop (mkF m 115 #[.val (.int p0), .val (.int p1), .val (.int p2), .val (.int p3), .val (.int p4), .val (.int p5), .val (.int kq), .val (.int bq), .val (.int ze), .val (.long tf), .second, .val (.long ln), .second, .val (.long av), .second, .val (.ref b1), .val (.double wv), .second, .val (.long tp), .second, .unset, .unset, .unset, .unset] [(.int (4 : Int32)), (.long (kq.toInt64)), (.long (((16 : Int64) * av) * tf))]))
  refine own_go (fun _ k => XS.iload X7.here hx rfl (hb hby at_115) rfl k) ?_
  show own_Ends _ _ _ _ _ _ _ (T7.setTop (mkF m 117 #[.val (.int p0), .val (.int p1), .val (.int p2), .val (.int p3), .val (.int p4), .val (.int p5), .val (.int kq), .val (.int bq), .val (.int ze), .val (.long tf), .second, .val (.long ln), .second, .val (.long av), .second, .val (.ref b1), .val (.double wv), .second, .val (.long tp), .second, .unset, .unset, .unset, .unset] [(.int bq), (.int (4 : Int32)), (.long (kq.toInt64)), (.long (((16 : Int64) * av) * tf))]))
  refine own_go (fun _ k => XS.isub X7.here hx rfl (hb hby at_117) rfl k) ?_
  show own_Ends _ _ _ _ _ _ _ (T7.setTop (mkF m 118 #[.val (.int p0), .val (.int p1), .val (.int p2), .val (.int p3), .val (.int p4), .val (.int p5), .val (.int kq), .val (.int bq), .val (.int ze), .val (.long tf), .second, .val (.long ln), .second, .val (.long av), .second, .val (.ref b1), .val (.double wv), .second, .val (.long tp), .second, .unset, .unset, .unset, .unset] [(.int ((4 : Int32) - bq)), (.long (kq.toInt64)), (.long (((16 : Int64) * av) * tf))]))
  refine own_go (fun _ k => XS.i2l X7.here hx rfl (hb hby at_118) rfl k) ?_
  show own_Ends _ _ _ _ _ _ _ (T7.setTop (mkF m 119 #[.val (.int p0), .val (.int p1), .val (.int p2), .val (.int p3), .val (.int p4), .val (.int p5), .val (.int kq), .val (.int bq), .val (.int ze), .val (.long tf), .second, .val (.long ln), .second, .val (.long av), .second, .val (.ref b1), .val (.double wv), .second, .val (.long tp), .second, .unset, .unset, .unset, .unset] [(.long (((4 : Int32) - bq).toInt64)), (.long (kq.toInt64)), (.long (((16 : Int64) * av) * tf))]))
  refine own_go (fun _ k => XS.lload X7.here hx rfl (hb hby at_119) rfl k) ?_
  show own_Ends _ _ _ _ _ _ _ (T7.setTop (mkF m 121 #[.val (.int p0), .val (.int p1), .val (.int p2), .val (.int p3), .val (.int p4), .val (.int p5), .val (.int kq), .val (.int bq), .val (.int ze), .val (.long tf), .second, .val (.long ln), .second, .val (.long av), .second, .val (.ref b1), .val (.double wv), .second, .val (.long tp), .second, .unset, .unset, .unset, .unset] [(.long av), (.long (((4 : Int32) - bq).toInt64)), (.long (kq.toInt64)), (.long (((16 : Int64) * av) * tf))]))
  refine own_go (fun _ k => XS.lmul X7.here hx rfl (hb hby at_121) rfl k) ?_
  show own_Ends _ _ _ _ _ _ _ (T7.setTop (mkF m 122 #[.val (.int p0), .val (.int p1), .val (.int p2), .val (.int p3), .val (.int p4), .val (.int p5), .val (.int kq), .val (.int bq), .val (.int ze), .val (.long tf), .second, .val (.long ln), .second, .val (.long av), .second, .val (.ref b1), .val (.double wv), .second, .val (.long tp), .second, .unset, .unset, .unset, .unset] [(.long ((((4 : Int32) - bq).toInt64) * av)), (.long (kq.toInt64)), (.long (((16 : Int64) * av) * tf))]))
  refine own_go (fun _ k => XS.iload X7.here hx rfl (hb hby at_122) rfl k) ?_
  show own_Ends _ _ _ _ _ _ _ (T7.setTop (mkF m 124 #[.val (.int p0), .val (.int p1), .val (.int p2), .val (.int p3), .val (.int p4), .val (.int p5), .val (.int kq), .val (.int bq), .val (.int ze), .val (.long tf), .second, .val (.long ln), .second, .val (.long av), .second, .val (.ref b1), .val (.double wv), .second, .val (.long tp), .second, .unset, .unset, .unset, .unset] [(.int bq), (.long ((((4 : Int32) - bq).toInt64) * av)), (.long (kq.toInt64)), (.long (((16 : Int64) * av) * tf))]))
  refine own_go (fun _ k => XS.i2l X7.here hx rfl (hb hby at_124) rfl k) ?_
  show own_Ends _ _ _ _ _ _ _ (T7.setTop (mkF m 125 #[.val (.int p0), .val (.int p1), .val (.int p2), .val (.int p3), .val (.int p4), .val (.int p5), .val (.int kq), .val (.int bq), .val (.int ze), .val (.long tf), .second, .val (.long ln), .second, .val (.long av), .second, .val (.ref b1), .val (.double wv), .second, .val (.long tp), .second, .unset, .unset, .unset, .unset] [(.long (bq.toInt64)), (.long ((((4 : Int32) - bq).toInt64) * av)), (.long (kq.toInt64)), (.long (((16 : Int64) * av) * tf))]))
  refine own_go (fun _ k => XS.lload X7.here hx rfl (hb hby at_125) rfl k) ?_
  show own_Ends _ _ _ _ _ _ _ (T7.setTop (mkF m 127 #[.val (.int p0), .val (.int p1), .val (.int p2), .val (.int p3), .val (.int p4), .val (.int p5), .val (.int kq), .val (.int bq), .val (.int ze), .val (.long tf), .second, .val (.long ln), .second, .val (.long av), .second, .val (.ref b1), .val (.double wv), .second, .val (.long tp), .second, .unset, .unset, .unset, .unset] [(.long ln), (.long (bq.toInt64)), (.long ((((4 : Int32) - bq).toInt64) * av)), (.long (kq.toInt64)), (.long (((16 : Int64) * av) * tf))]))
  refine own_go (fun _ k => XS.lmul X7.here hx rfl (hb hby at_127) rfl k) ?_
  show own_Ends _ _ _ _ _ _ _ (T7.setTop (mkF m 128 #[.val (.int p0), .val (.int p1), .val (.int p2), .val (.int p3), .val (.int p4), .val (.int p5), .val (.int kq), .val (.int bq), .val (.int ze), .val (.long tf), .second, .val (.long ln), .second, .val (.long av), .second, .val (.ref b1), .val (.double wv), .second, .val (.long tp), .second, .unset, .unset, .unset, .unset] [(.long ((bq.toInt64) * ln)), (.long ((((4 : Int32) - bq).toInt64) * av)), (.long (kq.toInt64)), (.long (((16 : Int64) * av) * tf))]))
  refine own_go (fun _ k => XS.ladd X7.here hx rfl (hb hby at_128) rfl k) ?_
  show own_Ends _ _ _ _ _ _ _ (T7.setTop (mkF m 129 #[.val (.int p0), .val (.int p1), .val (.int p2), .val (.int p3), .val (.int p4), .val (.int p5), .val (.int kq), .val (.int bq), .val (.int ze), .val (.long tf), .second, .val (.long ln), .second, .val (.long av), .second, .val (.ref b1), .val (.double wv), .second, .val (.long tp), .second, .unset, .unset, .unset, .unset] [(.long (((((4 : Int32) - bq).toInt64) * av) + ((bq.toInt64) * ln))), (.long (kq.toInt64)), (.long (((16 : Int64) * av) * tf))]))
  refine own_go (fun _ k => XS.lmul X7.here hx rfl (hb hby at_129) rfl k) ?_
  show own_Ends _ _ _ _ _ _ _ (T7.setTop (mkF m 130 #[.val (.int p0), .val (.int p1), .val (.int p2), .val (.int p3), .val (.int p4), .val (.int p5), .val (.int kq), .val (.int bq), .val (.int ze), .val (.long tf), .second, .val (.long ln), .second, .val (.long av), .second, .val (.ref b1), .val (.double wv), .second, .val (.long tp), .second, .unset, .unset, .unset, .unset] [(.long ((kq.toInt64) * (((((4 : Int32) - bq).toInt64) * av) + ((bq.toInt64) * ln)))), (.long (((16 : Int64) * av) * tf))]))
  refine own_go (fun _ k => XS.ladd X7.here hx rfl (hb hby at_130) rfl k) ?_
  show own_Ends _ _ _ _ _ _ _ (T7.setTop (mkF m 131 #[.val (.int p0), .val (.int p1), .val (.int p2), .val (.int p3), .val (.int p4), .val (.int p5), .val (.int kq), .val (.int bq), .val (.int ze), .val (.long tf), .second, .val (.long ln), .second, .val (.long av), .second, .val (.ref b1), .val (.double wv), .second, .val (.long tp), .second, .unset, .unset, .unset, .unset] [(.long ((((16 : Int64) * av) * tf) + ((kq.toInt64) * (((((4 : Int32) - bq).toInt64) * av) + ((bq.toInt64) * ln)))))]))
  refine own_go (fun _ k => XS.lstore X7.here hx rfl (hb hby at_131) rfl (l' := #[.val (.int p0), .val (.int p1), .val (.int p2), .val (.int p3), .val (.int p4), .val (.int p5), .val (.int kq), .val (.int bq), .val (.int ze), .val (.long tf), .second, .val (.long ln), .second, .val (.long av), .second, .val (.ref b1), .val (.double wv), .second, .val (.long tp), .second, .val (.long ((((16 : Int64) * av) * tf) + ((kq.toInt64) * (((((4 : Int32) - bq).toInt64) * av) + ((bq.toInt64) * ln))))), .second, .unset, .unset]) rfl k) ?_
  suffices hjbt : ∀ bt : Int64, bt = ((((16 : Int64) * av) * tf) + ((kq.toInt64) * (((((4 : Int32) - bq).toInt64) * av) + ((bq.toInt64) * ln)))) → own_Ends p e below s (Q0 Z p0 p1 p2 p3 p4 p5 h0 n0) 16 128 (T7.setTop (mkF m 133 #[.val (.int p0), .val (.int p1), .val (.int p2), .val (.int p3), .val (.int p4), .val (.int p5), .val (.int kq), .val (.int bq), .val (.int ze), .val (.long tf), .second, .val (.long ln), .second, .val (.long av), .second, .val (.ref b1), .val (.double wv), .second, .val (.long tp), .second, .val (.long bt), .second, .unset, .unset] [])) by exact hjbt _ rfl
  intro bt hbt
  have hI := hIn tp bt htp hbt
  have n142 := (own_fa hI).noNaN
  have n143 := (own_tq hI).noNaN
  have n147 := own_no (own_same hI).2.2
  show own_Ends _ _ _ _ _ _ _ (T7.setTop (mkF m 133 #[.val (.int p0), .val (.int p1), .val (.int p2), .val (.int p3), .val (.int p4), .val (.int p5), .val (.int kq), .val (.int bq), .val (.int ze), .val (.long tf), .second, .val (.long ln), .second, .val (.long av), .second, .val (.ref b1), .val (.double wv), .second, .val (.long tp), .second, .val (.long bt), .second, .unset, .unset] []))
  refine own_go (fun _ k => XS.lload X7.here hx rfl (hb hby at_133) rfl k) ?_
  show own_Ends _ _ _ _ _ _ _ (T7.setTop (mkF m 135 #[.val (.int p0), .val (.int p1), .val (.int p2), .val (.int p3), .val (.int p4), .val (.int p5), .val (.int kq), .val (.int bq), .val (.int ze), .val (.long tf), .second, .val (.long ln), .second, .val (.long av), .second, .val (.ref b1), .val (.double wv), .second, .val (.long tp), .second, .val (.long bt), .second, .unset, .unset] [(.long tp)]))
  refine own_go (fun _ k => XS.l2dS X7.here hx rfl (hb hby at_135) rfl rfl k) ?_
  show own_Ends _ _ _ _ _ _ _ (T7.setTop (mkF m 136 #[.val (.int p0), .val (.int p1), .val (.int p2), .val (.int p3), .val (.int p4), .val (.int p5), .val (.int kq), .val (.int bq), .val (.int ze), .val (.long tf), .second, .val (.long ln), .second, .val (.long av), .second, .val (.ref b1), .val (.double wv), .second, .val (.long tp), .second, .val (.long bt), .second, .unset, .unset] [(.double (FP.l2d tp))]))
  refine own_go (fun _ k => X7.ldc2DoubleC hx hown (mvT hZ (hw _ (List.mem_of_getElem? (i := 5) rfl))) (g := (mkF m 136 #[.val (.int p0), .val (.int p1), .val (.int p2), .val (.int p3), .val (.int p4), .val (.int p5), .val (.int kq), .val (.int bq), .val (.int ze), .val (.long tf), .second, .val (.long ln), .second, .val (.long av), .second, .val (.ref b1), .val (.double wv), .second, .val (.long tp), .second, .val (.long bt), .second, .unset, .unset] [(.double (FP.l2d tp))])) rfl (hb hby at_136) _ k) ?_
  show own_Ends _ _ _ _ _ _ _ (T7.setTop (mkF m 139 #[.val (.int p0), .val (.int p1), .val (.int p2), .val (.int p3), .val (.int p4), .val (.int p5), .val (.int kq), .val (.int bq), .val (.int ze), .val (.long tf), .second, .val (.long ln), .second, .val (.long av), .second, .val (.ref b1), .val (.double wv), .second, .val (.long tp), .second, .val (.long bt), .second, .unset, .unset] [(.double (4616189618054758400 : UInt64)), (.double (FP.l2d tp))]))
  refine own_go (fun _ k => XS.lload X7.here hx rfl (hb hby at_139) rfl k) ?_
  show own_Ends _ _ _ _ _ _ _ (T7.setTop (mkF m 141 #[.val (.int p0), .val (.int p1), .val (.int p2), .val (.int p3), .val (.int p4), .val (.int p5), .val (.int kq), .val (.int bq), .val (.int ze), .val (.long tf), .second, .val (.long ln), .second, .val (.long av), .second, .val (.ref b1), .val (.double wv), .second, .val (.long tp), .second, .val (.long bt), .second, .unset, .unset] [(.long av), (.double (4616189618054758400 : UInt64)), (.double (FP.l2d tp))]))
  refine own_go (fun _ k => XS.l2dS X7.here hx rfl (hb hby at_141) rfl rfl k) ?_
  show own_Ends _ _ _ _ _ _ _ (T7.setTop (mkF m 142 #[.val (.int p0), .val (.int p1), .val (.int p2), .val (.int p3), .val (.int p4), .val (.int p5), .val (.int kq), .val (.int bq), .val (.int ze), .val (.long tf), .second, .val (.long ln), .second, .val (.long av), .second, .val (.ref b1), .val (.double wv), .second, .val (.long tp), .second, .val (.long bt), .second, .unset, .unset] [(.double (FP.l2d av)), (.double (4616189618054758400 : UInt64)), (.double (FP.l2d tp))]))
  refine own_go (fun _ k => XS.dmulS X7.here hx rfl (hb hby at_142) rfl n142 rfl k) ?_
  show own_Ends _ _ _ _ _ _ _ (T7.setTop (mkF m 143 #[.val (.int p0), .val (.int p1), .val (.int p2), .val (.int p3), .val (.int p4), .val (.int p5), .val (.int kq), .val (.int bq), .val (.int ze), .val (.long tf), .second, .val (.long ln), .second, .val (.long av), .second, .val (.ref b1), .val (.double wv), .second, .val (.long tp), .second, .val (.long bt), .second, .unset, .unset] [(.double (FP.dmul (4616189618054758400 : UInt64) (FP.l2d av))), (.double (FP.l2d tp))]))
  refine own_go (fun _ k => XS.dmulS X7.here hx rfl (hb hby at_143) rfl n143 rfl k) ?_
  show own_Ends _ _ _ _ _ _ _ (T7.setTop (mkF m 144 #[.val (.int p0), .val (.int p1), .val (.int p2), .val (.int p3), .val (.int p4), .val (.int p5), .val (.int kq), .val (.int bq), .val (.int ze), .val (.long tf), .second, .val (.long ln), .second, .val (.long av), .second, .val (.ref b1), .val (.double wv), .second, .val (.long tp), .second, .val (.long bt), .second, .unset, .unset] [(.double (FP.dmul (FP.l2d tp) (FP.dmul (4616189618054758400 : UInt64) (FP.l2d av))))]))
  refine own_go (fun _ k => XS.lload X7.here hx rfl (hb hby at_144) rfl k) ?_
  show own_Ends _ _ _ _ _ _ _ (T7.setTop (mkF m 146 #[.val (.int p0), .val (.int p1), .val (.int p2), .val (.int p3), .val (.int p4), .val (.int p5), .val (.int kq), .val (.int bq), .val (.int ze), .val (.long tf), .second, .val (.long ln), .second, .val (.long av), .second, .val (.ref b1), .val (.double wv), .second, .val (.long tp), .second, .val (.long bt), .second, .unset, .unset] [(.long bt), (.double (FP.dmul (FP.l2d tp) (FP.dmul (4616189618054758400 : UInt64) (FP.l2d av))))]))
  refine own_go (fun _ k => XS.l2dS X7.here hx rfl (hb hby at_146) rfl rfl k) ?_
  show own_Ends _ _ _ _ _ _ _ (T7.setTop (mkF m 147 #[.val (.int p0), .val (.int p1), .val (.int p2), .val (.int p3), .val (.int p4), .val (.int p5), .val (.int kq), .val (.int bq), .val (.int ze), .val (.long tf), .second, .val (.long ln), .second, .val (.long av), .second, .val (.ref b1), .val (.double wv), .second, .val (.long tp), .second, .val (.long bt), .second, .unset, .unset] [(.double (FP.l2d bt)), (.double (FP.dmul (FP.l2d tp) (FP.dmul (4616189618054758400 : UInt64) (FP.l2d av))))]))
  refine own_go (fun _ k => XS.ddivS X7.here hx rfl (hb hby at_147) rfl n147 rfl k) ?_
  show own_Ends _ _ _ _ _ _ _ (T7.setTop (mkF m 148 #[.val (.int p0), .val (.int p1), .val (.int p2), .val (.int p3), .val (.int p4), .val (.int p5), .val (.int kq), .val (.int bq), .val (.int ze), .val (.long tf), .second, .val (.long ln), .second, .val (.long av), .second, .val (.ref b1), .val (.double wv), .second, .val (.long tp), .second, .val (.long bt), .second, .unset, .unset] [(.double (FP.ddiv (FP.dmul (FP.l2d tp) (FP.dmul (4616189618054758400 : UInt64) (FP.l2d av))) (FP.l2d bt)))]))
  refine own_go (fun _ k => XS.dstore X7.here hx rfl (hb hby at_148) rfl (l' := #[.val (.int p0), .val (.int p1), .val (.int p2), .val (.int p3), .val (.int p4), .val (.int p5), .val (.int kq), .val (.int bq), .val (.int ze), .val (.long tf), .second, .val (.long ln), .second, .val (.long av), .second, .val (.ref b1), .val (.double wv), .second, .val (.long tp), .second, .val (.long bt), .second, .val (.double (FP.ddiv (FP.dmul (FP.l2d tp) (FP.dmul (4616189618054758400 : UInt64) (FP.l2d av))) (FP.l2d bt))), .second]) rfl k) ?_
  suffices hjxv : ∀ xv : UInt64, xv = (FP.ddiv (FP.dmul (FP.l2d tp) (FP.dmul (4616189618054758400 : UInt64) (FP.l2d av))) (FP.l2d bt)) → own_Ends p e below s (Q0 Z p0 p1 p2 p3 p4 p5 h0 n0) 16 128 (T7.setTop (mkF m 150 #[.val (.int p0), .val (.int p1), .val (.int p2), .val (.int p3), .val (.int p4), .val (.int p5), .val (.int kq), .val (.int bq), .val (.int ze), .val (.long tf), .second, .val (.long ln), .second, .val (.long av), .second, .val (.ref b1), .val (.double wv), .second, .val (.long tp), .second, .val (.long bt), .second, .val (.double xv), .second] [])) by exact hjxv _ rfl
  intro xv hxv
  show own_Ends _ _ _ _ _ _ _ (T7.setTop (mkF m 150 #[.val (.int p0), .val (.int p1), .val (.int p2), .val (.int p3), .val (.int p4), .val (.int p5), .val (.int kq), .val (.int bq), .val (.int ze), .val (.long tf), .second, .val (.long ln), .second, .val (.long av), .second, .val (.ref b1), .val (.double wv), .second, .val (.long tp), .second, .val (.long bt), .second, .val (.double xv), .second] []))
  refine own_go (fun _ k => XS.dload X7.here hx rfl (hb hby at_150) rfl k) ?_
  show own_Ends _ _ _ _ _ _ _ (T7.setTop (mkF m 152 #[.val (.int p0), .val (.int p1), .val (.int p2), .val (.int p3), .val (.int p4), .val (.int p5), .val (.int kq), .val (.int bq), .val (.int ze), .val (.long tf), .second, .val (.long ln), .second, .val (.long av), .second, .val (.ref b1), .val (.double wv), .second, .val (.long tp), .second, .val (.long bt), .second, .val (.double xv), .second] [(.double wv)]))
  refine own_go (fun _ k => XS.dload X7.here hx rfl (hb hby at_152) rfl k) ?_
  show own_Ends _ _ _ _ _ _ _ (T7.setTop (mkF m 154 #[.val (.int p0), .val (.int p1), .val (.int p2), .val (.int p3), .val (.int p4), .val (.int p5), .val (.int kq), .val (.int bq), .val (.int ze), .val (.long tf), .second, .val (.long ln), .second, .val (.long av), .second, .val (.ref b1), .val (.double wv), .second, .val (.long tp), .second, .val (.long bt), .second, .val (.double xv), .second] [(.double xv), (.double wv)]))
  refine own_go (fun _ k => XS.dcmpS X7.here hx rfl (hb hby at_154) rfl rfl k) ?_
  show own_Ends _ _ _ _ _ _ _ (T7.setTop (mkF m 155 #[.val (.int p0), .val (.int p1), .val (.int p2), .val (.int p3), .val (.int p4), .val (.int p5), .val (.int kq), .val (.int bq), .val (.int ze), .val (.long tf), .second, .val (.long ln), .second, .val (.long av), .second, .val (.ref b1), .val (.double wv), .second, .val (.long tp), .second, .val (.long bt), .second, .val (.double xv), .second] [(.int (cmpValue (FP.dcmp wv xv) .l))]))
  refine own_go (fun _ k => XS.ifNo X7.here hx rfl (hb hby at_155) rfl ((if0 _ _).trans (teq (by rw [hwv, hxv]; exact own_dcmp (own_same hI).2.1 (own_same hI).2.2 (own_same hI).1 _)).2) k) ?_
  show own_Ends _ _ _ _ _ _ _ (T7.setTop (mkF m 158 #[.val (.int p0), .val (.int p1), .val (.int p2), .val (.int p3), .val (.int p4), .val (.int p5), .val (.int kq), .val (.int bq), .val (.int ze), .val (.long tf), .second, .val (.long ln), .second, .val (.long av), .second, .val (.ref b1), .val (.double wv), .second, .val (.long tp), .second, .val (.long bt), .second, .val (.double xv), .second] []))
  refine own_go (fun _ k => XS.iconst X7.here hx rfl (hb hby at_158) k) ?_
  show own_Ends _ _ _ _ _ _ _ (T7.setTop (mkF m 159 #[.val (.int p0), .val (.int p1), .val (.int p2), .val (.int p3), .val (.int p4), .val (.int p5), .val (.int kq), .val (.int bq), .val (.int ze), .val (.long tf), .second, .val (.long ln), .second, .val (.long av), .second, .val (.ref b1), .val (.double wv), .second, .val (.long tp), .second, .val (.long bt), .second, .val (.double xv), .second] [(.int (1 : Int32))]))
  refine own_go (fun _ k => XS.goto X7.here hx rfl (pc0 := 159) (pc' := 163) rfl (hb hby at_159) (by decide) (by decide) k) ?_
  show own_Ends _ _ _ _ _ _ _ (T7.setTop (mkF m 163 #[.val (.int p0), .val (.int p1), .val (.int p2), .val (.int p3), .val (.int p4), .val (.int p5), .val (.int kq), .val (.int bq), .val (.int ze), .val (.long tf), .second, .val (.long ln), .second, .val (.long av), .second, .val (.ref b1), .val (.double wv), .second, .val (.long tp), .second, .val (.long bt), .second, .val (.double xv), .second] [(.int (1 : Int32))]))
  exact own_retN X7 hx hlk (t := .boolean) Bd.returns (by simp) (hb hby at_163) (by decide) (by decide) ⟨rfl, N7⟩
set_option maxRecDepth 65536 in
set_option maxHeartbeats 40000000 in
theorem comes_1 {Post : Tables → Env → Array Value → State → Outcome → State → Prop} (hpost : ∀ tb e args s v u, (limb_1_1.after args s (.returned v) u = true ∧ limb_1_2.after args s (.returned v) u = true ∧ True) → FrameEnd s (.returned v) u (Jvm.fieldLocs frame_1_writes args s ++ Jvm.arrayLocs frame_1_arrays args s ++ Jvm.staticLocs frame_1_statics s) 16 128 → Post tb e args s (.returned v) u) :
    ArmFor flags0 classFile x code maxLocals ret World_1 tables_1 room_1 Calls_1 rest_1 Pre_1 Post := by
  intro l hfl _ _ p e ha hc hk s m args below hf hA hF happ hP
  obtain ⟨hcalls, hrest, hpre⟩ := hP
  obtain ⟨-, -, -, hnamed, -, -, -, hat⟩ := (Spec.applies_iff hf).mp happ
  obtain ⟨hg, hn⟩ := and_e (Cond.before_iff.mp (show (Jvm.Cond.and given_1 narrow_1).before args s = true from hpre))
  obtain ⟨hcount, hg0⟩ := and_e hg
  obtain ⟨ga0, hg1⟩ := and_e hg0
  obtain ⟨ga1, hg2⟩ := and_e hg1
  obtain ⟨ga2, hg3⟩ := and_e hg2
  obtain ⟨ga3, hg4⟩ := and_e hg3
  obtain ⟨ga4, hg5⟩ := and_e hg4
  obtain ⟨w0, w1, w2, w3, w4, w5, rfl⟩ : ∃ w0 w1 w2 w3 w4 w5 : Value, args = #[w0, w1, w2, w3, w4, w5] := by
    have hs : args.size = 6 := by simpa [Cond.value, given_1] using hcount
    obtain ⟨L⟩ := args
    match L, hs with
    | [w0, w1, w2, w3, w4, w5], _ => exact ⟨w0, w1, w2, w3, w4, w5, rfl⟩
  have hw := fun d (hd : d ∈ tables_1) => atoms_spec (ws := Jvm.Cond.code x code maxLocals ret :: tables_1) hat d (List.mem_cons_of_mem _ hd)
  have hfit : Fit s := fun {y c} hc i hi => by
    obtain ⟨ha, rfl⟩ := Array.getElem?_eq_some_iff.mp hc
    have q := List.all_eq_true.mp ((Array.all_eq_true_iff_forall_mem.mp hF) _ (Array.getElem_mem ha)) i (List.mem_range.mpr hi)
    simpa [Array.getElem?_eq_getElem hi] using q
  obtain ⟨p0, ei0⟩ := is_v ga0
  obtain rfl : w0 = (.int p0) := Option.some.inj ei0
  obtain ⟨p1, ei1⟩ := is_v ga1
  obtain rfl : w1 = (.int p1) := Option.some.inj ei1
  obtain ⟨p2, ei2⟩ := is_v ga2
  obtain rfl : w2 = (.int p2) := Option.some.inj ei2
  obtain ⟨p3, ei3⟩ := is_v ga3
  obtain rfl : w3 = (.int p3) := Option.some.inj ei3
  obtain ⟨p4, ei4⟩ := is_v ga4
  obtain rfl : w4 = (.int p4) := Option.some.inj ei4
  obtain ⟨p5, ei5⟩ := is_v hg5
  obtain rfl : w5 = (.int p5) := Option.some.inj ei5
  obtain ⟨n, o, h1, h2, h3, _, L, rfl, ⟨rfl, N⟩, hq⟩ := rm0 l s _ hw tables_1 p0 p1 p2 p3 p4 p5 s.heap s.heap.size (Old.start s) p e ha hc hk s m _ below hf ((Spec.applies_iff_loose hf).mp happ).1 ⟨rfl, State.Warmed39.refl s, rfl⟩ trivial
  refine ⟨n, _, h1, h2, h3, hpost _ _ _ _ _ _ ⟨Cond.after_iff.mpr rfl, Cond.after_iff.mpr (eq_i res_at (Term.int_eval (1)) rfl), trivial⟩ ⟨hq.1, hq.2.1, (hq.2.2.sift fun y hy => Or.inr (N y hy)).mono (by decide) (by decide)⟩⟩
theorem main_1_1 : Claimed_1_1 := comes_1 fun _ _ _ _ _ _ h hF => ⟨h.1, hF⟩
theorem main_1_2 : Claimed_1_2 := comes_1 fun _ _ _ _ _ _ h hF => ⟨h.2.1, hF⟩
end Jvm.Pilot.@@N@@
namespace Jvm.Pilot.@@N@@
open Jvm Jvm.ClassFile Sem Op Lib Jvm.Free Jvm.Stand Jvm.Pilot.@@N@@.Jvm.D
/-! MADE BY PROGRAM (witnessworld.py) out of the Statement's table words and the real class files: 10 classes; the members and pool entries that the words name. The judged class is class 1, her method 1. -/
namespace start1
open Jvm.ClassFile
def u (s : String) : CpInfo := .utf8 (stringToUtf16 s)
/-- a pool by its gaps: so many unusable entries, then the entry; so many at the end -/
def gap : Nat → List CpInfo → List CpInfo
  | 0, r => r
  | n + 1, r => .unusable :: gap n r
def poolList (es : List (Nat × CpInfo)) (last : Nat) : List CpInfo := es.foldr (fun e r => gap e.1 (e.2 :: r)) (gap last [])
def pool (es : List (Nat × CpInfo)) (last : Nat) : Array CpInfo := ⟨poolList es last⟩
def fileOf (pool : Array CpInfo) (this : Nat) (attrs : Array Attribute := #[]) (ms : Array MethodInfo := #[]) (fl : Nat := 33) (sup : Nat := 0) (ifs : Array Nat := #[]) (fds : Array FieldInfo := #[]) : ClassFile where
  minorVersion := 0
  majorVersion := 65
  constantPool := pool
  accessFlags := fl
  thisClass := this
  superClass := sup
  interfaces := ifs
  fields := fds
  methods := ms
  attributes := attrs
def plain (name : String) (sup : Option ClassId) : Class where
  name := name
  kind := .ordinary
  loader := none
  accessFlags := 33
  super := sup
  interfaces := #[]
  cf := none
  fields := #[]
  methods := #[]
  instanceTypes := #[]
  staticTypes := #[]
  resolved := #[]
  callSites := []
  init := .initialized
  statics := none
  mirror := none

def pool0 : Array CpInfo := pool [(5, u "<init>"), (0, u "()V"), (1, .class_ 10), (1, u "java/lang/Object")] 113

def k0c0 : Code := { maxStack := 0, maxLocals := 1, code := object_method_1_code, exceptionTable := #[], attributes := #[] }
def k0m0 : Method := { name := "<init>", desc := "()V", sig := { parameters := [], returnType := none }, accessFlags := 1, code := some k0c0 }
/-- java/lang/Object -/
def k0 : Class := { plain "java/lang/Object" none with
  accessFlags := 33
  interfaces := #[]
  cf := some (fileOf pool0 8 #[] #[{ accessFlags := 1, nameIndex := 5, descriptorIndex := 6, attributes := #[] }] 33 0 #[] #[])
  fields := #[]
  methods := #[k0m0]
  instanceTypes := #[]
  staticTypes := #[]
  resolved := Array.replicate 124 none
  statics := none }

def pool1 : Array CpInfo := pool [(2, .class_ 4), (1, u "java/lang/Object"), (0, u "<init>"), (0, u "()V"), (0, .integer 2147483647), (0, .long 2147483647), (1, .class_ 11), (0, u "com/example/cumaea/cumaea/Bm25"), (0, .double 4616189618054758400), (1, .methodref 10 15), (0, .nameAndType 5 16), (0, u "(DD)V"), (0, .methodref 10 18), (0, .nameAndType 19 20), (0, u "weight"), (0, u "(DIJD)D"), (0, .long 16), (1, .class_ 24), (0, u "com/example/cumaea/cumaea/Bm25WeightPinLaw"), (2, u "law"), (0, u "(IIIIII)Z")] 3

def k1m0 : Method := { name := "<init>", desc := "()V", sig := { parameters := [], returnType := none }, accessFlags := 1, code := none }
def k1c1 : Code := { maxStack := 10, maxLocals := 24, code := code, exceptionTable := #[], attributes := #[] }
def k1m1 : Method := { name := "law", desc := "(IIIIII)Z", sig := { parameters := [.int, .int, .int, .int, .int, .int], returnType := some .boolean }, accessFlags := 9, code := some k1c1 }
/-- com/example/cumaea/cumaea/Bm25WeightPinLaw -/
def k1 : Class := { plain "com/example/cumaea/cumaea/Bm25WeightPinLaw" (some 0) with
  accessFlags := 49
  interfaces := #[]
  cf := some (fileOf pool1 23 #[] #[{ accessFlags := 1, nameIndex := 5, descriptorIndex := 6, attributes := #[] }, { accessFlags := 9, nameIndex := 27, descriptorIndex := 28, attributes := #[] }] 49 2 #[] #[])
  fields := #[]
  methods := #[k1m0, k1m1]
  instanceTypes := #[]
  staticTypes := #[]
  resolved := Array.replicate 32 none
  statics := none }

def pool2 : Array CpInfo := pool [(1, .class_ 2), (0, u "com/example/cumaea/cumaea/ScoringModel"), (0, .class_ 4), (0, u "java/lang/Object"), (7, .class_ 13), (0, u "com/example/cumaea/cumaea/ScoringModel$TermWeight")] 2

/-- com/example/cumaea/cumaea/ScoringModel -/
def k2 : Class := { plain "com/example/cumaea/cumaea/ScoringModel" (some 0) with
  accessFlags := 1537
  interfaces := #[]
  cf := some (fileOf pool2 1 #[.nestMembers #[12]] #[] 1537 3 #[] #[])
  fields := #[]
  methods := #[]
  instanceTypes := #[]
  staticTypes := #[]
  resolved := Array.replicate 16 none
  statics := none }

def pool3 : Array CpInfo := pool [(1, .methodref 2 3), (0, .class_ 4), (0, .nameAndType 5 6), (0, u "java/lang/Object"), (0, u "<init>"), (0, u "()V"), (10, .fieldref 18 19), (0, .class_ 20), (0, .nameAndType 21 22), (0, u "com/example/cumaea/cumaea/Bm25"), (0, u "k1"), (0, u "D"), (0, .fieldref 18 24), (0, .nameAndType 25 22), (0, u "b"), (31, u "weight"), (0, u "(DIJD)D"), (6, u "(DD)V"), (2, u "STANDARD"), (0, u "Lcom/example/cumaea/cumaea/Bm25;"), (0, .class_ 71), (0, u "com/example/cumaea/cumaea/ScoringModel"), (0, u "NAME"), (0, u "Ljava/lang/String;")] 46

def k3c0 : Code := { maxStack := 4, maxLocals := 5, code := prog_5_method_1_code, exceptionTable := #[], attributes := #[] }
def k3m0 : Method := { name := "<init>", desc := "(DD)V", sig := { parameters := [.double, .double], returnType := none }, accessFlags := 1, code := some k3c0 }
def k3c1 : Code := { maxStack := 12, maxLocals := 8, code := prog_5_method_5_code, exceptionTable := #[], attributes := #[] }
def k3m1 : Method := { name := "weight", desc := "(DIJD)D", sig := { parameters := [.double, .int, .long, .double], returnType := some .double }, accessFlags := 1, code := some k3c1 }
/-- com/example/cumaea/cumaea/Bm25 -/
def k3 : Class := { plain "com/example/cumaea/cumaea/Bm25" (some 0) with
  accessFlags := 33
  interfaces := #[2]
  cf := some (fileOf pool3 18 #[] #[{ accessFlags := 1, nameIndex := 5, descriptorIndex := 65, attributes := #[] }, { accessFlags := 1, nameIndex := 57, descriptorIndex := 58, attributes := #[] }] 33 2 #[70] #[{ accessFlags := 25, nameIndex := 68, descriptorIndex := 69, attributes := #[] }, { accessFlags := 24, nameIndex := 72, descriptorIndex := 73, attributes := #[] }, { accessFlags := 18, nameIndex := 21, descriptorIndex := 22, attributes := #[] }, { accessFlags := 18, nameIndex := 25, descriptorIndex := 22, attributes := #[] }])
  fields := #[{ name := "STANDARD", type := (.object "com/example/cumaea/cumaea/Bm25"), accessFlags := 25, slot := 0, constantValue := 0 }, { name := "NAME", type := (.object "java/lang/String"), accessFlags := 24, slot := 1, constantValue := 0 }, { name := "k1", type := .double, accessFlags := 18, slot := 0, constantValue := 0 }, { name := "b", type := .double, accessFlags := 18, slot := 1, constantValue := 0 }]
  methods := #[k3m0, k3m1]
  instanceTypes := #[.double, .double]
  staticTypes := #[(.object "com/example/cumaea/cumaea/Bm25"), (.object "java/lang/String")]
  resolved := Array.replicate 120 none
  statics := none }

def pool4 : Array CpInfo := pool [(1, u "java/lang/Cloneable"), (0, .class_ 1), (0, u "java/lang/Object"), (0, .class_ 3)] 3

/-- java/lang/Cloneable -/
def k4 : Class := { plain "java/lang/Cloneable" (some 0) with
  accessFlags := 1537
  interfaces := #[]
  cf := some (fileOf pool4 2 #[] #[] 1537 4 #[] #[])
  fields := #[]
  methods := #[]
  instanceTypes := #[]
  staticTypes := #[]
  resolved := Array.replicate 8 none
  statics := none }

def pool5 : Array CpInfo := pool [(1, u "java/io/Serializable"), (0, .class_ 1), (0, u "java/lang/Object"), (0, .class_ 3)] 3

/-- java/io/Serializable -/
def k5 : Class := { plain "java/io/Serializable" (some 0) with
  accessFlags := 1537
  interfaces := #[]
  cf := some (fileOf pool5 2 #[] #[] 1537 4 #[] #[])
  fields := #[]
  methods := #[]
  instanceTypes := #[]
  staticTypes := #[]
  resolved := Array.replicate 8 none
  statics := none }

/-- the primitive byte -/
def k6 : Class := { plain "byte" none with kind := .primitive 'B', accessFlags := 0x411 }
/-- [B -/
def k7 : Class := { plain "[B" (some 0) with kind := .array 6 .byte, interfaces := #[4, 5], accessFlags := 1041 }

/-- the primitive int -/
def k8 : Class := { plain "int" none with kind := .primitive 'I', accessFlags := 0x411 }
/-- [I -/
def k9 : Class := { plain "[I" (some 0) with kind := .array 8 .int, interfaces := #[4, 5], accessFlags := 1041 }

def heap : Heap := #[]
def classes : Array Class := #[k0, k1, k2, k3, k4, k5, k6, k7, k8, k9]
def interned : List (Array UInt16 × Addr) := []
def slotsUsed : Nat := 0
def theMethod : MethodId := ⟨1, 1⟩
def args0 : Array Value := #[.int 5, .int 3, .int 20, .int 1, .int 7, .int 3]
def aboutOver (below : List Frame) : State where
  vm := { classes := classes, interned := interned.toArray }
  heap := heap
  slotsUsed := slotsUsed
  threads := #[{ frames := .invoking theMethod args0 :: below }]
def below0 : List Frame := [.native { method := ⟨0, 0⟩, args := #[] }]
def about1 : State := aboutOver below0
def p0 : Program := .bare "" "" ""
def e0 : Env := launch0.env 0 0 0
theorem w_frames : about1.frames = Frame.invoking theMethod args0 :: below0 := rfl
set_option maxRecDepth 65536 in
theorem w_args : argsFit about1.vm theMethod args0 = true := by decide +kernel
set_option maxRecDepth 65536 in
theorem w_heap : heapFits about1 = true := by decide +kernel
set_option maxRecDepth 65536 in
theorem w_runnable : about1.curStatus? = some .runnable := by decide +kernel
set_option maxRecDepth 65536 in
theorem w_alone : about1.alone = true := by decide +kernel
set_option maxRecDepth 65536 in
theorem w_named : about1.methodNamed? x = some theMethod := by decide +kernel
set_option maxRecDepth 65536 in
theorem w_hears : about1.hears theMethod below0 = true := by decide +kernel
set_option maxRecDepth 65536 in
theorem w_ripe : about1.ripe theMethod args0 below0 = true := by decide +kernel
theorem w_running : about1.status = .running := rfl
set_option maxRecDepth 65536 in
theorem w_room : about1.hasRoom e0.platform room_1 = true :=
  launch0.hasRoom_least _ room_1 (by decide +kernel) (by decide +kernel) (by decide +kernel) (by decide +kernel) (by decide +kernel) (by decide +kernel)
theorem allAtoms_all (ts : List Jvm.Cond) (a : Array Jvm.Value) (st : Jvm.State) : (allAtoms ts).before a st = ts.all (fun c => c.before a st) := by
  induction ts with
  | nil => rfl
  | cons c t ih =>
    show (Jvm.Cond.and c (allAtoms t)).before a st = _
    rw [Jvm.Cond.before_and, ih, List.all_cons]
def words1 : List Jvm.Cond := Jvm.Cond.code x code maxLocals ret :: tables_1
/-- a 'code' word, met by the world's own term for the bytes: nothing is compared byte by byte -/
theorem code_word {y : MethodName} {bytes : ByteArray} {mx : Nat} {rt : Option FieldType} {a : Array Value} {s : State} {m : MethodId} {meth : Method} {c : Code} (h1 : s.methodNamed? y = some m) (h2 : s.vm.method? m = some meth) (h3 : meth.code = some c) (h4 : c.code = bytes)
    (h5 : (c.maxLocals == mx && c.exceptionTable.isEmpty && decide (c.maxStack ≤ mostOperands) && decide (meth.sig.returnType = rt) && !meth.locks && decide (parseMethodDescriptor y.desc = some meth.sig)) = true) : (Jvm.Cond.code y bytes mx rt).before a s = true := by
  simp only [Bool.and_eq_true, beq_iff_eq, Bool.not_eq_true', decide_eq_true_eq] at h5
  obtain ⟨⟨⟨⟨⟨g1, g2⟩, g3⟩, g4⟩, g5⟩, g6⟩ := h5
  simp [Cond.before, Cond.holds, Cond.value, h1, h2, h3, h4, g1, g2, g3, g4, g5, g6]
def isCode : Jvm.Cond → Bool
  | .code _ _ _ _ => true
  | _ => false
theorem all_split {L : List Jvm.Cond} {P : Jvm.Cond → Bool} (h1 : L.all (fun c => isCode c || P c) = true) (h2 : ∀ c ∈ L.filter isCode, P c = true) : L.all P = true := by
  refine List.all_eq_true.mpr fun c hc => ?_
  have h := List.all_eq_true.mp h1 c hc
  rcases Bool.eq_false_or_eq_true (isCode c) with hi | hi
  · exact h2 c (List.mem_filter.mpr ⟨hc, hi⟩)
  · simpa [hi] using h
set_option maxRecDepth 65536 in
theorem w_c0 : (Jvm.Cond.code x code maxLocals ret).before args0 about1 = true := code_word (m := ⟨1, 1⟩) (meth := k1m1) (c := k1c1) (by decide +kernel) rfl rfl rfl (by decide +kernel)
set_option maxRecDepth 65536 in
theorem w_c1 : (Jvm.Cond.code ({ cls := "com/example/cumaea/cumaea/Bm25", name := "<init>", desc := "(DD)V" } : Jvm.MethodName) prog_5_method_1_code (5 : Nat) (Option.none : Option Jvm.ClassFile.FieldType)).before args0 about1 = true := code_word (m := ⟨3, 0⟩) (meth := k3m0) (c := k3c0) (by decide +kernel) rfl rfl rfl (by decide +kernel)
set_option maxRecDepth 65536 in
theorem w_c2 : (Jvm.Cond.code ({ cls := "java/lang/Object", name := "<init>", desc := "()V" } : Jvm.MethodName) object_method_1_code (1 : Nat) (Option.none : Option Jvm.ClassFile.FieldType)).before args0 about1 = true := code_word (m := ⟨0, 0⟩) (meth := k0m0) (c := k0c0) (by decide +kernel) rfl rfl rfl (by decide +kernel)
set_option maxRecDepth 65536 in
theorem w_c3 : (Jvm.Cond.code ({ cls := "com/example/cumaea/cumaea/Bm25", name := "weight", desc := "(DIJD)D" } : Jvm.MethodName) prog_5_method_5_code (8 : Nat) (Option.some Jvm.ClassFile.FieldType.double)).before args0 about1 = true := code_word (m := ⟨3, 1⟩) (meth := k3m1) (c := k3c1) (by decide +kernel) rfl rfl rfl (by decide +kernel)
def codes1 : List Jvm.Cond := [Jvm.Cond.code x code maxLocals ret, Jvm.Cond.code ({ cls := "com/example/cumaea/cumaea/Bm25", name := "<init>", desc := "(DD)V" } : Jvm.MethodName) prog_5_method_1_code (5 : Nat) (Option.none : Option Jvm.ClassFile.FieldType), Jvm.Cond.code ({ cls := "java/lang/Object", name := "<init>", desc := "()V" } : Jvm.MethodName) object_method_1_code (1 : Nat) (Option.none : Option Jvm.ClassFile.FieldType), Jvm.Cond.code ({ cls := "com/example/cumaea/cumaea/Bm25", name := "weight", desc := "(DIJD)D" } : Jvm.MethodName) prog_5_method_5_code (8 : Nat) (Option.some Jvm.ClassFile.FieldType.double)]
set_option maxRecDepth 65536 in
theorem codes_eq : words1.filter isCode = codes1 := rfl
theorem w_codes : ∀ c ∈ words1.filter isCode, c.before args0 about1 = true := by
  rw [codes_eq]
  intro c hc
  simp only [codes1, List.mem_cons, List.not_mem_nil, or_false] at hc
  rcases hc with rfl | rfl | rfl | rfl
  · exact w_c0
  · exact w_c1
  · exact w_c2
  · exact w_c3
set_option maxRecDepth 65536 in
theorem w_t1 : words1.all (fun c => isCode c || c.before args0 about1) = true := by decide +kernel
theorem w_tables : (allAtoms (Jvm.Cond.code x code maxLocals ret :: tables_1)).before args0 about1 = true := by
  rw [allAtoms_all]
  show words1.all (fun c => c.before args0 about1) = true
  refine all_split ?_ w_codes
  rw [w_t1]
set_option maxRecDepth 65536 in
theorem w_case : (Jvm.Cond.and given_1 narrow_1).before args0 about1 = true := by decide +kernel
theorem w_applies : (headSpec (Jvm.Cond.code x code maxLocals ret :: tables_1) room_1).applies x e0.platform about1 = true :=
  (Spec.applies_iff w_frames).mpr ⟨w_running, w_runnable, w_alone, w_named, w_hears, w_ripe, w_room, w_tables⟩
theorem atStart : AtStart classFile x code maxLocals ret World_1 tables_1 room_1 Calls_1 rest_1 Pre_1 launch0 p0 e0 about1 theMethod args0 below0 :=
  ⟨lists_1, trivial, launch0.admits_env _ _ _, launch0.least_env, fairChoices_fair.cas, fairChoices_fair.clock, w_frames, w_args, w_heap, w_applies, trivial, trivial, w_case⟩
end start1
theorem witness_1 : WitnessClaimed_1 := ⟨start1.p0, start1.e0, start1.about1, start1.theMethod, start1.args0, start1.below0, start1.atStart⟩
end Jvm.Pilot.@@N@@
