import JvmDerived
import JvmDerived.Pilot.@@N@@Statement
import JvmDerived.Pilot.@@N@@Code
set_option linter.unusedVariables false
set_option linter.unusedSimpArgs false
@@BLOCK:NumsL.lean.txt@@
namespace Jvm.Pilot.@@N@@
open Jvm Jvm.ClassFile Sem Op Lib Jvm.Free Jvm.Stand Jvm.LawKit Jvm.RoadKit Bundle Jvm.Pilot.@@N@@.Jvm.D
theorem own_ne {k : Int32} {n : Int} (z : Int32) (hl : z.toInt = n) (h : ¬ k = z) : n ≠ k.toInt := fun e => h (Int32.toInt_inj.mp (by rw [hl]; exact e.symm))
theorem own_ext {Z : State} {n0 : Nat} {h : Heap} (O : Old Z n0 h) : Ext Z.heap h := O.2
theorem own_sz {Z : State} {n0 : Nat} {h : Heap} (O : Old Z n0 h) : n0 ≤ h.size := by have := O.2.1; rw [O.1] at this; exact this
def own_Ends (p : Program) (e : Env) (below : List Frame) (s : State) (Q : Option Value → Heap → List Loc → Prop) (k n : Nat) (A : State) : Prop :=
  ∃ (U : State) (o : Outcome), Steps p.tables e below A U ∧ U.status = .running ∧ Ended U below o ∧ ∃ v L, o = .returned v ∧ Q v U.heap L ∧ FrameEnd s o U L k n
section OwnKit
variable {p : Program} {l : Launch} {e : Env} {R : Room} {s : State} {m : MethodId} {args : Array Value} {below : List Frame} {meth : Method} {c : Code} {T : State} {locs : List Loc} {cells slots k n : Nat} {Q : Option Value → Heap → List Loc → Prop} {A B : State}
theorem own_go (h : ∀ t, Steps p.tables e below B t → Steps p.tables e below A t) (K : own_Ends p e below s Q k n B) : own_Ends p e below s Q k n A := by
  obtain ⟨U, o, h1, r⟩ := K
  exact ⟨U, o, h U h1, r⟩
theorem own_ret (X : Stand p l e R s m args below meth c T locs cells slots) (hx : p.tables.exec = Jvm.exec) (hlk : meth.locks = false) {pc : Nat} {Ls : Array Slot} {w : Value} {t : FieldType} {i : Instr} {rest : List Value} (hret : meth.sig.returnType = some t) (hn : narrow t w = w)
    (hi : (i = .ireturn ∧ (t = .int ∨ t = .boolean ∨ t = .byte ∨ t = .char ∨ t = .short) ∧ ∃ z, w = .int z) ∨ (i = .lreturn ∧ t = .long ∧ ∃ z, w = .long z) ∨ (i = .dreturn ∧ t = .double ∧ ∃ z, w = .double z) ∨ (i = .freturn ∧ t = .float ∧ ∃ z, w = .float z) ∨ (i = .areturn ∧ t.isReference = true ∧ w.isRef = true))
    (hd : decode c.code pc = .ok (i, 1)) (hk : cells ≤ k) (hs : slots ≤ n) (hQ : Q (some w) T.heap locs) : own_Ends p e below s Q k n (T.setTop (mkF m pc Ls (w :: rest))) := by
  obtain ⟨fs, hr, hrun, hended, hW, hsame⟩ := X.leave (v := some w) (fun h => by rw [hret] at h; cases h) hlk
  exact ⟨_, _, retOut X hx hret hn hi hd hr, hrun, hended, _, _, rfl, hQ, ⟨_, rfl⟩, hW, hsame.mono hk hs⟩
theorem own_retI (X : Stand p l e R s m args below meth c T locs cells slots) (hx : p.tables.exec = Jvm.exec) (hlk : meth.locks = false) {pc : Nat} {Ls : Array Slot} {z : Int32} {rest : List Value} (hret : meth.sig.returnType = some .int) (hd : decode c.code pc = .ok (.ireturn, 1)) (hk : cells ≤ k) (hs : slots ≤ n) (hQ : Q (some (.int z)) T.heap locs) : own_Ends p e below s Q k n (T.setTop (mkF m pc Ls (.int z :: rest))) :=
  own_ret X hx hlk hret rfl (Or.inl ⟨rfl, Or.inl rfl, _, rfl⟩) hd hk hs hQ
theorem own_retJ (X : Stand p l e R s m args below meth c T locs cells slots) (hx : p.tables.exec = Jvm.exec) (hlk : meth.locks = false) {pc : Nat} {Ls : Array Slot} {z : Int64} {rest : List Value} (hret : meth.sig.returnType = some .long) (hd : decode c.code pc = .ok (.lreturn, 1)) (hk : cells ≤ k) (hs : slots ≤ n) (hQ : Q (some (.long z)) T.heap locs) : own_Ends p e below s Q k n (T.setTop (mkF m pc Ls (.long z :: rest))) :=
  own_ret X hx hlk hret rfl (Or.inr (Or.inl ⟨rfl, rfl, _, rfl⟩)) hd hk hs hQ
theorem own_retD (X : Stand p l e R s m args below meth c T locs cells slots) (hx : p.tables.exec = Jvm.exec) (hlk : meth.locks = false) {pc : Nat} {Ls : Array Slot} {z : UInt64} {rest : List Value} (hret : meth.sig.returnType = some .double) (hd : decode c.code pc = .ok (.dreturn, 1)) (hk : cells ≤ k) (hs : slots ≤ n) (hQ : Q (some (.double z)) T.heap locs) : own_Ends p e below s Q k n (T.setTop (mkF m pc Ls (.double z :: rest))) :=
  own_ret X hx hlk hret rfl (Or.inr (Or.inr (Or.inl ⟨rfl, rfl, _, rfl⟩))) hd hk hs hQ
theorem own_retA (X : Stand p l e R s m args below meth c T locs cells slots) (hx : p.tables.exec = Jvm.exec) (hlk : meth.locks = false) {pc : Nat} {Ls : Array Slot} {w : Value} {t : FieldType} {rest : List Value} (hret : meth.sig.returnType = some t) (ht : t.isReference = true) (hw : w.isRef = true) (hn : narrow t w = w) (hd : decode c.code pc = .ok (.areturn, 1)) (hk : cells ≤ k) (hs : slots ≤ n) (hQ : Q (some w) T.heap locs) : own_Ends p e below s Q k n (T.setTop (mkF m pc Ls (w :: rest))) :=
  own_ret X hx hlk hret hn (Or.inr (Or.inr (Or.inr (Or.inr ⟨rfl, ht, hw⟩)))) hd hk hs hQ
theorem own_retN (X : Stand p l e R s m args below meth c T locs cells slots) (hx : p.tables.exec = Jvm.exec) (hlk : meth.locks = false) {pc : Nat} {Ls : Array Slot} {z : Int32} {t : FieldType} {rest : List Value} (hret : meth.sig.returnType = some t) (ht : t = .boolean ∨ t = .byte ∨ t = .char ∨ t = .short) (hd : decode c.code pc = .ok (.ireturn, 1)) (hk : cells ≤ k) (hs : slots ≤ n) (hQ : Q (some (.int (nar t z))) T.heap locs) : own_Ends p e below s Q k n (T.setTop (mkF m pc Ls (.int z :: rest))) := by
  obtain ⟨fs, hr, hrun, hended, hW, hsame⟩ := X.leave (v := some (.int (nar t z))) (fun h => by rw [hret] at h; cases h) hlk
  exact ⟨_, _, retN X hx hret ht hd hr, hrun, hended, _, _, rfl, hQ, ⟨_, rfl⟩, hW, hsame.mono hk hs⟩
theorem own_retV (X : Stand p l e R s m args below meth c T locs cells slots) (hx : p.tables.exec = Jvm.exec) (hlk : meth.locks = false) {pc : Nat} {Ls : Array Slot} (hret : meth.sig.returnType = none) (hd : decode c.code pc = .ok (.return_, 1)) (hk : cells ≤ k) (hs : slots ≤ n) (hQ : Q none T.heap locs) : own_Ends p e below s Q k n (T.setTop (mkF m pc Ls [])) := by
  obtain ⟨fs, hr, hrun, hended, hW, hsame⟩ := X.leave (v := none) (fun _ => rfl) hlk
  exact ⟨_, _, X.returnOut hx hret hd hr, hrun, hended, _, _, rfl, hQ, ⟨_, rfl⟩, hW, hsame.mono hk hs⟩
end OwnKit

def own_Ar (Z : State) (h : Heap) (a : Addr) (ty : FieldType) (n : Nat) (f : Nat → Value) : Prop := ∃ c : Cell, Arr Z h a c ty ∧ c.slots.size = n ∧ ∀ i, i < n → c.slots[i]? = some (f i)
section OwnArr
variable {Z : State} {h h' : Heap} {a b : Addr} {ty : FieldType} {n sl : Nat} {f : Nat → Value} {v : Value} {ws : List Addr}
theorem own_Ar.lt (F : own_Ar Z h a ty n f) : a < h.size := by obtain ⟨c, A, -⟩ := F; exact A.lt
theorem own_Ar.ext (F : own_Ar Z h a ty n f) (E : Ext h h') : own_Ar Z h' a ty n f := by obtain ⟨c, A, r⟩ := F; exact ⟨c, A.ext E, r⟩
theorem own_Ar.other (F : own_Ar Z h b ty n f) (W : Wr h h' a sl v) (q : b ≠ a) : own_Ar Z h' b ty n f := by obtain ⟨c, A, r⟩ := F; exact ⟨c, A.other W q, r⟩
theorem own_Ar.keep (F : own_Ar Z h a ty n f) (K : Keep h h' ws) (q : a ∉ ws) : own_Ar Z h' a ty n f := by obtain ⟨c, A, r⟩ := F; exact ⟨c, ⟨K.2.1 a c A.1 q, A.2⟩, r⟩
theorem own_Ar.at (F : own_Ar Z h a ty n f) (j : Int32) (h0 : ¬ j < 0) (h1 : j.toNatClampNeg < n) : ∃ c : Cell, Arr Z h a c ty ∧ ¬ (j < 0 ∨ c.slots.size ≤ j.toNatClampNeg) ∧ c.slots[j.toNatClampNeg]? = some (f j.toNatClampNeg) := by
  obtain ⟨c, A, e, r⟩ := F
  exact ⟨c, A, fun q => q.elim h0 (fun z => by omega), r _ h1⟩
theorem own_Ar.len (F : own_Ar Z h a ty n f) : ∃ c : Cell, Arr Z h a c ty ∧ c.slots.size.toInt32 = Int32.ofNat n := by
  obtain ⟨c, A, e, r⟩ := F
  exact ⟨c, A, by rw [e]⟩
theorem own_Ar.newI {k : ClassId} {z : Int32} (A : Arr Z h a (newA k ty z) ty) (hz : z.toNatClampNeg = n) (hd : defaultValue ty = .int 0) : own_Ar Z h a ty n (fun _ => .int 0) :=
  ⟨_, A, by rw [sz_new]; exact hz, fun i hi => by simp [newA, hz, hi, hd]⟩
theorem own_Ar.newJ {k : ClassId} {z : Int32} (A : Arr Z h a (newA k .long z) .long) (hz : z.toNatClampNeg = n) : own_Ar Z h a .long n (fun _ => .long 0) :=
  ⟨_, A, by rw [sz_new]; exact hz, fun i hi => by simp [newA, hz, hi, defaultValue]⟩
theorem own_Ar.set (F : own_Ar Z h a ty n f) (W : Wr h h' a sl v) {f' : Nat → Value} (hf : ∀ i, i < n → f' i = if i = sl then v else f i) : own_Ar Z h' a ty n f' := by
  obtain ⟨c, A, e, r⟩ := F
  refine ⟨_, A.same W, by simp [Cell.setSlot, e], fun i hi => ?_⟩
  obtain ⟨c', w1, -, w3, w4⟩ := W
  cases A.1.symm.trans w1
  rw [hf i hi]
  by_cases q : i = sl
  · subst q; simp [Cell.setSlot, w3]
  · rw [if_neg q, ← r i hi]; exact Array.getElem?_setIfInBounds_ne (Ne.symm q)
theorem own_Ar.setI {G : Nat → Int32} {x : Int32} (F : own_Ar Z h a ty n (fun i => .int (G i))) (W : Wr h h' a sl (.int x)) : own_Ar Z h' a ty n (fun i => .int (if i = sl then x else G i)) :=
  F.set W fun i _ => by by_cases q : i = sl <;> simp [q]
theorem own_Ar.setJ {G : Nat → Int64} {x : Int64} (F : own_Ar Z h a ty n (fun i => .long (G i))) (W : Wr h h' a sl (.long x)) : own_Ar Z h' a ty n (fun i => .long (if i = sl then x else G i)) :=
  F.set W fun i _ => by by_cases q : i = sl <;> simp [q]
theorem own_Ar.cong (F : own_Ar Z h a ty n f) {f' : Nat → Value} (hf : ∀ i, i < n → f' i = f i) : own_Ar Z h a ty n f' := by
  obtain ⟨c, A, e, r⟩ := F
  exact ⟨c, A, e, fun i hi => by rw [hf i hi]; exact r i hi⟩
end OwnArr
/-! doubles that are exact: x is the number n * 2^(E - 1074) -/
abbrev own_z (x : UInt64) : Int := FP.Core.zval FP.Core.b64 (FP.Core.val64 x)
def own_D (n : Int) (E : Nat) (x : UInt64) : Prop := FP.Core.DFin x ∧ own_z x = n * 2 ^ E
theorem own_rep (n : Int) (E : Nat) (hn : n.natAbs < 2 ^ 53) (h1 : 52 ≤ E) (h2 : E ≤ 2000) : ∃ V, FP.Core.fits FP.Core.b64 V ∧ V ≠ .nan ∧ FP.Core.zval FP.Core.b64 V = n * 2 ^ E := by
  have qm : FP.Core.b64.qmin = -1074 := by decide
  have qM : FP.Core.b64.qmax = 971 := by decide
  have tl : FP.Core.b64.tails = 2 ^ 52 := by decide
  by_cases h0 : n = 0
  · refine ⟨.fin false 0 FP.Core.b64.qmin, ⟨by decide, Int.le_refl _, by decide, Or.inl rfl⟩, by simp, ?_⟩
    rw [h0, Int.zero_mul]
    simp [FP.Core.zval, FP.Core.zmag, FP.Core.sgn, FP.Core.signed, FP.Core.inUnits]
  · obtain ⟨c, hc⟩ : ∃ c, c = n.natAbs := ⟨_, rfl⟩
    have c0 : c ≠ 0 := by omega
    have l1 := Nat.log2_self_le c0
    have l2 := Nat.lt_log2_self (n := c)
    have l3 : c.log2 < 53 := (Nat.log2_lt c0).mpr (by omega)
    obtain ⟨j, hj⟩ : ∃ j, j = 52 - c.log2 := ⟨_, rfl⟩
    have b1 : c * 2 ^ j < 2 ^ 53 := by
      have : c * 2 ^ j < 2 ^ (c.log2 + 1) * 2 ^ j := Nat.mul_lt_mul_of_pos_right l2 (Nat.two_pow_pos _)
      rwa [← Nat.pow_add, show c.log2 + 1 + j = 53 by omega] at this
    have b2 : 2 ^ 52 ≤ c * 2 ^ j := by
      have : 2 ^ c.log2 * 2 ^ j ≤ c * 2 ^ j := Nat.mul_le_mul_right _ l1
      rwa [← Nat.pow_add, show c.log2 + j = 52 by omega] at this
    refine ⟨.fin (decide (n < 0)) (c * 2 ^ j) ((E : Int) - 1074 - j), ⟨b1, by rw [qm]; omega, by rw [qM]; omega, Or.inr (by rw [tl]; exact b2)⟩, by simp, ?_⟩
    have e : FP.Core.inUnits (c * 2 ^ j) ((E : Int) - 1074 - j) FP.Core.b64.qmin = c * 2 ^ E := by
      rw [FP.Core.inUnits, qm, show ((E : Int) - 1074 - j - -1074).toNat = E - j by omega, Nat.mul_assoc, ← Nat.pow_add, show j + (E - j) = E by omega]
    show FP.Core.signed (decide (n < 0)) (FP.Core.inUnits (c * 2 ^ j) ((E : Int) - 1074 - j) FP.Core.b64.qmin) = _
    rw [e, FP.Core.signed]
    by_cases s : n < 0
    · rw [if_pos (by simpa using s)]
      have : n = -(c : Int) := by omega
      rw [this, Int.neg_mul]; simp
    · rw [if_neg (by simpa using s)]
      have : n = (c : Int) := by omega
      rw [this]; simp
theorem own_fin_of {d : FP.Core.Datum} {n : Int} {E : Nat} (hn : n.natAbs < 2 ^ 53) (hE : E ≤ 2000) (h0 : d ≠ .nan) (h : FP.Core.zval FP.Core.b64 d = n * 2 ^ E) : ∃ s c q, d = .fin s c q := by
  cases d with
  | nan => exact absurd rfl h0
  | fin s c q => exact ⟨s, c, q, rfl⟩
  | inf s =>
    exfalso
    have h1 : (FP.Core.zval FP.Core.b64 (.inf s)).natAbs = 2 ^ 2098 := by cases s <;> decide +kernel
    rw [h, Int.natAbs_mul, Int.natAbs_pow] at h1
    have h2 : n.natAbs * (2 : Int).natAbs ^ E < 2 ^ 53 * 2 ^ 2000 := Nat.mul_lt_mul_of_lt_of_le hn (Nat.pow_le_pow_right (by decide) hE) (Nat.two_pow_pos _)
    rw [h1, ← Nat.pow_add] at h2
    exact absurd h2 (Nat.not_lt.mpr (Nat.pow_le_pow_right (by decide) (by decide)))
theorem own_nn {x : UInt64} (h : FP.Core.DFin x) : FP.Core.val64 x ≠ .nan := by obtain ⟨s, c, q, e⟩ := h; rw [e]; simp
theorem own_D.of {n : Int} {k : Nat} {x : UInt64} (hn : n.natAbs < 2 ^ 53) (hk : k ≤ 2000) (h0 : FP.Core.val64 x ≠ .nan) (h : own_z x = n * 2 ^ k) : own_D n k x := ⟨own_fin_of hn hk h0 h, h⟩
theorem own_D.add {n m : Int} {k : Nat} {x y : UInt64} (hx : own_D n k x) (hy : own_D m k y) (h : (n + m).natAbs < 2 ^ 53) (hk1 : 52 ≤ k := by omega) (hk : k ≤ 2000 := by omega) : own_D (n + m) k (FP.dadd x y) := by
  obtain ⟨V, fV, nV, zV⟩ := own_rep (n + m) k h hk1 hk
  have fx := FP.Core.val64_fits x
  have fy := FP.Core.val64_fits y
  have e : own_z x + own_z y = FP.Core.zval FP.Core.b64 V := by rw [hx.2, hy.2, zV, Int.add_mul]
  have e1 := FP.Core.sum_le FP.Core.good_b64 hx.1 hy.1 fx fy fV nV (Int.le_of_eq e)
  have e2 := FP.Core.sum_ge FP.Core.good_b64 hx.1 hy.1 fx fy fV nV (Int.le_of_eq e.symm)
  refine own_D.of h hk ?_ ?_
  · exact (FP.Core.notNaN_iff _).mp (FP.Core.dadd_out ((FP.Core.notNaN_iff _).mpr (own_nn hx.1)) hy.1)
  · show FP.Core.zval FP.Core.b64 (FP.Core.val64 (FP.Core.dadd x y)) = _
    rw [FP.Core.val64_dadd, ← zV]; omega
theorem own_D.sub {n m : Int} {k : Nat} {x y : UInt64} (hx : own_D n k x) (hy : own_D m k y) (h : (n - m).natAbs < 2 ^ 53) (hk1 : 52 ≤ k := by omega) (hk : k ≤ 2000 := by omega) : own_D (n - m) k (FP.dsub x y) := by
  obtain ⟨V, fV, nV, zV⟩ := own_rep (n - m) k h hk1 hk
  have fx := FP.Core.val64_fits x
  have fy := FP.Core.negate_fits (FP.Core.val64_fits y)
  have hyn : ∃ s c q, FP.Core.negate (FP.Core.val64 y) = .fin s c q := by obtain ⟨s, c, q, e⟩ := hy.1; exact ⟨!s, c, q, by rw [e]; rfl⟩
  have e : own_z x + FP.Core.zval FP.Core.b64 (FP.Core.negate (FP.Core.val64 y)) = FP.Core.zval FP.Core.b64 V := by
    have hy2 : FP.Core.zval FP.Core.b64 (FP.Core.val64 y) = m * 2 ^ k := hy.2
    rw [FP.Core.zval_negate, hx.2, zV, Int.sub_mul, hy2]; omega
  have e1 := FP.Core.sum_le FP.Core.good_b64 hx.1 hyn fx fy fV nV (Int.le_of_eq e)
  have e2 := FP.Core.sum_ge FP.Core.good_b64 hx.1 hyn fx fy fV nV (Int.le_of_eq e.symm)
  refine own_D.of h hk ?_ ?_
  · exact (FP.Core.notNaN_iff _).mp (FP.Core.dsub_out ((FP.Core.notNaN_iff _).mpr (own_nn hx.1)) hy.1)
  · show FP.Core.zval FP.Core.b64 (FP.Core.val64 (FP.Core.dsub x y)) = _
    rw [FP.Core.val64_dsub, ← zV]; omega
theorem own_signed (s t : Bool) (a b : Nat) : FP.Core.signed (s != t) (a * b) = FP.Core.signed s a * FP.Core.signed t b := by
  cases s <;> cases t <;> simp [FP.Core.signed, Int.mul_neg, Int.neg_mul]
theorem own_pw (a b : Nat) : (2 : Int) ^ a * 2 ^ b = 2 ^ (a + b) := (Int.pow_add 2 a b).symm
theorem own_D.mul {n m : Int} {k j g : Nat} {x y : UInt64} (hx : own_D n k x) (hy : own_D m j y) (h : (n * m).natAbs < 2 ^ 53) (hg : g + 1074 = k + j) (hk1 : 52 ≤ g := by omega) (hk : g ≤ 2000 := by omega) : own_D (n * m) g (FP.dmul x y) := by
  obtain ⟨V, fV, nV, zV⟩ := own_rep (n * m) g h hk1 hk
  have fx := FP.Core.val64_fits x
  have fy := FP.Core.val64_fits y
  obtain ⟨⟨s, c, q, ex⟩, zx⟩ := hx
  obtain ⟨⟨t, d, r, ey⟩, zy⟩ := hy
  have nn : FP.Core.val64 (FP.Core.dmul x y) ≠ .nan := (FP.Core.notNaN_iff _).mp (FP.Core.dmul_out ⟨s, c, q, ex⟩ ⟨t, d, r, ey⟩)
  have qm : FP.Core.b64.qmin = -1074 := by decide
  refine own_D.of h hk nn ?_
  show FP.Core.zval FP.Core.b64 (FP.Core.val64 (FP.Core.dmul x y)) = _
  rw [FP.Core.val64_dmul, ex, ey]
  rw [ex] at fx; rw [ey] at fy
  obtain ⟨p1, p2, p3⟩ := FP.Core.product_units fx fy
  have zz : FP.Core.signed (s != t) (FP.Core.inUnits (c * d) (q + r) (2 * FP.Core.b64.qmin)) = FP.Core.zval FP.Core.b64 V * ((2 ^ (FP.Core.b64.qmin - 2 * FP.Core.b64.qmin).toNat : Nat) : Int) := by
    have a1 : FP.Core.signed s (FP.Core.zmag FP.Core.b64 (.fin s c q)) = n * 2 ^ k := by rw [← zx, own_z, ex]; rfl
    have a2 : FP.Core.signed t (FP.Core.zmag FP.Core.b64 (.fin t d r)) = m * 2 ^ j := by rw [← zy, own_z, ey]; rfl
    rw [p3, own_signed, a1, a2, zV, qm, show ((-1074 : Int) - 2 * -1074).toNat = 1074 by decide, Int.natCast_pow]
    show n * 2 ^ k * (m * 2 ^ j) = n * m * 2 ^ g * 2 ^ 1074
    rw [Int.mul_assoc (n * m), own_pw, hg, ← own_pw]
    simp only [Int.mul_assoc, Int.mul_left_comm]
  have e1 := FP.Core.zval_round_le FP.Core.good_b64 fV nV (by rw [qm]; decide) p2 (Int.le_of_eq zz)
  have e2 := FP.Core.zval_round_ge FP.Core.good_b64 fV nV (by rw [qm]; decide) p2 (Int.le_of_eq zz.symm)
  rw [p1, ← zV]; omega
theorem own_zdiv {x y : UInt64} {s t : Bool} {c d : Nat} {q r : Int} (ex : FP.Core.val64 x = .fin s c q) (ey : FP.Core.val64 y = .fin t d r) (hd : d ≠ 0) :
    FP.Core.val64 (FP.Core.ddiv x y) = FP.Core.roundRatio FP.Core.b64 (s != t) (FP.Core.zmag FP.Core.b64 (FP.Core.val64 x)) (FP.Core.zmag FP.Core.b64 (FP.Core.val64 y)) 0 := by
  have fx := FP.Core.val64_fits x
  have fy := FP.Core.val64_fits y
  rw [ex] at fx; rw [ey] at fy
  have h1 := fx.2.1
  have h2 := fy.2.1
  rw [FP.Core.val64_ddiv, ex, ey, FP.Core.quotient, if_neg hd]
  have hz : 0 < FP.Core.zmag FP.Core.b64 (.fin t d r) := Nat.mul_pos (Nat.pos_of_ne_zero hd) (Nat.two_pow_pos _)
  refine FP.Core.roundRatio_congr (Nat.pos_of_ne_zero hd) hz ?_
  show c * (d * 2 ^ (r - FP.Core.b64.qmin).toNat) * 2 ^ (q - r - 0).toNat = c * 2 ^ (q - FP.Core.b64.qmin).toNat * d * 2 ^ (0 - (q - r)).toNat
  have hp : 2 ^ (r - FP.Core.b64.qmin).toNat * 2 ^ (q - r - 0).toNat = 2 ^ (q - FP.Core.b64.qmin).toNat * 2 ^ (0 - (q - r)).toNat := by
    rw [← Nat.pow_add, ← Nat.pow_add]; congr 1; omega
  generalize 2 ^ (r - FP.Core.b64.qmin).toNat = P1 at *
  generalize 2 ^ (q - r - 0).toNat = P2 at *
  generalize 2 ^ (q - FP.Core.b64.qmin).toNat = P3 at *
  generalize 2 ^ (0 - (q - r)).toNat = P4 at *
  rw [show c * (d * P1) * P2 = c * d * (P1 * P2) by ac_rfl, hp]
  ac_rfl
theorem own_ab (s : Bool) (m : Nat) : (FP.Core.signed s m).natAbs = m := by cases s <;> simp [FP.Core.signed]
theorem own_zm {a : Int} {k : Nat} {x : UInt64} (h : own_D a k x) : FP.Core.zmag FP.Core.b64 (FP.Core.val64 x) = a.natAbs * 2 ^ k := by
  rw [← own_ab (FP.Core.sgn (FP.Core.val64 x)) (FP.Core.zmag FP.Core.b64 (FP.Core.val64 x))]
  show (FP.Core.zval FP.Core.b64 (FP.Core.val64 x)).natAbs = _
  rw [show FP.Core.zval FP.Core.b64 (FP.Core.val64 x) = a * 2 ^ k from h.2, Int.natAbs_mul, Int.natAbs_pow]; rfl
/-- an exact quotient -/
theorem own_D.div {a b g : Int} {k j i : Nat} {x y : UInt64} (hx : own_D a k x) (hy : own_D b j y) (hb : b ≠ 0) (hg : g.natAbs < 2 ^ 53) (h : a * 2 ^ k * 2 ^ 1074 = g * 2 ^ i * (b * 2 ^ j)) (hi1 : 52 ≤ i := by omega) (hi : i ≤ 2000 := by omega) : own_D g i (FP.ddiv x y) := by
  obtain ⟨V, fV, nV, zV⟩ := own_rep g i hg hi1 hi
  have x1 := own_zm hx
  have y1 := own_zm hy
  obtain ⟨⟨s, c, q, ex⟩, zx⟩ := hx
  obtain ⟨⟨t, d, r, ey⟩, zy⟩ := hy
  have zx' : FP.Core.signed s (FP.Core.zmag FP.Core.b64 (FP.Core.val64 x)) = a * 2 ^ k := by rw [← zx, own_z, FP.Core.zval, ex]; rfl
  have zy' : FP.Core.signed t (FP.Core.zmag FP.Core.b64 (FP.Core.val64 y)) = b * 2 ^ j := by rw [← zy, own_z, FP.Core.zval, ey]; rfl
  have hd : d ≠ 0 := fun z => by
    rw [ey, z] at zy'
    have : FP.Core.signed t (FP.Core.zmag FP.Core.b64 (.fin t 0 r)) = 0 := by simp [FP.Core.signed, FP.Core.zmag, FP.Core.inUnits]
    rw [this] at zy'
    rcases Int.mul_eq_zero.mp zy'.symm with z | z
    · exact hb z
    · exact absurd z (Int.ne_of_gt (Int.pow_pos (by decide)))
  have e := own_zdiv ex ey hd
  have qm : FP.Core.b64.qmin = -1074 := by decide
  obtain ⟨X, hX⟩ : ∃ X, X = FP.Core.zmag FP.Core.b64 (FP.Core.val64 x) := ⟨_, rfl⟩
  obtain ⟨Y, hY⟩ : ∃ Y, Y = FP.Core.zmag FP.Core.b64 (FP.Core.val64 y) := ⟨_, rfl⟩
  rw [← hX] at zx' e x1; rw [← hY] at zy' e y1
  have hY0 : 0 < Y := by rw [hY, ey]; exact Nat.mul_pos (Nat.pos_of_ne_zero hd) (Nat.two_pow_pos _)
  obtain ⟨M, hM⟩ : ∃ M, M = FP.Core.zmag FP.Core.b64 V := ⟨_, rfl⟩
  have m1 : M = g.natAbs * 2 ^ i := by
    rw [hM, ← own_ab (FP.Core.sgn V) (FP.Core.zmag FP.Core.b64 V)]
    show (FP.Core.zval FP.Core.b64 V).natAbs = _
    rw [zV, Int.natAbs_mul, Int.natAbs_pow]; rfl
  have key : X * 2 ^ 1074 = M * Y := by
    have := congrArg Int.natAbs h
    rw [Int.natAbs_mul, Int.natAbs_mul, Int.natAbs_mul, Int.natAbs_mul, Int.natAbs_mul, Int.natAbs_pow, Int.natAbs_pow, Int.natAbs_pow, Int.natAbs_pow] at this
    rw [x1, y1, m1]; exact this
  have u : FP.Core.inUnits X 0 FP.Core.b64.qmin = FP.Core.zmag FP.Core.b64 V * 2 ^ (FP.Core.b64.qmin - FP.Core.b64.qmin).toNat * Y := by
    rw [FP.Core.inUnits, qm, show ((0 : Int) - -1074).toNat = 1074 by decide, show ((-1074 : Int) - -1074).toNat = 0 by decide, Nat.pow_zero, Nat.mul_one, key, hM]
  have r1 := FP.Core.zmag_roundRatio_le FP.Core.good_b64 (s := (s != t)) hY0 fV nV (Int.le_refl _) (by rw [qm]; decide) (Nat.le_of_eq u)
  have r2 := FP.Core.zmag_roundRatio_ge FP.Core.good_b64 (s := (s != t)) hY0 fV (Int.le_refl _) (by rw [qm]; decide) (Nat.le_of_eq u.symm)
  refine own_D.of hg hi ?_ ?_
  · show FP.Core.val64 (FP.Core.ddiv x y) ≠ _
    rw [e]; exact FP.Core.roundRatio_ne_nan _ _ _ _ _
  · show FP.Core.zval FP.Core.b64 (FP.Core.val64 (FP.Core.ddiv x y)) = _
    rw [e, FP.Core.zval, FP.Core.sgn_roundRatio, show FP.Core.zmag FP.Core.b64 (FP.Core.roundRatio FP.Core.b64 (s != t) X Y 0) = M by rw [hM]; omega]
    have c1 : FP.Core.signed (s != t) M * FP.Core.signed t Y = FP.Core.signed s X * 2 ^ 1074 := by
      have := own_signed (s != t) t M Y
      rw [show ((s != t) != t) = s by cases s <;> cases t <;> rfl, ← key] at this
      rw [← this]
      cases s <;> simp [FP.Core.signed, Int.neg_mul]
    have hy0 : FP.Core.signed t Y ≠ 0 := fun z => by have := own_ab t Y; rw [z] at this; simp at this; omega
    apply Int.eq_of_mul_eq_mul_right hy0
    rw [c1, zx', zy', h]
theorem own_sgn {b : Int} {j : Nat} {y : UInt64} (hy : own_D b j y) (hb : b ≠ 0) : FP.Core.sgn (FP.Core.val64 y) = decide (b < 0) := by
  have z : FP.Core.signed (FP.Core.sgn (FP.Core.val64 y)) (FP.Core.zmag FP.Core.b64 (FP.Core.val64 y)) = b * 2 ^ j := hy.2
  have p : (0 : Int) < 2 ^ j := Int.pow_pos (by decide)
  generalize FP.Core.zmag FP.Core.b64 (FP.Core.val64 y) = M at *
  rcases Int.lt_or_gt_of_ne hb with q | q
  · have : b * 2 ^ j < 0 := Int.mul_neg_of_neg_of_pos q p
    cases hs : FP.Core.sgn (FP.Core.val64 y)
    · rw [hs] at z; simp [FP.Core.signed] at z; omega
    · simp [q]
  · have : 0 < b * 2 ^ j := Int.mul_pos q p
    cases hs : FP.Core.sgn (FP.Core.val64 y)
    · simp; omega
    · rw [hs] at z; simp [FP.Core.signed] at z; omega
/-- two quotients of one worth -/
theorem own_quot {a b a' b' : Int} {k j k' j' : Nat} {x y x' y' : UInt64} (hx : own_D a k x) (hy : own_D b j y) (hx' : own_D a' k' x') (hy' : own_D b' j' y') (hb : 0 < b) (hb' : 0 < b') (h : a * 2 ^ k * (b' * 2 ^ j') = a' * 2 ^ k' * (b * 2 ^ j)) : own_z (FP.ddiv x y) = own_z (FP.ddiv x' y') ∧ FP.Core.val64 (FP.ddiv x y) ≠ .nan ∧ FP.Core.val64 (FP.ddiv x' y') ≠ .nan := by
  have p : ∀ n : Nat, (0 : Int) < 2 ^ n := fun n => Int.pow_pos (by decide)
  have x1 := own_zm hx
  have y1 := own_zm hy
  have x1' := own_zm hx'
  have y1' := own_zm hy'
  have sy := own_sgn hy (by omega)
  have sy' := own_sgn hy' (by omega)
  have sx := fun q => own_sgn hx q
  have sx' := fun q => own_sgn hx' q
  obtain ⟨⟨s, c, q, ex⟩, zx⟩ := hx
  obtain ⟨⟨t, d, r, ey⟩, zy⟩ := hy
  obtain ⟨⟨s', c', q', ex'⟩, zx'⟩ := hx'
  obtain ⟨⟨t', d', r', ey'⟩, zy'⟩ := hy'
  have nz : ∀ {b : Int} {j : Nat} {y : UInt64} {t : Bool} {d : Nat} {r : Int}, FP.Core.val64 y = .fin t d r → FP.Core.zmag FP.Core.b64 (FP.Core.val64 y) = b.natAbs * 2 ^ j → 0 < b → d ≠ 0 := fun {b j y t d r} ey y1 hb z => by
    rw [ey, z] at y1
    have : FP.Core.zmag FP.Core.b64 (.fin t 0 r) = 0 := by simp [FP.Core.zmag, FP.Core.inUnits]
    rw [this] at y1
    have : 0 < b.natAbs * 2 ^ j := Nat.mul_pos (by omega) (Nat.two_pow_pos _)
    omega
  have e := own_zdiv ex ey (nz ey y1 hb)
  have e' := own_zdiv ex' ey' (nz ey' y1' hb')
  rw [x1, y1] at e
  rw [x1', y1'] at e'
  rw [ey] at sy; rw [ey'] at sy'; rw [ex] at sx; rw [ex'] at sx'
  have t0 : t = false := by rw [show t = decide (b < 0) from sy]; simp; omega
  have t0' : t' = false := by rw [show t' = decide (b' < 0) from sy']; simp; omega
  refine ⟨?_, by show FP.Core.val64 (FP.Core.ddiv x y) ≠ _; rw [e]; exact FP.Core.roundRatio_ne_nan _ _ _ _ _, by show FP.Core.val64 (FP.Core.ddiv x' y') ≠ _; rw [e']; exact FP.Core.roundRatio_ne_nan _ _ _ _ _⟩
  show FP.Core.zval FP.Core.b64 (FP.Core.val64 (FP.Core.ddiv x y)) = FP.Core.zval FP.Core.b64 (FP.Core.val64 (FP.Core.ddiv x' y'))
  rw [e, e']
  have B0 : 0 < b.natAbs * 2 ^ j := Nat.mul_pos (by omega) (Nat.two_pow_pos _)
  have B0' : 0 < b'.natAbs * 2 ^ j' := Nat.mul_pos (by omega) (Nat.two_pow_pos _)
  have P := Int.mul_pos hb' (p j')
  have P' := Int.mul_pos hb (p j)
  have hn : a.natAbs * 2 ^ k * (b'.natAbs * 2 ^ j') = a'.natAbs * 2 ^ k' * (b.natAbs * 2 ^ j) := by
    have := congrArg Int.natAbs h
    rw [Int.natAbs_mul, Int.natAbs_mul, Int.natAbs_mul, Int.natAbs_mul, Int.natAbs_mul, Int.natAbs_mul, Int.natAbs_pow, Int.natAbs_pow, Int.natAbs_pow, Int.natAbs_pow] at this
    exact this
  by_cases a0 : a = 0
  · have a0' : a' = 0 := by
      rw [a0, Int.zero_mul, Int.zero_mul] at h
      rcases Int.mul_eq_zero.mp h.symm with z | z
      · rcases Int.mul_eq_zero.mp z with z | z
        · exact z
        · have := p k'; omega
      · omega
    subst a0 a0'
    simp [FP.Core.roundRatio, FP.Core.zval, FP.Core.zmag, FP.Core.inUnits, FP.Core.signed]
  · have a0' : a' ≠ 0 := fun z => by
      rw [z, Int.zero_mul, Int.zero_mul] at h
      rcases Int.mul_eq_zero.mp h with z | z
      · rcases Int.mul_eq_zero.mp z with z | z
        · exact a0 z
        · have := p k; omega
      · omega
    have ss : s = s' := by
      rw [show s = decide (a < 0) from sx a0, show s' = decide (a' < 0) from sx' a0']
      rcases Int.lt_or_gt_of_ne a0 with z | z
      · have l : a * 2 ^ k * (b' * 2 ^ j') < 0 := Int.mul_neg_of_neg_of_pos (Int.mul_neg_of_neg_of_pos z (p k)) P
        rcases Int.lt_or_gt_of_ne a0' with z' | z'
        · simp [z, z']
        · have := Int.mul_pos (Int.mul_pos z' (p k')) P'; omega
      · have l : 0 < a * 2 ^ k * (b' * 2 ^ j') := Int.mul_pos (Int.mul_pos z (p k)) P
        rcases Int.lt_or_gt_of_ne a0' with z' | z'
        · have := Int.mul_neg_of_neg_of_pos (Int.mul_neg_of_neg_of_pos z' (p k')) P'; omega
        · have q1 : ¬ a < 0 := by omega
          have q2 : ¬ a' < 0 := by omega
          simp [q1, q2]
    rw [t0, t0', ss]
    congr 1
    refine FP.Core.roundRatio_congr B0 B0' ?_
    rw [Int.sub_self]; simpa using hn
theorem own_D.l2d {a : Int64} (h : a.toInt.natAbs < 2 ^ 53) : own_D a.toInt 1074 (FP.l2d a) := by
  have w := FP.Core.l2d_whole (a := a) ⟨by omega, by omega⟩
  refine own_D.of h (by decide) (FP.Core.Whole.ne_nan w) ?_
  exact FP.Core.DInt_zval w
theorem own_D.i2d (a : Int32) : own_D a.toInt 1074 (FP.i2d a) := by
  have h1 := Int32.toInt_lt a
  have h2 := Int32.le_toInt a
  have := own_D.l2d (a := a.toInt64) (by rw [Int32.toInt_toInt64]; omega)
  rw [Int32.toInt_toInt64, ← i2d_w] at this
  exact this
theorem own_D.noNaN {n : Int} {k : Nat} {x : UInt64} (h : own_D n k x) : Jvm.Free.Fl.NoNaN64 x := (Jvm.Free.Fl.fin64_core.mpr h.1).noNaN
theorem own_D.up {n : Int} {k j : Nat} {x : UInt64} (h : own_D n (k + j) x) : own_D (n * 2 ^ j) k x := ⟨h.1, by rw [h.2, Int.mul_assoc, own_pw, Nat.add_comm]⟩
theorem own_dcmp {x y : UInt64} (hx : FP.Core.val64 x ≠ .nan) (hy : FP.Core.val64 y ≠ .nan) (h : own_z x = own_z y) (o : CmpOp) : cmpValue (FP.dcmp x y) o = (0 : Int32) := by
  have : FP.dcmp x y = some .eq := by
    show FP.Core.dcmp x y = _
    rw [FP.Core.dcmp_zval hx hy]
    show some (compare (own_z x) (own_z y)) = _
    rw [h, FP.Core.compare_ite]; simp
  rw [this]; cases o <;> rfl
/-- rounding keeps the order of two quotients -/
theorem own_rmono {A B A' B' : Nat} (hB : 0 < B) (hB' : 0 < B') (h : A * B' ≤ A' * B) :
    FP.Core.zmag FP.Core.b64 (FP.Core.roundRatio FP.Core.b64 false A B 0) ≤ FP.Core.zmag FP.Core.b64 (FP.Core.roundRatio FP.Core.b64 false A' B' 0) := by
  have F := FP.Core.roundRatio_fits FP.Core.good_b64 false A hB 0
  have F' := FP.Core.roundRatio_fits FP.Core.good_b64 false A' hB' 0
  have qm : FP.Core.b64.qmin = -1074 := by decide
  have iu : ∀ a : Nat, FP.Core.inUnits a 0 FP.Core.b64.qmin = a * 2 ^ 1074 := fun a => by rw [FP.Core.inUnits, qm]; rfl
  have z0 : (FP.Core.b64.qmin - FP.Core.b64.qmin).toNat = 0 := by rw [Int.sub_self]; rfl
  have lt0 : FP.Core.b64.qmin ≤ 0 := by rw [qm]; decide
  have e1 := FP.Core.zmag_roundRatio_le FP.Core.good_b64 (s := false) (A := A) (e := 0) hB F' (FP.Core.roundRatio_ne_nan _ _ _ _ _) (Int.le_refl _) lt0
  have e2 := FP.Core.zmag_roundRatio_ge FP.Core.good_b64 (s := false) (A := A') (e := 0) hB' F (Int.le_refl _) lt0
  have hI : A * 2 ^ 1074 * B' ≤ A' * 2 ^ 1074 * B := by
    rw [Nat.mul_right_comm A, Nat.mul_right_comm A']; exact Nat.mul_le_mul_right _ h
  rw [iu, z0, Nat.pow_zero, Nat.mul_one] at e1 e2
  refine Nat.le_of_not_lt fun hlt => ?_
  have a1 : FP.Core.zmag FP.Core.b64 (FP.Core.roundRatio FP.Core.b64 false A' B' 0) * B < A * 2 ^ 1074 := Nat.lt_of_not_le fun q => by have := e1 q; omega
  have a2 : A' * 2 ^ 1074 < FP.Core.zmag FP.Core.b64 (FP.Core.roundRatio FP.Core.b64 false A B 0) * B' := Nat.lt_of_not_le fun q => by have := e2 q; omega
  rcases FP.Core.roundRatio_cases FP.Core.b64 false A B 0 with ⟨c, q, hR⟩ | hR
  · rcases FP.Core.roundRatio_cases FP.Core.b64 false A' B' 0 with ⟨c', q', hR'⟩ | hR'
    · rw [hR] at F; rw [hR'] at F'
      have d1 := FP.Core.roundRatio_nearest FP.Core.good_b64 hB hR F'.1 F'.2.1 (Int.le_refl _) lt0
      have d2 := FP.Core.roundRatio_nearest FP.Core.good_b64 hB' hR' F.1 F.2.1 (Int.le_refl _) lt0
      unfold FP.Core.distance at d1 d2
      have w1 : FP.Core.inUnits c q FP.Core.b64.qmin = FP.Core.zmag FP.Core.b64 (FP.Core.roundRatio FP.Core.b64 false A B 0) := by rw [hR]; rfl
      have w2 : FP.Core.inUnits c' q' FP.Core.b64.qmin = FP.Core.zmag FP.Core.b64 (FP.Core.roundRatio FP.Core.b64 false A' B' 0) := by rw [hR']; rfl
      rw [iu, w1, w2] at d1
      rw [iu, w1, w2] at d2
      have cg : A * B' = A' * B → False := fun z => by
        have := FP.Core.roundRatio_congr (f := FP.Core.b64) (s := false) (e := 0) (e' := 0) hB hB' (by rw [z])
        rw [this] at hlt; exact absurd hlt (Nat.lt_irrefl _)
      generalize FP.Core.zmag FP.Core.b64 (FP.Core.roundRatio FP.Core.b64 false A B 0) = x at *
      generalize FP.Core.zmag FP.Core.b64 (FP.Core.roundRatio FP.Core.b64 false A' B' 0) = y at *
      have p0 : 0 < 2 ^ 1074 := Nat.two_pow_pos 1074
      generalize hI1 : A * 2 ^ 1074 = I at *
      generalize hI2 : A' * 2 ^ 1074 = I' at *
      have b1 : I < x * B := by
        have : I * B' < x * B * B' := Nat.lt_of_le_of_lt hI (by rw [Nat.mul_right_comm]; exact Nat.mul_lt_mul_of_pos_right a2 hB)
        exact Nat.lt_of_mul_lt_mul_right this
      have b2 : y * B' < I' := by
        have : y * B' * B < I' * B := Nat.lt_of_lt_of_le (by rw [Nat.mul_right_comm]; exact Nat.mul_lt_mul_of_pos_right a1 hB') hI
        exact Nat.lt_of_mul_lt_mul_right this
      have c1 : x * B + y * B ≤ 2 * I := by
        rw [← Int.natCast_mul, ← Int.natCast_mul] at d1
        generalize x * B = xB at *; generalize y * B = yB at *; omega
      have c2 : 2 * I' ≤ x * B' + y * B' := by
        rw [← Int.natCast_mul, ← Int.natCast_mul] at d2
        generalize x * B' = xB at *; generalize y * B' = yB at *; omega
      have c3 : 2 * (I' * B) ≤ 2 * (I * B') := by
        have t1 : 2 * (I' * B) ≤ x * B * B' + y * B * B' := by
          have := Nat.mul_le_mul_right B c2
          rw [Nat.mul_assoc 2 I' B, Nat.add_mul, Nat.mul_right_comm x, Nat.mul_right_comm y] at this; exact this
        have t2 : x * B * B' + y * B * B' ≤ 2 * (I * B') := by
          have := Nat.mul_le_mul_right B' c1
          rw [Nat.mul_assoc 2 I B', Nat.add_mul] at this; exact this
        omega
      have c4 : I * B' = I' * B := by omega
      rw [← hI1, ← hI2, Nat.mul_right_comm A, Nat.mul_right_comm A'] at c4
      exact cg (Nat.eq_of_mul_eq_mul_right p0 c4)
    · have := FP.Core.zmag_le_top FP.Core.good_b64 F
      rw [hR'] at hlt
      exact absurd hlt (Nat.not_lt.mpr this)
  · have t1 := (FP.Core.roundRatio_inf FP.Core.good_b64 (e0 := FP.Core.b64.qmin - 1) hB (by omega) (by omega)).mp hR
    have t2 := (FP.Core.roundRatio_inf FP.Core.good_b64 (s := false) (A := A') (e := 0) (e0 := FP.Core.b64.qmin - 1) hB' (by omega) (by omega)).mpr (by
      have iv : ∀ a : Nat, FP.Core.inUnits a 0 (FP.Core.b64.qmin - 1) = a * 2 ^ 1074 * 2 := fun a => by rw [FP.Core.inUnits, qm, show ((0 : Int) - (-1074 - 1)).toNat = 1074 + 1 by decide, Nat.pow_succ, Nat.mul_assoc]
      rw [iv] at t1 ⊢
      generalize (2 ^ (FP.Core.b64.p + 1) - 1) * 2 ^ (FP.Core.b64.qmax - 1 - (FP.Core.b64.qmin - 1)).toNat = K at *
      have s1 := Nat.mul_le_mul_right B' t1
      have s2 := Nat.mul_le_mul_right 2 hI
      refine Nat.le_of_mul_le_mul_right (c := B) ?_ hB
      rw [Nat.mul_right_comm K B' B, Nat.mul_right_comm _ 2 B]
      rw [Nat.mul_right_comm _ 2 B'] at s1
      omega)
    rw [hR, t2] at hlt; exact absurd hlt (Nat.lt_irrefl _)
theorem own_zquo {x y : UInt64} (hx : FP.Core.DFin x) (hy : FP.Core.DFin y) (h0 : 0 ≤ own_z x) (h1 : 0 < own_z y) :
    own_z (FP.ddiv x y) = (FP.Core.zmag FP.Core.b64 (FP.Core.roundRatio FP.Core.b64 false (own_z x).toNat (own_z y).toNat 0) : Int) ∧ FP.Core.val64 (FP.ddiv x y) ≠ .nan := by
  obtain ⟨s, c, q, ex⟩ := hx
  obtain ⟨t, d, r, ey⟩ := hy
  have zx : own_z x = FP.Core.signed s (FP.Core.zmag FP.Core.b64 (FP.Core.val64 x)) := by rw [own_z, FP.Core.zval, ex]; rfl
  have zy : own_z y = FP.Core.signed t (FP.Core.zmag FP.Core.b64 (FP.Core.val64 y)) := by rw [own_z, FP.Core.zval, ey]; rfl
  have hd : d ≠ 0 := fun z => by
    rw [ey, z] at zy
    rw [show FP.Core.zmag FP.Core.b64 (.fin t 0 r) = 0 by simp [FP.Core.zmag, FP.Core.inUnits]] at zy
    simp [FP.Core.signed] at zy; omega
  have e := own_zdiv ex ey hd
  have ht : t = false := by
    cases t
    · rfl
    · simp only [FP.Core.signed, if_true] at zy; omega
  subst ht
  have ny : FP.Core.zmag FP.Core.b64 (FP.Core.val64 y) = (own_z y).toNat := by rw [zy]; simp [FP.Core.signed]
  refine ⟨?_, by show FP.Core.val64 (FP.Core.ddiv x y) ≠ _; rw [e]; exact FP.Core.roundRatio_ne_nan _ _ _ _ _⟩
  show FP.Core.zval FP.Core.b64 (FP.Core.val64 (FP.Core.ddiv x y)) = _
  rw [e, FP.Core.zval, FP.Core.sgn_roundRatio, ny]
  cases s
  · rw [show FP.Core.zmag FP.Core.b64 (FP.Core.val64 x) = (own_z x).toNat by rw [zx]; simp [FP.Core.signed]]; rfl
  · have m0 : FP.Core.zmag FP.Core.b64 (FP.Core.val64 x) = 0 := by simp only [FP.Core.signed, if_true] at zx; omega
    have n0 : (own_z x).toNat = 0 := by rw [zx, m0]; rfl
    rw [m0, n0]
    simp [FP.Core.roundRatio, FP.Core.zmag, FP.Core.inUnits, FP.Core.signed]
theorem own_quo_le {x y x' y' : UInt64} (hx : FP.Core.DFin x) (hy : FP.Core.DFin y) (hx' : FP.Core.DFin x') (hy' : FP.Core.DFin y') (h0 : 0 ≤ own_z x) (h1 : 0 < own_z y') (h : own_z x ≤ own_z x') (h' : own_z y' ≤ own_z y) : own_z (FP.ddiv x y) ≤ own_z (FP.ddiv x' y') := by
  rw [(own_zquo hx hy h0 (by omega)).1, (own_zquo hx' hy' (by omega) h1).1]
  have := own_rmono (A := (own_z x).toNat) (B := (own_z y).toNat) (A' := (own_z x').toNat) (B' := (own_z y').toNat) (by omega) (by omega) (Nat.mul_le_mul (by omega) (by omega))
  omega
theorem own_l2d_z {n : Int64} (h : 0 ≤ n.toInt) : own_z (FP.l2d n) = (FP.Core.zmag FP.Core.b64 (FP.Core.roundRatio FP.Core.b64 false n.toInt.natAbs 1 0) : Int) := by
  have h1 : FP.Core.val64 (FP.Core.l2d n) = FP.Core.roundRatio FP.Core.b64 (decide (n.toInt < 0)) n.toInt.natAbs 1 0 := FP.Core.val64_l2d n
  rw [show decide (n.toInt < 0) = false by simp; omega] at h1
  show FP.Core.zval FP.Core.b64 (FP.Core.val64 (FP.Core.l2d n)) = _
  rw [h1, FP.Core.zval, FP.Core.sgn_roundRatio]; rfl
theorem own_l2d_mono {n m : Int64} (h0 : 0 ≤ n.toInt) (h : n.toInt ≤ m.toInt) : own_z (FP.l2d n) ≤ own_z (FP.l2d m) := by
  rw [own_l2d_z h0, own_l2d_z (by omega)]
  have := own_rmono (A := n.toInt.natAbs) (B := 1) (A' := m.toInt.natAbs) (B' := 1) (by decide) (by decide) (by omega)
  omega
theorem own_l2d_pos {n : Int64} (h : 0 < n.toInt) : (2 : Int) ^ 1074 ≤ own_z (FP.l2d n) := by
  have := own_l2d_mono (n := 1) (m := n) (by decide) (by rw [show (1 : Int64).toInt = 1 by decide]; omega)
  have w := (own_D.l2d (a := 1) (by decide)).2
  rw [show (1 : Int64).toInt = 1 by decide, Int.one_mul] at w
  omega
abbrev own_E9 : UInt64 := 4741671816366391296
theorem own_e9 : own_D 1953125 1083 own_E9 := by
  refine own_D.of (by decide) (by decide) (by decide +kernel) ?_
  show FP.Core.zval FP.Core.b64 (FP.Core.val64 own_E9) = _
  decide +kernel
theorem own_num (c : Int32) : own_D (c.toInt * 1953125) 1083 (FP.dmul (FP.i2d c) own_E9) := by
  have h0 := c.le_toInt
  have h1 := c.toInt_lt
  exact own_D.mul (own_D.i2d c) own_e9 (by omega) rfl
abbrev own_r (c : Int32) (n : Int64) : UInt64 := FP.ddiv (FP.dmul (FP.i2d c) own_E9) (FP.l2d n)
theorem own_r_nn {c : Int32} {n : Int64} (h : 0 < n.toInt) : FP.Core.val64 (own_r c n) ≠ .nan := by
  obtain ⟨s, cc, q, ex⟩ := (own_num c).1
  obtain ⟨t, d, r, ey⟩ := FP.Core.l2d_fin n
  have p := own_l2d_pos h
  have hd : d ≠ 0 := fun z => by
    have zy : own_z (FP.l2d n) = FP.Core.signed t (FP.Core.zmag FP.Core.b64 (FP.Core.val64 (FP.Core.l2d n))) := by show FP.Core.zval FP.Core.b64 (FP.Core.val64 (FP.Core.l2d n)) = _; rw [FP.Core.zval, ey]; rfl
    rw [ey, z, show FP.Core.zmag FP.Core.b64 (.fin t 0 r) = 0 by simp [FP.Core.zmag, FP.Core.inUnits]] at zy
    have pp : (0 : Int) < 2 ^ 1074 := Int.pow_pos (by decide)
    simp [FP.Core.signed] at zy; omega
  show FP.Core.val64 (FP.Core.ddiv _ (FP.Core.l2d n)) ≠ _
  rw [own_zdiv ex ey hd]; exact FP.Core.roundRatio_ne_nan _ _ _ _ _
theorem own_r_le {c c' : Int32} {n n' : Int64} (h0 : 0 ≤ c.toInt) (h1 : 0 < n'.toInt) (hc : c.toInt ≤ c'.toInt) (hn : n'.toInt ≤ n.toInt) : own_z (own_r c n) ≤ own_z (own_r c' n') := by
  have pp : (0 : Int) < 2 ^ 1074 := Int.pow_pos (by decide)
  have pq : (0 : Int) < 2 ^ 1083 := Int.pow_pos (by decide)
  refine own_quo_le (own_num c).1 (FP.Core.l2d_fin n) (own_num c').1 (FP.Core.l2d_fin n') ?_ ?_ ?_ (own_l2d_mono (by omega) hn)
  · rw [(own_num c).2]; exact Int.mul_nonneg (by omega) (by omega)
  · have := own_l2d_pos h1; omega
  · rw [(own_num c).2, (own_num c').2]; exact Int.mul_le_mul_of_nonneg_right (by omega) (by omega)
theorem own_two63 : own_D 1 1137 (4890909195324358656 : UInt64) := by
  refine own_D.of (by decide) (by decide) (by decide +kernel) ?_
  show FP.Core.zval FP.Core.b64 (FP.Core.val64 (4890909195324358656 : UInt64)) = _
  decide +kernel
theorem own_one1 : own_D 1 1074 (4607182418800017408 : UInt64) := by
  refine own_D.of (by decide) (by decide) (by decide +kernel) ?_
  show FP.Core.zval FP.Core.b64 (FP.Core.val64 (4607182418800017408 : UInt64)) = _
  decide +kernel
theorem own_r_pos {c : Int32} {n : Int64} (h0 : 0 < c.toInt) (h1 : 0 < n.toInt) : 0 < own_z (own_r c n) := by
  have pp : (0 : Int) < 2 ^ 1074 := Int.pow_pos (by decide)
  have hn : n.toInt < 2 ^ 63 := n.toInt_lt
  have u : own_z (FP.l2d n) ≤ own_z (4890909195324358656 : UInt64) := by
    refine FP.Core.l2d_zval_le (own_nn own_two63.1) ?_
    rw [show FP.Core.zval FP.Core.b64 (FP.Core.val64 (4890909195324358656 : UInt64)) = 1 * 2 ^ 1137 from own_two63.2, show (FP.Core.one64 : Int) = 2 ^ 1074 by decide +kernel, show (1137 : Nat) = 63 + 1074 by decide, ← own_pw, Int.one_mul]
    exact Int.mul_le_mul_of_nonneg_right (by omega) (by omega)
  have l : own_z (FP.ddiv (4607182418800017408 : UInt64) (4890909195324358656 : UInt64)) ≤ own_z (own_r c n) := by
    refine own_quo_le own_one1.1 own_two63.1 (own_num c).1 (FP.Core.l2d_fin n) ?_ ?_ ?_ u
    · rw [own_one1.2]; omega
    · have := own_l2d_pos h1; omega
    · rw [own_one1.2, (own_num c).2, show (1083 : Nat) = 9 + 1074 by decide, ← own_pw, ← Int.mul_assoc]
      exact Int.mul_le_mul_of_nonneg_right (by omega) (by omega)
  have d := own_D.div (g := 1) (i := 1011) own_one1 own_two63 (by decide) (by decide) (by rw [Int.one_mul, Int.one_mul, Int.one_mul, own_pw, own_pw]) (by decide) (by decide)
  have dz := d.2
  have p1 : (0 : Int) < 2 ^ 1011 := Int.pow_pos (by decide)
  omega
theorem own_r_zero {c : Int32} {n : Int64} (h0 : c.toInt = 0) (h1 : 0 < n.toInt) : own_z (own_r c n) = 0 := by
  have pp : (0 : Int) < 2 ^ 1074 := Int.pow_pos (by decide)
  have z : own_z (FP.dmul (FP.i2d c) own_E9) = 0 := by rw [(own_num c).2, h0, Int.zero_mul, Int.zero_mul]
  have := own_l2d_pos h1
  rw [(own_zquo (y := FP.l2d n) (own_num c).1 (FP.Core.l2d_fin n) (by omega) (by omega)).1, z]
  simp [FP.Core.roundRatio, FP.Core.zmag, FP.Core.inUnits]
theorem own_gtz {x y : UInt64} (hx : FP.Core.val64 x ≠ .nan) (hy : FP.Core.val64 y ≠ .nan) (o : CmpOp) : ((0 : Int32) < cmpValue (FP.dcmp x y) o ↔ own_z y < own_z x) ∧ (cmpValue (FP.dcmp x y) o = (0 : Int32) ↔ own_z x = own_z y) := by
  show ((0 : Int32) < cmpValue (FP.Core.dcmp x y) o ↔ own_z y < own_z x) ∧ (cmpValue (FP.Core.dcmp x y) o = (0 : Int32) ↔ own_z x = own_z y)
  rw [FP.Core.dcmp_zval hx hy, show compare (FP.Core.zval FP.Core.b64 (FP.Core.val64 x)) (FP.Core.zval FP.Core.b64 (FP.Core.val64 y)) = compare (own_z x) (own_z y) from rfl, FP.Core.compare_ite]
  by_cases q : own_z x < own_z y
  · rw [if_pos q]
    exact ⟨⟨fun h => by cases o <;> exact absurd h (by decide), fun h => by omega⟩, ⟨fun h => by cases o <;> exact absurd h (by decide), fun h => by omega⟩⟩
  · rw [if_neg q]
    by_cases q' : own_z x = own_z y
    · rw [if_pos q']
      exact ⟨⟨fun h => by cases o <;> exact absurd h (by decide), fun h => by omega⟩, ⟨fun h => q', fun h => by cases o <;> decide⟩⟩
    · rw [if_neg q']
      exact ⟨⟨fun h => by omega, fun h => by cases o <;> decide⟩, ⟨fun h => by cases o <;> exact absurd h (by decide), fun h => absurd h q'⟩⟩
theorem own_zero : own_z (0 : UInt64) = 0 ∧ FP.Core.val64 (0 : UInt64) ≠ .nan := by
  have := own_D.l2d (a := 0) (by decide)
  rw [show FP.l2d 0 = 0 by decide +kernel, show (0 : Int64).toInt = 0 by decide] at this
  exact ⟨by rw [this.2, Int.zero_mul], own_nn this.1⟩
def own_p2 : Nat → Int64 := (fun i => if i = ((9 : Int32)).toNatClampNeg then (512 : Int64) else (fun i => if i = ((8 : Int32)).toNatClampNeg then (256 : Int64) else (fun i => if i = ((7 : Int32)).toNatClampNeg then (128 : Int64) else (fun i => if i = ((6 : Int32)).toNatClampNeg then (64 : Int64) else (fun i => if i = ((5 : Int32)).toNatClampNeg then (32 : Int64) else (fun i => if i = ((4 : Int32)).toNatClampNeg then (16 : Int64) else (fun i => if i = ((3 : Int32)).toNatClampNeg then (8 : Int64) else (fun i => if i = ((2 : Int32)).toNatClampNeg then (4 : Int64) else (fun i => if i = ((1 : Int32)).toNatClampNeg then (2 : Int64) else (fun i => if i = ((0 : Int32)).toNatClampNeg then (1 : Int64) else (fun _ => (0 : Int64)) i) i) i) i) i) i) i) i) i) i)
def own_p5 : Nat → Int64 := (fun i => if i = ((9 : Int32)).toNatClampNeg then (1953125 : Int64) else (fun i => if i = ((8 : Int32)).toNatClampNeg then (390625 : Int64) else (fun i => if i = ((7 : Int32)).toNatClampNeg then (78125 : Int64) else (fun i => if i = ((6 : Int32)).toNatClampNeg then (15625 : Int64) else (fun i => if i = ((5 : Int32)).toNatClampNeg then (3125 : Int64) else (fun i => if i = ((4 : Int32)).toNatClampNeg then (625 : Int64) else (fun i => if i = ((3 : Int32)).toNatClampNeg then (125 : Int64) else (fun i => if i = ((2 : Int32)).toNatClampNeg then (25 : Int64) else (fun i => if i = ((1 : Int32)).toNatClampNeg then (5 : Int64) else (fun i => if i = ((0 : Int32)).toNatClampNeg then (1 : Int64) else (fun _ => (0 : Int64)) i) i) i) i) i) i) i) i) i) i)
theorem own_tab : ∀ a b : Fin 10, 0 < (own_p2 a.val * own_p5 b.val).toInt ∧ (own_p2 a.val * own_p5 b.val).toInt ≤ 1000000000 ∧ 0 < ((1000000000 : Int64) / (own_p2 a.val * own_p5 b.val)).toInt ∧ ((1000000000 : Int64) / (own_p2 a.val * own_p5 b.val)).toInt ≤ 1000000000 ∧ (own_p2 a.val * own_p5 b.val).toInt * ((1000000000 : Int64) / (own_p2 a.val * own_p5 b.val)).toInt = 1000000000 := by decide +kernel
theorem own_ix {y z : Int32} (h : z = ((y &&& (15 : Int32)) % (10 : Int32))) : ¬ z < 0 ∧ z.toNatClampNeg < 10 := by
  have e : (y &&& 15).toInt = y.toInt % 2 ^ 4 := Jvm.Kit.i32_mask y 15 (k := 4) (by decide) (by decide)
  have e0 : 0 ≤ (y &&& 15).toInt := by rw [e]; exact Int.emod_nonneg _ (by decide)
  have e1 : z.toInt = (y &&& 15).toInt % 10 := by rw [h, Jvm.Kit.i32_rem_nonneg e0]; rfl
  rw [Int32.lt_iff_toInt_lt, show (0 : Int32).toInt = 0 by decide]
  refine ⟨by omega, ?_⟩
  show z.toInt.toNat < 10
  omega
def own_dv (zd : Int64) : Prop := 0 < zd.toInt ∧ zd.toInt ≤ 1000000000 ∧ 0 < ((1000000000 : Int64) / zd).toInt ∧ ((1000000000 : Int64) / zd).toInt ≤ 1000000000 ∧ zd.toInt * ((1000000000 : Int64) / zd).toInt = 1000000000
theorem own_dd {y y' zi zj : Int32} {zd : Int64} (hi : zi = ((y &&& (15 : Int32)) % (10 : Int32))) (hj : zj = ((y' &&& (15 : Int32)) % (10 : Int32))) (h : zd = own_p2 zi.toNatClampNeg * own_p5 zj.toNatClampNeg) : own_dv zd := by
  rw [h]; exact own_tab ⟨_, (own_ix hi).2⟩ ⟨_, (own_ix hj).2⟩
theorem own_dpos {zd : Int64} (h : own_dv zd) : 0 < ((1000000000 : Int64) / zd).toInt := h.2.2.1
theorem own_dnz {zd : Int64} (h : own_dv zd) : ¬ zd = 0 := fun z => by rw [z] at h; exact absurd h.1 (by decide)
theorem own_pows : (2 : Int) ^ 1083 = 512 * 2 ^ 1074 := by rw [show (1083 : Nat) = 9 + 1074 by decide, ← own_pw]; rfl
theorem own_frac {p0 zm : Int32} {zd : Int64} (hm : zm = (p0 &&& (1048575 : Int32))) (hd : own_dv zd) : cmpValue (FP.dcmp (own_r zm ((1000000000 : Int64) / zd)) (FP.l2d (zm.toInt64 * zd))) .l = (0 : Int32) := by
  obtain ⟨d1, d2, d3, d4, d5⟩ := hd
  have e : zm.toInt = p0.toInt % 2 ^ 20 := by rw [hm]; exact Jvm.Kit.i32_mask p0 1048575 (k := 20) (by decide) (by decide)
  have m0 : 0 ≤ zm.toInt := by rw [e]; exact Int.emod_nonneg _ (by decide)
  have m1 : zm.toInt < 1048576 := by rw [e]; exact Int.emod_lt_of_pos _ (by decide)
  have b1 : zm.toInt * zd.toInt ≤ 1048576 * 1000000000 := Int.mul_le_mul (by omega) d2 (by omega) (by decide)
  have b0 : 0 ≤ zm.toInt * zd.toInt := Int.mul_nonneg m0 (by omega)
  have t : (zm.toInt64 * zd).toInt = zm.toInt * zd.toInt := by rw [Jvm.Kit.i64_mul (by rw [Int32.toInt_toInt64]; omega) (by rw [Int32.toInt_toInt64]; omega), Int32.toInt_toInt64]
  have w := own_D.l2d (a := zm.toInt64 * zd) (by rw [t]; omega)
  rw [t] at w
  have v : own_D (zm.toInt * zd.toInt) 1074 (own_r zm ((1000000000 : Int64) / zd)) := by
    refine own_D.div (own_num zm) (own_D.l2d (a := (1000000000 : Int64) / zd) (by omega)) (by omega) (by omega) ?_ (by decide) (by decide)
    rw [own_pows]
    generalize (2 : Int) ^ 1074 = P
    generalize ((1000000000 : Int64) / zd).toInt = E at *
    generalize zd.toInt = D at *
    generalize zm.toInt = m at *
    rw [show m * D * P * (E * P) = m * (D * E) * (P * P) by ac_rfl, d5, show m * 1953125 * (512 * P) * P = m * (1953125 * 512) * (P * P) by ac_rfl]; rfl
  exact own_dcmp (own_nn v.1) (own_nn w.1) (v.2.trans w.2.symm) _
theorem own_kk {p1 zk : Int32} (hk : zk = ((p1 &&& (1048575 : Int32)) + (1 : Int32))) : 1 ≤ zk.toInt ∧ zk.toInt ≤ 1048576 ∧ (zk.toInt64 * (1000000000 : Int64)).toInt = zk.toInt * 1000000000 := by
  have e : (p1 &&& 1048575).toInt = p1.toInt % 2 ^ 20 := Jvm.Kit.i32_mask p1 1048575 (k := 20) (by decide) (by decide)
  have c : (1 : Int32).toInt = 1 := by decide
  have e1 : zk.toInt = p1.toInt % 2 ^ 20 + 1 := by rw [hk, Jvm.Kit.i32_add (by rw [c, e]; omega) (by rw [c, e]; omega), c, e]
  have k : (1000000000 : Int64).toInt = 1000000000 := by decide
  refine ⟨by omega, by omega, ?_⟩
  rw [Jvm.Kit.i64_mul (by rw [Int32.toInt_toInt64, k]; omega) (by rw [Int32.toInt_toInt64, k]; omega), Int32.toInt_toInt64, k]
theorem own_kpos {p1 zk : Int32} (hk : zk = ((p1 &&& (1048575 : Int32)) + (1 : Int32))) : 0 < (zk.toInt64 * (1000000000 : Int64)).toInt := by
  obtain ⟨a, b, c⟩ := own_kk hk
  rw [c]; omega
theorem own_mult {p1 p2 zk zq : Int32} (hk : zk = ((p1 &&& (1048575 : Int32)) + (1 : Int32))) (hq : zq = (p2 &&& (1023 : Int32))) : cmpValue (FP.dcmp (own_r (zq * zk) (zk.toInt64 * (1000000000 : Int64))) (FP.i2d zq)) .l = (0 : Int32) := by
  obtain ⟨k1, k2, k3⟩ := own_kk hk
  have e : zq.toInt = p2.toInt % 2 ^ 10 := by rw [hq]; exact Jvm.Kit.i32_mask p2 1023 (k := 10) (by decide) (by decide)
  have m0 : 0 ≤ zq.toInt := by rw [e]; exact Int.emod_nonneg _ (by decide)
  have m1 : zq.toInt < 1024 := by rw [e]; exact Int.emod_lt_of_pos _ (by decide)
  have b1 : zq.toInt * zk.toInt ≤ 1023 * 1048576 := Int.mul_le_mul (by omega) k2 (by omega) (by decide)
  have b0 : 0 ≤ zq.toInt * zk.toInt := Int.mul_nonneg m0 (by omega)
  have t : (zq * zk).toInt = zq.toInt * zk.toInt := Jvm.Kit.i32_mul (by omega) (by omega)
  have w := own_D.i2d zq
  have u := own_num (zq * zk)
  rw [t] at u
  have y := own_D.l2d (a := zk.toInt64 * (1000000000 : Int64)) (by rw [k3]; omega)
  rw [k3] at y
  have v : own_D zq.toInt 1074 (own_r (zq * zk) (zk.toInt64 * (1000000000 : Int64))) := by
    refine own_D.div u y (by omega) (by omega) ?_ (by decide) (by decide)
    rw [own_pows]
    generalize (2 : Int) ^ 1074 = P
    generalize zq.toInt = q at *
    generalize zk.toInt = k at *
    rw [show q * k * 1953125 * (512 * P) * P = q * P * (k * (1953125 * 512) * P) by ac_rfl]; rfl
  exact own_dcmp (own_nn v.1) (own_nn w.1) (v.2.trans w.2.symm) _
theorem own_no {x : UInt64} (h : FP.Core.val64 x ≠ .nan) : Jvm.Free.Fl.NoNaN64 x := Jvm.Free.Fl.noNaN64_no.mpr ((FP.Core.notNaN_iff _).mpr h)
theorem d3_0 : decode jdk_30_method_1_code 0 = .ok (.aload_n 0, 1) := by decide +kernel
theorem d3_1 : decode jdk_30_method_1_code 1 = .ok (.invokespecial 1, 3) := by decide +kernel
theorem d3_4 : decode jdk_30_method_1_code 4 = .ok (.return_, 1) := by decide +kernel
theorem pn3 : plainName "java/lang/Record" = true := by first | (simp [plainName, overriddenIn]; done) | decide +kernel
theorem ef3 (m : MethodId) (a0 : Addr) : entryFrame m #[(.ref a0)] 1 = mkF m 0 #[.val (.ref a0)] [] := by first | (simp [entryFrame, mkF, argsToLocals, Value.category]; done) | rfl
def Q3 (Z : State) (a0 : Addr) (h0 : Heap) (n0 : Nat) (v : Option Value) (h : Heap) (L : List Loc) : Prop := v = none ∧ Fr n0 L ∧ h = h0
set_option maxRecDepth 65536 in
set_option maxHeartbeats 40000000 in
theorem rm3 (l : Launch) (Z : State) (ar : Array Value) (hw : ∀ d ∈ tables_1, d.before ar Z = true) (ws : List Jvm.Cond) (a0 : Addr) (h0 : Heap) (n0 : Nat) (O0 : Old Z n0 h0) :
    MetFree l (⟨"java/lang/Record", "<init>", "()V"⟩ : MethodName) (head1 (Jvm.Cond.code (⟨"java/lang/Record", "<init>", "()V"⟩ : MethodName) jdk_30_method_1_code 1 none :: ws) ({ frames := 1, cells := 0, slots := 0, locals := 12 } : Room)) (fun a U => a = #[(.ref a0)] ∧ Z.Warmed39 U.vm ∧ U.heap = h0) (fun _ _ _ _ _ => True) (fun _ U o U' => ∃ v L, o = .returned v ∧ Q3 Z a0 h0 n0 v U'.heap L ∧ FrameEnd U o U' L ({ frames := 1, cells := 0, slots := 0, locals := 12 } : Room).cells ({ frames := 1, cells := 0, slots := 0, locals := 12 } : Room).slots) := by
  refine MetFree.of_bodySF (plainFor_of_name pn3) hisR ?_
  intro p e s m args below meth c s₁ Bd hml0 hP hK
  obtain ⟨rfl, hZ, hh⟩ := hP
  have hx := Bd.exec
  have hby := Bd.bytes
  have hml : c.maxLocals = 1 := hml0
  have hown : s.vm.findClass "java/lang/Record" = some m.cls := findClass_of_methodNamed Bd.named
  have hnm := (name_of_methodNamed Bd.named Bd.method).1
  have hlk : meth.locks = false := BodyLoose.notSynchronized Bd
  have X0 : Stand p l e ({ frames := 1, cells := 0, slots := 0, locals := 12 } : Room) s m #[(.ref a0)] below meth c s₁ [] 0 0 := Stand.of_body Bd
  have e0 : s₁.heap = h0 := by rw [← hh, Bd.state]; rfl
  have N0 := Fr.nil n0
  suffices hmain : own_Ends p e below s (Q3 Z a0 h0 n0) 0 0 (s₁.setTop (mkF m 0 #[.val (.ref a0)] [])) by
    obtain ⟨U, o, h1, r⟩ := hmain
    exact ⟨U, o, castTop (ef3 m a0) h1, r⟩
  show own_Ends _ _ _ _ _ _ _ (s₁.setTop (mkF m 0 #[.val (.ref a0)] []))
  refine own_go (fun _ k => XS.aloadN X0.here hx rfl (hb hby d3_0) rfl rfl k) ?_
  show own_Ends _ _ _ _ _ _ _ (s₁.setTop (mkF m 1 #[.val (.ref a0)] [(.ref a0)]))
  obtain ⟨T1, X1, e1, st1⟩ := initO X0 hx hZ hown (hw _ (List.mem_of_getElem? (i := 36) rfl)) (hw _ (List.mem_of_getElem? (i := 37) rfl)) (hw _ (List.mem_of_getElem? (i := 38) rfl)) e0 (g := (mkF m 1 #[.val (.ref a0)] [(.ref a0)])) rfl (by rw [hml]; rfl) rfl (hb hby d3_1) (by decide) (W := 0) (by show 2 * 0 + _ ≤ _; exact Nat.le_of_eq rfl) (by decide)
  refine own_go (fun _ k => st1 _ k) ?_
  show own_Ends _ _ _ _ _ _ _ (T1.setTop (mkF m 4 #[.val (.ref a0)] []))
  exact own_retV X1 hx hlk Bd.returns (hb hby d3_4) (by decide) (by decide) ⟨rfl, N0, e1⟩
theorem d2_0 : decode prog_12_method_1_code 0 = .ok (.aload_n 0, 1) := by decide +kernel
theorem d2_1 : decode prog_12_method_1_code 1 = .ok (.invokespecial 1, 3) := by decide +kernel
theorem d2_4 : decode prog_12_method_1_code 4 = .ok (.aload_n 0, 1) := by decide +kernel
theorem d2_5 : decode prog_12_method_1_code 5 = .ok (.iload_n 1, 1) := by decide +kernel
theorem d2_6 : decode prog_12_method_1_code 6 = .ok (.putfield 7, 3) := by decide +kernel
theorem d2_9 : decode prog_12_method_1_code 9 = .ok (.aload_n 0, 1) := by decide +kernel
theorem d2_10 : decode prog_12_method_1_code 10 = .ok (.lload_n 2, 1) := by decide +kernel
theorem d2_11 : decode prog_12_method_1_code 11 = .ok (.putfield 13, 3) := by decide +kernel
theorem d2_14 : decode prog_12_method_1_code 14 = .ok (.aload_n 0, 1) := by decide +kernel
theorem d2_15 : decode prog_12_method_1_code 15 = .ok (.aload 4, 2) := by decide +kernel
theorem d2_17 : decode prog_12_method_1_code 17 = .ok (.putfield 17, 3) := by decide +kernel
theorem d2_20 : decode prog_12_method_1_code 20 = .ok (.aload_n 0, 1) := by decide +kernel
theorem d2_21 : decode prog_12_method_1_code 21 = .ok (.iload 5, 2) := by decide +kernel
theorem d2_23 : decode prog_12_method_1_code 23 = .ok (.putfield 21, 3) := by decide +kernel
theorem d2_26 : decode prog_12_method_1_code 26 = .ok (.aload_n 0, 1) := by decide +kernel
theorem d2_27 : decode prog_12_method_1_code 27 = .ok (.iload 6, 2) := by decide +kernel
theorem d2_29 : decode prog_12_method_1_code 29 = .ok (.putfield 24, 3) := by decide +kernel
theorem d2_32 : decode prog_12_method_1_code 32 = .ok (.return_, 1) := by decide +kernel
theorem pn2 : plainName "com/example/octroi/octroi/bench/ClosedLoop$Sent" = true := by first | (simp [plainName, overriddenIn]; done) | decide +kernel
theorem pd2_0 : parseMethodDescriptor "()V" = some ⟨[], none⟩ := by decide +kernel
theorem ef2 (m : MethodId) (a0 : Addr) (p1 : Int32) (q2 : Int64) (a3 : Addr) (p4 : Int32) (p5 : Int32) : entryFrame m #[(.ref a0), (.int p1), (.long q2), (.ref a3), (.int p4), (.int p5)] 7 = mkF m 0 #[.val (.ref a0), .val (.int p1), .val (.long q2), .second, .val (.ref a3), .val (.int p4), .val (.int p5)] [] := by first | (simp [entryFrame, mkF, argsToLocals, Value.category]; done) | rfl
def Q2 (Z : State) (a0 : Addr) (p1 : Int32) (q2 : Int64) (a3 : Addr) (p4 : Int32) (p5 : Int32) (u_count_a0 : Value) (u_nanos_a0 : Value) (u_latencies_a0 : Value) (u_notOk_a0 : Value) (u_succeeded_a0 : Value) (h0 : Heap) (n0 : Nat) (v : Option Value) (h : Heap) (L : List Loc) : Prop := v = none ∧ Fr n0 L ∧ Keep h0 h [a0] ∧ Exa Z h a0 "com/example/octroi/octroi/bench/ClosedLoop$Sent" ∧ Fld Z h a0 "com/example/octroi/octroi/bench/ClosedLoop$Sent" "count" "I" (.int p1) ∧ Fld Z h a0 "com/example/octroi/octroi/bench/ClosedLoop$Sent" "nanos" "J" (.long q2) ∧ Fld Z h a0 "com/example/octroi/octroi/bench/ClosedLoop$Sent" "latencies" "[J" (.ref a3) ∧ Fld Z h a0 "com/example/octroi/octroi/bench/ClosedLoop$Sent" "notOk" "I" (.int p4) ∧ Fld Z h a0 "com/example/octroi/octroi/bench/ClosedLoop$Sent" "succeeded" "I" (.int p5)
set_option maxRecDepth 65536 in
set_option maxHeartbeats 40000000 in
theorem rm2 (l : Launch) (Z : State) (ar : Array Value) (hw : ∀ d ∈ tables_1, d.before ar Z = true) (ws : List Jvm.Cond) (a0 : Addr) (p1 : Int32) (q2 : Int64) (a3 : Addr) (p4 : Int32) (p5 : Int32) (u_count_a0 : Value) (u_nanos_a0 : Value) (u_latencies_a0 : Value) (u_notOk_a0 : Value) (u_succeeded_a0 : Value) (h0 : Heap) (n0 : Nat) (O0 : Old Z n0 h0) (E_a0 : Exa Z h0 a0 "com/example/octroi/octroi/bench/ClosedLoop$Sent") (g_a0 : n0 ≤ a0) (F_count_a0 : Fld Z h0 a0 "com/example/octroi/octroi/bench/ClosedLoop$Sent" "count" "I" u_count_a0) (F_nanos_a0 : Fld Z h0 a0 "com/example/octroi/octroi/bench/ClosedLoop$Sent" "nanos" "J" u_nanos_a0) (F_latencies_a0 : Fld Z h0 a0 "com/example/octroi/octroi/bench/ClosedLoop$Sent" "latencies" "[J" u_latencies_a0) (F_notOk_a0 : Fld Z h0 a0 "com/example/octroi/octroi/bench/ClosedLoop$Sent" "notOk" "I" u_notOk_a0) (F_succeeded_a0 : Fld Z h0 a0 "com/example/octroi/octroi/bench/ClosedLoop$Sent" "succeeded" "I" u_succeeded_a0) :
    MetFree l (⟨"com/example/octroi/octroi/bench/ClosedLoop$Sent", "<init>", "(IJ[JII)V"⟩ : MethodName) (head1 (Jvm.Cond.code (⟨"com/example/octroi/octroi/bench/ClosedLoop$Sent", "<init>", "(IJ[JII)V"⟩ : MethodName) prog_12_method_1_code 7 none :: ws) ({ frames := 2, cells := 0, slots := 0, locals := 24 } : Room)) (fun a U => a = #[(.ref a0), (.int p1), (.long q2), (.ref a3), (.int p4), (.int p5)] ∧ Z.Warmed39 U.vm ∧ U.heap = h0) (fun _ _ _ _ _ => True) (fun _ U o U' => ∃ v L, o = .returned v ∧ Q2 Z a0 p1 q2 a3 p4 p5 u_count_a0 u_nanos_a0 u_latencies_a0 u_notOk_a0 u_succeeded_a0 h0 n0 v U'.heap L ∧ FrameEnd U o U' L ({ frames := 2, cells := 0, slots := 0, locals := 24 } : Room).cells ({ frames := 2, cells := 0, slots := 0, locals := 24 } : Room).slots) := by
  refine MetFree.of_bodySF (plainFor_of_name pn2) hisR ?_
  intro p e s m args below meth c s₁ Bd hml0 hP hK
  obtain ⟨rfl, hZ, hh⟩ := hP
  have hx := Bd.exec
  have hby := Bd.bytes
  have hml : c.maxLocals = 7 := hml0
  have hown : s.vm.findClass "com/example/octroi/octroi/bench/ClosedLoop$Sent" = some m.cls := findClass_of_methodNamed Bd.named
  have hnm := (name_of_methodNamed Bd.named Bd.method).1
  have hlk : meth.locks = false := BodyLoose.notSynchronized Bd
  have X0 : Stand p l e ({ frames := 2, cells := 0, slots := 0, locals := 24 } : Room) s m #[(.ref a0), (.int p1), (.long q2), (.ref a3), (.int p4), (.int p5)] below meth c s₁ [] 0 0 := Stand.of_body Bd
  have e0 : s₁.heap = h0 := by rw [← hh, Bd.state]; rfl
  have N0 := Fr.nil n0
  suffices hmain : own_Ends p e below s (Q2 Z a0 p1 q2 a3 p4 p5 u_count_a0 u_nanos_a0 u_latencies_a0 u_notOk_a0 u_succeeded_a0 h0 n0) 0 0 (s₁.setTop (mkF m 0 #[.val (.ref a0), .val (.int p1), .val (.long q2), .second, .val (.ref a3), .val (.int p4), .val (.int p5)] [])) by
    obtain ⟨U, o, h1, r⟩ := hmain
    exact ⟨U, o, castTop (ef2 m a0 p1 q2 a3 p4 p5) h1, r⟩
  show own_Ends _ _ _ _ _ _ _ (s₁.setTop (mkF m 0 #[.val (.ref a0), .val (.int p1), .val (.long q2), .second, .val (.ref a3), .val (.int p4), .val (.int p5)] []))
  refine own_go (fun _ k => XS.aloadN X0.here hx rfl (hb hby d2_0) rfl rfl k) ?_
  show own_Ends _ _ _ _ _ _ _ (s₁.setTop (mkF m 1 #[.val (.ref a0), .val (.int p1), .val (.long q2), .second, .val (.ref a3), .val (.int p4), .val (.int p5)] [(.ref a0)]))
  obtain ⟨_, _, ⟨T1, L1, k1, n1⟩, -, X1, ⟨Lc1, hQ1, l1, y1, z1⟩, st1⟩ := X0.specialBack hx (y := (⟨"java/lang/Record", "<init>", "()V"⟩ : MethodName)) rfl hown (mvT hZ (hw _ (List.mem_of_getElem? (i := 31) rfl))) (mvT hZ (hw _ (List.mem_of_getElem? (i := 32) rfl))) (mvT hZ (hw _ (List.mem_of_getElem? (i := 35) rfl))) (by decide) (backOf (W := 0) (rm3 l Z ar hw [] a0 h0 n0 O0) hZ (hw _ (List.mem_of_getElem? (i := 35) rfl)) (hw _ (List.mem_of_getElem? (i := 34) rfl)) (by decide) (by decide)) (g := (mkF m 1 #[.val (.ref a0), .val (.int p1), .val (.long q2), .second, .val (.ref a3), .val (.int p4), .val (.int p5)] [(.ref a0)])) rfl (by rw [hml]; rfl) (Steps.refl _) (a := a0) (argsL := []) (rest := []) (lenOf pd2_0 rfl) rfl (by show 2 * 0 + _ ≤ _; exact Nat.le_of_eq rfl) (hb hby d2_1) (fun _ _ => ⟨rfl, e0, (by decide : 0 + 0 ≤ _), (by decide : 0 + 0 ≤ _)⟩)
  dsimp only [Pt.U, Pt.locs, Pt.cells, Pt.slots] at X1 l1 y1 z1 st1 hQ1
  subst l1 y1 z1
  obtain ⟨rfl, N1q, eq1⟩ := hQ1
  have e1 : T1.heap = h0 := eq1
  have N1 := Fr.app N0 N1q
  refine own_go (fun _ k => st1.trans k) ?_
  show own_Ends _ _ _ _ _ _ _ (T1.setTop (mkF m 4 #[.val (.ref a0), .val (.int p1), .val (.long q2), .second, .val (.ref a3), .val (.int p4), .val (.int p5)] []))
  refine own_go (fun _ k => XS.aloadN X1.here hx rfl (hb hby d2_4) rfl rfl k) ?_
  show own_Ends _ _ _ _ _ _ _ (T1.setTop (mkF m 5 #[.val (.ref a0), .val (.int p1), .val (.long q2), .second, .val (.ref a3), .val (.int p4), .val (.int p5)] [(.ref a0)]))
  refine own_go (fun _ k => XS.iloadN X1.here hx rfl (hb hby d2_5) rfl k) ?_
  show own_Ends _ _ _ _ _ _ _ (T1.setTop (mkF m 6 #[.val (.ref a0), .val (.int p1), .val (.long q2), .second, .val (.ref a3), .val (.int p4), .val (.int p5)] [(.int p1), (.ref a0)]))
  obtain ⟨T2, h2, X2, e2, W2, st2⟩ := putF X1 hx hZ hown (host := "") (Or.inl (hw _ (List.mem_of_getElem? (i := 39) rfl))) Via.refl e1 F_count_a0 E_a0 (Or.inr ⟨(hw _ (List.mem_of_getElem? (i := 40) rfl)), rfl, hnm⟩) (hw _ (List.mem_of_getElem? (i := 26) rfl)) (ty := .int) (by decide) rfl rfl (g := (mkF m 6 #[.val (.ref a0), .val (.int p1), .val (.long q2), .second, .val (.ref a3), .val (.int p4), .val (.int p5)] [(.int p1), (.ref a0)])) rfl rfl (hb hby d2_6)
  refine own_go (fun _ k => st2 _ k) ?_
  have N2 := Fr.snoc X2 N1 g_a0
  have F3 : Exa Z h2 a0 "com/example/octroi/octroi/bench/ClosedLoop$Sent" := (Exa.wr W2 E_a0)
  have F4 : Fld Z h2 a0 "com/example/octroi/octroi/bench/ClosedLoop$Sent" "nanos" "J" u_nanos_a0 := (Fld.other W2 F_nanos_a0 (Or.inr (slot_ne (Or.inr (hw _ (List.mem_of_getElem? (i := 42) rfl))) (Or.inr (hw _ (List.mem_of_getElem? (i := 40) rfl))) (by decide) (t := .long) (t' := .int) (by decide) (by decide))))
  have F5 : Fld Z h2 a0 "com/example/octroi/octroi/bench/ClosedLoop$Sent" "latencies" "[J" u_latencies_a0 := (Fld.other W2 F_latencies_a0 (Or.inr (slot_ne (Or.inr (hw _ (List.mem_of_getElem? (i := 44) rfl))) (Or.inr (hw _ (List.mem_of_getElem? (i := 40) rfl))) (by decide) (t := (.array .long)) (t' := .int) (by decide) (by decide))))
  have F6 : Fld Z h2 a0 "com/example/octroi/octroi/bench/ClosedLoop$Sent" "notOk" "I" u_notOk_a0 := (Fld.other W2 F_notOk_a0 (Or.inr (slot_ne (Or.inr (hw _ (List.mem_of_getElem? (i := 46) rfl))) (Or.inr (hw _ (List.mem_of_getElem? (i := 40) rfl))) (by decide) (t := .int) (t' := .int) (by decide) (by decide))))
  have F7 : Fld Z h2 a0 "com/example/octroi/octroi/bench/ClosedLoop$Sent" "succeeded" "I" u_succeeded_a0 := (Fld.other W2 F_succeeded_a0 (Or.inr (slot_ne (Or.inr (hw _ (List.mem_of_getElem? (i := 48) rfl))) (Or.inr (hw _ (List.mem_of_getElem? (i := 40) rfl))) (by decide) (t := .int) (t' := .int) (by decide) (by decide))))
  have F8 : Old Z n0 h2 := (O0.wr W2 g_a0)
  have F9 : Fld Z h2 a0 "com/example/octroi/octroi/bench/ClosedLoop$Sent" "count" "I" (.int p1) := Fld.same W2 F_count_a0
  have K10 : Keep h0 h2 [a0] := (Keep.refl h0 [a0]).wr W2 (Or.inl (List.mem_of_getElem? (i := 0) rfl))
  show own_Ends _ _ _ _ _ _ _ (T2.setTop (mkF m 9 #[.val (.ref a0), .val (.int p1), .val (.long q2), .second, .val (.ref a3), .val (.int p4), .val (.int p5)] []))
  refine own_go (fun _ k => XS.aloadN X2.here hx rfl (hb hby d2_9) rfl rfl k) ?_
  show own_Ends _ _ _ _ _ _ _ (T2.setTop (mkF m 10 #[.val (.ref a0), .val (.int p1), .val (.long q2), .second, .val (.ref a3), .val (.int p4), .val (.int p5)] [(.ref a0)]))
  refine own_go (fun _ k => XS.lloadN X2.here hx rfl (hb hby d2_10) rfl k) ?_
  show own_Ends _ _ _ _ _ _ _ (T2.setTop (mkF m 11 #[.val (.ref a0), .val (.int p1), .val (.long q2), .second, .val (.ref a3), .val (.int p4), .val (.int p5)] [(.long q2), (.ref a0)]))
  obtain ⟨T11, h11, X11, e11, W11, st11⟩ := putF X2 hx hZ hown (host := "") (Or.inl (hw _ (List.mem_of_getElem? (i := 41) rfl))) Via.refl e2 F4 F3 (Or.inr ⟨(hw _ (List.mem_of_getElem? (i := 42) rfl)), rfl, hnm⟩) (hw _ (List.mem_of_getElem? (i := 26) rfl)) (ty := .long) (by decide) rfl rfl (g := (mkF m 11 #[.val (.ref a0), .val (.int p1), .val (.long q2), .second, .val (.ref a3), .val (.int p4), .val (.int p5)] [(.long q2), (.ref a0)])) rfl rfl (hb hby d2_11)
  refine own_go (fun _ k => st11 _ k) ?_
  have N11 := Fr.snoc X11 N2 g_a0
  have F12 : Exa Z h11 a0 "com/example/octroi/octroi/bench/ClosedLoop$Sent" := (Exa.wr W11 F3)
  have F13 : Fld Z h11 a0 "com/example/octroi/octroi/bench/ClosedLoop$Sent" "count" "I" (.int p1) := (Fld.other W11 F9 (Or.inr (slot_ne (Or.inr (hw _ (List.mem_of_getElem? (i := 40) rfl))) (Or.inr (hw _ (List.mem_of_getElem? (i := 42) rfl))) (by decide) (t := .int) (t' := .long) (by decide) (by decide))))
  have F14 : Fld Z h11 a0 "com/example/octroi/octroi/bench/ClosedLoop$Sent" "latencies" "[J" u_latencies_a0 := (Fld.other W11 F5 (Or.inr (slot_ne (Or.inr (hw _ (List.mem_of_getElem? (i := 44) rfl))) (Or.inr (hw _ (List.mem_of_getElem? (i := 42) rfl))) (by decide) (t := (.array .long)) (t' := .long) (by decide) (by decide))))
  have F15 : Fld Z h11 a0 "com/example/octroi/octroi/bench/ClosedLoop$Sent" "notOk" "I" u_notOk_a0 := (Fld.other W11 F6 (Or.inr (slot_ne (Or.inr (hw _ (List.mem_of_getElem? (i := 46) rfl))) (Or.inr (hw _ (List.mem_of_getElem? (i := 42) rfl))) (by decide) (t := .int) (t' := .long) (by decide) (by decide))))
  have F16 : Fld Z h11 a0 "com/example/octroi/octroi/bench/ClosedLoop$Sent" "succeeded" "I" u_succeeded_a0 := (Fld.other W11 F7 (Or.inr (slot_ne (Or.inr (hw _ (List.mem_of_getElem? (i := 48) rfl))) (Or.inr (hw _ (List.mem_of_getElem? (i := 42) rfl))) (by decide) (t := .int) (t' := .long) (by decide) (by decide))))
  have F17 : Old Z n0 h11 := (F8.wr W11 g_a0)
  have F18 : Fld Z h11 a0 "com/example/octroi/octroi/bench/ClosedLoop$Sent" "nanos" "J" (.long q2) := Fld.same W11 F4
  have K19 : Keep h0 h11 [a0] := K10.wr W11 (Or.inl (List.mem_of_getElem? (i := 0) rfl))
  show own_Ends _ _ _ _ _ _ _ (T11.setTop (mkF m 14 #[.val (.ref a0), .val (.int p1), .val (.long q2), .second, .val (.ref a3), .val (.int p4), .val (.int p5)] []))
  refine own_go (fun _ k => XS.aloadN X11.here hx rfl (hb hby d2_14) rfl rfl k) ?_
  show own_Ends _ _ _ _ _ _ _ (T11.setTop (mkF m 15 #[.val (.ref a0), .val (.int p1), .val (.long q2), .second, .val (.ref a3), .val (.int p4), .val (.int p5)] [(.ref a0)]))
  refine own_go (fun _ k => XS.aload X11.here hx rfl (hb hby d2_15) rfl rfl k) ?_
  show own_Ends _ _ _ _ _ _ _ (T11.setTop (mkF m 17 #[.val (.ref a0), .val (.int p1), .val (.long q2), .second, .val (.ref a3), .val (.int p4), .val (.int p5)] [(.ref a3), (.ref a0)]))
  obtain ⟨T20, h20, X20, e20, W20, st20⟩ := putF X11 hx hZ hown (host := "") (Or.inl (hw _ (List.mem_of_getElem? (i := 43) rfl))) Via.refl e11 F14 F12 (Or.inr ⟨(hw _ (List.mem_of_getElem? (i := 44) rfl)), rfl, hnm⟩) (hw _ (List.mem_of_getElem? (i := 26) rfl)) (ty := (.array .long)) (by decide) rfl rfl (g := (mkF m 17 #[.val (.ref a0), .val (.int p1), .val (.long q2), .second, .val (.ref a3), .val (.int p4), .val (.int p5)] [(.ref a3), (.ref a0)])) rfl rfl (hb hby d2_17)
  refine own_go (fun _ k => st20 _ k) ?_
  have N20 := Fr.snoc X20 N11 g_a0
  have F21 : Exa Z h20 a0 "com/example/octroi/octroi/bench/ClosedLoop$Sent" := (Exa.wr W20 F12)
  have F22 : Fld Z h20 a0 "com/example/octroi/octroi/bench/ClosedLoop$Sent" "count" "I" (.int p1) := (Fld.other W20 F13 (Or.inr (slot_ne (Or.inr (hw _ (List.mem_of_getElem? (i := 40) rfl))) (Or.inr (hw _ (List.mem_of_getElem? (i := 44) rfl))) (by decide) (t := .int) (t' := (.array .long)) (by decide) (by decide))))
  have F23 : Fld Z h20 a0 "com/example/octroi/octroi/bench/ClosedLoop$Sent" "nanos" "J" (.long q2) := (Fld.other W20 F18 (Or.inr (slot_ne (Or.inr (hw _ (List.mem_of_getElem? (i := 42) rfl))) (Or.inr (hw _ (List.mem_of_getElem? (i := 44) rfl))) (by decide) (t := .long) (t' := (.array .long)) (by decide) (by decide))))
  have F24 : Fld Z h20 a0 "com/example/octroi/octroi/bench/ClosedLoop$Sent" "notOk" "I" u_notOk_a0 := (Fld.other W20 F15 (Or.inr (slot_ne (Or.inr (hw _ (List.mem_of_getElem? (i := 46) rfl))) (Or.inr (hw _ (List.mem_of_getElem? (i := 44) rfl))) (by decide) (t := .int) (t' := (.array .long)) (by decide) (by decide))))
  have F25 : Fld Z h20 a0 "com/example/octroi/octroi/bench/ClosedLoop$Sent" "succeeded" "I" u_succeeded_a0 := (Fld.other W20 F16 (Or.inr (slot_ne (Or.inr (hw _ (List.mem_of_getElem? (i := 48) rfl))) (Or.inr (hw _ (List.mem_of_getElem? (i := 44) rfl))) (by decide) (t := .int) (t' := (.array .long)) (by decide) (by decide))))
  have F26 : Old Z n0 h20 := (F17.wr W20 g_a0)
  have F27 : Fld Z h20 a0 "com/example/octroi/octroi/bench/ClosedLoop$Sent" "latencies" "[J" (.ref a3) := Fld.same W20 F14
  have K28 : Keep h0 h20 [a0] := K19.wr W20 (Or.inl (List.mem_of_getElem? (i := 0) rfl))
  show own_Ends _ _ _ _ _ _ _ (T20.setTop (mkF m 20 #[.val (.ref a0), .val (.int p1), .val (.long q2), .second, .val (.ref a3), .val (.int p4), .val (.int p5)] []))
  refine own_go (fun _ k => XS.aloadN X20.here hx rfl (hb hby d2_20) rfl rfl k) ?_
  show own_Ends _ _ _ _ _ _ _ (T20.setTop (mkF m 21 #[.val (.ref a0), .val (.int p1), .val (.long q2), .second, .val (.ref a3), .val (.int p4), .val (.int p5)] [(.ref a0)]))
  refine own_go (fun _ k => XS.iload X20.here hx rfl (hb hby d2_21) rfl k) ?_
  show own_Ends _ _ _ _ _ _ _ (T20.setTop (mkF m 23 #[.val (.ref a0), .val (.int p1), .val (.long q2), .second, .val (.ref a3), .val (.int p4), .val (.int p5)] [(.int p4), (.ref a0)]))
  obtain ⟨T29, h29, X29, e29, W29, st29⟩ := putF X20 hx hZ hown (host := "") (Or.inl (hw _ (List.mem_of_getElem? (i := 45) rfl))) Via.refl e20 F24 F21 (Or.inr ⟨(hw _ (List.mem_of_getElem? (i := 46) rfl)), rfl, hnm⟩) (hw _ (List.mem_of_getElem? (i := 26) rfl)) (ty := .int) (by decide) rfl rfl (g := (mkF m 23 #[.val (.ref a0), .val (.int p1), .val (.long q2), .second, .val (.ref a3), .val (.int p4), .val (.int p5)] [(.int p4), (.ref a0)])) rfl rfl (hb hby d2_23)
  refine own_go (fun _ k => st29 _ k) ?_
  have N29 := Fr.snoc X29 N20 g_a0
  have F30 : Exa Z h29 a0 "com/example/octroi/octroi/bench/ClosedLoop$Sent" := (Exa.wr W29 F21)
  have F31 : Fld Z h29 a0 "com/example/octroi/octroi/bench/ClosedLoop$Sent" "count" "I" (.int p1) := (Fld.other W29 F22 (Or.inr (slot_ne (Or.inr (hw _ (List.mem_of_getElem? (i := 40) rfl))) (Or.inr (hw _ (List.mem_of_getElem? (i := 46) rfl))) (by decide) (t := .int) (t' := .int) (by decide) (by decide))))
  have F32 : Fld Z h29 a0 "com/example/octroi/octroi/bench/ClosedLoop$Sent" "nanos" "J" (.long q2) := (Fld.other W29 F23 (Or.inr (slot_ne (Or.inr (hw _ (List.mem_of_getElem? (i := 42) rfl))) (Or.inr (hw _ (List.mem_of_getElem? (i := 46) rfl))) (by decide) (t := .long) (t' := .int) (by decide) (by decide))))
  have F33 : Fld Z h29 a0 "com/example/octroi/octroi/bench/ClosedLoop$Sent" "latencies" "[J" (.ref a3) := (Fld.other W29 F27 (Or.inr (slot_ne (Or.inr (hw _ (List.mem_of_getElem? (i := 44) rfl))) (Or.inr (hw _ (List.mem_of_getElem? (i := 46) rfl))) (by decide) (t := (.array .long)) (t' := .int) (by decide) (by decide))))
  have F34 : Fld Z h29 a0 "com/example/octroi/octroi/bench/ClosedLoop$Sent" "succeeded" "I" u_succeeded_a0 := (Fld.other W29 F25 (Or.inr (slot_ne (Or.inr (hw _ (List.mem_of_getElem? (i := 48) rfl))) (Or.inr (hw _ (List.mem_of_getElem? (i := 46) rfl))) (by decide) (t := .int) (t' := .int) (by decide) (by decide))))
  have F35 : Old Z n0 h29 := (F26.wr W29 g_a0)
  have F36 : Fld Z h29 a0 "com/example/octroi/octroi/bench/ClosedLoop$Sent" "notOk" "I" (.int p4) := Fld.same W29 F24
  have K37 : Keep h0 h29 [a0] := K28.wr W29 (Or.inl (List.mem_of_getElem? (i := 0) rfl))
  show own_Ends _ _ _ _ _ _ _ (T29.setTop (mkF m 26 #[.val (.ref a0), .val (.int p1), .val (.long q2), .second, .val (.ref a3), .val (.int p4), .val (.int p5)] []))
  refine own_go (fun _ k => XS.aloadN X29.here hx rfl (hb hby d2_26) rfl rfl k) ?_
  show own_Ends _ _ _ _ _ _ _ (T29.setTop (mkF m 27 #[.val (.ref a0), .val (.int p1), .val (.long q2), .second, .val (.ref a3), .val (.int p4), .val (.int p5)] [(.ref a0)]))
  refine own_go (fun _ k => XS.iload X29.here hx rfl (hb hby d2_27) rfl k) ?_
  show own_Ends _ _ _ _ _ _ _ (T29.setTop (mkF m 29 #[.val (.ref a0), .val (.int p1), .val (.long q2), .second, .val (.ref a3), .val (.int p4), .val (.int p5)] [(.int p5), (.ref a0)]))
  obtain ⟨T38, h38, X38, e38, W38, st38⟩ := putF X29 hx hZ hown (host := "") (Or.inl (hw _ (List.mem_of_getElem? (i := 47) rfl))) Via.refl e29 F34 F30 (Or.inr ⟨(hw _ (List.mem_of_getElem? (i := 48) rfl)), rfl, hnm⟩) (hw _ (List.mem_of_getElem? (i := 26) rfl)) (ty := .int) (by decide) rfl rfl (g := (mkF m 29 #[.val (.ref a0), .val (.int p1), .val (.long q2), .second, .val (.ref a3), .val (.int p4), .val (.int p5)] [(.int p5), (.ref a0)])) rfl rfl (hb hby d2_29)
  refine own_go (fun _ k => st38 _ k) ?_
  have N38 := Fr.snoc X38 N29 g_a0
  have F39 : Exa Z h38 a0 "com/example/octroi/octroi/bench/ClosedLoop$Sent" := (Exa.wr W38 F30)
  have F40 : Fld Z h38 a0 "com/example/octroi/octroi/bench/ClosedLoop$Sent" "count" "I" (.int p1) := (Fld.other W38 F31 (Or.inr (slot_ne (Or.inr (hw _ (List.mem_of_getElem? (i := 40) rfl))) (Or.inr (hw _ (List.mem_of_getElem? (i := 48) rfl))) (by decide) (t := .int) (t' := .int) (by decide) (by decide))))
  have F41 : Fld Z h38 a0 "com/example/octroi/octroi/bench/ClosedLoop$Sent" "nanos" "J" (.long q2) := (Fld.other W38 F32 (Or.inr (slot_ne (Or.inr (hw _ (List.mem_of_getElem? (i := 42) rfl))) (Or.inr (hw _ (List.mem_of_getElem? (i := 48) rfl))) (by decide) (t := .long) (t' := .int) (by decide) (by decide))))
  have F42 : Fld Z h38 a0 "com/example/octroi/octroi/bench/ClosedLoop$Sent" "latencies" "[J" (.ref a3) := (Fld.other W38 F33 (Or.inr (slot_ne (Or.inr (hw _ (List.mem_of_getElem? (i := 44) rfl))) (Or.inr (hw _ (List.mem_of_getElem? (i := 48) rfl))) (by decide) (t := (.array .long)) (t' := .int) (by decide) (by decide))))
  have F43 : Fld Z h38 a0 "com/example/octroi/octroi/bench/ClosedLoop$Sent" "notOk" "I" (.int p4) := (Fld.other W38 F36 (Or.inr (slot_ne (Or.inr (hw _ (List.mem_of_getElem? (i := 46) rfl))) (Or.inr (hw _ (List.mem_of_getElem? (i := 48) rfl))) (by decide) (t := .int) (t' := .int) (by decide) (by decide))))
  have F44 : Old Z n0 h38 := (F35.wr W38 g_a0)
  have F45 : Fld Z h38 a0 "com/example/octroi/octroi/bench/ClosedLoop$Sent" "succeeded" "I" (.int p5) := Fld.same W38 F34
  have K46 : Keep h0 h38 [a0] := K37.wr W38 (Or.inl (List.mem_of_getElem? (i := 0) rfl))
  show own_Ends _ _ _ _ _ _ _ (T38.setTop (mkF m 32 #[.val (.ref a0), .val (.int p1), .val (.long q2), .second, .val (.ref a3), .val (.int p4), .val (.int p5)] []))
  exact own_retV X38 hx hlk Bd.returns (hb hby d2_32) (by decide) (by decide) (by rw [e38]; exact ⟨rfl, N38, K46, F39, F40, F41, F42, F43, F45⟩)
theorem dps_0 : decode prog_12_method_2_code 0 = .ok (.aload_n 0, 1) := by decide +kernel
theorem dps_1 : decode prog_12_method_2_code 1 = .ok (.getfield 7, 3) := by decide +kernel
theorem dps_4 : decode prog_12_method_2_code 4 = .ok (.i2d, 1) := by decide +kernel
theorem dps_5 : decode prog_12_method_2_code 5 = .ok (.ldc2_w 27, 3) := by decide +kernel
theorem dps_8 : decode prog_12_method_2_code 8 = .ok (.dmul, 1) := by decide +kernel
theorem dps_9 : decode prog_12_method_2_code 9 = .ok (.aload_n 0, 1) := by decide +kernel
theorem dps_10 : decode prog_12_method_2_code 10 = .ok (.getfield 13, 3) := by decide +kernel
theorem dps_13 : decode prog_12_method_2_code 13 = .ok (.l2d, 1) := by decide +kernel
theorem dps_14 : decode prog_12_method_2_code 14 = .ok (.ddiv, 1) := by decide +kernel
theorem dps_15 : decode prog_12_method_2_code 15 = .ok (.dreturn, 1) := by decide +kernel
theorem pnps : plainName "com/example/octroi/octroi/bench/ClosedLoop$Sent" = true := by first | (simp [plainName, overriddenIn]; done) | decide +kernel
theorem efps (m : MethodId) (a0 : Addr) : entryFrame m #[(.ref a0)] 1 = mkF m 0 #[.val (.ref a0)] [] := by first | (simp [entryFrame, mkF, argsToLocals, Value.category]; done) | rfl
def fps (a0 : Addr) (v_count_a0 : Int32) (v_nanos_a0 : Int64) : UInt64 := (FP.ddiv (FP.dmul (FP.i2d v_count_a0) (4741671816366391296 : UInt64)) (FP.l2d v_nanos_a0))
def Qps (Z : State) (a0 : Addr) (v_count_a0 : Int32) (v_nanos_a0 : Int64) (h0 : Heap) (n0 : Nat) (v : Option Value) (h : Heap) (L : List Loc) : Prop := v = some (.double (fps a0 v_count_a0 v_nanos_a0)) ∧ Fr n0 L ∧ h = h0
set_option maxRecDepth 65536 in
set_option maxHeartbeats 40000000 in
theorem rmps (l : Launch) (Z : State) (ar : Array Value) (hw : ∀ d ∈ tables_1, d.before ar Z = true) (ws : List Jvm.Cond) (a0 : Addr) (v_count_a0 : Int32) (v_nanos_a0 : Int64) (h0 : Heap) (n0 : Nat) (O0 : Old Z n0 h0) (E_a0 : Exa Z h0 a0 "com/example/octroi/octroi/bench/ClosedLoop$Sent") (F_count_a0 : Fld Z h0 a0 "com/example/octroi/octroi/bench/ClosedLoop$Sent" "count" "I" (.int v_count_a0)) (F_nanos_a0 : Fld Z h0 a0 "com/example/octroi/octroi/bench/ClosedLoop$Sent" "nanos" "J" (.long v_nanos_a0)) (h14 : Jvm.Free.Fl.NoNaN64 (FP.ddiv (FP.dmul (FP.i2d v_count_a0) (4741671816366391296 : UInt64)) (FP.l2d v_nanos_a0))) :
    MetFree l (⟨"com/example/octroi/octroi/bench/ClosedLoop$Sent", "perSecond", "()D"⟩ : MethodName) (head1 (Jvm.Cond.code (⟨"com/example/octroi/octroi/bench/ClosedLoop$Sent", "perSecond", "()D"⟩ : MethodName) prog_12_method_2_code 1 (some .double) :: ws) ({ frames := 0, cells := 0, slots := 0, locals := 0 } : Room)) (fun a U => a = #[(.ref a0)] ∧ Z.Warmed39 U.vm ∧ U.heap = h0) (fun _ _ _ _ _ => True) (fun _ U o U' => ∃ v L, o = .returned v ∧ Qps Z a0 v_count_a0 v_nanos_a0 h0 n0 v U'.heap L ∧ FrameEnd U o U' L ({ frames := 0, cells := 0, slots := 0, locals := 0 } : Room).cells ({ frames := 0, cells := 0, slots := 0, locals := 0 } : Room).slots) := by
  refine MetFree.of_bodySF (plainFor_of_name pnps) hisR ?_
  intro p e s m args below meth c s₁ Bd hml0 hP hK
  obtain ⟨rfl, hZ, hh⟩ := hP
  have hx := Bd.exec
  have hby := Bd.bytes
  have hml : c.maxLocals = 1 := hml0
  have hown : s.vm.findClass "com/example/octroi/octroi/bench/ClosedLoop$Sent" = some m.cls := findClass_of_methodNamed Bd.named
  have hnm := (name_of_methodNamed Bd.named Bd.method).1
  have hlk : meth.locks = false := BodyLoose.notSynchronized Bd
  have X0 : Stand p l e ({ frames := 0, cells := 0, slots := 0, locals := 0 } : Room) s m #[(.ref a0)] below meth c s₁ [] 0 0 := Stand.of_body Bd
  have e0 : s₁.heap = h0 := by rw [← hh, Bd.state]; rfl
  have N0 := Fr.nil n0
  suffices hmain : own_Ends p e below s (Qps Z a0 v_count_a0 v_nanos_a0 h0 n0) 0 0 (s₁.setTop (mkF m 0 #[.val (.ref a0)] [])) by
    obtain ⟨U, o, h1, r⟩ := hmain
    exact ⟨U, o, castTop (efps m a0) h1, r⟩
  show own_Ends _ _ _ _ _ _ _ (s₁.setTop (mkF m 0 #[.val (.ref a0)] []))
  refine own_go (fun _ k => XS.aloadN X0.here hx rfl (hb hby dps_0) rfl rfl k) ?_
  show own_Ends _ _ _ _ _ _ _ (s₁.setTop (mkF m 1 #[.val (.ref a0)] [(.ref a0)]))
  obtain ⟨T1, X1, e1, st1⟩ := getF X0 hx hZ hown (host := "") (Or.inl (hw _ (List.mem_of_getElem? (i := 39) rfl))) Via.refl e0 F_count_a0 (g := (mkF m 1 #[.val (.ref a0)] [(.ref a0)])) rfl rfl (hb hby dps_1)
  refine own_go (fun _ k => st1 _ k) ?_
  show own_Ends _ _ _ _ _ _ _ (T1.setTop (mkF m 4 #[.val (.ref a0)] [(.int v_count_a0)]))
  refine own_go (fun _ k => XS.i2dS X1.here hx rfl (hb hby dps_4) rfl rfl k) ?_
  show own_Ends _ _ _ _ _ _ _ (T1.setTop (mkF m 5 #[.val (.ref a0)] [(.double (FP.i2d v_count_a0))]))
  refine own_go (fun _ k => X1.ldc2DoubleC hx hown (mvT hZ (hw _ (List.mem_of_getElem? (i := 54) rfl))) (g := (mkF m 5 #[.val (.ref a0)] [(.double (FP.i2d v_count_a0))])) rfl (hb hby dps_5) _ k) ?_
  show own_Ends _ _ _ _ _ _ _ (T1.setTop (mkF m 8 #[.val (.ref a0)] [(.double (4741671816366391296 : UInt64)), (.double (FP.i2d v_count_a0))]))
  refine own_go (fun _ k => XS.dmulS X1.here hx rfl (hb hby dps_8) rfl (own_num _).noNaN rfl k) ?_
  show own_Ends _ _ _ _ _ _ _ (T1.setTop (mkF m 9 #[.val (.ref a0)] [(.double (FP.dmul (FP.i2d v_count_a0) (4741671816366391296 : UInt64)))]))
  refine own_go (fun _ k => XS.aloadN X1.here hx rfl (hb hby dps_9) rfl rfl k) ?_
  show own_Ends _ _ _ _ _ _ _ (T1.setTop (mkF m 10 #[.val (.ref a0)] [(.ref a0), (.double (FP.dmul (FP.i2d v_count_a0) (4741671816366391296 : UInt64)))]))
  obtain ⟨T2, X2, e2, st2⟩ := getF X1 hx hZ hown (host := "") (Or.inl (hw _ (List.mem_of_getElem? (i := 41) rfl))) Via.refl e1 F_nanos_a0 (g := (mkF m 10 #[.val (.ref a0)] [(.ref a0), (.double (FP.dmul (FP.i2d v_count_a0) (4741671816366391296 : UInt64)))])) rfl rfl (hb hby dps_10)
  refine own_go (fun _ k => st2 _ k) ?_
  show own_Ends _ _ _ _ _ _ _ (T2.setTop (mkF m 13 #[.val (.ref a0)] [(.long v_nanos_a0), (.double (FP.dmul (FP.i2d v_count_a0) (4741671816366391296 : UInt64)))]))
  refine own_go (fun _ k => XS.l2dS X2.here hx rfl (hb hby dps_13) rfl rfl k) ?_
  show own_Ends _ _ _ _ _ _ _ (T2.setTop (mkF m 14 #[.val (.ref a0)] [(.double (FP.l2d v_nanos_a0)), (.double (FP.dmul (FP.i2d v_count_a0) (4741671816366391296 : UInt64)))]))
  refine own_go (fun _ k => XS.ddivS X2.here hx rfl (hb hby dps_14) rfl h14 rfl k) ?_
  show own_Ends _ _ _ _ _ _ _ (T2.setTop (mkF m 15 #[.val (.ref a0)] [(.double (FP.ddiv (FP.dmul (FP.i2d v_count_a0) (4741671816366391296 : UInt64)) (FP.l2d v_nanos_a0)))]))
  exact own_retD X2 hx hlk Bd.returns (hb hby dps_15) (by decide) (by decide) ⟨congrArg (fun z => some (Value.double z)) (by exact rfl), N0, e2⟩
def frate (p0 : Int32) (q1 : Int64) : UInt64 := own_r p0 q1
theorem drate_0 : decode method_2_code 0 = .ok (.new 7, 3) := by decide +kernel
theorem drate_3 : decode method_2_code 3 = .ok (.dup, 1) := by decide +kernel
theorem drate_4 : decode method_2_code 4 = .ok (.iload_n 0, 1) := by decide +kernel
theorem drate_5 : decode method_2_code 5 = .ok (.lload_n 1, 1) := by decide +kernel
theorem drate_6 : decode method_2_code 6 = .ok (.iconst 0, 1) := by decide +kernel
theorem drate_7 : decode method_2_code 7 = .ok (.newarray .long, 2) := by decide +kernel
theorem drate_9 : decode method_2_code 9 = .ok (.iconst 0, 1) := by decide +kernel
theorem drate_10 : decode method_2_code 10 = .ok (.iconst 0, 1) := by decide +kernel
theorem drate_11 : decode method_2_code 11 = .ok (.invokespecial 9, 3) := by decide +kernel
theorem drate_14 : decode method_2_code 14 = .ok (.invokevirtual 12, 3) := by decide +kernel
theorem drate_17 : decode method_2_code 17 = .ok (.dreturn, 1) := by decide +kernel
theorem pnrate : plainName "com/example/octroi/octroi/bench/SentPerSecondPinLaw" = true := by first | (simp [plainName, overriddenIn]; done) | decide +kernel
theorem pdrate_0 : parseMethodDescriptor "(IJ[JII)V" = some ⟨[.int, .long, (.array .long), .int, .int], none⟩ := by decide +kernel
theorem pdrate_1 : parseMethodDescriptor "()D" = some ⟨[], some .double⟩ := by decide +kernel
theorem efrate (m : MethodId) (p0 : Int32) (q1 : Int64) : entryFrame m #[(.int p0), (.long q1)] 3 = mkF m 0 #[.val (.int p0), .val (.long q1), .second] [] := by first | (simp [entryFrame, mkF, argsToLocals, Value.category]; done) | rfl
def Qrate (Z : State) (p0 : Int32) (q1 : Int64) (h0 : Heap) (n0 : Nat) (v : Option Value) (h : Heap) (L : List Loc) : Prop := v = some (.double (frate p0 q1)) ∧ Fr n0 L ∧ Keep h0 h []
set_option maxRecDepth 65536 in
set_option maxHeartbeats 40000000 in
theorem rmrate (l : Launch) (Z : State) (ar : Array Value) (hw : ∀ d ∈ tables_1, d.before ar Z = true) (ws : List Jvm.Cond) (p0 : Int32) (q1 : Int64) (h0 : Heap) (n0 : Nat) (O0 : Old Z n0 h0) (hq : 0 < q1.toInt) :
    MetFree l (⟨"com/example/octroi/octroi/bench/SentPerSecondPinLaw", "rate", "(IJ)D"⟩ : MethodName) (head1 (Jvm.Cond.code (⟨"com/example/octroi/octroi/bench/SentPerSecondPinLaw", "rate", "(IJ)D"⟩ : MethodName) method_2_code 3 (some .double) :: ws) ({ frames := 3, cells := 2, slots := 5, locals := 43 } : Room)) (fun a U => a = #[(.int p0), (.long q1)] ∧ Z.Warmed39 U.vm ∧ U.heap = h0) (fun _ _ _ _ _ => True) (fun _ U o U' => ∃ v L, o = .returned v ∧ Qrate Z p0 q1 h0 n0 v U'.heap L ∧ FrameEnd U o U' L ({ frames := 3, cells := 2, slots := 5, locals := 43 } : Room).cells ({ frames := 3, cells := 2, slots := 5, locals := 43 } : Room).slots) := by
  refine MetFree.of_bodySF (plainFor_of_name pnrate) hisR ?_
  intro p e s m args below meth c s₁ Bd hml0 hP hK
  obtain ⟨rfl, hZ, hh⟩ := hP
  have hx := Bd.exec
  have hby := Bd.bytes
  have hml : c.maxLocals = 3 := hml0
  have hown : s.vm.findClass "com/example/octroi/octroi/bench/SentPerSecondPinLaw" = some m.cls := findClass_of_methodNamed Bd.named
  have hnm := (name_of_methodNamed Bd.named Bd.method).1
  have hlk : meth.locks = false := BodyLoose.notSynchronized Bd
  have X0 : Stand p l e ({ frames := 3, cells := 2, slots := 5, locals := 43 } : Room) s m #[(.int p0), (.long q1)] below meth c s₁ [] 0 0 := Stand.of_body Bd
  have e0 : s₁.heap = h0 := by rw [← hh, Bd.state]; rfl
  have N0 := Fr.nil n0
  suffices hmain : own_Ends p e below s (Qrate Z p0 q1 h0 n0) 2 5 (s₁.setTop (mkF m 0 #[.val (.int p0), .val (.long q1), .second] [])) by
    obtain ⟨U, o, h1, r⟩ := hmain
    exact ⟨U, o, castTop (efrate m p0 q1) h1, r⟩
  show own_Ends _ _ _ _ _ _ _ (s₁.setTop (mkF m 0 #[.val (.int p0), .val (.long q1), .second] []))
  obtain ⟨T1, h1, X1, e1, E1, A1, D1, -, st1⟩ := newO X0 hx hZ hown (hw _ (List.mem_of_getElem? (i := 25) rfl)) (hw _ (List.mem_of_getElem? (i := 26) rfl)) (hw _ (List.mem_of_getElem? (i := 27) rfl)) e0 (g := (mkF m 0 #[.val (.int p0), .val (.long q1), .second] [])) rfl (hb hby drate_0) (by decide) (by decide)
  obtain ⟨b1, q_b1⟩ : ∃ z, z = h0.size := ⟨_, rfl⟩
  rw [← q_b1] at A1 D1 st1
  have g_b1 : n0 ≤ b1 := Nat.le_trans (own_sz O0) (Nat.le_of_eq q_b1.symm)
  refine own_go (fun _ k => st1 _ k) ?_
  have F2 : Old Z n0 h1 := (O0.ext E1)
  have gh_b1 : h0.size ≤ b1 := Nat.le_trans (Keep.refl h0 []).1 (Nat.le_of_eq q_b1.symm)
  have K3 : Keep h0 h1 [] := (Keep.refl h0 []).ext E1
  have F4 : Fld Z h1 b1 "com/example/octroi/octroi/bench/ClosedLoop$Sent" "count" "I" (.int (0 : Int32)) := D1 (Or.inr (hw _ (List.mem_of_getElem? (i := 40) rfl))) (ty := .int) (by decide)
  have F5 : Fld Z h1 b1 "com/example/octroi/octroi/bench/ClosedLoop$Sent" "nanos" "J" (.long (0 : Int64)) := D1 (Or.inr (hw _ (List.mem_of_getElem? (i := 42) rfl))) (ty := .long) (by decide)
  have F6 : Fld Z h1 b1 "com/example/octroi/octroi/bench/ClosedLoop$Sent" "latencies" "[J" .null := D1 (Or.inr (hw _ (List.mem_of_getElem? (i := 44) rfl))) (ty := (.array .long)) (by decide)
  have F7 : Fld Z h1 b1 "com/example/octroi/octroi/bench/ClosedLoop$Sent" "notOk" "I" (.int (0 : Int32)) := D1 (Or.inr (hw _ (List.mem_of_getElem? (i := 46) rfl))) (ty := .int) (by decide)
  have F8 : Fld Z h1 b1 "com/example/octroi/octroi/bench/ClosedLoop$Sent" "succeeded" "I" (.int (0 : Int32)) := D1 (Or.inr (hw _ (List.mem_of_getElem? (i := 48) rfl))) (ty := .int) (by decide)
  show own_Ends _ _ _ _ _ _ _ (T1.setTop (mkF m 3 #[.val (.int p0), .val (.long q1), .second] [(.ref b1)]))
  refine own_go (fun _ k => XS.dup X1.here hx rfl (hb hby drate_3) rfl rfl k) ?_
  show own_Ends _ _ _ _ _ _ _ (T1.setTop (mkF m 4 #[.val (.int p0), .val (.long q1), .second] [(.ref b1), (.ref b1)]))
  refine own_go (fun _ k => XS.iloadN X1.here hx rfl (hb hby drate_4) rfl k) ?_
  show own_Ends _ _ _ _ _ _ _ (T1.setTop (mkF m 5 #[.val (.int p0), .val (.long q1), .second] [(.int p0), (.ref b1), (.ref b1)]))
  refine own_go (fun _ k => XS.lloadN X1.here hx rfl (hb hby drate_5) rfl k) ?_
  show own_Ends _ _ _ _ _ _ _ (T1.setTop (mkF m 6 #[.val (.int p0), .val (.long q1), .second] [(.long q1), (.int p0), (.ref b1), (.ref b1)]))
  refine own_go (fun _ k => XS.iconst X1.here hx rfl (hb hby drate_6) k) ?_
  show own_Ends _ _ _ _ _ _ _ (T1.setTop (mkF m 7 #[.val (.int p0), .val (.long q1), .second] [(.int (0 : Int32)), (.long q1), (.int p0), (.ref b1), (.ref b1)]))
  obtain ⟨T9, h9, k9, X9, e9, E9, A9, st9⟩ := newP X1 hx hZ (hw _ (List.mem_of_getElem? (i := 0) rfl)) e1 (g := (mkF m 7 #[.val (.int p0), .val (.long q1), .second] [(.int (0 : Int32)), (.long q1), (.int p0), (.ref b1), (.ref b1)])) rfl (hb hby drate_7) rfl (by decide) (cap := 0) (by decide) (by decide) (by decide) (by decide)
  obtain ⟨b9, q_b9⟩ : ∃ z, z = h1.size := ⟨_, rfl⟩
  rw [← q_b9] at A9 st9
  have g_b9 : n0 ≤ b9 := Nat.le_trans (own_sz F2) (Nat.le_of_eq q_b9.symm)
  have ne_b1_b9 : b1 ≠ b9 := Nat.ne_of_lt (Nat.lt_of_lt_of_le A1.lt (Nat.le_of_eq q_b9.symm))
  refine own_go (fun _ k => st9 _ k) ?_
  have F10 : Old Z n0 h9 := (F2.ext E9)
  have F11 : Exa Z h9 b1 "com/example/octroi/octroi/bench/ClosedLoop$Sent" := (Exa.ext E9 A1)
  have F12 : Fld Z h9 b1 "com/example/octroi/octroi/bench/ClosedLoop$Sent" "count" "I" (.int (0 : Int32)) := (Fld.ext E9 F4)
  have F13 : Fld Z h9 b1 "com/example/octroi/octroi/bench/ClosedLoop$Sent" "nanos" "J" (.long (0 : Int64)) := (Fld.ext E9 F5)
  have F14 : Fld Z h9 b1 "com/example/octroi/octroi/bench/ClosedLoop$Sent" "latencies" "[J" .null := (Fld.ext E9 F6)
  have F15 : Fld Z h9 b1 "com/example/octroi/octroi/bench/ClosedLoop$Sent" "notOk" "I" (.int (0 : Int32)) := (Fld.ext E9 F7)
  have F16 : Fld Z h9 b1 "com/example/octroi/octroi/bench/ClosedLoop$Sent" "succeeded" "I" (.int (0 : Int32)) := (Fld.ext E9 F8)
  have gh_b9 : h0.size ≤ b9 := Nat.le_trans K3.1 (Nat.le_of_eq q_b9.symm)
  have K17 : Keep h0 h9 [] := K3.ext E9
  have F18 : own_Ar Z h9 b9 .long 0 (fun i => .long ((fun _ => (0 : Int64)) i)) := own_Ar.newJ A9 (by decide)
  show own_Ends _ _ _ _ _ _ _ (T9.setTop (mkF m 9 #[.val (.int p0), .val (.long q1), .second] [(.ref b9), (.long q1), (.int p0), (.ref b1), (.ref b1)]))
  refine own_go (fun _ k => XS.iconst X9.here hx rfl (hb hby drate_9) k) ?_
  show own_Ends _ _ _ _ _ _ _ (T9.setTop (mkF m 10 #[.val (.int p0), .val (.long q1), .second] [(.int (0 : Int32)), (.ref b9), (.long q1), (.int p0), (.ref b1), (.ref b1)]))
  refine own_go (fun _ k => XS.iconst X9.here hx rfl (hb hby drate_10) k) ?_
  show own_Ends _ _ _ _ _ _ _ (T9.setTop (mkF m 11 #[.val (.int p0), .val (.long q1), .second] [(.int (0 : Int32)), (.int (0 : Int32)), (.ref b9), (.long q1), (.int p0), (.ref b1), (.ref b1)]))
  obtain ⟨_, _, ⟨T19, L19, k19, n19⟩, -, X19, ⟨Lc19, hQ19, l19, y19, z19⟩, st19⟩ := X9.specialBack hx (y := (⟨"com/example/octroi/octroi/bench/ClosedLoop$Sent", "<init>", "(IJ[JII)V"⟩ : MethodName)) rfl hown (mvT hZ (hw _ (List.mem_of_getElem? (i := 28) rfl))) (mvT hZ (hw _ (List.mem_of_getElem? (i := 29) rfl))) (mvT hZ (hw _ (List.mem_of_getElem? (i := 30) rfl))) (by decide) (backOf (W := 1) (rm2 l Z ar hw [] b1 p0 q1 b9 (0 : Int32) (0 : Int32) ((.int (0 : Int32))) ((.long (0 : Int64))) (.null) ((.int (0 : Int32))) ((.int (0 : Int32))) h9 n0 F10 F11 g_b1 F12 F13 F14 F15 F16) hZ (hw _ (List.mem_of_getElem? (i := 30) rfl)) (hw _ (List.mem_of_getElem? (i := 27) rfl)) (by decide) (by decide)) (g := (mkF m 11 #[.val (.int p0), .val (.long q1), .second] [(.int (0 : Int32)), (.int (0 : Int32)), (.ref b9), (.long q1), (.int p0), (.ref b1), (.ref b1)])) rfl (by rw [hml]; rfl) (Steps.refl _) (a := b1) (argsL := [(.int p0), (.long q1), (.ref b9), (.int (0 : Int32)), (.int (0 : Int32))]) (rest := [(.ref b1)]) (lenOf pdrate_0 rfl) rfl (by show 2 * 0 + _ ≤ _; exact Nat.le_of_eq rfl) (hb hby drate_11) (fun _ _ => ⟨rfl, e9, (by decide : 2 + 0 ≤ _), (by decide : 5 + 0 ≤ _)⟩)
  dsimp only [Pt.U, Pt.locs, Pt.cells, Pt.slots] at X19 l19 y19 z19 st19 hQ19
  subst l19 y19 z19
  obtain ⟨rfl, N19q, K19, E19_0, F19_0, F19_1, F19_2, F19_3, F19_4⟩ := hQ19
  have N19 := Fr.app N0 N19q
  have F20 : Old Z n0 T19.heap := (F10.keep K19 (allS g_b1 all0))
  have F21 : own_Ar Z T19.heap b9 .long 0 (fun i => .long ((fun _ => (0 : Int64)) i)) := (F18.keep K19 (ninS (Ne.symm ne_b1_b9) nin0))
  have K22 : Keep h0 T19.heap [] := K17.trans K19 (allS (Or.inr gh_b1) all0)
  refine own_go (fun _ k => st19.trans k) ?_
  show own_Ends _ _ _ _ _ _ _ (T19.setTop (mkF m 14 #[.val (.int p0), .val (.long q1), .second] [(.ref b1)]))
  obtain ⟨cq23, kq23, q23a, q23b, q23c⟩ := isOf hZ rfl E19_0
  obtain ⟨_, _, ⟨T23, L23, k23, n23⟩, -, X23, ⟨Lc23, hQ23, l23, y23, z23⟩, st23⟩ := X19.virtualBack hx (y := (⟨"com/example/octroi/octroi/bench/ClosedLoop$Sent", "perSecond", "()D"⟩ : MethodName)) (z := (⟨"com/example/octroi/octroi/bench/ClosedLoop$Sent", "perSecond", "()D"⟩ : MethodName)) hown (mvT hZ (hw _ (List.mem_of_getElem? (i := 49) rfl))) (mvT hZ (hw _ (List.mem_of_getElem? (i := 50) rfl))) (notFace_of_selects (args := #[]) (mvT hZ (hw _ (List.mem_of_getElem? (i := 52) rfl)))) (mvT hZ (hw _ (List.mem_of_getElem? (i := 52) rfl))) (mvT hZ (hw _ (List.mem_of_getElem? (i := 51) rfl))) (by decide) (backOf (W := 0) (rmps l Z ar hw [] b1 p0 q1 T19.heap n0 F20 E19_0 F19_0 F19_1 (own_no (own_r_nn hq))) hZ (hw _ (List.mem_of_getElem? (i := 53) rfl)) (hw _ (List.mem_of_getElem? (i := 27) rfl)) (by decide) (by decide)) q23a q23c (g := (mkF m 14 #[.val (.int p0), .val (.long q1), .second] [(.ref b1)])) rfl (by rw [hml]; rfl) (Steps.refl _) (argsL := []) (rest := []) (lenOf pdrate_1 rfl) rfl (by show 2 * 0 + _ ≤ _; exact Nat.le_of_eq rfl) (hb hby drate_14) (fun _ _ => ⟨rfl, rfl, (by decide : 2 + 0 ≤ _), (by decide : 5 + 0 ≤ _)⟩)
  dsimp only [Pt.U, Pt.locs, Pt.cells, Pt.slots] at X23 l23 y23 z23 st23 hQ23
  subst l23 y23 z23
  obtain ⟨rfl, N23q, eq23⟩ := hQ23
  have e23 : T23.heap = T19.heap := eq23
  have N23 := Fr.app N19 N23q
  refine own_go (fun _ k => st23.trans k) ?_
  show own_Ends _ _ _ _ _ _ _ (T23.setTop (mkF m 17 #[.val (.int p0), .val (.long q1), .second] [(.double (fps b1 p0 q1))]))
  exact own_retD X23 hx hlk Bd.returns (hb hby drate_17) (by decide) (by decide) (by rw [e23]; exact ⟨rfl, N23, K22⟩)
theorem dminI_0 : decode jdk_29_method_69_code 0 = .ok (.iload_n 0, 1) := by decide +kernel
theorem dminI_1 : decode jdk_29_method_69_code 1 = .ok (.iload_n 1, 1) := by decide +kernel
theorem dminI_2 : decode jdk_29_method_69_code 2 = .ok (.if_icmp .gt 7, 3) := by decide +kernel
theorem dminI_5 : decode jdk_29_method_69_code 5 = .ok (.iload_n 0, 1) := by decide +kernel
theorem dminI_6 : decode jdk_29_method_69_code 6 = .ok (.goto 4, 3) := by decide +kernel
theorem dminI_9 : decode jdk_29_method_69_code 9 = .ok (.iload_n 1, 1) := by decide +kernel
theorem dminI_10 : decode jdk_29_method_69_code 10 = .ok (.ireturn, 1) := by decide +kernel
theorem efminI (m : MethodId) (p0 : Int32) (p1 : Int32) : entryFrame m #[(.int p0), (.int p1)] 2 = mkF m 0 #[.val (.int p0), .val (.int p1)] [] := by first | (simp [entryFrame, mkF, argsToLocals, Value.category]; done) | rfl
def fminI (p0 : Int32) (p1 : Int32) : Int32 := (if p1 < p0 then p1 else p0)
def QminI (Z : State) (p0 : Int32) (p1 : Int32) (h0 : Heap) (n0 : Nat) (v : Option Value) (h : Heap) (L : List Loc) : Prop := v = some (.int (fminI p0 p1)) ∧ Fr n0 L ∧ h = h0
set_option maxRecDepth 65536 in
set_option maxHeartbeats 40000000 in
theorem rmminI (l : Launch) (Z : State) (ar : Array Value) (hw : ∀ d ∈ tables_1, d.before ar Z = true) (ws : List Jvm.Cond) (p0 : Int32) (p1 : Int32) (h0 : Heap) (n0 : Nat) (O0 : Old Z n0 h0) :
    MetFree l (⟨"java/lang/Math", "min", "(II)I"⟩ : MethodName) (head1 (Jvm.Cond.code (⟨"java/lang/Math", "min", "(II)I"⟩ : MethodName) jdk_29_method_69_code 2 (some .int) :: ws) ({ frames := 0, cells := 0, slots := 0, locals := 0 } : Room)) (fun a U => a = #[(.int p0), (.int p1)] ∧ Z.Warmed39 U.vm ∧ U.heap = h0) (fun _ _ _ _ _ => True) (fun _ U o U' => ∃ v L, o = .returned v ∧ QminI Z p0 p1 h0 n0 v U'.heap L ∧ FrameEnd U o U' L ({ frames := 0, cells := 0, slots := 0, locals := 0 } : Room).cells ({ frames := 0, cells := 0, slots := 0, locals := 0 } : Room).slots) := by
  refine MetFree.of_bodySF (Jvm.Free.JP.mathPlain rfl (by decide +kernel)) hisR ?_
  intro p e s m args below meth c s₁ Bd hml0 hP hK
  obtain ⟨rfl, hZ, hh⟩ := hP
  have hx := Bd.exec
  have hby := Bd.bytes
  have hml : c.maxLocals = 2 := hml0
  have hown : s.vm.findClass "java/lang/Math" = some m.cls := findClass_of_methodNamed Bd.named
  have hnm := (name_of_methodNamed Bd.named Bd.method).1
  have hlk : meth.locks = false := BodyLoose.notSynchronized Bd
  have X0 : Stand p l e ({ frames := 0, cells := 0, slots := 0, locals := 0 } : Room) s m #[(.int p0), (.int p1)] below meth c s₁ [] 0 0 := Stand.of_body Bd
  have e0 : s₁.heap = h0 := by rw [← hh, Bd.state]; rfl
  have N0 := Fr.nil n0
  suffices hmain : own_Ends p e below s (QminI Z p0 p1 h0 n0) 0 0 (s₁.setTop (mkF m 0 #[.val (.int p0), .val (.int p1)] [])) by
    obtain ⟨U, o, h1, r⟩ := hmain
    exact ⟨U, o, castTop (efminI m p0 p1) h1, r⟩
  show own_Ends _ _ _ _ _ _ _ (s₁.setTop (mkF m 0 #[.val (.int p0), .val (.int p1)] []))
  refine own_go (fun _ k => XS.iloadN X0.here hx rfl (hb hby dminI_0) rfl k) ?_
  show own_Ends _ _ _ _ _ _ _ (s₁.setTop (mkF m 1 #[.val (.int p0), .val (.int p1)] [(.int p0)]))
  refine own_go (fun _ k => XS.iloadN X0.here hx rfl (hb hby dminI_1) rfl k) ?_
  show own_Ends _ _ _ _ _ _ _ (s₁.setTop (mkF m 2 #[.val (.int p0), .val (.int p1)] [(.int p1), (.int p0)]))
  by_cases hc1 : p1 < p0
  · refine own_go (fun _ k => XS.icmpYes X0.here hx rfl (pc0 := 2) (pc' := 9) rfl (hb hby dminI_2) rfl (tlt hc1).2.2.1 (by decide) (by decide) k) ?_
    show own_Ends _ _ _ _ _ _ _ (s₁.setTop (mkF m 9 #[.val (.int p0), .val (.int p1)] []))
    refine own_go (fun _ k => XS.iloadN X0.here hx rfl (hb hby dminI_9) rfl k) ?_
    show own_Ends _ _ _ _ _ _ _ (s₁.setTop (mkF m 10 #[.val (.int p0), .val (.int p1)] [(.int p1)]))
    exact own_retI X0 hx hlk Bd.returns (hb hby dminI_10) (by decide) (by decide) ⟨congrArg (fun z => some (Value.int z)) (by exact ((if_pos hc1)).symm), N0, e0⟩
  · refine own_go (fun _ k => XS.icmpNo X0.here hx rfl (hb hby dminI_2) rfl (flt hc1).2.2.1 k) ?_
    show own_Ends _ _ _ _ _ _ _ (s₁.setTop (mkF m 5 #[.val (.int p0), .val (.int p1)] []))
    refine own_go (fun _ k => XS.iloadN X0.here hx rfl (hb hby dminI_5) rfl k) ?_
    show own_Ends _ _ _ _ _ _ _ (s₁.setTop (mkF m 6 #[.val (.int p0), .val (.int p1)] [(.int p0)]))
    refine own_go (fun _ k => XS.goto X0.here hx rfl (pc0 := 6) (pc' := 10) rfl (hb hby dminI_6) (by decide) (by decide) k) ?_
    show own_Ends _ _ _ _ _ _ _ (s₁.setTop (mkF m 10 #[.val (.int p0), .val (.int p1)] [(.int p0)]))
    exact own_retI X0 hx hlk Bd.returns (hb hby dminI_10) (by decide) (by decide) ⟨congrArg (fun z => some (Value.int z)) (by exact ((if_neg hc1)).symm), N0, e0⟩
theorem dmaxI_0 : decode jdk_29_method_65_code 0 = .ok (.iload_n 0, 1) := by decide +kernel
theorem dmaxI_1 : decode jdk_29_method_65_code 1 = .ok (.iload_n 1, 1) := by decide +kernel
theorem dmaxI_2 : decode jdk_29_method_65_code 2 = .ok (.if_icmp .lt 7, 3) := by decide +kernel
theorem dmaxI_5 : decode jdk_29_method_65_code 5 = .ok (.iload_n 0, 1) := by decide +kernel
theorem dmaxI_6 : decode jdk_29_method_65_code 6 = .ok (.goto 4, 3) := by decide +kernel
theorem dmaxI_9 : decode jdk_29_method_65_code 9 = .ok (.iload_n 1, 1) := by decide +kernel
theorem dmaxI_10 : decode jdk_29_method_65_code 10 = .ok (.ireturn, 1) := by decide +kernel
theorem efmaxI (m : MethodId) (p0 : Int32) (p1 : Int32) : entryFrame m #[(.int p0), (.int p1)] 2 = mkF m 0 #[.val (.int p0), .val (.int p1)] [] := by first | (simp [entryFrame, mkF, argsToLocals, Value.category]; done) | rfl
def fmaxI (p0 : Int32) (p1 : Int32) : Int32 := (if p0 < p1 then p1 else p0)
def QmaxI (Z : State) (p0 : Int32) (p1 : Int32) (h0 : Heap) (n0 : Nat) (v : Option Value) (h : Heap) (L : List Loc) : Prop := v = some (.int (fmaxI p0 p1)) ∧ Fr n0 L ∧ h = h0
set_option maxRecDepth 65536 in
set_option maxHeartbeats 40000000 in
theorem rmmaxI (l : Launch) (Z : State) (ar : Array Value) (hw : ∀ d ∈ tables_1, d.before ar Z = true) (ws : List Jvm.Cond) (p0 : Int32) (p1 : Int32) (h0 : Heap) (n0 : Nat) (O0 : Old Z n0 h0) :
    MetFree l (⟨"java/lang/Math", "max", "(II)I"⟩ : MethodName) (head1 (Jvm.Cond.code (⟨"java/lang/Math", "max", "(II)I"⟩ : MethodName) jdk_29_method_65_code 2 (some .int) :: ws) ({ frames := 0, cells := 0, slots := 0, locals := 0 } : Room)) (fun a U => a = #[(.int p0), (.int p1)] ∧ Z.Warmed39 U.vm ∧ U.heap = h0) (fun _ _ _ _ _ => True) (fun _ U o U' => ∃ v L, o = .returned v ∧ QmaxI Z p0 p1 h0 n0 v U'.heap L ∧ FrameEnd U o U' L ({ frames := 0, cells := 0, slots := 0, locals := 0 } : Room).cells ({ frames := 0, cells := 0, slots := 0, locals := 0 } : Room).slots) := by
  refine MetFree.of_bodySF (Jvm.Free.JP.mathPlain rfl (by decide +kernel)) hisR ?_
  intro p e s m args below meth c s₁ Bd hml0 hP hK
  obtain ⟨rfl, hZ, hh⟩ := hP
  have hx := Bd.exec
  have hby := Bd.bytes
  have hml : c.maxLocals = 2 := hml0
  have hown : s.vm.findClass "java/lang/Math" = some m.cls := findClass_of_methodNamed Bd.named
  have hnm := (name_of_methodNamed Bd.named Bd.method).1
  have hlk : meth.locks = false := BodyLoose.notSynchronized Bd
  have X0 : Stand p l e ({ frames := 0, cells := 0, slots := 0, locals := 0 } : Room) s m #[(.int p0), (.int p1)] below meth c s₁ [] 0 0 := Stand.of_body Bd
  have e0 : s₁.heap = h0 := by rw [← hh, Bd.state]; rfl
  have N0 := Fr.nil n0
  suffices hmain : own_Ends p e below s (QmaxI Z p0 p1 h0 n0) 0 0 (s₁.setTop (mkF m 0 #[.val (.int p0), .val (.int p1)] [])) by
    obtain ⟨U, o, h1, r⟩ := hmain
    exact ⟨U, o, castTop (efmaxI m p0 p1) h1, r⟩
  show own_Ends _ _ _ _ _ _ _ (s₁.setTop (mkF m 0 #[.val (.int p0), .val (.int p1)] []))
  refine own_go (fun _ k => XS.iloadN X0.here hx rfl (hb hby dmaxI_0) rfl k) ?_
  show own_Ends _ _ _ _ _ _ _ (s₁.setTop (mkF m 1 #[.val (.int p0), .val (.int p1)] [(.int p0)]))
  refine own_go (fun _ k => XS.iloadN X0.here hx rfl (hb hby dmaxI_1) rfl k) ?_
  show own_Ends _ _ _ _ _ _ _ (s₁.setTop (mkF m 2 #[.val (.int p0), .val (.int p1)] [(.int p1), (.int p0)]))
  by_cases hc1 : p0 < p1
  · refine own_go (fun _ k => XS.icmpYes X0.here hx rfl (pc0 := 2) (pc' := 9) rfl (hb hby dmaxI_2) rfl (tlt hc1).1 (by decide) (by decide) k) ?_
    show own_Ends _ _ _ _ _ _ _ (s₁.setTop (mkF m 9 #[.val (.int p0), .val (.int p1)] []))
    refine own_go (fun _ k => XS.iloadN X0.here hx rfl (hb hby dmaxI_9) rfl k) ?_
    show own_Ends _ _ _ _ _ _ _ (s₁.setTop (mkF m 10 #[.val (.int p0), .val (.int p1)] [(.int p1)]))
    exact own_retI X0 hx hlk Bd.returns (hb hby dmaxI_10) (by decide) (by decide) ⟨congrArg (fun z => some (Value.int z)) (by exact ((if_pos hc1)).symm), N0, e0⟩
  · refine own_go (fun _ k => XS.icmpNo X0.here hx rfl (hb hby dmaxI_2) rfl (flt hc1).1 k) ?_
    show own_Ends _ _ _ _ _ _ _ (s₁.setTop (mkF m 5 #[.val (.int p0), .val (.int p1)] []))
    refine own_go (fun _ k => XS.iloadN X0.here hx rfl (hb hby dmaxI_5) rfl k) ?_
    show own_Ends _ _ _ _ _ _ _ (s₁.setTop (mkF m 6 #[.val (.int p0), .val (.int p1)] [(.int p0)]))
    refine own_go (fun _ k => XS.goto X0.here hx rfl (pc0 := 6) (pc' := 10) rfl (hb hby dmaxI_6) (by decide) (by decide) k) ?_
    show own_Ends _ _ _ _ _ _ _ (s₁.setTop (mkF m 10 #[.val (.int p0), .val (.int p1)] [(.int p0)]))
    exact own_retI X0 hx hlk Bd.returns (hb hby dmaxI_10) (by decide) (by decide) ⟨congrArg (fun z => some (Value.int z)) (by exact ((if_neg hc1)).symm), N0, e0⟩
theorem dmaxJ_0 : decode jdk_29_method_66_code 0 = .ok (.lload_n 0, 1) := by decide +kernel
theorem dmaxJ_1 : decode jdk_29_method_66_code 1 = .ok (.lload_n 2, 1) := by decide +kernel
theorem dmaxJ_2 : decode jdk_29_method_66_code 2 = .ok (.lcmp, 1) := by decide +kernel
theorem dmaxJ_3 : decode jdk_29_method_66_code 3 = .ok (.ifCond .lt 7, 3) := by decide +kernel
theorem dmaxJ_6 : decode jdk_29_method_66_code 6 = .ok (.lload_n 0, 1) := by decide +kernel
theorem dmaxJ_7 : decode jdk_29_method_66_code 7 = .ok (.goto 4, 3) := by decide +kernel
theorem dmaxJ_10 : decode jdk_29_method_66_code 10 = .ok (.lload_n 2, 1) := by decide +kernel
theorem dmaxJ_11 : decode jdk_29_method_66_code 11 = .ok (.lreturn, 1) := by decide +kernel
theorem efmaxJ (m : MethodId) (q0 : Int64) (q1 : Int64) : entryFrame m #[(.long q0), (.long q1)] 4 = mkF m 0 #[.val (.long q0), .second, .val (.long q1), .second] [] := by first | (simp [entryFrame, mkF, argsToLocals, Value.category]; done) | rfl
def fmaxJ (q0 : Int64) (q1 : Int64) : Int64 := (if (lcmpW q0 q1) < (0 : Int32) then q1 else q0)
def QmaxJ (Z : State) (q0 : Int64) (q1 : Int64) (h0 : Heap) (n0 : Nat) (v : Option Value) (h : Heap) (L : List Loc) : Prop := v = some (.long (fmaxJ q0 q1)) ∧ Fr n0 L ∧ h = h0
set_option maxRecDepth 65536 in
set_option maxHeartbeats 40000000 in
theorem rmmaxJ (l : Launch) (Z : State) (ar : Array Value) (hw : ∀ d ∈ tables_1, d.before ar Z = true) (ws : List Jvm.Cond) (q0 : Int64) (q1 : Int64) (h0 : Heap) (n0 : Nat) (O0 : Old Z n0 h0) :
    MetFree l (⟨"java/lang/Math", "max", "(JJ)J"⟩ : MethodName) (head1 (Jvm.Cond.code (⟨"java/lang/Math", "max", "(JJ)J"⟩ : MethodName) jdk_29_method_66_code 4 (some .long) :: ws) ({ frames := 0, cells := 0, slots := 0, locals := 0 } : Room)) (fun a U => a = #[(.long q0), (.long q1)] ∧ Z.Warmed39 U.vm ∧ U.heap = h0) (fun _ _ _ _ _ => True) (fun _ U o U' => ∃ v L, o = .returned v ∧ QmaxJ Z q0 q1 h0 n0 v U'.heap L ∧ FrameEnd U o U' L ({ frames := 0, cells := 0, slots := 0, locals := 0 } : Room).cells ({ frames := 0, cells := 0, slots := 0, locals := 0 } : Room).slots) := by
  refine MetFree.of_bodySF (Jvm.Free.JP.mathPlain rfl (by decide +kernel)) hisR ?_
  intro p e s m args below meth c s₁ Bd hml0 hP hK
  obtain ⟨rfl, hZ, hh⟩ := hP
  have hx := Bd.exec
  have hby := Bd.bytes
  have hml : c.maxLocals = 4 := hml0
  have hown : s.vm.findClass "java/lang/Math" = some m.cls := findClass_of_methodNamed Bd.named
  have hnm := (name_of_methodNamed Bd.named Bd.method).1
  have hlk : meth.locks = false := BodyLoose.notSynchronized Bd
  have X0 : Stand p l e ({ frames := 0, cells := 0, slots := 0, locals := 0 } : Room) s m #[(.long q0), (.long q1)] below meth c s₁ [] 0 0 := Stand.of_body Bd
  have e0 : s₁.heap = h0 := by rw [← hh, Bd.state]; rfl
  have N0 := Fr.nil n0
  suffices hmain : own_Ends p e below s (QmaxJ Z q0 q1 h0 n0) 0 0 (s₁.setTop (mkF m 0 #[.val (.long q0), .second, .val (.long q1), .second] [])) by
    obtain ⟨U, o, h1, r⟩ := hmain
    exact ⟨U, o, castTop (efmaxJ m q0 q1) h1, r⟩
  show own_Ends _ _ _ _ _ _ _ (s₁.setTop (mkF m 0 #[.val (.long q0), .second, .val (.long q1), .second] []))
  refine own_go (fun _ k => XS.lloadN X0.here hx rfl (hb hby dmaxJ_0) rfl k) ?_
  show own_Ends _ _ _ _ _ _ _ (s₁.setTop (mkF m 1 #[.val (.long q0), .second, .val (.long q1), .second] [(.long q0)]))
  refine own_go (fun _ k => XS.lloadN X0.here hx rfl (hb hby dmaxJ_1) rfl k) ?_
  show own_Ends _ _ _ _ _ _ _ (s₁.setTop (mkF m 2 #[.val (.long q0), .second, .val (.long q1), .second] [(.long q1), (.long q0)]))
  refine own_go (fun _ k => XS.lcmp X0.here hx rfl (hb hby dmaxJ_2) rfl k) ?_
  show own_Ends _ _ _ _ _ _ _ (s₁.setTop (mkF m 3 #[.val (.long q0), .second, .val (.long q1), .second] [(.int (lcmpW q0 q1))]))
  by_cases hc1 : (lcmpW q0 q1) < (0 : Int32)
  · refine own_go (fun _ k => XS.ifYes X0.here hx rfl (pc0 := 3) (pc' := 10) rfl (hb hby dmaxJ_3) rfl ((if0 _ _).trans (tlt hc1).1) (by decide) (by decide) k) ?_
    show own_Ends _ _ _ _ _ _ _ (s₁.setTop (mkF m 10 #[.val (.long q0), .second, .val (.long q1), .second] []))
    refine own_go (fun _ k => XS.lloadN X0.here hx rfl (hb hby dmaxJ_10) rfl k) ?_
    show own_Ends _ _ _ _ _ _ _ (s₁.setTop (mkF m 11 #[.val (.long q0), .second, .val (.long q1), .second] [(.long q1)]))
    exact own_retJ X0 hx hlk Bd.returns (hb hby dmaxJ_11) (by decide) (by decide) ⟨congrArg (fun z => some (Value.long z)) (by exact ((if_pos hc1)).symm), N0, e0⟩
  · refine own_go (fun _ k => XS.ifNo X0.here hx rfl (hb hby dmaxJ_3) rfl ((if0 _ _).trans (flt hc1).1) k) ?_
    show own_Ends _ _ _ _ _ _ _ (s₁.setTop (mkF m 6 #[.val (.long q0), .second, .val (.long q1), .second] []))
    refine own_go (fun _ k => XS.lloadN X0.here hx rfl (hb hby dmaxJ_6) rfl k) ?_
    show own_Ends _ _ _ _ _ _ _ (s₁.setTop (mkF m 7 #[.val (.long q0), .second, .val (.long q1), .second] [(.long q0)]))
    refine own_go (fun _ k => XS.goto X0.here hx rfl (pc0 := 7) (pc' := 11) rfl (hb hby dmaxJ_7) (by decide) (by decide) k) ?_
    show own_Ends _ _ _ _ _ _ _ (s₁.setTop (mkF m 11 #[.val (.long q0), .second, .val (.long q1), .second] [(.long q0)]))
    exact own_retJ X0 hx hlk Bd.returns (hb hby dmaxJ_11) (by decide) (by decide) ⟨congrArg (fun z => some (Value.long z)) (by exact ((if_neg hc1)).symm), N0, e0⟩
theorem dminJ_0 : decode jdk_29_method_70_code 0 = .ok (.lload_n 0, 1) := by decide +kernel
theorem dminJ_1 : decode jdk_29_method_70_code 1 = .ok (.lload_n 2, 1) := by decide +kernel
theorem dminJ_2 : decode jdk_29_method_70_code 2 = .ok (.lcmp, 1) := by decide +kernel
theorem dminJ_3 : decode jdk_29_method_70_code 3 = .ok (.ifCond .gt 7, 3) := by decide +kernel
theorem dminJ_6 : decode jdk_29_method_70_code 6 = .ok (.lload_n 0, 1) := by decide +kernel
theorem dminJ_7 : decode jdk_29_method_70_code 7 = .ok (.goto 4, 3) := by decide +kernel
theorem dminJ_10 : decode jdk_29_method_70_code 10 = .ok (.lload_n 2, 1) := by decide +kernel
theorem dminJ_11 : decode jdk_29_method_70_code 11 = .ok (.lreturn, 1) := by decide +kernel
theorem efminJ (m : MethodId) (q0 : Int64) (q1 : Int64) : entryFrame m #[(.long q0), (.long q1)] 4 = mkF m 0 #[.val (.long q0), .second, .val (.long q1), .second] [] := by first | (simp [entryFrame, mkF, argsToLocals, Value.category]; done) | rfl
def fminJ (q0 : Int64) (q1 : Int64) : Int64 := (if (0 : Int32) < (lcmpW q0 q1) then q1 else q0)
def QminJ (Z : State) (q0 : Int64) (q1 : Int64) (h0 : Heap) (n0 : Nat) (v : Option Value) (h : Heap) (L : List Loc) : Prop := v = some (.long (fminJ q0 q1)) ∧ Fr n0 L ∧ h = h0
set_option maxRecDepth 65536 in
set_option maxHeartbeats 40000000 in
theorem rmminJ (l : Launch) (Z : State) (ar : Array Value) (hw : ∀ d ∈ tables_1, d.before ar Z = true) (ws : List Jvm.Cond) (q0 : Int64) (q1 : Int64) (h0 : Heap) (n0 : Nat) (O0 : Old Z n0 h0) :
    MetFree l (⟨"java/lang/Math", "min", "(JJ)J"⟩ : MethodName) (head1 (Jvm.Cond.code (⟨"java/lang/Math", "min", "(JJ)J"⟩ : MethodName) jdk_29_method_70_code 4 (some .long) :: ws) ({ frames := 0, cells := 0, slots := 0, locals := 0 } : Room)) (fun a U => a = #[(.long q0), (.long q1)] ∧ Z.Warmed39 U.vm ∧ U.heap = h0) (fun _ _ _ _ _ => True) (fun _ U o U' => ∃ v L, o = .returned v ∧ QminJ Z q0 q1 h0 n0 v U'.heap L ∧ FrameEnd U o U' L ({ frames := 0, cells := 0, slots := 0, locals := 0 } : Room).cells ({ frames := 0, cells := 0, slots := 0, locals := 0 } : Room).slots) := by
  refine MetFree.of_bodySF (Jvm.Free.JP.mathPlain rfl (by decide +kernel)) hisR ?_
  intro p e s m args below meth c s₁ Bd hml0 hP hK
  obtain ⟨rfl, hZ, hh⟩ := hP
  have hx := Bd.exec
  have hby := Bd.bytes
  have hml : c.maxLocals = 4 := hml0
  have hown : s.vm.findClass "java/lang/Math" = some m.cls := findClass_of_methodNamed Bd.named
  have hnm := (name_of_methodNamed Bd.named Bd.method).1
  have hlk : meth.locks = false := BodyLoose.notSynchronized Bd
  have X0 : Stand p l e ({ frames := 0, cells := 0, slots := 0, locals := 0 } : Room) s m #[(.long q0), (.long q1)] below meth c s₁ [] 0 0 := Stand.of_body Bd
  have e0 : s₁.heap = h0 := by rw [← hh, Bd.state]; rfl
  have N0 := Fr.nil n0
  suffices hmain : own_Ends p e below s (QminJ Z q0 q1 h0 n0) 0 0 (s₁.setTop (mkF m 0 #[.val (.long q0), .second, .val (.long q1), .second] [])) by
    obtain ⟨U, o, h1, r⟩ := hmain
    exact ⟨U, o, castTop (efminJ m q0 q1) h1, r⟩
  show own_Ends _ _ _ _ _ _ _ (s₁.setTop (mkF m 0 #[.val (.long q0), .second, .val (.long q1), .second] []))
  refine own_go (fun _ k => XS.lloadN X0.here hx rfl (hb hby dminJ_0) rfl k) ?_
  show own_Ends _ _ _ _ _ _ _ (s₁.setTop (mkF m 1 #[.val (.long q0), .second, .val (.long q1), .second] [(.long q0)]))
  refine own_go (fun _ k => XS.lloadN X0.here hx rfl (hb hby dminJ_1) rfl k) ?_
  show own_Ends _ _ _ _ _ _ _ (s₁.setTop (mkF m 2 #[.val (.long q0), .second, .val (.long q1), .second] [(.long q1), (.long q0)]))
  refine own_go (fun _ k => XS.lcmp X0.here hx rfl (hb hby dminJ_2) rfl k) ?_
  show own_Ends _ _ _ _ _ _ _ (s₁.setTop (mkF m 3 #[.val (.long q0), .second, .val (.long q1), .second] [(.int (lcmpW q0 q1))]))
  by_cases hc1 : (0 : Int32) < (lcmpW q0 q1)
  · refine own_go (fun _ k => XS.ifYes X0.here hx rfl (pc0 := 3) (pc' := 10) rfl (hb hby dminJ_3) rfl ((if0 _ _).trans (tlt hc1).2.2.1) (by decide) (by decide) k) ?_
    show own_Ends _ _ _ _ _ _ _ (s₁.setTop (mkF m 10 #[.val (.long q0), .second, .val (.long q1), .second] []))
    refine own_go (fun _ k => XS.lloadN X0.here hx rfl (hb hby dminJ_10) rfl k) ?_
    show own_Ends _ _ _ _ _ _ _ (s₁.setTop (mkF m 11 #[.val (.long q0), .second, .val (.long q1), .second] [(.long q1)]))
    exact own_retJ X0 hx hlk Bd.returns (hb hby dminJ_11) (by decide) (by decide) ⟨congrArg (fun z => some (Value.long z)) (by exact ((if_pos hc1)).symm), N0, e0⟩
  · refine own_go (fun _ k => XS.ifNo X0.here hx rfl (hb hby dminJ_3) rfl ((if0 _ _).trans (flt hc1).2.2.1) k) ?_
    show own_Ends _ _ _ _ _ _ _ (s₁.setTop (mkF m 6 #[.val (.long q0), .second, .val (.long q1), .second] []))
    refine own_go (fun _ k => XS.lloadN X0.here hx rfl (hb hby dminJ_6) rfl k) ?_
    show own_Ends _ _ _ _ _ _ _ (s₁.setTop (mkF m 7 #[.val (.long q0), .second, .val (.long q1), .second] [(.long q0)]))
    refine own_go (fun _ k => XS.goto X0.here hx rfl (pc0 := 7) (pc' := 11) rfl (hb hby dminJ_7) (by decide) (by decide) k) ?_
    show own_Ends _ _ _ _ _ _ _ (s₁.setTop (mkF m 11 #[.val (.long q0), .second, .val (.long q1), .second] [(.long q0)]))
    exact own_retJ X0 hx hlk Bd.returns (hb hby dminJ_11) (by decide) (by decide) ⟨congrArg (fun z => some (Value.long z)) (by exact ((if_neg hc1)).symm), N0, e0⟩
theorem own_pos32 {p z : Int32} (h : z = (p &&& (2147483647 : Int32))) : 0 ≤ z.toInt := by
  have e : z.toInt = p.toInt % 2 ^ 31 := by rw [h]; exact Jvm.Kit.i32_mask p 2147483647 (k := 31) (by decide) (by decide)
  rw [e]; exact Int.emod_nonneg _ (by decide)
theorem own_mnmx {p0 p2 za zc lo hi : Int32} (ha : za = (p0 &&& (2147483647 : Int32))) (hc : zc = (p2 &&& (2147483647 : Int32))) (hlo : lo = fminI za zc) (hhi : hi = fmaxI za zc) : 0 ≤ lo.toInt ∧ lo.toInt ≤ hi.toInt := by
  have a := own_pos32 ha
  have c := own_pos32 hc
  rw [fminI] at hlo; rw [fmaxI] at hhi
  rw [hlo, hhi]
  by_cases q : za < zc
  · rw [if_pos q, if_neg (by rw [Int32.lt_iff_toInt_lt] at *; omega)]
    rw [Int32.lt_iff_toInt_lt] at q; omega
  · rw [if_neg q]
    rw [Int32.lt_iff_toInt_lt] at q
    split <;> omega
theorem own_ln {q z : Int64} (h : z = fmaxJ (q &&& (9223372036854775807 : Int64)) (1 : Int64)) : 0 < z.toInt := by
  have c : (1 : Int64).toInt = 1 := by decide
  rw [fmaxJ] at h
  by_cases w : (lcmpW (q &&& (9223372036854775807 : Int64)) (1 : Int64)) < (0 : Int32)
  · rw [if_pos w] at h; rw [h]; decide
  · rw [if_neg w] at h
    rw [lcW, lc_lt, Int64.lt_iff_toInt_lt, ← h, c] at w
    omega
theorem own_nn2 {zx zy zl zh : Int64} (hx : 0 < zx.toInt) (hy : 0 < zy.toInt) (hl : zl = fminJ zx zy) (hh : zh = fmaxJ zx zy) : 0 < zl.toInt ∧ zl.toInt ≤ zh.toInt := by
  rw [fminJ] at hl; rw [fmaxJ] at hh
  rw [hl, hh]
  simp only [lcW, lc_lt, lc_gt, Int64.lt_iff_toInt_lt]
  split <;> split <;> omega
section SentEnd
variable {zlo zhi : Int32} {zl zh : Int64} {rf rv rs : UInt64}
theorem own_m1 (hC : 0 ≤ zlo.toInt ∧ zlo.toInt ≤ zhi.toInt) (hN : 0 < zl.toInt ∧ zl.toInt ≤ zh.toInt) (hrv : rv = (own_r zlo zl)) (hrf : rf = (own_r zhi zl)) : ¬ (0 : Int32) < cmpValue (FP.dcmp rv rf) .g := by
  rw [hrv, hrf, (own_gtz (own_r_nn hN.1) (own_r_nn hN.1) _).1]
  have := own_r_le (c := zlo) (c' := zhi) (n := zl) (n' := zl) hC.1 hN.1 hC.2 (Int.le_refl _)
  omega
theorem own_m2 (hC : 0 ≤ zlo.toInt ∧ zlo.toInt ≤ zhi.toInt) (hN : 0 < zl.toInt ∧ zl.toInt ≤ zh.toInt) (hrs : rs = (own_r zhi zh)) (hrf : rf = (own_r zhi zl)) : ¬ (0 : Int32) < cmpValue (FP.dcmp rs rf) .g := by
  rw [hrs, hrf, (own_gtz (own_r_nn (by omega)) (own_r_nn hN.1) _).1]
  have := own_r_le (c := zhi) (c' := zhi) (n := zh) (n' := zl) (by omega) hN.1 (Int.le_refl _) hN.2
  omega
theorem own_hp (h : (0 : Int32) < zhi) : 0 < zhi.toInt := by rw [Int32.lt_iff_toInt_lt] at h; exact h
theorem own_hz (hC : 0 ≤ zlo.toInt ∧ zlo.toInt ≤ zhi.toInt) (h : ¬ (0 : Int32) < zhi) : zhi.toInt = 0 := by
  rw [Int32.lt_iff_toInt_lt, show (0 : Int32).toInt = 0 by decide] at h; omega
theorem own_s1 (h : (0 : Int32) < zhi) (hN : 0 < zh.toInt) (hrs : rs = (own_r zhi zh)) : (0 : Int32) < cmpValue (FP.dcmp rs (0 : UInt64)) .l := by
  rw [hrs, (own_gtz (own_r_nn hN) own_zero.2 _).1, own_zero.1]; exact own_r_pos (own_hp h) hN
theorem own_s2 (h : (0 : Int32) < zhi) (hN : 0 < zh.toInt) (hrs : rs = (own_r zhi zh)) : ¬ cmpValue (FP.dcmp rs (0 : UInt64)) .l = (0 : Int32) := by
  rw [hrs, (own_gtz (own_r_nn hN) own_zero.2 _).2, own_zero.1]
  have := own_r_pos (own_hp h) hN
  omega
theorem own_s0 (hC : 0 ≤ zlo.toInt ∧ zlo.toInt ≤ zhi.toInt) (h : ¬ (0 : Int32) < zhi) (hN : 0 < zh.toInt) (hrs : rs = (own_r zhi zh)) : ¬ (0 : Int32) < cmpValue (FP.dcmp rs (0 : UInt64)) .l ∧ cmpValue (FP.dcmp rs (0 : UInt64)) .l = (0 : Int32) := by
  rw [hrs, (own_gtz (own_r_nn hN) own_zero.2 _).2, (own_gtz (own_r_nn hN) own_zero.2 _).1, own_zero.1]
  have := own_r_zero (own_hz hC h) hN
  omega
theorem own_h1 (h : (0 : Int32) < zhi) : ¬ zhi = (0 : Int32) := fun z => by rw [z] at h; exact absurd h (by decide)
theorem own_h0 (hC : 0 ≤ zlo.toInt ∧ zlo.toInt ≤ zhi.toInt) (h : ¬ (0 : Int32) < zhi) : zhi = (0 : Int32) := Int32.toInt_inj.mp (own_hz hC h)
end SentEnd
theorem pn0 : plainName "com/example/octroi/octroi/bench/SentPerSecondPinLaw" = true := by first | (simp [plainName, overriddenIn]; done) | decide +kernel
theorem pd0_0 : parseMethodDescriptor "(IJ)D" = some ⟨[.int, .long], some .double⟩ := by decide +kernel
theorem pd0_1 : parseMethodDescriptor "(II)I" = some ⟨[.int, .int], some .int⟩ := by decide +kernel
theorem pd0_2 : parseMethodDescriptor "(JJ)J" = some ⟨[.long, .long], some .long⟩ := by decide +kernel
theorem ef0 (m : MethodId) (p0 : Int32) (p1 : Int32) (p2 : Int32) (q3 : Int64) (q4 : Int64) (p5 : Int32) : entryFrame m #[(.int p0), (.int p1), (.int p2), (.long q3), (.long q4), (.int p5)] maxLocals = mkF m 0 #[.val (.int p0), .val (.int p1), .val (.int p2), .val (.long q3), .second, .val (.long q4), .second, .val (.int p5), .unset, .unset, .unset, .unset, .unset, .unset, .unset, .unset, .unset, .unset, .unset, .unset, .unset, .unset, .unset, .unset, .unset, .unset, .unset, .unset, .unset, .unset, .unset, .unset, .unset, .unset, .unset, .unset, .unset, .unset, .unset] [] := by first | (simp [entryFrame, mkF, argsToLocals, Value.category, maxLocals]; done) | rfl
def Q0 (Z : State) (p0 : Int32) (p1 : Int32) (p2 : Int32) (q3 : Int64) (q4 : Int64) (p5 : Int32) (h0 : Heap) (n0 : Nat) (v : Option Value) (h : Heap) (L : List Loc) : Prop := v = some (.int 1) ∧ Fr n0 L
set_option maxRecDepth 65536 in
set_option maxHeartbeats 40000000 in
theorem rm0 (l : Launch) (Z : State) (ar : Array Value) (hw : ∀ d ∈ tables_1, d.before ar Z = true) (ws : List Jvm.Cond) (p0 : Int32) (p1 : Int32) (p2 : Int32) (q3 : Int64) (q4 : Int64) (p5 : Int32) (h0 : Heap) (n0 : Nat) (O0 : Old Z n0 h0) :
    MetFree l x (head1 (Jvm.Cond.code x code maxLocals ret :: ws) room_1) (fun a U => a = #[(.int p0), (.int p1), (.int p2), (.long q3), (.long q4), (.int p5)] ∧ Z.Warmed39 U.vm ∧ U.heap = h0) (fun _ _ _ _ _ => True) (fun _ U o U' => ∃ v L, o = .returned v ∧ Q0 Z p0 p1 p2 q3 q4 p5 h0 n0 v U'.heap L ∧ FrameEnd U o U' L room_1.cells room_1.slots) := by
  refine MetFree.of_bodySF (plainFor_of_name pn0) hisR ?_
  intro p e s m args below meth c s₁ Bd hml0 hP hK
  obtain ⟨rfl, hZ, hh⟩ := hP
  have hx := Bd.exec
  have hby := Bd.bytes
  have hml : c.maxLocals = 39 := hml0
  have hown : s.vm.findClass "com/example/octroi/octroi/bench/SentPerSecondPinLaw" = some m.cls := findClass_of_methodNamed Bd.named
  have hnm := (name_of_methodNamed Bd.named Bd.method).1
  have hlk : meth.locks = false := BodyLoose.notSynchronized Bd
  have X0 : Stand p l e room_1 s m #[(.int p0), (.int p1), (.int p2), (.long q3), (.long q4), (.int p5)] below meth c s₁ [] 0 0 := Stand.of_body Bd
  have e0 : s₁.heap = h0 := by rw [← hh, Bd.state]; rfl
  have N0 := Fr.nil n0
  suffices hmain : own_Ends p e below s (Q0 Z p0 p1 p2 q3 q4 p5 h0 n0) 32 192 (s₁.setTop (mkF m 0 #[.val (.int p0), .val (.int p1), .val (.int p2), .val (.long q3), .second, .val (.long q4), .second, .val (.int p5), .unset, .unset, .unset, .unset, .unset, .unset, .unset, .unset, .unset, .unset, .unset, .unset, .unset, .unset, .unset, .unset, .unset, .unset, .unset, .unset, .unset, .unset, .unset, .unset, .unset, .unset, .unset, .unset, .unset, .unset, .unset] [])) by
    obtain ⟨U, o, h1, r⟩ := hmain
    exact ⟨U, o, castTop (ef0 m p0 p1 p2 q3 q4 p5) h1, r⟩
  show own_Ends _ _ _ _ _ _ _ (s₁.setTop (mkF m 0 #[.val (.int p0), .val (.int p1), .val (.int p2), .val (.long q3), .second, .val (.long q4), .second, .val (.int p5), .unset, .unset, .unset, .unset, .unset, .unset, .unset, .unset, .unset, .unset, .unset, .unset, .unset, .unset, .unset, .unset, .unset, .unset, .unset, .unset, .unset, .unset, .unset, .unset, .unset, .unset, .unset, .unset, .unset, .unset, .unset] []))
  refine own_go (fun _ k => XS.bipush X0.here hx rfl (hb hby at_0) k) ?_
  show own_Ends _ _ _ _ _ _ _ (s₁.setTop (mkF m 2 #[.val (.int p0), .val (.int p1), .val (.int p2), .val (.long q3), .second, .val (.long q4), .second, .val (.int p5), .unset, .unset, .unset, .unset, .unset, .unset, .unset, .unset, .unset, .unset, .unset, .unset, .unset, .unset, .unset, .unset, .unset, .unset, .unset, .unset, .unset, .unset, .unset, .unset, .unset, .unset, .unset, .unset, .unset, .unset, .unset] [(.int (10 : Int32))]))
  obtain ⟨T1, h1, k1, X1, e1, E1, A1, st1⟩ := newP X0 hx hZ (hw _ (List.mem_of_getElem? (i := 0) rfl)) e0 (g := (mkF m 2 #[.val (.int p0), .val (.int p1), .val (.int p2), .val (.long q3), .second, .val (.long q4), .second, .val (.int p5), .unset, .unset, .unset, .unset, .unset, .unset, .unset, .unset, .unset, .unset, .unset, .unset, .unset, .unset, .unset, .unset, .unset, .unset, .unset, .unset, .unset, .unset, .unset, .unset, .unset, .unset, .unset, .unset, .unset, .unset, .unset] [(.int (10 : Int32))])) rfl (hb hby at_2) rfl (by decide) (cap := 10) (by decide) (by decide) (by decide) (by decide)
  obtain ⟨b1, q_b1⟩ : ∃ z, z = h0.size := ⟨_, rfl⟩
  rw [← q_b1] at A1 st1
  have g_b1 : n0 ≤ b1 := Nat.le_trans (own_sz O0) (Nat.le_of_eq q_b1.symm)
  refine own_go (fun _ k => st1 _ k) ?_
  have F2 : Old Z n0 h1 := (O0.ext E1)
  have F3 : own_Ar Z h1 b1 .long 10 (fun i => .long ((fun _ => (0 : Int64)) i)) := own_Ar.newJ A1 (by decide)
  show own_Ends _ _ _ _ _ _ _ (T1.setTop (mkF m 4 #[.val (.int p0), .val (.int p1), .val (.int p2), .val (.long q3), .second, .val (.long q4), .second, .val (.int p5), .unset, .unset, .unset, .unset, .unset, .unset, .unset, .unset, .unset, .unset, .unset, .unset, .unset, .unset, .unset, .unset, .unset, .unset, .unset, .unset, .unset, .unset, .unset, .unset, .unset, .unset, .unset, .unset, .unset, .unset, .unset] [(.ref b1)]))
  refine own_go (fun _ k => XS.dup X1.here hx rfl (hb hby at_4) rfl rfl k) ?_
  show own_Ends _ _ _ _ _ _ _ (T1.setTop (mkF m 5 #[.val (.int p0), .val (.int p1), .val (.int p2), .val (.long q3), .second, .val (.long q4), .second, .val (.int p5), .unset, .unset, .unset, .unset, .unset, .unset, .unset, .unset, .unset, .unset, .unset, .unset, .unset, .unset, .unset, .unset, .unset, .unset, .unset, .unset, .unset, .unset, .unset, .unset, .unset, .unset, .unset, .unset, .unset, .unset, .unset] [(.ref b1), (.ref b1)]))
  refine own_go (fun _ k => XS.iconst X1.here hx rfl (hb hby at_5) k) ?_
  show own_Ends _ _ _ _ _ _ _ (T1.setTop (mkF m 6 #[.val (.int p0), .val (.int p1), .val (.int p2), .val (.long q3), .second, .val (.long q4), .second, .val (.int p5), .unset, .unset, .unset, .unset, .unset, .unset, .unset, .unset, .unset, .unset, .unset, .unset, .unset, .unset, .unset, .unset, .unset, .unset, .unset, .unset, .unset, .unset, .unset, .unset, .unset, .unset, .unset, .unset, .unset, .unset, .unset] [(.int (0 : Int32)), (.ref b1), (.ref b1)]))
  refine own_go (fun _ k => XS.lconst X1.here hx rfl (hb hby at_6) k) ?_
  show own_Ends _ _ _ _ _ _ _ (T1.setTop (mkF m 7 #[.val (.int p0), .val (.int p1), .val (.int p2), .val (.long q3), .second, .val (.long q4), .second, .val (.int p5), .unset, .unset, .unset, .unset, .unset, .unset, .unset, .unset, .unset, .unset, .unset, .unset, .unset, .unset, .unset, .unset, .unset, .unset, .unset, .unset, .unset, .unset, .unset, .unset, .unset, .unset, .unset, .unset, .unset, .unset, .unset] [(.long (1 : Int64)), (.int (0 : Int32)), (.ref b1), (.ref b1)]))
  obtain ⟨c4, A4, i4, -⟩ := own_Ar.at F3 (0 : Int32) (by decide) (by decide)
  obtain ⟨T4, h4, X4, e4, W4, st4⟩ := stJ X1 hx hZ e1 A4 (j := (0 : Int32)) i4 (g := (mkF m 7 #[.val (.int p0), .val (.int p1), .val (.int p2), .val (.long q3), .second, .val (.long q4), .second, .val (.int p5), .unset, .unset, .unset, .unset, .unset, .unset, .unset, .unset, .unset, .unset, .unset, .unset, .unset, .unset, .unset, .unset, .unset, .unset, .unset, .unset, .unset, .unset, .unset, .unset, .unset, .unset, .unset, .unset, .unset, .unset, .unset] [(.long (1 : Int64)), (.int (0 : Int32)), (.ref b1), (.ref b1)])) rfl rfl (hb hby at_7)
  refine own_go (fun _ k => st4 _ k) ?_
  have N4 := Fr.snoc X4 N0 g_b1
  have F5 : Old Z n0 h4 := (F2.wr W4 g_b1)
  have F6 : own_Ar Z h4 b1 .long 10 (fun i => .long ((fun i => if i = ((0 : Int32)).toNatClampNeg then (1 : Int64) else (fun _ => (0 : Int64)) i) i)) := own_Ar.setJ F3 W4
  show own_Ends _ _ _ _ _ _ _ (T4.setTop (mkF m 8 #[.val (.int p0), .val (.int p1), .val (.int p2), .val (.long q3), .second, .val (.long q4), .second, .val (.int p5), .unset, .unset, .unset, .unset, .unset, .unset, .unset, .unset, .unset, .unset, .unset, .unset, .unset, .unset, .unset, .unset, .unset, .unset, .unset, .unset, .unset, .unset, .unset, .unset, .unset, .unset, .unset, .unset, .unset, .unset, .unset] [(.ref b1)]))
  refine own_go (fun _ k => XS.dup X4.here hx rfl (hb hby at_8) rfl rfl k) ?_
  show own_Ends _ _ _ _ _ _ _ (T4.setTop (mkF m 9 #[.val (.int p0), .val (.int p1), .val (.int p2), .val (.long q3), .second, .val (.long q4), .second, .val (.int p5), .unset, .unset, .unset, .unset, .unset, .unset, .unset, .unset, .unset, .unset, .unset, .unset, .unset, .unset, .unset, .unset, .unset, .unset, .unset, .unset, .unset, .unset, .unset, .unset, .unset, .unset, .unset, .unset, .unset, .unset, .unset] [(.ref b1), (.ref b1)]))
  refine own_go (fun _ k => XS.iconst X4.here hx rfl (hb hby at_9) k) ?_
  show own_Ends _ _ _ _ _ _ _ (T4.setTop (mkF m 10 #[.val (.int p0), .val (.int p1), .val (.int p2), .val (.long q3), .second, .val (.long q4), .second, .val (.int p5), .unset, .unset, .unset, .unset, .unset, .unset, .unset, .unset, .unset, .unset, .unset, .unset, .unset, .unset, .unset, .unset, .unset, .unset, .unset, .unset, .unset, .unset, .unset, .unset, .unset, .unset, .unset, .unset, .unset, .unset, .unset] [(.int (1 : Int32)), (.ref b1), (.ref b1)]))
  refine own_go (fun _ k => X4.ldc2Long hx hown (mvT hZ (hw _ (List.mem_of_getElem? (i := 1) rfl))) (g := (mkF m 10 #[.val (.int p0), .val (.int p1), .val (.int p2), .val (.long q3), .second, .val (.long q4), .second, .val (.int p5), .unset, .unset, .unset, .unset, .unset, .unset, .unset, .unset, .unset, .unset, .unset, .unset, .unset, .unset, .unset, .unset, .unset, .unset, .unset, .unset, .unset, .unset, .unset, .unset, .unset, .unset, .unset, .unset, .unset, .unset, .unset] [(.int (1 : Int32)), (.ref b1), (.ref b1)])) rfl (hb hby at_10) _ k) ?_
  show own_Ends _ _ _ _ _ _ _ (T4.setTop (mkF m 13 #[.val (.int p0), .val (.int p1), .val (.int p2), .val (.long q3), .second, .val (.long q4), .second, .val (.int p5), .unset, .unset, .unset, .unset, .unset, .unset, .unset, .unset, .unset, .unset, .unset, .unset, .unset, .unset, .unset, .unset, .unset, .unset, .unset, .unset, .unset, .unset, .unset, .unset, .unset, .unset, .unset, .unset, .unset, .unset, .unset] [(.long (2 : Int64)), (.int (1 : Int32)), (.ref b1), (.ref b1)]))
  obtain ⟨c7, A7, i7, -⟩ := own_Ar.at F6 (1 : Int32) (by decide) (by decide)
  obtain ⟨T7, h7, X7, e7, W7, st7⟩ := stJ X4 hx hZ e4 A7 (j := (1 : Int32)) i7 (g := (mkF m 13 #[.val (.int p0), .val (.int p1), .val (.int p2), .val (.long q3), .second, .val (.long q4), .second, .val (.int p5), .unset, .unset, .unset, .unset, .unset, .unset, .unset, .unset, .unset, .unset, .unset, .unset, .unset, .unset, .unset, .unset, .unset, .unset, .unset, .unset, .unset, .unset, .unset, .unset, .unset, .unset, .unset, .unset, .unset, .unset, .unset] [(.long (2 : Int64)), (.int (1 : Int32)), (.ref b1), (.ref b1)])) rfl rfl (hb hby at_13)
  refine own_go (fun _ k => st7 _ k) ?_
  have N7 := Fr.snoc X7 N4 g_b1
  have F8 : Old Z n0 h7 := (F5.wr W7 g_b1)
  have F9 : own_Ar Z h7 b1 .long 10 (fun i => .long ((fun i => if i = ((1 : Int32)).toNatClampNeg then (2 : Int64) else (fun i => if i = ((0 : Int32)).toNatClampNeg then (1 : Int64) else (fun _ => (0 : Int64)) i) i) i)) := own_Ar.setJ F6 W7
  show own_Ends _ _ _ _ _ _ _ (T7.setTop (mkF m 14 #[.val (.int p0), .val (.int p1), .val (.int p2), .val (.long q3), .second, .val (.long q4), .second, .val (.int p5), .unset, .unset, .unset, .unset, .unset, .unset, .unset, .unset, .unset, .unset, .unset, .unset, .unset, .unset, .unset, .unset, .unset, .unset, .unset, .unset, .unset, .unset, .unset, .unset, .unset, .unset, .unset, .unset, .unset, .unset, .unset] [(.ref b1)]))
  refine own_go (fun _ k => XS.dup X7.here hx rfl (hb hby at_14) rfl rfl k) ?_
  show own_Ends _ _ _ _ _ _ _ (T7.setTop (mkF m 15 #[.val (.int p0), .val (.int p1), .val (.int p2), .val (.long q3), .second, .val (.long q4), .second, .val (.int p5), .unset, .unset, .unset, .unset, .unset, .unset, .unset, .unset, .unset, .unset, .unset, .unset, .unset, .unset, .unset, .unset, .unset, .unset, .unset, .unset, .unset, .unset, .unset, .unset, .unset, .unset, .unset, .unset, .unset, .unset, .unset] [(.ref b1), (.ref b1)]))
  refine own_go (fun _ k => XS.iconst X7.here hx rfl (hb hby at_15) k) ?_
  show own_Ends _ _ _ _ _ _ _ (T7.setTop (mkF m 16 #[.val (.int p0), .val (.int p1), .val (.int p2), .val (.long q3), .second, .val (.long q4), .second, .val (.int p5), .unset, .unset, .unset, .unset, .unset, .unset, .unset, .unset, .unset, .unset, .unset, .unset, .unset, .unset, .unset, .unset, .unset, .unset, .unset, .unset, .unset, .unset, .unset, .unset, .unset, .unset, .unset, .unset, .unset, .unset, .unset] [(.int (2 : Int32)), (.ref b1), (.ref b1)]))
  refine own_go (fun _ k => X7.ldc2Long hx hown (mvT hZ (hw _ (List.mem_of_getElem? (i := 2) rfl))) (g := (mkF m 16 #[.val (.int p0), .val (.int p1), .val (.int p2), .val (.long q3), .second, .val (.long q4), .second, .val (.int p5), .unset, .unset, .unset, .unset, .unset, .unset, .unset, .unset, .unset, .unset, .unset, .unset, .unset, .unset, .unset, .unset, .unset, .unset, .unset, .unset, .unset, .unset, .unset, .unset, .unset, .unset, .unset, .unset, .unset, .unset, .unset] [(.int (2 : Int32)), (.ref b1), (.ref b1)])) rfl (hb hby at_16) _ k) ?_
  show own_Ends _ _ _ _ _ _ _ (T7.setTop (mkF m 19 #[.val (.int p0), .val (.int p1), .val (.int p2), .val (.long q3), .second, .val (.long q4), .second, .val (.int p5), .unset, .unset, .unset, .unset, .unset, .unset, .unset, .unset, .unset, .unset, .unset, .unset, .unset, .unset, .unset, .unset, .unset, .unset, .unset, .unset, .unset, .unset, .unset, .unset, .unset, .unset, .unset, .unset, .unset, .unset, .unset] [(.long (4 : Int64)), (.int (2 : Int32)), (.ref b1), (.ref b1)]))
  obtain ⟨c10, A10, i10, -⟩ := own_Ar.at F9 (2 : Int32) (by decide) (by decide)
  obtain ⟨T10, h10, X10, e10, W10, st10⟩ := stJ X7 hx hZ e7 A10 (j := (2 : Int32)) i10 (g := (mkF m 19 #[.val (.int p0), .val (.int p1), .val (.int p2), .val (.long q3), .second, .val (.long q4), .second, .val (.int p5), .unset, .unset, .unset, .unset, .unset, .unset, .unset, .unset, .unset, .unset, .unset, .unset, .unset, .unset, .unset, .unset, .unset, .unset, .unset, .unset, .unset, .unset, .unset, .unset, .unset, .unset, .unset, .unset, .unset, .unset, .unset] [(.long (4 : Int64)), (.int (2 : Int32)), (.ref b1), (.ref b1)])) rfl rfl (hb hby at_19)
  refine own_go (fun _ k => st10 _ k) ?_
  have N10 := Fr.snoc X10 N7 g_b1
  have F11 : Old Z n0 h10 := (F8.wr W10 g_b1)
  have F12 : own_Ar Z h10 b1 .long 10 (fun i => .long ((fun i => if i = ((2 : Int32)).toNatClampNeg then (4 : Int64) else (fun i => if i = ((1 : Int32)).toNatClampNeg then (2 : Int64) else (fun i => if i = ((0 : Int32)).toNatClampNeg then (1 : Int64) else (fun _ => (0 : Int64)) i) i) i) i)) := own_Ar.setJ F9 W10
  show own_Ends _ _ _ _ _ _ _ (T10.setTop (mkF m 20 #[.val (.int p0), .val (.int p1), .val (.int p2), .val (.long q3), .second, .val (.long q4), .second, .val (.int p5), .unset, .unset, .unset, .unset, .unset, .unset, .unset, .unset, .unset, .unset, .unset, .unset, .unset, .unset, .unset, .unset, .unset, .unset, .unset, .unset, .unset, .unset, .unset, .unset, .unset, .unset, .unset, .unset, .unset, .unset, .unset] [(.ref b1)]))
  refine own_go (fun _ k => XS.dup X10.here hx rfl (hb hby at_20) rfl rfl k) ?_
  show own_Ends _ _ _ _ _ _ _ (T10.setTop (mkF m 21 #[.val (.int p0), .val (.int p1), .val (.int p2), .val (.long q3), .second, .val (.long q4), .second, .val (.int p5), .unset, .unset, .unset, .unset, .unset, .unset, .unset, .unset, .unset, .unset, .unset, .unset, .unset, .unset, .unset, .unset, .unset, .unset, .unset, .unset, .unset, .unset, .unset, .unset, .unset, .unset, .unset, .unset, .unset, .unset, .unset] [(.ref b1), (.ref b1)]))
  refine own_go (fun _ k => XS.iconst X10.here hx rfl (hb hby at_21) k) ?_
  show own_Ends _ _ _ _ _ _ _ (T10.setTop (mkF m 22 #[.val (.int p0), .val (.int p1), .val (.int p2), .val (.long q3), .second, .val (.long q4), .second, .val (.int p5), .unset, .unset, .unset, .unset, .unset, .unset, .unset, .unset, .unset, .unset, .unset, .unset, .unset, .unset, .unset, .unset, .unset, .unset, .unset, .unset, .unset, .unset, .unset, .unset, .unset, .unset, .unset, .unset, .unset, .unset, .unset] [(.int (3 : Int32)), (.ref b1), (.ref b1)]))
  refine own_go (fun _ k => X10.ldc2Long hx hown (mvT hZ (hw _ (List.mem_of_getElem? (i := 3) rfl))) (g := (mkF m 22 #[.val (.int p0), .val (.int p1), .val (.int p2), .val (.long q3), .second, .val (.long q4), .second, .val (.int p5), .unset, .unset, .unset, .unset, .unset, .unset, .unset, .unset, .unset, .unset, .unset, .unset, .unset, .unset, .unset, .unset, .unset, .unset, .unset, .unset, .unset, .unset, .unset, .unset, .unset, .unset, .unset, .unset, .unset, .unset, .unset] [(.int (3 : Int32)), (.ref b1), (.ref b1)])) rfl (hb hby at_22) _ k) ?_
  show own_Ends _ _ _ _ _ _ _ (T10.setTop (mkF m 25 #[.val (.int p0), .val (.int p1), .val (.int p2), .val (.long q3), .second, .val (.long q4), .second, .val (.int p5), .unset, .unset, .unset, .unset, .unset, .unset, .unset, .unset, .unset, .unset, .unset, .unset, .unset, .unset, .unset, .unset, .unset, .unset, .unset, .unset, .unset, .unset, .unset, .unset, .unset, .unset, .unset, .unset, .unset, .unset, .unset] [(.long (8 : Int64)), (.int (3 : Int32)), (.ref b1), (.ref b1)]))
  obtain ⟨c13, A13, i13, -⟩ := own_Ar.at F12 (3 : Int32) (by decide) (by decide)
  obtain ⟨T13, h13, X13, e13, W13, st13⟩ := stJ X10 hx hZ e10 A13 (j := (3 : Int32)) i13 (g := (mkF m 25 #[.val (.int p0), .val (.int p1), .val (.int p2), .val (.long q3), .second, .val (.long q4), .second, .val (.int p5), .unset, .unset, .unset, .unset, .unset, .unset, .unset, .unset, .unset, .unset, .unset, .unset, .unset, .unset, .unset, .unset, .unset, .unset, .unset, .unset, .unset, .unset, .unset, .unset, .unset, .unset, .unset, .unset, .unset, .unset, .unset] [(.long (8 : Int64)), (.int (3 : Int32)), (.ref b1), (.ref b1)])) rfl rfl (hb hby at_25)
  refine own_go (fun _ k => st13 _ k) ?_
  have N13 := Fr.snoc X13 N10 g_b1
  have F14 : Old Z n0 h13 := (F11.wr W13 g_b1)
  have F15 : own_Ar Z h13 b1 .long 10 (fun i => .long ((fun i => if i = ((3 : Int32)).toNatClampNeg then (8 : Int64) else (fun i => if i = ((2 : Int32)).toNatClampNeg then (4 : Int64) else (fun i => if i = ((1 : Int32)).toNatClampNeg then (2 : Int64) else (fun i => if i = ((0 : Int32)).toNatClampNeg then (1 : Int64) else (fun _ => (0 : Int64)) i) i) i) i) i)) := own_Ar.setJ F12 W13
  show own_Ends _ _ _ _ _ _ _ (T13.setTop (mkF m 26 #[.val (.int p0), .val (.int p1), .val (.int p2), .val (.long q3), .second, .val (.long q4), .second, .val (.int p5), .unset, .unset, .unset, .unset, .unset, .unset, .unset, .unset, .unset, .unset, .unset, .unset, .unset, .unset, .unset, .unset, .unset, .unset, .unset, .unset, .unset, .unset, .unset, .unset, .unset, .unset, .unset, .unset, .unset, .unset, .unset] [(.ref b1)]))
  refine own_go (fun _ k => XS.dup X13.here hx rfl (hb hby at_26) rfl rfl k) ?_
  show own_Ends _ _ _ _ _ _ _ (T13.setTop (mkF m 27 #[.val (.int p0), .val (.int p1), .val (.int p2), .val (.long q3), .second, .val (.long q4), .second, .val (.int p5), .unset, .unset, .unset, .unset, .unset, .unset, .unset, .unset, .unset, .unset, .unset, .unset, .unset, .unset, .unset, .unset, .unset, .unset, .unset, .unset, .unset, .unset, .unset, .unset, .unset, .unset, .unset, .unset, .unset, .unset, .unset] [(.ref b1), (.ref b1)]))
  refine own_go (fun _ k => XS.iconst X13.here hx rfl (hb hby at_27) k) ?_
  show own_Ends _ _ _ _ _ _ _ (T13.setTop (mkF m 28 #[.val (.int p0), .val (.int p1), .val (.int p2), .val (.long q3), .second, .val (.long q4), .second, .val (.int p5), .unset, .unset, .unset, .unset, .unset, .unset, .unset, .unset, .unset, .unset, .unset, .unset, .unset, .unset, .unset, .unset, .unset, .unset, .unset, .unset, .unset, .unset, .unset, .unset, .unset, .unset, .unset, .unset, .unset, .unset, .unset] [(.int (4 : Int32)), (.ref b1), (.ref b1)]))
  refine own_go (fun _ k => X13.ldc2Long hx hown (mvT hZ (hw _ (List.mem_of_getElem? (i := 4) rfl))) (g := (mkF m 28 #[.val (.int p0), .val (.int p1), .val (.int p2), .val (.long q3), .second, .val (.long q4), .second, .val (.int p5), .unset, .unset, .unset, .unset, .unset, .unset, .unset, .unset, .unset, .unset, .unset, .unset, .unset, .unset, .unset, .unset, .unset, .unset, .unset, .unset, .unset, .unset, .unset, .unset, .unset, .unset, .unset, .unset, .unset, .unset, .unset] [(.int (4 : Int32)), (.ref b1), (.ref b1)])) rfl (hb hby at_28) _ k) ?_
  show own_Ends _ _ _ _ _ _ _ (T13.setTop (mkF m 31 #[.val (.int p0), .val (.int p1), .val (.int p2), .val (.long q3), .second, .val (.long q4), .second, .val (.int p5), .unset, .unset, .unset, .unset, .unset, .unset, .unset, .unset, .unset, .unset, .unset, .unset, .unset, .unset, .unset, .unset, .unset, .unset, .unset, .unset, .unset, .unset, .unset, .unset, .unset, .unset, .unset, .unset, .unset, .unset, .unset] [(.long (16 : Int64)), (.int (4 : Int32)), (.ref b1), (.ref b1)]))
  obtain ⟨c16, A16, i16, -⟩ := own_Ar.at F15 (4 : Int32) (by decide) (by decide)
  obtain ⟨T16, h16, X16, e16, W16, st16⟩ := stJ X13 hx hZ e13 A16 (j := (4 : Int32)) i16 (g := (mkF m 31 #[.val (.int p0), .val (.int p1), .val (.int p2), .val (.long q3), .second, .val (.long q4), .second, .val (.int p5), .unset, .unset, .unset, .unset, .unset, .unset, .unset, .unset, .unset, .unset, .unset, .unset, .unset, .unset, .unset, .unset, .unset, .unset, .unset, .unset, .unset, .unset, .unset, .unset, .unset, .unset, .unset, .unset, .unset, .unset, .unset] [(.long (16 : Int64)), (.int (4 : Int32)), (.ref b1), (.ref b1)])) rfl rfl (hb hby at_31)
  refine own_go (fun _ k => st16 _ k) ?_
  have N16 := Fr.snoc X16 N13 g_b1
  have F17 : Old Z n0 h16 := (F14.wr W16 g_b1)
  have F18 : own_Ar Z h16 b1 .long 10 (fun i => .long ((fun i => if i = ((4 : Int32)).toNatClampNeg then (16 : Int64) else (fun i => if i = ((3 : Int32)).toNatClampNeg then (8 : Int64) else (fun i => if i = ((2 : Int32)).toNatClampNeg then (4 : Int64) else (fun i => if i = ((1 : Int32)).toNatClampNeg then (2 : Int64) else (fun i => if i = ((0 : Int32)).toNatClampNeg then (1 : Int64) else (fun _ => (0 : Int64)) i) i) i) i) i) i)) := own_Ar.setJ F15 W16
  show own_Ends _ _ _ _ _ _ _ (T16.setTop (mkF m 32 #[.val (.int p0), .val (.int p1), .val (.int p2), .val (.long q3), .second, .val (.long q4), .second, .val (.int p5), .unset, .unset, .unset, .unset, .unset, .unset, .unset, .unset, .unset, .unset, .unset, .unset, .unset, .unset, .unset, .unset, .unset, .unset, .unset, .unset, .unset, .unset, .unset, .unset, .unset, .unset, .unset, .unset, .unset, .unset, .unset] [(.ref b1)]))
  refine own_go (fun _ k => XS.dup X16.here hx rfl (hb hby at_32) rfl rfl k) ?_
  show own_Ends _ _ _ _ _ _ _ (T16.setTop (mkF m 33 #[.val (.int p0), .val (.int p1), .val (.int p2), .val (.long q3), .second, .val (.long q4), .second, .val (.int p5), .unset, .unset, .unset, .unset, .unset, .unset, .unset, .unset, .unset, .unset, .unset, .unset, .unset, .unset, .unset, .unset, .unset, .unset, .unset, .unset, .unset, .unset, .unset, .unset, .unset, .unset, .unset, .unset, .unset, .unset, .unset] [(.ref b1), (.ref b1)]))
  refine own_go (fun _ k => XS.iconst X16.here hx rfl (hb hby at_33) k) ?_
  show own_Ends _ _ _ _ _ _ _ (T16.setTop (mkF m 34 #[.val (.int p0), .val (.int p1), .val (.int p2), .val (.long q3), .second, .val (.long q4), .second, .val (.int p5), .unset, .unset, .unset, .unset, .unset, .unset, .unset, .unset, .unset, .unset, .unset, .unset, .unset, .unset, .unset, .unset, .unset, .unset, .unset, .unset, .unset, .unset, .unset, .unset, .unset, .unset, .unset, .unset, .unset, .unset, .unset] [(.int (5 : Int32)), (.ref b1), (.ref b1)]))
  refine own_go (fun _ k => X16.ldc2Long hx hown (mvT hZ (hw _ (List.mem_of_getElem? (i := 5) rfl))) (g := (mkF m 34 #[.val (.int p0), .val (.int p1), .val (.int p2), .val (.long q3), .second, .val (.long q4), .second, .val (.int p5), .unset, .unset, .unset, .unset, .unset, .unset, .unset, .unset, .unset, .unset, .unset, .unset, .unset, .unset, .unset, .unset, .unset, .unset, .unset, .unset, .unset, .unset, .unset, .unset, .unset, .unset, .unset, .unset, .unset, .unset, .unset] [(.int (5 : Int32)), (.ref b1), (.ref b1)])) rfl (hb hby at_34) _ k) ?_
  show own_Ends _ _ _ _ _ _ _ (T16.setTop (mkF m 37 #[.val (.int p0), .val (.int p1), .val (.int p2), .val (.long q3), .second, .val (.long q4), .second, .val (.int p5), .unset, .unset, .unset, .unset, .unset, .unset, .unset, .unset, .unset, .unset, .unset, .unset, .unset, .unset, .unset, .unset, .unset, .unset, .unset, .unset, .unset, .unset, .unset, .unset, .unset, .unset, .unset, .unset, .unset, .unset, .unset] [(.long (32 : Int64)), (.int (5 : Int32)), (.ref b1), (.ref b1)]))
  obtain ⟨c19, A19, i19, -⟩ := own_Ar.at F18 (5 : Int32) (by decide) (by decide)
  obtain ⟨T19, h19, X19, e19, W19, st19⟩ := stJ X16 hx hZ e16 A19 (j := (5 : Int32)) i19 (g := (mkF m 37 #[.val (.int p0), .val (.int p1), .val (.int p2), .val (.long q3), .second, .val (.long q4), .second, .val (.int p5), .unset, .unset, .unset, .unset, .unset, .unset, .unset, .unset, .unset, .unset, .unset, .unset, .unset, .unset, .unset, .unset, .unset, .unset, .unset, .unset, .unset, .unset, .unset, .unset, .unset, .unset, .unset, .unset, .unset, .unset, .unset] [(.long (32 : Int64)), (.int (5 : Int32)), (.ref b1), (.ref b1)])) rfl rfl (hb hby at_37)
  refine own_go (fun _ k => st19 _ k) ?_
  have N19 := Fr.snoc X19 N16 g_b1
  have F20 : Old Z n0 h19 := (F17.wr W19 g_b1)
  have F21 : own_Ar Z h19 b1 .long 10 (fun i => .long ((fun i => if i = ((5 : Int32)).toNatClampNeg then (32 : Int64) else (fun i => if i = ((4 : Int32)).toNatClampNeg then (16 : Int64) else (fun i => if i = ((3 : Int32)).toNatClampNeg then (8 : Int64) else (fun i => if i = ((2 : Int32)).toNatClampNeg then (4 : Int64) else (fun i => if i = ((1 : Int32)).toNatClampNeg then (2 : Int64) else (fun i => if i = ((0 : Int32)).toNatClampNeg then (1 : Int64) else (fun _ => (0 : Int64)) i) i) i) i) i) i) i)) := own_Ar.setJ F18 W19
  show own_Ends _ _ _ _ _ _ _ (T19.setTop (mkF m 38 #[.val (.int p0), .val (.int p1), .val (.int p2), .val (.long q3), .second, .val (.long q4), .second, .val (.int p5), .unset, .unset, .unset, .unset, .unset, .unset, .unset, .unset, .unset, .unset, .unset, .unset, .unset, .unset, .unset, .unset, .unset, .unset, .unset, .unset, .unset, .unset, .unset, .unset, .unset, .unset, .unset, .unset, .unset, .unset, .unset] [(.ref b1)]))
  refine own_go (fun _ k => XS.dup X19.here hx rfl (hb hby at_38) rfl rfl k) ?_
  show own_Ends _ _ _ _ _ _ _ (T19.setTop (mkF m 39 #[.val (.int p0), .val (.int p1), .val (.int p2), .val (.long q3), .second, .val (.long q4), .second, .val (.int p5), .unset, .unset, .unset, .unset, .unset, .unset, .unset, .unset, .unset, .unset, .unset, .unset, .unset, .unset, .unset, .unset, .unset, .unset, .unset, .unset, .unset, .unset, .unset, .unset, .unset, .unset, .unset, .unset, .unset, .unset, .unset] [(.ref b1), (.ref b1)]))
  refine own_go (fun _ k => XS.bipush X19.here hx rfl (hb hby at_39) k) ?_
  show own_Ends _ _ _ _ _ _ _ (T19.setTop (mkF m 41 #[.val (.int p0), .val (.int p1), .val (.int p2), .val (.long q3), .second, .val (.long q4), .second, .val (.int p5), .unset, .unset, .unset, .unset, .unset, .unset, .unset, .unset, .unset, .unset, .unset, .unset, .unset, .unset, .unset, .unset, .unset, .unset, .unset, .unset, .unset, .unset, .unset, .unset, .unset, .unset, .unset, .unset, .unset, .unset, .unset] [(.int (6 : Int32)), (.ref b1), (.ref b1)]))
  refine own_go (fun _ k => X19.ldc2Long hx hown (mvT hZ (hw _ (List.mem_of_getElem? (i := 6) rfl))) (g := (mkF m 41 #[.val (.int p0), .val (.int p1), .val (.int p2), .val (.long q3), .second, .val (.long q4), .second, .val (.int p5), .unset, .unset, .unset, .unset, .unset, .unset, .unset, .unset, .unset, .unset, .unset, .unset, .unset, .unset, .unset, .unset, .unset, .unset, .unset, .unset, .unset, .unset, .unset, .unset, .unset, .unset, .unset, .unset, .unset, .unset, .unset] [(.int (6 : Int32)), (.ref b1), (.ref b1)])) rfl (hb hby at_41) _ k) ?_
  show own_Ends _ _ _ _ _ _ _ (T19.setTop (mkF m 44 #[.val (.int p0), .val (.int p1), .val (.int p2), .val (.long q3), .second, .val (.long q4), .second, .val (.int p5), .unset, .unset, .unset, .unset, .unset, .unset, .unset, .unset, .unset, .unset, .unset, .unset, .unset, .unset, .unset, .unset, .unset, .unset, .unset, .unset, .unset, .unset, .unset, .unset, .unset, .unset, .unset, .unset, .unset, .unset, .unset] [(.long (64 : Int64)), (.int (6 : Int32)), (.ref b1), (.ref b1)]))
  obtain ⟨c22, A22, i22, -⟩ := own_Ar.at F21 (6 : Int32) (by decide) (by decide)
  obtain ⟨T22, h22, X22, e22, W22, st22⟩ := stJ X19 hx hZ e19 A22 (j := (6 : Int32)) i22 (g := (mkF m 44 #[.val (.int p0), .val (.int p1), .val (.int p2), .val (.long q3), .second, .val (.long q4), .second, .val (.int p5), .unset, .unset, .unset, .unset, .unset, .unset, .unset, .unset, .unset, .unset, .unset, .unset, .unset, .unset, .unset, .unset, .unset, .unset, .unset, .unset, .unset, .unset, .unset, .unset, .unset, .unset, .unset, .unset, .unset, .unset, .unset] [(.long (64 : Int64)), (.int (6 : Int32)), (.ref b1), (.ref b1)])) rfl rfl (hb hby at_44)
  refine own_go (fun _ k => st22 _ k) ?_
  have N22 := Fr.snoc X22 N19 g_b1
  have F23 : Old Z n0 h22 := (F20.wr W22 g_b1)
  have F24 : own_Ar Z h22 b1 .long 10 (fun i => .long ((fun i => if i = ((6 : Int32)).toNatClampNeg then (64 : Int64) else (fun i => if i = ((5 : Int32)).toNatClampNeg then (32 : Int64) else (fun i => if i = ((4 : Int32)).toNatClampNeg then (16 : Int64) else (fun i => if i = ((3 : Int32)).toNatClampNeg then (8 : Int64) else (fun i => if i = ((2 : Int32)).toNatClampNeg then (4 : Int64) else (fun i => if i = ((1 : Int32)).toNatClampNeg then (2 : Int64) else (fun i => if i = ((0 : Int32)).toNatClampNeg then (1 : Int64) else (fun _ => (0 : Int64)) i) i) i) i) i) i) i) i)) := own_Ar.setJ F21 W22
  show own_Ends _ _ _ _ _ _ _ (T22.setTop (mkF m 45 #[.val (.int p0), .val (.int p1), .val (.int p2), .val (.long q3), .second, .val (.long q4), .second, .val (.int p5), .unset, .unset, .unset, .unset, .unset, .unset, .unset, .unset, .unset, .unset, .unset, .unset, .unset, .unset, .unset, .unset, .unset, .unset, .unset, .unset, .unset, .unset, .unset, .unset, .unset, .unset, .unset, .unset, .unset, .unset, .unset] [(.ref b1)]))
  refine own_go (fun _ k => XS.dup X22.here hx rfl (hb hby at_45) rfl rfl k) ?_
  show own_Ends _ _ _ _ _ _ _ (T22.setTop (mkF m 46 #[.val (.int p0), .val (.int p1), .val (.int p2), .val (.long q3), .second, .val (.long q4), .second, .val (.int p5), .unset, .unset, .unset, .unset, .unset, .unset, .unset, .unset, .unset, .unset, .unset, .unset, .unset, .unset, .unset, .unset, .unset, .unset, .unset, .unset, .unset, .unset, .unset, .unset, .unset, .unset, .unset, .unset, .unset, .unset, .unset] [(.ref b1), (.ref b1)]))
  refine own_go (fun _ k => XS.bipush X22.here hx rfl (hb hby at_46) k) ?_
  show own_Ends _ _ _ _ _ _ _ (T22.setTop (mkF m 48 #[.val (.int p0), .val (.int p1), .val (.int p2), .val (.long q3), .second, .val (.long q4), .second, .val (.int p5), .unset, .unset, .unset, .unset, .unset, .unset, .unset, .unset, .unset, .unset, .unset, .unset, .unset, .unset, .unset, .unset, .unset, .unset, .unset, .unset, .unset, .unset, .unset, .unset, .unset, .unset, .unset, .unset, .unset, .unset, .unset] [(.int (7 : Int32)), (.ref b1), (.ref b1)]))
  refine own_go (fun _ k => X22.ldc2Long hx hown (mvT hZ (hw _ (List.mem_of_getElem? (i := 7) rfl))) (g := (mkF m 48 #[.val (.int p0), .val (.int p1), .val (.int p2), .val (.long q3), .second, .val (.long q4), .second, .val (.int p5), .unset, .unset, .unset, .unset, .unset, .unset, .unset, .unset, .unset, .unset, .unset, .unset, .unset, .unset, .unset, .unset, .unset, .unset, .unset, .unset, .unset, .unset, .unset, .unset, .unset, .unset, .unset, .unset, .unset, .unset, .unset] [(.int (7 : Int32)), (.ref b1), (.ref b1)])) rfl (hb hby at_48) _ k) ?_
  show own_Ends _ _ _ _ _ _ _ (T22.setTop (mkF m 51 #[.val (.int p0), .val (.int p1), .val (.int p2), .val (.long q3), .second, .val (.long q4), .second, .val (.int p5), .unset, .unset, .unset, .unset, .unset, .unset, .unset, .unset, .unset, .unset, .unset, .unset, .unset, .unset, .unset, .unset, .unset, .unset, .unset, .unset, .unset, .unset, .unset, .unset, .unset, .unset, .unset, .unset, .unset, .unset, .unset] [(.long (128 : Int64)), (.int (7 : Int32)), (.ref b1), (.ref b1)]))
  obtain ⟨c25, A25, i25, -⟩ := own_Ar.at F24 (7 : Int32) (by decide) (by decide)
  obtain ⟨T25, h25, X25, e25, W25, st25⟩ := stJ X22 hx hZ e22 A25 (j := (7 : Int32)) i25 (g := (mkF m 51 #[.val (.int p0), .val (.int p1), .val (.int p2), .val (.long q3), .second, .val (.long q4), .second, .val (.int p5), .unset, .unset, .unset, .unset, .unset, .unset, .unset, .unset, .unset, .unset, .unset, .unset, .unset, .unset, .unset, .unset, .unset, .unset, .unset, .unset, .unset, .unset, .unset, .unset, .unset, .unset, .unset, .unset, .unset, .unset, .unset] [(.long (128 : Int64)), (.int (7 : Int32)), (.ref b1), (.ref b1)])) rfl rfl (hb hby at_51)
  refine own_go (fun _ k => st25 _ k) ?_
  have N25 := Fr.snoc X25 N22 g_b1
  have F26 : Old Z n0 h25 := (F23.wr W25 g_b1)
  have F27 : own_Ar Z h25 b1 .long 10 (fun i => .long ((fun i => if i = ((7 : Int32)).toNatClampNeg then (128 : Int64) else (fun i => if i = ((6 : Int32)).toNatClampNeg then (64 : Int64) else (fun i => if i = ((5 : Int32)).toNatClampNeg then (32 : Int64) else (fun i => if i = ((4 : Int32)).toNatClampNeg then (16 : Int64) else (fun i => if i = ((3 : Int32)).toNatClampNeg then (8 : Int64) else (fun i => if i = ((2 : Int32)).toNatClampNeg then (4 : Int64) else (fun i => if i = ((1 : Int32)).toNatClampNeg then (2 : Int64) else (fun i => if i = ((0 : Int32)).toNatClampNeg then (1 : Int64) else (fun _ => (0 : Int64)) i) i) i) i) i) i) i) i) i)) := own_Ar.setJ F24 W25
  show own_Ends _ _ _ _ _ _ _ (T25.setTop (mkF m 52 #[.val (.int p0), .val (.int p1), .val (.int p2), .val (.long q3), .second, .val (.long q4), .second, .val (.int p5), .unset, .unset, .unset, .unset, .unset, .unset, .unset, .unset, .unset, .unset, .unset, .unset, .unset, .unset, .unset, .unset, .unset, .unset, .unset, .unset, .unset, .unset, .unset, .unset, .unset, .unset, .unset, .unset, .unset, .unset, .unset] [(.ref b1)]))
  refine own_go (fun _ k => XS.dup X25.here hx rfl (hb hby at_52) rfl rfl k) ?_
  show own_Ends _ _ _ _ _ _ _ (T25.setTop (mkF m 53 #[.val (.int p0), .val (.int p1), .val (.int p2), .val (.long q3), .second, .val (.long q4), .second, .val (.int p5), .unset, .unset, .unset, .unset, .unset, .unset, .unset, .unset, .unset, .unset, .unset, .unset, .unset, .unset, .unset, .unset, .unset, .unset, .unset, .unset, .unset, .unset, .unset, .unset, .unset, .unset, .unset, .unset, .unset, .unset, .unset] [(.ref b1), (.ref b1)]))
  refine own_go (fun _ k => XS.bipush X25.here hx rfl (hb hby at_53) k) ?_
  show own_Ends _ _ _ _ _ _ _ (T25.setTop (mkF m 55 #[.val (.int p0), .val (.int p1), .val (.int p2), .val (.long q3), .second, .val (.long q4), .second, .val (.int p5), .unset, .unset, .unset, .unset, .unset, .unset, .unset, .unset, .unset, .unset, .unset, .unset, .unset, .unset, .unset, .unset, .unset, .unset, .unset, .unset, .unset, .unset, .unset, .unset, .unset, .unset, .unset, .unset, .unset, .unset, .unset] [(.int (8 : Int32)), (.ref b1), (.ref b1)]))
  refine own_go (fun _ k => X25.ldc2Long hx hown (mvT hZ (hw _ (List.mem_of_getElem? (i := 8) rfl))) (g := (mkF m 55 #[.val (.int p0), .val (.int p1), .val (.int p2), .val (.long q3), .second, .val (.long q4), .second, .val (.int p5), .unset, .unset, .unset, .unset, .unset, .unset, .unset, .unset, .unset, .unset, .unset, .unset, .unset, .unset, .unset, .unset, .unset, .unset, .unset, .unset, .unset, .unset, .unset, .unset, .unset, .unset, .unset, .unset, .unset, .unset, .unset] [(.int (8 : Int32)), (.ref b1), (.ref b1)])) rfl (hb hby at_55) _ k) ?_
  show own_Ends _ _ _ _ _ _ _ (T25.setTop (mkF m 58 #[.val (.int p0), .val (.int p1), .val (.int p2), .val (.long q3), .second, .val (.long q4), .second, .val (.int p5), .unset, .unset, .unset, .unset, .unset, .unset, .unset, .unset, .unset, .unset, .unset, .unset, .unset, .unset, .unset, .unset, .unset, .unset, .unset, .unset, .unset, .unset, .unset, .unset, .unset, .unset, .unset, .unset, .unset, .unset, .unset] [(.long (256 : Int64)), (.int (8 : Int32)), (.ref b1), (.ref b1)]))
  obtain ⟨c28, A28, i28, -⟩ := own_Ar.at F27 (8 : Int32) (by decide) (by decide)
  obtain ⟨T28, h28, X28, e28, W28, st28⟩ := stJ X25 hx hZ e25 A28 (j := (8 : Int32)) i28 (g := (mkF m 58 #[.val (.int p0), .val (.int p1), .val (.int p2), .val (.long q3), .second, .val (.long q4), .second, .val (.int p5), .unset, .unset, .unset, .unset, .unset, .unset, .unset, .unset, .unset, .unset, .unset, .unset, .unset, .unset, .unset, .unset, .unset, .unset, .unset, .unset, .unset, .unset, .unset, .unset, .unset, .unset, .unset, .unset, .unset, .unset, .unset] [(.long (256 : Int64)), (.int (8 : Int32)), (.ref b1), (.ref b1)])) rfl rfl (hb hby at_58)
  refine own_go (fun _ k => st28 _ k) ?_
  have N28 := Fr.snoc X28 N25 g_b1
  have F29 : Old Z n0 h28 := (F26.wr W28 g_b1)
  have F30 : own_Ar Z h28 b1 .long 10 (fun i => .long ((fun i => if i = ((8 : Int32)).toNatClampNeg then (256 : Int64) else (fun i => if i = ((7 : Int32)).toNatClampNeg then (128 : Int64) else (fun i => if i = ((6 : Int32)).toNatClampNeg then (64 : Int64) else (fun i => if i = ((5 : Int32)).toNatClampNeg then (32 : Int64) else (fun i => if i = ((4 : Int32)).toNatClampNeg then (16 : Int64) else (fun i => if i = ((3 : Int32)).toNatClampNeg then (8 : Int64) else (fun i => if i = ((2 : Int32)).toNatClampNeg then (4 : Int64) else (fun i => if i = ((1 : Int32)).toNatClampNeg then (2 : Int64) else (fun i => if i = ((0 : Int32)).toNatClampNeg then (1 : Int64) else (fun _ => (0 : Int64)) i) i) i) i) i) i) i) i) i) i)) := own_Ar.setJ F27 W28
  show own_Ends _ _ _ _ _ _ _ (T28.setTop (mkF m 59 #[.val (.int p0), .val (.int p1), .val (.int p2), .val (.long q3), .second, .val (.long q4), .second, .val (.int p5), .unset, .unset, .unset, .unset, .unset, .unset, .unset, .unset, .unset, .unset, .unset, .unset, .unset, .unset, .unset, .unset, .unset, .unset, .unset, .unset, .unset, .unset, .unset, .unset, .unset, .unset, .unset, .unset, .unset, .unset, .unset] [(.ref b1)]))
  refine own_go (fun _ k => XS.dup X28.here hx rfl (hb hby at_59) rfl rfl k) ?_
  show own_Ends _ _ _ _ _ _ _ (T28.setTop (mkF m 60 #[.val (.int p0), .val (.int p1), .val (.int p2), .val (.long q3), .second, .val (.long q4), .second, .val (.int p5), .unset, .unset, .unset, .unset, .unset, .unset, .unset, .unset, .unset, .unset, .unset, .unset, .unset, .unset, .unset, .unset, .unset, .unset, .unset, .unset, .unset, .unset, .unset, .unset, .unset, .unset, .unset, .unset, .unset, .unset, .unset] [(.ref b1), (.ref b1)]))
  refine own_go (fun _ k => XS.bipush X28.here hx rfl (hb hby at_60) k) ?_
  show own_Ends _ _ _ _ _ _ _ (T28.setTop (mkF m 62 #[.val (.int p0), .val (.int p1), .val (.int p2), .val (.long q3), .second, .val (.long q4), .second, .val (.int p5), .unset, .unset, .unset, .unset, .unset, .unset, .unset, .unset, .unset, .unset, .unset, .unset, .unset, .unset, .unset, .unset, .unset, .unset, .unset, .unset, .unset, .unset, .unset, .unset, .unset, .unset, .unset, .unset, .unset, .unset, .unset] [(.int (9 : Int32)), (.ref b1), (.ref b1)]))
  refine own_go (fun _ k => X28.ldc2Long hx hown (mvT hZ (hw _ (List.mem_of_getElem? (i := 9) rfl))) (g := (mkF m 62 #[.val (.int p0), .val (.int p1), .val (.int p2), .val (.long q3), .second, .val (.long q4), .second, .val (.int p5), .unset, .unset, .unset, .unset, .unset, .unset, .unset, .unset, .unset, .unset, .unset, .unset, .unset, .unset, .unset, .unset, .unset, .unset, .unset, .unset, .unset, .unset, .unset, .unset, .unset, .unset, .unset, .unset, .unset, .unset, .unset] [(.int (9 : Int32)), (.ref b1), (.ref b1)])) rfl (hb hby at_62) _ k) ?_
  show own_Ends _ _ _ _ _ _ _ (T28.setTop (mkF m 65 #[.val (.int p0), .val (.int p1), .val (.int p2), .val (.long q3), .second, .val (.long q4), .second, .val (.int p5), .unset, .unset, .unset, .unset, .unset, .unset, .unset, .unset, .unset, .unset, .unset, .unset, .unset, .unset, .unset, .unset, .unset, .unset, .unset, .unset, .unset, .unset, .unset, .unset, .unset, .unset, .unset, .unset, .unset, .unset, .unset] [(.long (512 : Int64)), (.int (9 : Int32)), (.ref b1), (.ref b1)]))
  obtain ⟨c31, A31, i31, -⟩ := own_Ar.at F30 (9 : Int32) (by decide) (by decide)
  obtain ⟨T31, h31, X31, e31, W31, st31⟩ := stJ X28 hx hZ e28 A31 (j := (9 : Int32)) i31 (g := (mkF m 65 #[.val (.int p0), .val (.int p1), .val (.int p2), .val (.long q3), .second, .val (.long q4), .second, .val (.int p5), .unset, .unset, .unset, .unset, .unset, .unset, .unset, .unset, .unset, .unset, .unset, .unset, .unset, .unset, .unset, .unset, .unset, .unset, .unset, .unset, .unset, .unset, .unset, .unset, .unset, .unset, .unset, .unset, .unset, .unset, .unset] [(.long (512 : Int64)), (.int (9 : Int32)), (.ref b1), (.ref b1)])) rfl rfl (hb hby at_65)
  refine own_go (fun _ k => st31 _ k) ?_
  have N31 := Fr.snoc X31 N28 g_b1
  have F32 : Old Z n0 h31 := (F29.wr W31 g_b1)
  have F33 : own_Ar Z h31 b1 .long 10 (fun i => .long ((fun i => if i = ((9 : Int32)).toNatClampNeg then (512 : Int64) else (fun i => if i = ((8 : Int32)).toNatClampNeg then (256 : Int64) else (fun i => if i = ((7 : Int32)).toNatClampNeg then (128 : Int64) else (fun i => if i = ((6 : Int32)).toNatClampNeg then (64 : Int64) else (fun i => if i = ((5 : Int32)).toNatClampNeg then (32 : Int64) else (fun i => if i = ((4 : Int32)).toNatClampNeg then (16 : Int64) else (fun i => if i = ((3 : Int32)).toNatClampNeg then (8 : Int64) else (fun i => if i = ((2 : Int32)).toNatClampNeg then (4 : Int64) else (fun i => if i = ((1 : Int32)).toNatClampNeg then (2 : Int64) else (fun i => if i = ((0 : Int32)).toNatClampNeg then (1 : Int64) else (fun _ => (0 : Int64)) i) i) i) i) i) i) i) i) i) i) i)) := own_Ar.setJ F30 W31
  show own_Ends _ _ _ _ _ _ _ (T31.setTop (mkF m 66 #[.val (.int p0), .val (.int p1), .val (.int p2), .val (.long q3), .second, .val (.long q4), .second, .val (.int p5), .unset, .unset, .unset, .unset, .unset, .unset, .unset, .unset, .unset, .unset, .unset, .unset, .unset, .unset, .unset, .unset, .unset, .unset, .unset, .unset, .unset, .unset, .unset, .unset, .unset, .unset, .unset, .unset, .unset, .unset, .unset] [(.ref b1)]))
  refine own_go (fun _ k => XS.astore X31.here hx rfl (hb hby at_66) rfl rfl (l' := #[.val (.int p0), .val (.int p1), .val (.int p2), .val (.long q3), .second, .val (.long q4), .second, .val (.int p5), .val (.ref b1), .unset, .unset, .unset, .unset, .unset, .unset, .unset, .unset, .unset, .unset, .unset, .unset, .unset, .unset, .unset, .unset, .unset, .unset, .unset, .unset, .unset, .unset, .unset, .unset, .unset, .unset, .unset, .unset, .unset, .unset]) rfl k) ?_
  show own_Ends _ _ _ _ _ _ _ (T31.setTop (mkF m 68 #[.val (.int p0), .val (.int p1), .val (.int p2), .val (.long q3), .second, .val (.long q4), .second, .val (.int p5), .val (.ref b1), .unset, .unset, .unset, .unset, .unset, .unset, .unset, .unset, .unset, .unset, .unset, .unset, .unset, .unset, .unset, .unset, .unset, .unset, .unset, .unset, .unset, .unset, .unset, .unset, .unset, .unset, .unset, .unset, .unset, .unset] []))
  refine own_go (fun _ k => XS.bipush X31.here hx rfl (hb hby at_68) k) ?_
  show own_Ends _ _ _ _ _ _ _ (T31.setTop (mkF m 70 #[.val (.int p0), .val (.int p1), .val (.int p2), .val (.long q3), .second, .val (.long q4), .second, .val (.int p5), .val (.ref b1), .unset, .unset, .unset, .unset, .unset, .unset, .unset, .unset, .unset, .unset, .unset, .unset, .unset, .unset, .unset, .unset, .unset, .unset, .unset, .unset, .unset, .unset, .unset, .unset, .unset, .unset, .unset, .unset, .unset, .unset] [(.int (10 : Int32))]))
  obtain ⟨T34, h34, k34, X34, e34, E34, A34, st34⟩ := newP X31 hx hZ (hw _ (List.mem_of_getElem? (i := 0) rfl)) e31 (g := (mkF m 70 #[.val (.int p0), .val (.int p1), .val (.int p2), .val (.long q3), .second, .val (.long q4), .second, .val (.int p5), .val (.ref b1), .unset, .unset, .unset, .unset, .unset, .unset, .unset, .unset, .unset, .unset, .unset, .unset, .unset, .unset, .unset, .unset, .unset, .unset, .unset, .unset, .unset, .unset, .unset, .unset, .unset, .unset, .unset, .unset, .unset, .unset] [(.int (10 : Int32))])) rfl (hb hby at_70) rfl (by decide) (cap := 10) (by decide) (by decide) (by decide) (by decide)
  obtain ⟨b34, q_b34⟩ : ∃ z, z = h31.size := ⟨_, rfl⟩
  rw [← q_b34] at A34 st34
  have g_b34 : n0 ≤ b34 := Nat.le_trans (own_sz F32) (Nat.le_of_eq q_b34.symm)
  have ne_b1_b34 : b1 ≠ b34 := Nat.ne_of_lt (Nat.lt_of_lt_of_le F33.lt (Nat.le_of_eq q_b34.symm))
  refine own_go (fun _ k => st34 _ k) ?_
  have F35 : Old Z n0 h34 := (F32.ext E34)
  have F36 : own_Ar Z h34 b1 .long 10 (fun i => .long ((fun i => if i = ((9 : Int32)).toNatClampNeg then (512 : Int64) else (fun i => if i = ((8 : Int32)).toNatClampNeg then (256 : Int64) else (fun i => if i = ((7 : Int32)).toNatClampNeg then (128 : Int64) else (fun i => if i = ((6 : Int32)).toNatClampNeg then (64 : Int64) else (fun i => if i = ((5 : Int32)).toNatClampNeg then (32 : Int64) else (fun i => if i = ((4 : Int32)).toNatClampNeg then (16 : Int64) else (fun i => if i = ((3 : Int32)).toNatClampNeg then (8 : Int64) else (fun i => if i = ((2 : Int32)).toNatClampNeg then (4 : Int64) else (fun i => if i = ((1 : Int32)).toNatClampNeg then (2 : Int64) else (fun i => if i = ((0 : Int32)).toNatClampNeg then (1 : Int64) else (fun _ => (0 : Int64)) i) i) i) i) i) i) i) i) i) i) i)) := (F33.ext E34)
  have F37 : own_Ar Z h34 b34 .long 10 (fun i => .long ((fun _ => (0 : Int64)) i)) := own_Ar.newJ A34 (by decide)
  show own_Ends _ _ _ _ _ _ _ (T34.setTop (mkF m 72 #[.val (.int p0), .val (.int p1), .val (.int p2), .val (.long q3), .second, .val (.long q4), .second, .val (.int p5), .val (.ref b1), .unset, .unset, .unset, .unset, .unset, .unset, .unset, .unset, .unset, .unset, .unset, .unset, .unset, .unset, .unset, .unset, .unset, .unset, .unset, .unset, .unset, .unset, .unset, .unset, .unset, .unset, .unset, .unset, .unset, .unset] [(.ref b34)]))
  refine own_go (fun _ k => XS.dup X34.here hx rfl (hb hby at_72) rfl rfl k) ?_
  show own_Ends _ _ _ _ _ _ _ (T34.setTop (mkF m 73 #[.val (.int p0), .val (.int p1), .val (.int p2), .val (.long q3), .second, .val (.long q4), .second, .val (.int p5), .val (.ref b1), .unset, .unset, .unset, .unset, .unset, .unset, .unset, .unset, .unset, .unset, .unset, .unset, .unset, .unset, .unset, .unset, .unset, .unset, .unset, .unset, .unset, .unset, .unset, .unset, .unset, .unset, .unset, .unset, .unset, .unset] [(.ref b34), (.ref b34)]))
  refine own_go (fun _ k => XS.iconst X34.here hx rfl (hb hby at_73) k) ?_
  show own_Ends _ _ _ _ _ _ _ (T34.setTop (mkF m 74 #[.val (.int p0), .val (.int p1), .val (.int p2), .val (.long q3), .second, .val (.long q4), .second, .val (.int p5), .val (.ref b1), .unset, .unset, .unset, .unset, .unset, .unset, .unset, .unset, .unset, .unset, .unset, .unset, .unset, .unset, .unset, .unset, .unset, .unset, .unset, .unset, .unset, .unset, .unset, .unset, .unset, .unset, .unset, .unset, .unset, .unset] [(.int (0 : Int32)), (.ref b34), (.ref b34)]))
  refine own_go (fun _ k => XS.lconst X34.here hx rfl (hb hby at_74) k) ?_
  show own_Ends _ _ _ _ _ _ _ (T34.setTop (mkF m 75 #[.val (.int p0), .val (.int p1), .val (.int p2), .val (.long q3), .second, .val (.long q4), .second, .val (.int p5), .val (.ref b1), .unset, .unset, .unset, .unset, .unset, .unset, .unset, .unset, .unset, .unset, .unset, .unset, .unset, .unset, .unset, .unset, .unset, .unset, .unset, .unset, .unset, .unset, .unset, .unset, .unset, .unset, .unset, .unset, .unset, .unset] [(.long (1 : Int64)), (.int (0 : Int32)), (.ref b34), (.ref b34)]))
  obtain ⟨c38, A38, i38, -⟩ := own_Ar.at F37 (0 : Int32) (by decide) (by decide)
  obtain ⟨T38, h38, X38, e38, W38, st38⟩ := stJ X34 hx hZ e34 A38 (j := (0 : Int32)) i38 (g := (mkF m 75 #[.val (.int p0), .val (.int p1), .val (.int p2), .val (.long q3), .second, .val (.long q4), .second, .val (.int p5), .val (.ref b1), .unset, .unset, .unset, .unset, .unset, .unset, .unset, .unset, .unset, .unset, .unset, .unset, .unset, .unset, .unset, .unset, .unset, .unset, .unset, .unset, .unset, .unset, .unset, .unset, .unset, .unset, .unset, .unset, .unset, .unset] [(.long (1 : Int64)), (.int (0 : Int32)), (.ref b34), (.ref b34)])) rfl rfl (hb hby at_75)
  refine own_go (fun _ k => st38 _ k) ?_
  have N38 := Fr.snoc X38 N31 g_b34
  have F39 : Old Z n0 h38 := (F35.wr W38 g_b34)
  have F40 : own_Ar Z h38 b1 .long 10 (fun i => .long ((fun i => if i = ((9 : Int32)).toNatClampNeg then (512 : Int64) else (fun i => if i = ((8 : Int32)).toNatClampNeg then (256 : Int64) else (fun i => if i = ((7 : Int32)).toNatClampNeg then (128 : Int64) else (fun i => if i = ((6 : Int32)).toNatClampNeg then (64 : Int64) else (fun i => if i = ((5 : Int32)).toNatClampNeg then (32 : Int64) else (fun i => if i = ((4 : Int32)).toNatClampNeg then (16 : Int64) else (fun i => if i = ((3 : Int32)).toNatClampNeg then (8 : Int64) else (fun i => if i = ((2 : Int32)).toNatClampNeg then (4 : Int64) else (fun i => if i = ((1 : Int32)).toNatClampNeg then (2 : Int64) else (fun i => if i = ((0 : Int32)).toNatClampNeg then (1 : Int64) else (fun _ => (0 : Int64)) i) i) i) i) i) i) i) i) i) i) i)) := (F36.other W38 ne_b1_b34)
  have F41 : own_Ar Z h38 b34 .long 10 (fun i => .long ((fun i => if i = ((0 : Int32)).toNatClampNeg then (1 : Int64) else (fun _ => (0 : Int64)) i) i)) := own_Ar.setJ F37 W38
  show own_Ends _ _ _ _ _ _ _ (T38.setTop (mkF m 76 #[.val (.int p0), .val (.int p1), .val (.int p2), .val (.long q3), .second, .val (.long q4), .second, .val (.int p5), .val (.ref b1), .unset, .unset, .unset, .unset, .unset, .unset, .unset, .unset, .unset, .unset, .unset, .unset, .unset, .unset, .unset, .unset, .unset, .unset, .unset, .unset, .unset, .unset, .unset, .unset, .unset, .unset, .unset, .unset, .unset, .unset] [(.ref b34)]))
  refine own_go (fun _ k => XS.dup X38.here hx rfl (hb hby at_76) rfl rfl k) ?_
  show own_Ends _ _ _ _ _ _ _ (T38.setTop (mkF m 77 #[.val (.int p0), .val (.int p1), .val (.int p2), .val (.long q3), .second, .val (.long q4), .second, .val (.int p5), .val (.ref b1), .unset, .unset, .unset, .unset, .unset, .unset, .unset, .unset, .unset, .unset, .unset, .unset, .unset, .unset, .unset, .unset, .unset, .unset, .unset, .unset, .unset, .unset, .unset, .unset, .unset, .unset, .unset, .unset, .unset, .unset] [(.ref b34), (.ref b34)]))
  refine own_go (fun _ k => XS.iconst X38.here hx rfl (hb hby at_77) k) ?_
  show own_Ends _ _ _ _ _ _ _ (T38.setTop (mkF m 78 #[.val (.int p0), .val (.int p1), .val (.int p2), .val (.long q3), .second, .val (.long q4), .second, .val (.int p5), .val (.ref b1), .unset, .unset, .unset, .unset, .unset, .unset, .unset, .unset, .unset, .unset, .unset, .unset, .unset, .unset, .unset, .unset, .unset, .unset, .unset, .unset, .unset, .unset, .unset, .unset, .unset, .unset, .unset, .unset, .unset, .unset] [(.int (1 : Int32)), (.ref b34), (.ref b34)]))
  refine own_go (fun _ k => X38.ldc2Long hx hown (mvT hZ (hw _ (List.mem_of_getElem? (i := 10) rfl))) (g := (mkF m 78 #[.val (.int p0), .val (.int p1), .val (.int p2), .val (.long q3), .second, .val (.long q4), .second, .val (.int p5), .val (.ref b1), .unset, .unset, .unset, .unset, .unset, .unset, .unset, .unset, .unset, .unset, .unset, .unset, .unset, .unset, .unset, .unset, .unset, .unset, .unset, .unset, .unset, .unset, .unset, .unset, .unset, .unset, .unset, .unset, .unset, .unset] [(.int (1 : Int32)), (.ref b34), (.ref b34)])) rfl (hb hby at_78) _ k) ?_
  show own_Ends _ _ _ _ _ _ _ (T38.setTop (mkF m 81 #[.val (.int p0), .val (.int p1), .val (.int p2), .val (.long q3), .second, .val (.long q4), .second, .val (.int p5), .val (.ref b1), .unset, .unset, .unset, .unset, .unset, .unset, .unset, .unset, .unset, .unset, .unset, .unset, .unset, .unset, .unset, .unset, .unset, .unset, .unset, .unset, .unset, .unset, .unset, .unset, .unset, .unset, .unset, .unset, .unset, .unset] [(.long (5 : Int64)), (.int (1 : Int32)), (.ref b34), (.ref b34)]))
  obtain ⟨c42, A42, i42, -⟩ := own_Ar.at F41 (1 : Int32) (by decide) (by decide)
  obtain ⟨T42, h42, X42, e42, W42, st42⟩ := stJ X38 hx hZ e38 A42 (j := (1 : Int32)) i42 (g := (mkF m 81 #[.val (.int p0), .val (.int p1), .val (.int p2), .val (.long q3), .second, .val (.long q4), .second, .val (.int p5), .val (.ref b1), .unset, .unset, .unset, .unset, .unset, .unset, .unset, .unset, .unset, .unset, .unset, .unset, .unset, .unset, .unset, .unset, .unset, .unset, .unset, .unset, .unset, .unset, .unset, .unset, .unset, .unset, .unset, .unset, .unset, .unset] [(.long (5 : Int64)), (.int (1 : Int32)), (.ref b34), (.ref b34)])) rfl rfl (hb hby at_81)
  refine own_go (fun _ k => st42 _ k) ?_
  have N42 := Fr.snoc X42 N38 g_b34
  have F43 : Old Z n0 h42 := (F39.wr W42 g_b34)
  have F44 : own_Ar Z h42 b1 .long 10 (fun i => .long ((fun i => if i = ((9 : Int32)).toNatClampNeg then (512 : Int64) else (fun i => if i = ((8 : Int32)).toNatClampNeg then (256 : Int64) else (fun i => if i = ((7 : Int32)).toNatClampNeg then (128 : Int64) else (fun i => if i = ((6 : Int32)).toNatClampNeg then (64 : Int64) else (fun i => if i = ((5 : Int32)).toNatClampNeg then (32 : Int64) else (fun i => if i = ((4 : Int32)).toNatClampNeg then (16 : Int64) else (fun i => if i = ((3 : Int32)).toNatClampNeg then (8 : Int64) else (fun i => if i = ((2 : Int32)).toNatClampNeg then (4 : Int64) else (fun i => if i = ((1 : Int32)).toNatClampNeg then (2 : Int64) else (fun i => if i = ((0 : Int32)).toNatClampNeg then (1 : Int64) else (fun _ => (0 : Int64)) i) i) i) i) i) i) i) i) i) i) i)) := (F40.other W42 ne_b1_b34)
  have F45 : own_Ar Z h42 b34 .long 10 (fun i => .long ((fun i => if i = ((1 : Int32)).toNatClampNeg then (5 : Int64) else (fun i => if i = ((0 : Int32)).toNatClampNeg then (1 : Int64) else (fun _ => (0 : Int64)) i) i) i)) := own_Ar.setJ F41 W42
  show own_Ends _ _ _ _ _ _ _ (T42.setTop (mkF m 82 #[.val (.int p0), .val (.int p1), .val (.int p2), .val (.long q3), .second, .val (.long q4), .second, .val (.int p5), .val (.ref b1), .unset, .unset, .unset, .unset, .unset, .unset, .unset, .unset, .unset, .unset, .unset, .unset, .unset, .unset, .unset, .unset, .unset, .unset, .unset, .unset, .unset, .unset, .unset, .unset, .unset, .unset, .unset, .unset, .unset, .unset] [(.ref b34)]))
  refine own_go (fun _ k => XS.dup X42.here hx rfl (hb hby at_82) rfl rfl k) ?_
  show own_Ends _ _ _ _ _ _ _ (T42.setTop (mkF m 83 #[.val (.int p0), .val (.int p1), .val (.int p2), .val (.long q3), .second, .val (.long q4), .second, .val (.int p5), .val (.ref b1), .unset, .unset, .unset, .unset, .unset, .unset, .unset, .unset, .unset, .unset, .unset, .unset, .unset, .unset, .unset, .unset, .unset, .unset, .unset, .unset, .unset, .unset, .unset, .unset, .unset, .unset, .unset, .unset, .unset, .unset] [(.ref b34), (.ref b34)]))
  refine own_go (fun _ k => XS.iconst X42.here hx rfl (hb hby at_83) k) ?_
  show own_Ends _ _ _ _ _ _ _ (T42.setTop (mkF m 84 #[.val (.int p0), .val (.int p1), .val (.int p2), .val (.long q3), .second, .val (.long q4), .second, .val (.int p5), .val (.ref b1), .unset, .unset, .unset, .unset, .unset, .unset, .unset, .unset, .unset, .unset, .unset, .unset, .unset, .unset, .unset, .unset, .unset, .unset, .unset, .unset, .unset, .unset, .unset, .unset, .unset, .unset, .unset, .unset, .unset, .unset] [(.int (2 : Int32)), (.ref b34), (.ref b34)]))
  refine own_go (fun _ k => X42.ldc2Long hx hown (mvT hZ (hw _ (List.mem_of_getElem? (i := 11) rfl))) (g := (mkF m 84 #[.val (.int p0), .val (.int p1), .val (.int p2), .val (.long q3), .second, .val (.long q4), .second, .val (.int p5), .val (.ref b1), .unset, .unset, .unset, .unset, .unset, .unset, .unset, .unset, .unset, .unset, .unset, .unset, .unset, .unset, .unset, .unset, .unset, .unset, .unset, .unset, .unset, .unset, .unset, .unset, .unset, .unset, .unset, .unset, .unset, .unset] [(.int (2 : Int32)), (.ref b34), (.ref b34)])) rfl (hb hby at_84) _ k) ?_
  show own_Ends _ _ _ _ _ _ _ (T42.setTop (mkF m 87 #[.val (.int p0), .val (.int p1), .val (.int p2), .val (.long q3), .second, .val (.long q4), .second, .val (.int p5), .val (.ref b1), .unset, .unset, .unset, .unset, .unset, .unset, .unset, .unset, .unset, .unset, .unset, .unset, .unset, .unset, .unset, .unset, .unset, .unset, .unset, .unset, .unset, .unset, .unset, .unset, .unset, .unset, .unset, .unset, .unset, .unset] [(.long (25 : Int64)), (.int (2 : Int32)), (.ref b34), (.ref b34)]))
  obtain ⟨c46, A46, i46, -⟩ := own_Ar.at F45 (2 : Int32) (by decide) (by decide)
  obtain ⟨T46, h46, X46, e46, W46, st46⟩ := stJ X42 hx hZ e42 A46 (j := (2 : Int32)) i46 (g := (mkF m 87 #[.val (.int p0), .val (.int p1), .val (.int p2), .val (.long q3), .second, .val (.long q4), .second, .val (.int p5), .val (.ref b1), .unset, .unset, .unset, .unset, .unset, .unset, .unset, .unset, .unset, .unset, .unset, .unset, .unset, .unset, .unset, .unset, .unset, .unset, .unset, .unset, .unset, .unset, .unset, .unset, .unset, .unset, .unset, .unset, .unset, .unset] [(.long (25 : Int64)), (.int (2 : Int32)), (.ref b34), (.ref b34)])) rfl rfl (hb hby at_87)
  refine own_go (fun _ k => st46 _ k) ?_
  have N46 := Fr.snoc X46 N42 g_b34
  have F47 : Old Z n0 h46 := (F43.wr W46 g_b34)
  have F48 : own_Ar Z h46 b1 .long 10 (fun i => .long ((fun i => if i = ((9 : Int32)).toNatClampNeg then (512 : Int64) else (fun i => if i = ((8 : Int32)).toNatClampNeg then (256 : Int64) else (fun i => if i = ((7 : Int32)).toNatClampNeg then (128 : Int64) else (fun i => if i = ((6 : Int32)).toNatClampNeg then (64 : Int64) else (fun i => if i = ((5 : Int32)).toNatClampNeg then (32 : Int64) else (fun i => if i = ((4 : Int32)).toNatClampNeg then (16 : Int64) else (fun i => if i = ((3 : Int32)).toNatClampNeg then (8 : Int64) else (fun i => if i = ((2 : Int32)).toNatClampNeg then (4 : Int64) else (fun i => if i = ((1 : Int32)).toNatClampNeg then (2 : Int64) else (fun i => if i = ((0 : Int32)).toNatClampNeg then (1 : Int64) else (fun _ => (0 : Int64)) i) i) i) i) i) i) i) i) i) i) i)) := (F44.other W46 ne_b1_b34)
  have F49 : own_Ar Z h46 b34 .long 10 (fun i => .long ((fun i => if i = ((2 : Int32)).toNatClampNeg then (25 : Int64) else (fun i => if i = ((1 : Int32)).toNatClampNeg then (5 : Int64) else (fun i => if i = ((0 : Int32)).toNatClampNeg then (1 : Int64) else (fun _ => (0 : Int64)) i) i) i) i)) := own_Ar.setJ F45 W46
  show own_Ends _ _ _ _ _ _ _ (T46.setTop (mkF m 88 #[.val (.int p0), .val (.int p1), .val (.int p2), .val (.long q3), .second, .val (.long q4), .second, .val (.int p5), .val (.ref b1), .unset, .unset, .unset, .unset, .unset, .unset, .unset, .unset, .unset, .unset, .unset, .unset, .unset, .unset, .unset, .unset, .unset, .unset, .unset, .unset, .unset, .unset, .unset, .unset, .unset, .unset, .unset, .unset, .unset, .unset] [(.ref b34)]))
  refine own_go (fun _ k => XS.dup X46.here hx rfl (hb hby at_88) rfl rfl k) ?_
  show own_Ends _ _ _ _ _ _ _ (T46.setTop (mkF m 89 #[.val (.int p0), .val (.int p1), .val (.int p2), .val (.long q3), .second, .val (.long q4), .second, .val (.int p5), .val (.ref b1), .unset, .unset, .unset, .unset, .unset, .unset, .unset, .unset, .unset, .unset, .unset, .unset, .unset, .unset, .unset, .unset, .unset, .unset, .unset, .unset, .unset, .unset, .unset, .unset, .unset, .unset, .unset, .unset, .unset, .unset] [(.ref b34), (.ref b34)]))
  refine own_go (fun _ k => XS.iconst X46.here hx rfl (hb hby at_89) k) ?_
  show own_Ends _ _ _ _ _ _ _ (T46.setTop (mkF m 90 #[.val (.int p0), .val (.int p1), .val (.int p2), .val (.long q3), .second, .val (.long q4), .second, .val (.int p5), .val (.ref b1), .unset, .unset, .unset, .unset, .unset, .unset, .unset, .unset, .unset, .unset, .unset, .unset, .unset, .unset, .unset, .unset, .unset, .unset, .unset, .unset, .unset, .unset, .unset, .unset, .unset, .unset, .unset, .unset, .unset, .unset] [(.int (3 : Int32)), (.ref b34), (.ref b34)]))
  refine own_go (fun _ k => X46.ldc2Long hx hown (mvT hZ (hw _ (List.mem_of_getElem? (i := 12) rfl))) (g := (mkF m 90 #[.val (.int p0), .val (.int p1), .val (.int p2), .val (.long q3), .second, .val (.long q4), .second, .val (.int p5), .val (.ref b1), .unset, .unset, .unset, .unset, .unset, .unset, .unset, .unset, .unset, .unset, .unset, .unset, .unset, .unset, .unset, .unset, .unset, .unset, .unset, .unset, .unset, .unset, .unset, .unset, .unset, .unset, .unset, .unset, .unset, .unset] [(.int (3 : Int32)), (.ref b34), (.ref b34)])) rfl (hb hby at_90) _ k) ?_
  show own_Ends _ _ _ _ _ _ _ (T46.setTop (mkF m 93 #[.val (.int p0), .val (.int p1), .val (.int p2), .val (.long q3), .second, .val (.long q4), .second, .val (.int p5), .val (.ref b1), .unset, .unset, .unset, .unset, .unset, .unset, .unset, .unset, .unset, .unset, .unset, .unset, .unset, .unset, .unset, .unset, .unset, .unset, .unset, .unset, .unset, .unset, .unset, .unset, .unset, .unset, .unset, .unset, .unset, .unset] [(.long (125 : Int64)), (.int (3 : Int32)), (.ref b34), (.ref b34)]))
  obtain ⟨c50, A50, i50, -⟩ := own_Ar.at F49 (3 : Int32) (by decide) (by decide)
  obtain ⟨T50, h50, X50, e50, W50, st50⟩ := stJ X46 hx hZ e46 A50 (j := (3 : Int32)) i50 (g := (mkF m 93 #[.val (.int p0), .val (.int p1), .val (.int p2), .val (.long q3), .second, .val (.long q4), .second, .val (.int p5), .val (.ref b1), .unset, .unset, .unset, .unset, .unset, .unset, .unset, .unset, .unset, .unset, .unset, .unset, .unset, .unset, .unset, .unset, .unset, .unset, .unset, .unset, .unset, .unset, .unset, .unset, .unset, .unset, .unset, .unset, .unset, .unset] [(.long (125 : Int64)), (.int (3 : Int32)), (.ref b34), (.ref b34)])) rfl rfl (hb hby at_93)
  refine own_go (fun _ k => st50 _ k) ?_
  have N50 := Fr.snoc X50 N46 g_b34
  have F51 : Old Z n0 h50 := (F47.wr W50 g_b34)
  have F52 : own_Ar Z h50 b1 .long 10 (fun i => .long ((fun i => if i = ((9 : Int32)).toNatClampNeg then (512 : Int64) else (fun i => if i = ((8 : Int32)).toNatClampNeg then (256 : Int64) else (fun i => if i = ((7 : Int32)).toNatClampNeg then (128 : Int64) else (fun i => if i = ((6 : Int32)).toNatClampNeg then (64 : Int64) else (fun i => if i = ((5 : Int32)).toNatClampNeg then (32 : Int64) else (fun i => if i = ((4 : Int32)).toNatClampNeg then (16 : Int64) else (fun i => if i = ((3 : Int32)).toNatClampNeg then (8 : Int64) else (fun i => if i = ((2 : Int32)).toNatClampNeg then (4 : Int64) else (fun i => if i = ((1 : Int32)).toNatClampNeg then (2 : Int64) else (fun i => if i = ((0 : Int32)).toNatClampNeg then (1 : Int64) else (fun _ => (0 : Int64)) i) i) i) i) i) i) i) i) i) i) i)) := (F48.other W50 ne_b1_b34)
  have F53 : own_Ar Z h50 b34 .long 10 (fun i => .long ((fun i => if i = ((3 : Int32)).toNatClampNeg then (125 : Int64) else (fun i => if i = ((2 : Int32)).toNatClampNeg then (25 : Int64) else (fun i => if i = ((1 : Int32)).toNatClampNeg then (5 : Int64) else (fun i => if i = ((0 : Int32)).toNatClampNeg then (1 : Int64) else (fun _ => (0 : Int64)) i) i) i) i) i)) := own_Ar.setJ F49 W50
  show own_Ends _ _ _ _ _ _ _ (T50.setTop (mkF m 94 #[.val (.int p0), .val (.int p1), .val (.int p2), .val (.long q3), .second, .val (.long q4), .second, .val (.int p5), .val (.ref b1), .unset, .unset, .unset, .unset, .unset, .unset, .unset, .unset, .unset, .unset, .unset, .unset, .unset, .unset, .unset, .unset, .unset, .unset, .unset, .unset, .unset, .unset, .unset, .unset, .unset, .unset, .unset, .unset, .unset, .unset] [(.ref b34)]))
  refine own_go (fun _ k => XS.dup X50.here hx rfl (hb hby at_94) rfl rfl k) ?_
  show own_Ends _ _ _ _ _ _ _ (T50.setTop (mkF m 95 #[.val (.int p0), .val (.int p1), .val (.int p2), .val (.long q3), .second, .val (.long q4), .second, .val (.int p5), .val (.ref b1), .unset, .unset, .unset, .unset, .unset, .unset, .unset, .unset, .unset, .unset, .unset, .unset, .unset, .unset, .unset, .unset, .unset, .unset, .unset, .unset, .unset, .unset, .unset, .unset, .unset, .unset, .unset, .unset, .unset, .unset] [(.ref b34), (.ref b34)]))
  refine own_go (fun _ k => XS.iconst X50.here hx rfl (hb hby at_95) k) ?_
  show own_Ends _ _ _ _ _ _ _ (T50.setTop (mkF m 96 #[.val (.int p0), .val (.int p1), .val (.int p2), .val (.long q3), .second, .val (.long q4), .second, .val (.int p5), .val (.ref b1), .unset, .unset, .unset, .unset, .unset, .unset, .unset, .unset, .unset, .unset, .unset, .unset, .unset, .unset, .unset, .unset, .unset, .unset, .unset, .unset, .unset, .unset, .unset, .unset, .unset, .unset, .unset, .unset, .unset, .unset] [(.int (4 : Int32)), (.ref b34), (.ref b34)]))
  refine own_go (fun _ k => X50.ldc2Long hx hown (mvT hZ (hw _ (List.mem_of_getElem? (i := 13) rfl))) (g := (mkF m 96 #[.val (.int p0), .val (.int p1), .val (.int p2), .val (.long q3), .second, .val (.long q4), .second, .val (.int p5), .val (.ref b1), .unset, .unset, .unset, .unset, .unset, .unset, .unset, .unset, .unset, .unset, .unset, .unset, .unset, .unset, .unset, .unset, .unset, .unset, .unset, .unset, .unset, .unset, .unset, .unset, .unset, .unset, .unset, .unset, .unset, .unset] [(.int (4 : Int32)), (.ref b34), (.ref b34)])) rfl (hb hby at_96) _ k) ?_
  show own_Ends _ _ _ _ _ _ _ (T50.setTop (mkF m 99 #[.val (.int p0), .val (.int p1), .val (.int p2), .val (.long q3), .second, .val (.long q4), .second, .val (.int p5), .val (.ref b1), .unset, .unset, .unset, .unset, .unset, .unset, .unset, .unset, .unset, .unset, .unset, .unset, .unset, .unset, .unset, .unset, .unset, .unset, .unset, .unset, .unset, .unset, .unset, .unset, .unset, .unset, .unset, .unset, .unset, .unset] [(.long (625 : Int64)), (.int (4 : Int32)), (.ref b34), (.ref b34)]))
  obtain ⟨c54, A54, i54, -⟩ := own_Ar.at F53 (4 : Int32) (by decide) (by decide)
  obtain ⟨T54, h54, X54, e54, W54, st54⟩ := stJ X50 hx hZ e50 A54 (j := (4 : Int32)) i54 (g := (mkF m 99 #[.val (.int p0), .val (.int p1), .val (.int p2), .val (.long q3), .second, .val (.long q4), .second, .val (.int p5), .val (.ref b1), .unset, .unset, .unset, .unset, .unset, .unset, .unset, .unset, .unset, .unset, .unset, .unset, .unset, .unset, .unset, .unset, .unset, .unset, .unset, .unset, .unset, .unset, .unset, .unset, .unset, .unset, .unset, .unset, .unset, .unset] [(.long (625 : Int64)), (.int (4 : Int32)), (.ref b34), (.ref b34)])) rfl rfl (hb hby at_99)
  refine own_go (fun _ k => st54 _ k) ?_
  have N54 := Fr.snoc X54 N50 g_b34
  have F55 : Old Z n0 h54 := (F51.wr W54 g_b34)
  have F56 : own_Ar Z h54 b1 .long 10 (fun i => .long ((fun i => if i = ((9 : Int32)).toNatClampNeg then (512 : Int64) else (fun i => if i = ((8 : Int32)).toNatClampNeg then (256 : Int64) else (fun i => if i = ((7 : Int32)).toNatClampNeg then (128 : Int64) else (fun i => if i = ((6 : Int32)).toNatClampNeg then (64 : Int64) else (fun i => if i = ((5 : Int32)).toNatClampNeg then (32 : Int64) else (fun i => if i = ((4 : Int32)).toNatClampNeg then (16 : Int64) else (fun i => if i = ((3 : Int32)).toNatClampNeg then (8 : Int64) else (fun i => if i = ((2 : Int32)).toNatClampNeg then (4 : Int64) else (fun i => if i = ((1 : Int32)).toNatClampNeg then (2 : Int64) else (fun i => if i = ((0 : Int32)).toNatClampNeg then (1 : Int64) else (fun _ => (0 : Int64)) i) i) i) i) i) i) i) i) i) i) i)) := (F52.other W54 ne_b1_b34)
  have F57 : own_Ar Z h54 b34 .long 10 (fun i => .long ((fun i => if i = ((4 : Int32)).toNatClampNeg then (625 : Int64) else (fun i => if i = ((3 : Int32)).toNatClampNeg then (125 : Int64) else (fun i => if i = ((2 : Int32)).toNatClampNeg then (25 : Int64) else (fun i => if i = ((1 : Int32)).toNatClampNeg then (5 : Int64) else (fun i => if i = ((0 : Int32)).toNatClampNeg then (1 : Int64) else (fun _ => (0 : Int64)) i) i) i) i) i) i)) := own_Ar.setJ F53 W54
  show own_Ends _ _ _ _ _ _ _ (T54.setTop (mkF m 100 #[.val (.int p0), .val (.int p1), .val (.int p2), .val (.long q3), .second, .val (.long q4), .second, .val (.int p5), .val (.ref b1), .unset, .unset, .unset, .unset, .unset, .unset, .unset, .unset, .unset, .unset, .unset, .unset, .unset, .unset, .unset, .unset, .unset, .unset, .unset, .unset, .unset, .unset, .unset, .unset, .unset, .unset, .unset, .unset, .unset, .unset] [(.ref b34)]))
  refine own_go (fun _ k => XS.dup X54.here hx rfl (hb hby at_100) rfl rfl k) ?_
  show own_Ends _ _ _ _ _ _ _ (T54.setTop (mkF m 101 #[.val (.int p0), .val (.int p1), .val (.int p2), .val (.long q3), .second, .val (.long q4), .second, .val (.int p5), .val (.ref b1), .unset, .unset, .unset, .unset, .unset, .unset, .unset, .unset, .unset, .unset, .unset, .unset, .unset, .unset, .unset, .unset, .unset, .unset, .unset, .unset, .unset, .unset, .unset, .unset, .unset, .unset, .unset, .unset, .unset, .unset] [(.ref b34), (.ref b34)]))
  refine own_go (fun _ k => XS.iconst X54.here hx rfl (hb hby at_101) k) ?_
  show own_Ends _ _ _ _ _ _ _ (T54.setTop (mkF m 102 #[.val (.int p0), .val (.int p1), .val (.int p2), .val (.long q3), .second, .val (.long q4), .second, .val (.int p5), .val (.ref b1), .unset, .unset, .unset, .unset, .unset, .unset, .unset, .unset, .unset, .unset, .unset, .unset, .unset, .unset, .unset, .unset, .unset, .unset, .unset, .unset, .unset, .unset, .unset, .unset, .unset, .unset, .unset, .unset, .unset, .unset] [(.int (5 : Int32)), (.ref b34), (.ref b34)]))
  refine own_go (fun _ k => X54.ldc2Long hx hown (mvT hZ (hw _ (List.mem_of_getElem? (i := 14) rfl))) (g := (mkF m 102 #[.val (.int p0), .val (.int p1), .val (.int p2), .val (.long q3), .second, .val (.long q4), .second, .val (.int p5), .val (.ref b1), .unset, .unset, .unset, .unset, .unset, .unset, .unset, .unset, .unset, .unset, .unset, .unset, .unset, .unset, .unset, .unset, .unset, .unset, .unset, .unset, .unset, .unset, .unset, .unset, .unset, .unset, .unset, .unset, .unset, .unset] [(.int (5 : Int32)), (.ref b34), (.ref b34)])) rfl (hb hby at_102) _ k) ?_
  show own_Ends _ _ _ _ _ _ _ (T54.setTop (mkF m 105 #[.val (.int p0), .val (.int p1), .val (.int p2), .val (.long q3), .second, .val (.long q4), .second, .val (.int p5), .val (.ref b1), .unset, .unset, .unset, .unset, .unset, .unset, .unset, .unset, .unset, .unset, .unset, .unset, .unset, .unset, .unset, .unset, .unset, .unset, .unset, .unset, .unset, .unset, .unset, .unset, .unset, .unset, .unset, .unset, .unset, .unset] [(.long (3125 : Int64)), (.int (5 : Int32)), (.ref b34), (.ref b34)]))
  obtain ⟨c58, A58, i58, -⟩ := own_Ar.at F57 (5 : Int32) (by decide) (by decide)
  obtain ⟨T58, h58, X58, e58, W58, st58⟩ := stJ X54 hx hZ e54 A58 (j := (5 : Int32)) i58 (g := (mkF m 105 #[.val (.int p0), .val (.int p1), .val (.int p2), .val (.long q3), .second, .val (.long q4), .second, .val (.int p5), .val (.ref b1), .unset, .unset, .unset, .unset, .unset, .unset, .unset, .unset, .unset, .unset, .unset, .unset, .unset, .unset, .unset, .unset, .unset, .unset, .unset, .unset, .unset, .unset, .unset, .unset, .unset, .unset, .unset, .unset, .unset, .unset] [(.long (3125 : Int64)), (.int (5 : Int32)), (.ref b34), (.ref b34)])) rfl rfl (hb hby at_105)
  refine own_go (fun _ k => st58 _ k) ?_
  have N58 := Fr.snoc X58 N54 g_b34
  have F59 : Old Z n0 h58 := (F55.wr W58 g_b34)
  have F60 : own_Ar Z h58 b1 .long 10 (fun i => .long ((fun i => if i = ((9 : Int32)).toNatClampNeg then (512 : Int64) else (fun i => if i = ((8 : Int32)).toNatClampNeg then (256 : Int64) else (fun i => if i = ((7 : Int32)).toNatClampNeg then (128 : Int64) else (fun i => if i = ((6 : Int32)).toNatClampNeg then (64 : Int64) else (fun i => if i = ((5 : Int32)).toNatClampNeg then (32 : Int64) else (fun i => if i = ((4 : Int32)).toNatClampNeg then (16 : Int64) else (fun i => if i = ((3 : Int32)).toNatClampNeg then (8 : Int64) else (fun i => if i = ((2 : Int32)).toNatClampNeg then (4 : Int64) else (fun i => if i = ((1 : Int32)).toNatClampNeg then (2 : Int64) else (fun i => if i = ((0 : Int32)).toNatClampNeg then (1 : Int64) else (fun _ => (0 : Int64)) i) i) i) i) i) i) i) i) i) i) i)) := (F56.other W58 ne_b1_b34)
  have F61 : own_Ar Z h58 b34 .long 10 (fun i => .long ((fun i => if i = ((5 : Int32)).toNatClampNeg then (3125 : Int64) else (fun i => if i = ((4 : Int32)).toNatClampNeg then (625 : Int64) else (fun i => if i = ((3 : Int32)).toNatClampNeg then (125 : Int64) else (fun i => if i = ((2 : Int32)).toNatClampNeg then (25 : Int64) else (fun i => if i = ((1 : Int32)).toNatClampNeg then (5 : Int64) else (fun i => if i = ((0 : Int32)).toNatClampNeg then (1 : Int64) else (fun _ => (0 : Int64)) i) i) i) i) i) i) i)) := own_Ar.setJ F57 W58
  show own_Ends _ _ _ _ _ _ _ (T58.setTop (mkF m 106 #[.val (.int p0), .val (.int p1), .val (.int p2), .val (.long q3), .second, .val (.long q4), .second, .val (.int p5), .val (.ref b1), .unset, .unset, .unset, .unset, .unset, .unset, .unset, .unset, .unset, .unset, .unset, .unset, .unset, .unset, .unset, .unset, .unset, .unset, .unset, .unset, .unset, .unset, .unset, .unset, .unset, .unset, .unset, .unset, .unset, .unset] [(.ref b34)]))
  refine own_go (fun _ k => XS.dup X58.here hx rfl (hb hby at_106) rfl rfl k) ?_
  show own_Ends _ _ _ _ _ _ _ (T58.setTop (mkF m 107 #[.val (.int p0), .val (.int p1), .val (.int p2), .val (.long q3), .second, .val (.long q4), .second, .val (.int p5), .val (.ref b1), .unset, .unset, .unset, .unset, .unset, .unset, .unset, .unset, .unset, .unset, .unset, .unset, .unset, .unset, .unset, .unset, .unset, .unset, .unset, .unset, .unset, .unset, .unset, .unset, .unset, .unset, .unset, .unset, .unset, .unset] [(.ref b34), (.ref b34)]))
  refine own_go (fun _ k => XS.bipush X58.here hx rfl (hb hby at_107) k) ?_
  show own_Ends _ _ _ _ _ _ _ (T58.setTop (mkF m 109 #[.val (.int p0), .val (.int p1), .val (.int p2), .val (.long q3), .second, .val (.long q4), .second, .val (.int p5), .val (.ref b1), .unset, .unset, .unset, .unset, .unset, .unset, .unset, .unset, .unset, .unset, .unset, .unset, .unset, .unset, .unset, .unset, .unset, .unset, .unset, .unset, .unset, .unset, .unset, .unset, .unset, .unset, .unset, .unset, .unset, .unset] [(.int (6 : Int32)), (.ref b34), (.ref b34)]))
  refine own_go (fun _ k => X58.ldc2Long hx hown (mvT hZ (hw _ (List.mem_of_getElem? (i := 15) rfl))) (g := (mkF m 109 #[.val (.int p0), .val (.int p1), .val (.int p2), .val (.long q3), .second, .val (.long q4), .second, .val (.int p5), .val (.ref b1), .unset, .unset, .unset, .unset, .unset, .unset, .unset, .unset, .unset, .unset, .unset, .unset, .unset, .unset, .unset, .unset, .unset, .unset, .unset, .unset, .unset, .unset, .unset, .unset, .unset, .unset, .unset, .unset, .unset, .unset] [(.int (6 : Int32)), (.ref b34), (.ref b34)])) rfl (hb hby at_109) _ k) ?_
  show own_Ends _ _ _ _ _ _ _ (T58.setTop (mkF m 112 #[.val (.int p0), .val (.int p1), .val (.int p2), .val (.long q3), .second, .val (.long q4), .second, .val (.int p5), .val (.ref b1), .unset, .unset, .unset, .unset, .unset, .unset, .unset, .unset, .unset, .unset, .unset, .unset, .unset, .unset, .unset, .unset, .unset, .unset, .unset, .unset, .unset, .unset, .unset, .unset, .unset, .unset, .unset, .unset, .unset, .unset] [(.long (15625 : Int64)), (.int (6 : Int32)), (.ref b34), (.ref b34)]))
  obtain ⟨c62, A62, i62, -⟩ := own_Ar.at F61 (6 : Int32) (by decide) (by decide)
  obtain ⟨T62, h62, X62, e62, W62, st62⟩ := stJ X58 hx hZ e58 A62 (j := (6 : Int32)) i62 (g := (mkF m 112 #[.val (.int p0), .val (.int p1), .val (.int p2), .val (.long q3), .second, .val (.long q4), .second, .val (.int p5), .val (.ref b1), .unset, .unset, .unset, .unset, .unset, .unset, .unset, .unset, .unset, .unset, .unset, .unset, .unset, .unset, .unset, .unset, .unset, .unset, .unset, .unset, .unset, .unset, .unset, .unset, .unset, .unset, .unset, .unset, .unset, .unset] [(.long (15625 : Int64)), (.int (6 : Int32)), (.ref b34), (.ref b34)])) rfl rfl (hb hby at_112)
  refine own_go (fun _ k => st62 _ k) ?_
  have N62 := Fr.snoc X62 N58 g_b34
  have F63 : Old Z n0 h62 := (F59.wr W62 g_b34)
  have F64 : own_Ar Z h62 b1 .long 10 (fun i => .long ((fun i => if i = ((9 : Int32)).toNatClampNeg then (512 : Int64) else (fun i => if i = ((8 : Int32)).toNatClampNeg then (256 : Int64) else (fun i => if i = ((7 : Int32)).toNatClampNeg then (128 : Int64) else (fun i => if i = ((6 : Int32)).toNatClampNeg then (64 : Int64) else (fun i => if i = ((5 : Int32)).toNatClampNeg then (32 : Int64) else (fun i => if i = ((4 : Int32)).toNatClampNeg then (16 : Int64) else (fun i => if i = ((3 : Int32)).toNatClampNeg then (8 : Int64) else (fun i => if i = ((2 : Int32)).toNatClampNeg then (4 : Int64) else (fun i => if i = ((1 : Int32)).toNatClampNeg then (2 : Int64) else (fun i => if i = ((0 : Int32)).toNatClampNeg then (1 : Int64) else (fun _ => (0 : Int64)) i) i) i) i) i) i) i) i) i) i) i)) := (F60.other W62 ne_b1_b34)
  have F65 : own_Ar Z h62 b34 .long 10 (fun i => .long ((fun i => if i = ((6 : Int32)).toNatClampNeg then (15625 : Int64) else (fun i => if i = ((5 : Int32)).toNatClampNeg then (3125 : Int64) else (fun i => if i = ((4 : Int32)).toNatClampNeg then (625 : Int64) else (fun i => if i = ((3 : Int32)).toNatClampNeg then (125 : Int64) else (fun i => if i = ((2 : Int32)).toNatClampNeg then (25 : Int64) else (fun i => if i = ((1 : Int32)).toNatClampNeg then (5 : Int64) else (fun i => if i = ((0 : Int32)).toNatClampNeg then (1 : Int64) else (fun _ => (0 : Int64)) i) i) i) i) i) i) i) i)) := own_Ar.setJ F61 W62
  show own_Ends _ _ _ _ _ _ _ (T62.setTop (mkF m 113 #[.val (.int p0), .val (.int p1), .val (.int p2), .val (.long q3), .second, .val (.long q4), .second, .val (.int p5), .val (.ref b1), .unset, .unset, .unset, .unset, .unset, .unset, .unset, .unset, .unset, .unset, .unset, .unset, .unset, .unset, .unset, .unset, .unset, .unset, .unset, .unset, .unset, .unset, .unset, .unset, .unset, .unset, .unset, .unset, .unset, .unset] [(.ref b34)]))
  refine own_go (fun _ k => XS.dup X62.here hx rfl (hb hby at_113) rfl rfl k) ?_
  show own_Ends _ _ _ _ _ _ _ (T62.setTop (mkF m 114 #[.val (.int p0), .val (.int p1), .val (.int p2), .val (.long q3), .second, .val (.long q4), .second, .val (.int p5), .val (.ref b1), .unset, .unset, .unset, .unset, .unset, .unset, .unset, .unset, .unset, .unset, .unset, .unset, .unset, .unset, .unset, .unset, .unset, .unset, .unset, .unset, .unset, .unset, .unset, .unset, .unset, .unset, .unset, .unset, .unset, .unset] [(.ref b34), (.ref b34)]))
  refine own_go (fun _ k => XS.bipush X62.here hx rfl (hb hby at_114) k) ?_
  show own_Ends _ _ _ _ _ _ _ (T62.setTop (mkF m 116 #[.val (.int p0), .val (.int p1), .val (.int p2), .val (.long q3), .second, .val (.long q4), .second, .val (.int p5), .val (.ref b1), .unset, .unset, .unset, .unset, .unset, .unset, .unset, .unset, .unset, .unset, .unset, .unset, .unset, .unset, .unset, .unset, .unset, .unset, .unset, .unset, .unset, .unset, .unset, .unset, .unset, .unset, .unset, .unset, .unset, .unset] [(.int (7 : Int32)), (.ref b34), (.ref b34)]))
  refine own_go (fun _ k => X62.ldc2Long hx hown (mvT hZ (hw _ (List.mem_of_getElem? (i := 16) rfl))) (g := (mkF m 116 #[.val (.int p0), .val (.int p1), .val (.int p2), .val (.long q3), .second, .val (.long q4), .second, .val (.int p5), .val (.ref b1), .unset, .unset, .unset, .unset, .unset, .unset, .unset, .unset, .unset, .unset, .unset, .unset, .unset, .unset, .unset, .unset, .unset, .unset, .unset, .unset, .unset, .unset, .unset, .unset, .unset, .unset, .unset, .unset, .unset, .unset] [(.int (7 : Int32)), (.ref b34), (.ref b34)])) rfl (hb hby at_116) _ k) ?_
  show own_Ends _ _ _ _ _ _ _ (T62.setTop (mkF m 119 #[.val (.int p0), .val (.int p1), .val (.int p2), .val (.long q3), .second, .val (.long q4), .second, .val (.int p5), .val (.ref b1), .unset, .unset, .unset, .unset, .unset, .unset, .unset, .unset, .unset, .unset, .unset, .unset, .unset, .unset, .unset, .unset, .unset, .unset, .unset, .unset, .unset, .unset, .unset, .unset, .unset, .unset, .unset, .unset, .unset, .unset] [(.long (78125 : Int64)), (.int (7 : Int32)), (.ref b34), (.ref b34)]))
  obtain ⟨c66, A66, i66, -⟩ := own_Ar.at F65 (7 : Int32) (by decide) (by decide)
  obtain ⟨T66, h66, X66, e66, W66, st66⟩ := stJ X62 hx hZ e62 A66 (j := (7 : Int32)) i66 (g := (mkF m 119 #[.val (.int p0), .val (.int p1), .val (.int p2), .val (.long q3), .second, .val (.long q4), .second, .val (.int p5), .val (.ref b1), .unset, .unset, .unset, .unset, .unset, .unset, .unset, .unset, .unset, .unset, .unset, .unset, .unset, .unset, .unset, .unset, .unset, .unset, .unset, .unset, .unset, .unset, .unset, .unset, .unset, .unset, .unset, .unset, .unset, .unset] [(.long (78125 : Int64)), (.int (7 : Int32)), (.ref b34), (.ref b34)])) rfl rfl (hb hby at_119)
  refine own_go (fun _ k => st66 _ k) ?_
  have N66 := Fr.snoc X66 N62 g_b34
  have F67 : Old Z n0 h66 := (F63.wr W66 g_b34)
  have F68 : own_Ar Z h66 b1 .long 10 (fun i => .long ((fun i => if i = ((9 : Int32)).toNatClampNeg then (512 : Int64) else (fun i => if i = ((8 : Int32)).toNatClampNeg then (256 : Int64) else (fun i => if i = ((7 : Int32)).toNatClampNeg then (128 : Int64) else (fun i => if i = ((6 : Int32)).toNatClampNeg then (64 : Int64) else (fun i => if i = ((5 : Int32)).toNatClampNeg then (32 : Int64) else (fun i => if i = ((4 : Int32)).toNatClampNeg then (16 : Int64) else (fun i => if i = ((3 : Int32)).toNatClampNeg then (8 : Int64) else (fun i => if i = ((2 : Int32)).toNatClampNeg then (4 : Int64) else (fun i => if i = ((1 : Int32)).toNatClampNeg then (2 : Int64) else (fun i => if i = ((0 : Int32)).toNatClampNeg then (1 : Int64) else (fun _ => (0 : Int64)) i) i) i) i) i) i) i) i) i) i) i)) := (F64.other W66 ne_b1_b34)
  have F69 : own_Ar Z h66 b34 .long 10 (fun i => .long ((fun i => if i = ((7 : Int32)).toNatClampNeg then (78125 : Int64) else (fun i => if i = ((6 : Int32)).toNatClampNeg then (15625 : Int64) else (fun i => if i = ((5 : Int32)).toNatClampNeg then (3125 : Int64) else (fun i => if i = ((4 : Int32)).toNatClampNeg then (625 : Int64) else (fun i => if i = ((3 : Int32)).toNatClampNeg then (125 : Int64) else (fun i => if i = ((2 : Int32)).toNatClampNeg then (25 : Int64) else (fun i => if i = ((1 : Int32)).toNatClampNeg then (5 : Int64) else (fun i => if i = ((0 : Int32)).toNatClampNeg then (1 : Int64) else (fun _ => (0 : Int64)) i) i) i) i) i) i) i) i) i)) := own_Ar.setJ F65 W66
  show own_Ends _ _ _ _ _ _ _ (T66.setTop (mkF m 120 #[.val (.int p0), .val (.int p1), .val (.int p2), .val (.long q3), .second, .val (.long q4), .second, .val (.int p5), .val (.ref b1), .unset, .unset, .unset, .unset, .unset, .unset, .unset, .unset, .unset, .unset, .unset, .unset, .unset, .unset, .unset, .unset, .unset, .unset, .unset, .unset, .unset, .unset, .unset, .unset, .unset, .unset, .unset, .unset, .unset, .unset] [(.ref b34)]))
  refine own_go (fun _ k => XS.dup X66.here hx rfl (hb hby at_120) rfl rfl k) ?_
  show own_Ends _ _ _ _ _ _ _ (T66.setTop (mkF m 121 #[.val (.int p0), .val (.int p1), .val (.int p2), .val (.long q3), .second, .val (.long q4), .second, .val (.int p5), .val (.ref b1), .unset, .unset, .unset, .unset, .unset, .unset, .unset, .unset, .unset, .unset, .unset, .unset, .unset, .unset, .unset, .unset, .unset, .unset, .unset, .unset, .unset, .unset, .unset, .unset, .unset, .unset, .unset, .unset, .unset, .unset] [(.ref b34), (.ref b34)]))
  refine own_go (fun _ k => XS.bipush X66.here hx rfl (hb hby at_121) k) ?_
  show own_Ends _ _ _ _ _ _ _ (T66.setTop (mkF m 123 #[.val (.int p0), .val (.int p1), .val (.int p2), .val (.long q3), .second, .val (.long q4), .second, .val (.int p5), .val (.ref b1), .unset, .unset, .unset, .unset, .unset, .unset, .unset, .unset, .unset, .unset, .unset, .unset, .unset, .unset, .unset, .unset, .unset, .unset, .unset, .unset, .unset, .unset, .unset, .unset, .unset, .unset, .unset, .unset, .unset, .unset] [(.int (8 : Int32)), (.ref b34), (.ref b34)]))
  refine own_go (fun _ k => X66.ldc2Long hx hown (mvT hZ (hw _ (List.mem_of_getElem? (i := 17) rfl))) (g := (mkF m 123 #[.val (.int p0), .val (.int p1), .val (.int p2), .val (.long q3), .second, .val (.long q4), .second, .val (.int p5), .val (.ref b1), .unset, .unset, .unset, .unset, .unset, .unset, .unset, .unset, .unset, .unset, .unset, .unset, .unset, .unset, .unset, .unset, .unset, .unset, .unset, .unset, .unset, .unset, .unset, .unset, .unset, .unset, .unset, .unset, .unset, .unset] [(.int (8 : Int32)), (.ref b34), (.ref b34)])) rfl (hb hby at_123) _ k) ?_
  show own_Ends _ _ _ _ _ _ _ (T66.setTop (mkF m 126 #[.val (.int p0), .val (.int p1), .val (.int p2), .val (.long q3), .second, .val (.long q4), .second, .val (.int p5), .val (.ref b1), .unset, .unset, .unset, .unset, .unset, .unset, .unset, .unset, .unset, .unset, .unset, .unset, .unset, .unset, .unset, .unset, .unset, .unset, .unset, .unset, .unset, .unset, .unset, .unset, .unset, .unset, .unset, .unset, .unset, .unset] [(.long (390625 : Int64)), (.int (8 : Int32)), (.ref b34), (.ref b34)]))
  obtain ⟨c70, A70, i70, -⟩ := own_Ar.at F69 (8 : Int32) (by decide) (by decide)
  obtain ⟨T70, h70, X70, e70, W70, st70⟩ := stJ X66 hx hZ e66 A70 (j := (8 : Int32)) i70 (g := (mkF m 126 #[.val (.int p0), .val (.int p1), .val (.int p2), .val (.long q3), .second, .val (.long q4), .second, .val (.int p5), .val (.ref b1), .unset, .unset, .unset, .unset, .unset, .unset, .unset, .unset, .unset, .unset, .unset, .unset, .unset, .unset, .unset, .unset, .unset, .unset, .unset, .unset, .unset, .unset, .unset, .unset, .unset, .unset, .unset, .unset, .unset, .unset] [(.long (390625 : Int64)), (.int (8 : Int32)), (.ref b34), (.ref b34)])) rfl rfl (hb hby at_126)
  refine own_go (fun _ k => st70 _ k) ?_
  have N70 := Fr.snoc X70 N66 g_b34
  have F71 : Old Z n0 h70 := (F67.wr W70 g_b34)
  have F72 : own_Ar Z h70 b1 .long 10 (fun i => .long ((fun i => if i = ((9 : Int32)).toNatClampNeg then (512 : Int64) else (fun i => if i = ((8 : Int32)).toNatClampNeg then (256 : Int64) else (fun i => if i = ((7 : Int32)).toNatClampNeg then (128 : Int64) else (fun i => if i = ((6 : Int32)).toNatClampNeg then (64 : Int64) else (fun i => if i = ((5 : Int32)).toNatClampNeg then (32 : Int64) else (fun i => if i = ((4 : Int32)).toNatClampNeg then (16 : Int64) else (fun i => if i = ((3 : Int32)).toNatClampNeg then (8 : Int64) else (fun i => if i = ((2 : Int32)).toNatClampNeg then (4 : Int64) else (fun i => if i = ((1 : Int32)).toNatClampNeg then (2 : Int64) else (fun i => if i = ((0 : Int32)).toNatClampNeg then (1 : Int64) else (fun _ => (0 : Int64)) i) i) i) i) i) i) i) i) i) i) i)) := (F68.other W70 ne_b1_b34)
  have F73 : own_Ar Z h70 b34 .long 10 (fun i => .long ((fun i => if i = ((8 : Int32)).toNatClampNeg then (390625 : Int64) else (fun i => if i = ((7 : Int32)).toNatClampNeg then (78125 : Int64) else (fun i => if i = ((6 : Int32)).toNatClampNeg then (15625 : Int64) else (fun i => if i = ((5 : Int32)).toNatClampNeg then (3125 : Int64) else (fun i => if i = ((4 : Int32)).toNatClampNeg then (625 : Int64) else (fun i => if i = ((3 : Int32)).toNatClampNeg then (125 : Int64) else (fun i => if i = ((2 : Int32)).toNatClampNeg then (25 : Int64) else (fun i => if i = ((1 : Int32)).toNatClampNeg then (5 : Int64) else (fun i => if i = ((0 : Int32)).toNatClampNeg then (1 : Int64) else (fun _ => (0 : Int64)) i) i) i) i) i) i) i) i) i) i)) := own_Ar.setJ F69 W70
  show own_Ends _ _ _ _ _ _ _ (T70.setTop (mkF m 127 #[.val (.int p0), .val (.int p1), .val (.int p2), .val (.long q3), .second, .val (.long q4), .second, .val (.int p5), .val (.ref b1), .unset, .unset, .unset, .unset, .unset, .unset, .unset, .unset, .unset, .unset, .unset, .unset, .unset, .unset, .unset, .unset, .unset, .unset, .unset, .unset, .unset, .unset, .unset, .unset, .unset, .unset, .unset, .unset, .unset, .unset] [(.ref b34)]))
  refine own_go (fun _ k => XS.dup X70.here hx rfl (hb hby at_127) rfl rfl k) ?_
  show own_Ends _ _ _ _ _ _ _ (T70.setTop (mkF m 128 #[.val (.int p0), .val (.int p1), .val (.int p2), .val (.long q3), .second, .val (.long q4), .second, .val (.int p5), .val (.ref b1), .unset, .unset, .unset, .unset, .unset, .unset, .unset, .unset, .unset, .unset, .unset, .unset, .unset, .unset, .unset, .unset, .unset, .unset, .unset, .unset, .unset, .unset, .unset, .unset, .unset, .unset, .unset, .unset, .unset, .unset] [(.ref b34), (.ref b34)]))
  refine own_go (fun _ k => XS.bipush X70.here hx rfl (hb hby at_128) k) ?_
  show own_Ends _ _ _ _ _ _ _ (T70.setTop (mkF m 130 #[.val (.int p0), .val (.int p1), .val (.int p2), .val (.long q3), .second, .val (.long q4), .second, .val (.int p5), .val (.ref b1), .unset, .unset, .unset, .unset, .unset, .unset, .unset, .unset, .unset, .unset, .unset, .unset, .unset, .unset, .unset, .unset, .unset, .unset, .unset, .unset, .unset, .unset, .unset, .unset, .unset, .unset, .unset, .unset, .unset, .unset] [(.int (9 : Int32)), (.ref b34), (.ref b34)]))
  refine own_go (fun _ k => X70.ldc2Long hx hown (mvT hZ (hw _ (List.mem_of_getElem? (i := 18) rfl))) (g := (mkF m 130 #[.val (.int p0), .val (.int p1), .val (.int p2), .val (.long q3), .second, .val (.long q4), .second, .val (.int p5), .val (.ref b1), .unset, .unset, .unset, .unset, .unset, .unset, .unset, .unset, .unset, .unset, .unset, .unset, .unset, .unset, .unset, .unset, .unset, .unset, .unset, .unset, .unset, .unset, .unset, .unset, .unset, .unset, .unset, .unset, .unset, .unset] [(.int (9 : Int32)), (.ref b34), (.ref b34)])) rfl (hb hby at_130) _ k) ?_
  show own_Ends _ _ _ _ _ _ _ (T70.setTop (mkF m 133 #[.val (.int p0), .val (.int p1), .val (.int p2), .val (.long q3), .second, .val (.long q4), .second, .val (.int p5), .val (.ref b1), .unset, .unset, .unset, .unset, .unset, .unset, .unset, .unset, .unset, .unset, .unset, .unset, .unset, .unset, .unset, .unset, .unset, .unset, .unset, .unset, .unset, .unset, .unset, .unset, .unset, .unset, .unset, .unset, .unset, .unset] [(.long (1953125 : Int64)), (.int (9 : Int32)), (.ref b34), (.ref b34)]))
  obtain ⟨c74, A74, i74, -⟩ := own_Ar.at F73 (9 : Int32) (by decide) (by decide)
  obtain ⟨T74, h74, X74, e74, W74, st74⟩ := stJ X70 hx hZ e70 A74 (j := (9 : Int32)) i74 (g := (mkF m 133 #[.val (.int p0), .val (.int p1), .val (.int p2), .val (.long q3), .second, .val (.long q4), .second, .val (.int p5), .val (.ref b1), .unset, .unset, .unset, .unset, .unset, .unset, .unset, .unset, .unset, .unset, .unset, .unset, .unset, .unset, .unset, .unset, .unset, .unset, .unset, .unset, .unset, .unset, .unset, .unset, .unset, .unset, .unset, .unset, .unset, .unset] [(.long (1953125 : Int64)), (.int (9 : Int32)), (.ref b34), (.ref b34)])) rfl rfl (hb hby at_133)
  refine own_go (fun _ k => st74 _ k) ?_
  have N74 := Fr.snoc X74 N70 g_b34
  have F75 : Old Z n0 h74 := (F71.wr W74 g_b34)
  have F76 : own_Ar Z h74 b1 .long 10 (fun i => .long ((fun i => if i = ((9 : Int32)).toNatClampNeg then (512 : Int64) else (fun i => if i = ((8 : Int32)).toNatClampNeg then (256 : Int64) else (fun i => if i = ((7 : Int32)).toNatClampNeg then (128 : Int64) else (fun i => if i = ((6 : Int32)).toNatClampNeg then (64 : Int64) else (fun i => if i = ((5 : Int32)).toNatClampNeg then (32 : Int64) else (fun i => if i = ((4 : Int32)).toNatClampNeg then (16 : Int64) else (fun i => if i = ((3 : Int32)).toNatClampNeg then (8 : Int64) else (fun i => if i = ((2 : Int32)).toNatClampNeg then (4 : Int64) else (fun i => if i = ((1 : Int32)).toNatClampNeg then (2 : Int64) else (fun i => if i = ((0 : Int32)).toNatClampNeg then (1 : Int64) else (fun _ => (0 : Int64)) i) i) i) i) i) i) i) i) i) i) i)) := (F72.other W74 ne_b1_b34)
  have F77 : own_Ar Z h74 b34 .long 10 (fun i => .long ((fun i => if i = ((9 : Int32)).toNatClampNeg then (1953125 : Int64) else (fun i => if i = ((8 : Int32)).toNatClampNeg then (390625 : Int64) else (fun i => if i = ((7 : Int32)).toNatClampNeg then (78125 : Int64) else (fun i => if i = ((6 : Int32)).toNatClampNeg then (15625 : Int64) else (fun i => if i = ((5 : Int32)).toNatClampNeg then (3125 : Int64) else (fun i => if i = ((4 : Int32)).toNatClampNeg then (625 : Int64) else (fun i => if i = ((3 : Int32)).toNatClampNeg then (125 : Int64) else (fun i => if i = ((2 : Int32)).toNatClampNeg then (25 : Int64) else (fun i => if i = ((1 : Int32)).toNatClampNeg then (5 : Int64) else (fun i => if i = ((0 : Int32)).toNatClampNeg then (1 : Int64) else (fun _ => (0 : Int64)) i) i) i) i) i) i) i) i) i) i) i)) := own_Ar.setJ F73 W74
  show own_Ends _ _ _ _ _ _ _ (T74.setTop (mkF m 134 #[.val (.int p0), .val (.int p1), .val (.int p2), .val (.long q3), .second, .val (.long q4), .second, .val (.int p5), .val (.ref b1), .unset, .unset, .unset, .unset, .unset, .unset, .unset, .unset, .unset, .unset, .unset, .unset, .unset, .unset, .unset, .unset, .unset, .unset, .unset, .unset, .unset, .unset, .unset, .unset, .unset, .unset, .unset, .unset, .unset, .unset] [(.ref b34)]))
  refine own_go (fun _ k => XS.astore X74.here hx rfl (hb hby at_134) rfl rfl (l' := #[.val (.int p0), .val (.int p1), .val (.int p2), .val (.long q3), .second, .val (.long q4), .second, .val (.int p5), .val (.ref b1), .val (.ref b34), .unset, .unset, .unset, .unset, .unset, .unset, .unset, .unset, .unset, .unset, .unset, .unset, .unset, .unset, .unset, .unset, .unset, .unset, .unset, .unset, .unset, .unset, .unset, .unset, .unset, .unset, .unset, .unset, .unset]) rfl k) ?_
  show own_Ends _ _ _ _ _ _ _ (T74.setTop (mkF m 136 #[.val (.int p0), .val (.int p1), .val (.int p2), .val (.long q3), .second, .val (.long q4), .second, .val (.int p5), .val (.ref b1), .val (.ref b34), .unset, .unset, .unset, .unset, .unset, .unset, .unset, .unset, .unset, .unset, .unset, .unset, .unset, .unset, .unset, .unset, .unset, .unset, .unset, .unset, .unset, .unset, .unset, .unset, .unset, .unset, .unset, .unset, .unset] []))
  refine own_go (fun _ k => XS.iload X74.here hx rfl (hb hby at_136) rfl k) ?_
  show own_Ends _ _ _ _ _ _ _ (T74.setTop (mkF m 138 #[.val (.int p0), .val (.int p1), .val (.int p2), .val (.long q3), .second, .val (.long q4), .second, .val (.int p5), .val (.ref b1), .val (.ref b34), .unset, .unset, .unset, .unset, .unset, .unset, .unset, .unset, .unset, .unset, .unset, .unset, .unset, .unset, .unset, .unset, .unset, .unset, .unset, .unset, .unset, .unset, .unset, .unset, .unset, .unset, .unset, .unset, .unset] [(.int p5)]))
  refine own_go (fun _ k => XS.bipush X74.here hx rfl (hb hby at_138) k) ?_
  show own_Ends _ _ _ _ _ _ _ (T74.setTop (mkF m 140 #[.val (.int p0), .val (.int p1), .val (.int p2), .val (.long q3), .second, .val (.long q4), .second, .val (.int p5), .val (.ref b1), .val (.ref b34), .unset, .unset, .unset, .unset, .unset, .unset, .unset, .unset, .unset, .unset, .unset, .unset, .unset, .unset, .unset, .unset, .unset, .unset, .unset, .unset, .unset, .unset, .unset, .unset, .unset, .unset, .unset, .unset, .unset] [(.int (15 : Int32)), (.int p5)]))
  refine own_go (fun _ k => XS.iand X74.here hx rfl (hb hby at_140) rfl k) ?_
  show own_Ends _ _ _ _ _ _ _ (T74.setTop (mkF m 141 #[.val (.int p0), .val (.int p1), .val (.int p2), .val (.long q3), .second, .val (.long q4), .second, .val (.int p5), .val (.ref b1), .val (.ref b34), .unset, .unset, .unset, .unset, .unset, .unset, .unset, .unset, .unset, .unset, .unset, .unset, .unset, .unset, .unset, .unset, .unset, .unset, .unset, .unset, .unset, .unset, .unset, .unset, .unset, .unset, .unset, .unset, .unset] [(.int (p5 &&& (15 : Int32)))]))
  refine own_go (fun _ k => XS.bipush X74.here hx rfl (hb hby at_141) k) ?_
  show own_Ends _ _ _ _ _ _ _ (T74.setTop (mkF m 143 #[.val (.int p0), .val (.int p1), .val (.int p2), .val (.long q3), .second, .val (.long q4), .second, .val (.int p5), .val (.ref b1), .val (.ref b34), .unset, .unset, .unset, .unset, .unset, .unset, .unset, .unset, .unset, .unset, .unset, .unset, .unset, .unset, .unset, .unset, .unset, .unset, .unset, .unset, .unset, .unset, .unset, .unset, .unset, .unset, .unset, .unset, .unset] [(.int (10 : Int32)), (.int (p5 &&& (15 : Int32)))]))
  refine own_go (fun _ k => iremM X74 hx rfl (hb hby at_143) rfl (by decide) k) ?_
  show own_Ends _ _ _ _ _ _ _ (T74.setTop (mkF m 144 #[.val (.int p0), .val (.int p1), .val (.int p2), .val (.long q3), .second, .val (.long q4), .second, .val (.int p5), .val (.ref b1), .val (.ref b34), .unset, .unset, .unset, .unset, .unset, .unset, .unset, .unset, .unset, .unset, .unset, .unset, .unset, .unset, .unset, .unset, .unset, .unset, .unset, .unset, .unset, .unset, .unset, .unset, .unset, .unset, .unset, .unset, .unset] [(.int ((p5 &&& (15 : Int32)) % (10 : Int32)))]))
  refine own_go (fun _ k => XS.istore X74.here hx rfl (hb hby at_144) rfl (l' := #[.val (.int p0), .val (.int p1), .val (.int p2), .val (.long q3), .second, .val (.long q4), .second, .val (.int p5), .val (.ref b1), .val (.ref b34), .val (.int ((p5 &&& (15 : Int32)) % (10 : Int32))), .unset, .unset, .unset, .unset, .unset, .unset, .unset, .unset, .unset, .unset, .unset, .unset, .unset, .unset, .unset, .unset, .unset, .unset, .unset, .unset, .unset, .unset, .unset, .unset, .unset, .unset, .unset, .unset]) rfl k) ?_
  suffices hjzi : ∀ zi : Int32, zi = ((p5 &&& (15 : Int32)) % (10 : Int32)) → own_Ends p e below s (Q0 Z p0 p1 p2 q3 q4 p5 h0 n0) 32 192 (T74.setTop (mkF m 146 #[.val (.int p0), .val (.int p1), .val (.int p2), .val (.long q3), .second, .val (.long q4), .second, .val (.int p5), .val (.ref b1), .val (.ref b34), .val (.int zi), .unset, .unset, .unset, .unset, .unset, .unset, .unset, .unset, .unset, .unset, .unset, .unset, .unset, .unset, .unset, .unset, .unset, .unset, .unset, .unset, .unset, .unset, .unset, .unset, .unset, .unset, .unset, .unset] [])) by exact hjzi _ rfl
  intro zi hzi
  show own_Ends _ _ _ _ _ _ _ (T74.setTop (mkF m 146 #[.val (.int p0), .val (.int p1), .val (.int p2), .val (.long q3), .second, .val (.long q4), .second, .val (.int p5), .val (.ref b1), .val (.ref b34), .val (.int zi), .unset, .unset, .unset, .unset, .unset, .unset, .unset, .unset, .unset, .unset, .unset, .unset, .unset, .unset, .unset, .unset, .unset, .unset, .unset, .unset, .unset, .unset, .unset, .unset, .unset, .unset, .unset, .unset] []))
  refine own_go (fun _ k => XS.iload X74.here hx rfl (hb hby at_146) rfl k) ?_
  show own_Ends _ _ _ _ _ _ _ (T74.setTop (mkF m 148 #[.val (.int p0), .val (.int p1), .val (.int p2), .val (.long q3), .second, .val (.long q4), .second, .val (.int p5), .val (.ref b1), .val (.ref b34), .val (.int zi), .unset, .unset, .unset, .unset, .unset, .unset, .unset, .unset, .unset, .unset, .unset, .unset, .unset, .unset, .unset, .unset, .unset, .unset, .unset, .unset, .unset, .unset, .unset, .unset, .unset, .unset, .unset, .unset] [(.int p5)]))
  refine own_go (fun _ k => XS.iconst X74.here hx rfl (hb hby at_148) k) ?_
  show own_Ends _ _ _ _ _ _ _ (T74.setTop (mkF m 149 #[.val (.int p0), .val (.int p1), .val (.int p2), .val (.long q3), .second, .val (.long q4), .second, .val (.int p5), .val (.ref b1), .val (.ref b34), .val (.int zi), .unset, .unset, .unset, .unset, .unset, .unset, .unset, .unset, .unset, .unset, .unset, .unset, .unset, .unset, .unset, .unset, .unset, .unset, .unset, .unset, .unset, .unset, .unset, .unset, .unset, .unset, .unset, .unset] [(.int (4 : Int32)), (.int p5)]))
  refine own_go (fun _ k => XS.iushr X74.here hx rfl (hb hby at_149) rfl k) ?_
  show own_Ends _ _ _ _ _ _ _ (T74.setTop (mkF m 150 #[.val (.int p0), .val (.int p1), .val (.int p2), .val (.long q3), .second, .val (.long q4), .second, .val (.int p5), .val (.ref b1), .val (.ref b34), .val (.int zi), .unset, .unset, .unset, .unset, .unset, .unset, .unset, .unset, .unset, .unset, .unset, .unset, .unset, .unset, .unset, .unset, .unset, .unset, .unset, .unset, .unset, .unset, .unset, .unset, .unset, .unset, .unset, .unset] [(.int ((p5.toUInt32 >>> ((4 : Int32) &&& 31).toUInt32).toInt32))]))
  refine own_go (fun _ k => XS.bipush X74.here hx rfl (hb hby at_150) k) ?_
  show own_Ends _ _ _ _ _ _ _ (T74.setTop (mkF m 152 #[.val (.int p0), .val (.int p1), .val (.int p2), .val (.long q3), .second, .val (.long q4), .second, .val (.int p5), .val (.ref b1), .val (.ref b34), .val (.int zi), .unset, .unset, .unset, .unset, .unset, .unset, .unset, .unset, .unset, .unset, .unset, .unset, .unset, .unset, .unset, .unset, .unset, .unset, .unset, .unset, .unset, .unset, .unset, .unset, .unset, .unset, .unset, .unset] [(.int (15 : Int32)), (.int ((p5.toUInt32 >>> ((4 : Int32) &&& 31).toUInt32).toInt32))]))
  refine own_go (fun _ k => XS.iand X74.here hx rfl (hb hby at_152) rfl k) ?_
  show own_Ends _ _ _ _ _ _ _ (T74.setTop (mkF m 153 #[.val (.int p0), .val (.int p1), .val (.int p2), .val (.long q3), .second, .val (.long q4), .second, .val (.int p5), .val (.ref b1), .val (.ref b34), .val (.int zi), .unset, .unset, .unset, .unset, .unset, .unset, .unset, .unset, .unset, .unset, .unset, .unset, .unset, .unset, .unset, .unset, .unset, .unset, .unset, .unset, .unset, .unset, .unset, .unset, .unset, .unset, .unset, .unset] [(.int (((p5.toUInt32 >>> ((4 : Int32) &&& 31).toUInt32).toInt32) &&& (15 : Int32)))]))
  refine own_go (fun _ k => XS.bipush X74.here hx rfl (hb hby at_153) k) ?_
  show own_Ends _ _ _ _ _ _ _ (T74.setTop (mkF m 155 #[.val (.int p0), .val (.int p1), .val (.int p2), .val (.long q3), .second, .val (.long q4), .second, .val (.int p5), .val (.ref b1), .val (.ref b34), .val (.int zi), .unset, .unset, .unset, .unset, .unset, .unset, .unset, .unset, .unset, .unset, .unset, .unset, .unset, .unset, .unset, .unset, .unset, .unset, .unset, .unset, .unset, .unset, .unset, .unset, .unset, .unset, .unset, .unset] [(.int (10 : Int32)), (.int (((p5.toUInt32 >>> ((4 : Int32) &&& 31).toUInt32).toInt32) &&& (15 : Int32)))]))
  refine own_go (fun _ k => iremM X74 hx rfl (hb hby at_155) rfl (by decide) k) ?_
  show own_Ends _ _ _ _ _ _ _ (T74.setTop (mkF m 156 #[.val (.int p0), .val (.int p1), .val (.int p2), .val (.long q3), .second, .val (.long q4), .second, .val (.int p5), .val (.ref b1), .val (.ref b34), .val (.int zi), .unset, .unset, .unset, .unset, .unset, .unset, .unset, .unset, .unset, .unset, .unset, .unset, .unset, .unset, .unset, .unset, .unset, .unset, .unset, .unset, .unset, .unset, .unset, .unset, .unset, .unset, .unset, .unset] [(.int ((((p5.toUInt32 >>> ((4 : Int32) &&& 31).toUInt32).toInt32) &&& (15 : Int32)) % (10 : Int32)))]))
  refine own_go (fun _ k => XS.istore X74.here hx rfl (hb hby at_156) rfl (l' := #[.val (.int p0), .val (.int p1), .val (.int p2), .val (.long q3), .second, .val (.long q4), .second, .val (.int p5), .val (.ref b1), .val (.ref b34), .val (.int zi), .val (.int ((((p5.toUInt32 >>> ((4 : Int32) &&& 31).toUInt32).toInt32) &&& (15 : Int32)) % (10 : Int32))), .unset, .unset, .unset, .unset, .unset, .unset, .unset, .unset, .unset, .unset, .unset, .unset, .unset, .unset, .unset, .unset, .unset, .unset, .unset, .unset, .unset, .unset, .unset, .unset, .unset, .unset, .unset]) rfl k) ?_
  suffices hjzj : ∀ zj : Int32, zj = ((((p5.toUInt32 >>> ((4 : Int32) &&& 31).toUInt32).toInt32) &&& (15 : Int32)) % (10 : Int32)) → own_Ends p e below s (Q0 Z p0 p1 p2 q3 q4 p5 h0 n0) 32 192 (T74.setTop (mkF m 158 #[.val (.int p0), .val (.int p1), .val (.int p2), .val (.long q3), .second, .val (.long q4), .second, .val (.int p5), .val (.ref b1), .val (.ref b34), .val (.int zi), .val (.int zj), .unset, .unset, .unset, .unset, .unset, .unset, .unset, .unset, .unset, .unset, .unset, .unset, .unset, .unset, .unset, .unset, .unset, .unset, .unset, .unset, .unset, .unset, .unset, .unset, .unset, .unset, .unset] [])) by exact hjzj _ rfl
  intro zj hzj
  show own_Ends _ _ _ _ _ _ _ (T74.setTop (mkF m 158 #[.val (.int p0), .val (.int p1), .val (.int p2), .val (.long q3), .second, .val (.long q4), .second, .val (.int p5), .val (.ref b1), .val (.ref b34), .val (.int zi), .val (.int zj), .unset, .unset, .unset, .unset, .unset, .unset, .unset, .unset, .unset, .unset, .unset, .unset, .unset, .unset, .unset, .unset, .unset, .unset, .unset, .unset, .unset, .unset, .unset, .unset, .unset, .unset, .unset] []))
  refine own_go (fun _ k => XS.aload X74.here hx rfl (hb hby at_158) rfl rfl k) ?_
  show own_Ends _ _ _ _ _ _ _ (T74.setTop (mkF m 160 #[.val (.int p0), .val (.int p1), .val (.int p2), .val (.long q3), .second, .val (.long q4), .second, .val (.int p5), .val (.ref b1), .val (.ref b34), .val (.int zi), .val (.int zj), .unset, .unset, .unset, .unset, .unset, .unset, .unset, .unset, .unset, .unset, .unset, .unset, .unset, .unset, .unset, .unset, .unset, .unset, .unset, .unset, .unset, .unset, .unset, .unset, .unset, .unset, .unset] [(.ref b1)]))
  refine own_go (fun _ k => XS.iload X74.here hx rfl (hb hby at_160) rfl k) ?_
  show own_Ends _ _ _ _ _ _ _ (T74.setTop (mkF m 162 #[.val (.int p0), .val (.int p1), .val (.int p2), .val (.long q3), .second, .val (.long q4), .second, .val (.int p5), .val (.ref b1), .val (.ref b34), .val (.int zi), .val (.int zj), .unset, .unset, .unset, .unset, .unset, .unset, .unset, .unset, .unset, .unset, .unset, .unset, .unset, .unset, .unset, .unset, .unset, .unset, .unset, .unset, .unset, .unset, .unset, .unset, .unset, .unset, .unset] [(.int zi), (.ref b1)]))
  obtain ⟨c78, A78, i78, v78⟩ := own_Ar.at F76 zi (own_ix hzi).1 (own_ix hzi).2
  refine own_go (fun _ k => X74.laload hx (by rw [e74]; exact A78.1) (State.isArrayOf_alike hZ.alike A78.2.1) A78.2.2 i78 v78 (g := (mkF m 162 #[.val (.int p0), .val (.int p1), .val (.int p2), .val (.long q3), .second, .val (.long q4), .second, .val (.int p5), .val (.ref b1), .val (.ref b34), .val (.int zi), .val (.int zj), .unset, .unset, .unset, .unset, .unset, .unset, .unset, .unset, .unset, .unset, .unset, .unset, .unset, .unset, .unset, .unset, .unset, .unset, .unset, .unset, .unset, .unset, .unset, .unset, .unset, .unset, .unset] [(.int zi), (.ref b1)])) rfl rfl (hb hby at_162) _ k) ?_
  show own_Ends _ _ _ _ _ _ _ (T74.setTop (mkF m 163 #[.val (.int p0), .val (.int p1), .val (.int p2), .val (.long q3), .second, .val (.long q4), .second, .val (.int p5), .val (.ref b1), .val (.ref b34), .val (.int zi), .val (.int zj), .unset, .unset, .unset, .unset, .unset, .unset, .unset, .unset, .unset, .unset, .unset, .unset, .unset, .unset, .unset, .unset, .unset, .unset, .unset, .unset, .unset, .unset, .unset, .unset, .unset, .unset, .unset] [(.long ((fun i => if i = ((9 : Int32)).toNatClampNeg then (512 : Int64) else (fun i => if i = ((8 : Int32)).toNatClampNeg then (256 : Int64) else (fun i => if i = ((7 : Int32)).toNatClampNeg then (128 : Int64) else (fun i => if i = ((6 : Int32)).toNatClampNeg then (64 : Int64) else (fun i => if i = ((5 : Int32)).toNatClampNeg then (32 : Int64) else (fun i => if i = ((4 : Int32)).toNatClampNeg then (16 : Int64) else (fun i => if i = ((3 : Int32)).toNatClampNeg then (8 : Int64) else (fun i => if i = ((2 : Int32)).toNatClampNeg then (4 : Int64) else (fun i => if i = ((1 : Int32)).toNatClampNeg then (2 : Int64) else (fun i => if i = ((0 : Int32)).toNatClampNeg then (1 : Int64) else (fun _ => (0 : Int64)) i) i) i) i) i) i) i) i) i) i) (zi).toNatClampNeg))]))
  refine own_go (fun _ k => XS.aload X74.here hx rfl (hb hby at_163) rfl rfl k) ?_
  show own_Ends _ _ _ _ _ _ _ (T74.setTop (mkF m 165 #[.val (.int p0), .val (.int p1), .val (.int p2), .val (.long q3), .second, .val (.long q4), .second, .val (.int p5), .val (.ref b1), .val (.ref b34), .val (.int zi), .val (.int zj), .unset, .unset, .unset, .unset, .unset, .unset, .unset, .unset, .unset, .unset, .unset, .unset, .unset, .unset, .unset, .unset, .unset, .unset, .unset, .unset, .unset, .unset, .unset, .unset, .unset, .unset, .unset] [(.ref b34), (.long ((fun i => if i = ((9 : Int32)).toNatClampNeg then (512 : Int64) else (fun i => if i = ((8 : Int32)).toNatClampNeg then (256 : Int64) else (fun i => if i = ((7 : Int32)).toNatClampNeg then (128 : Int64) else (fun i => if i = ((6 : Int32)).toNatClampNeg then (64 : Int64) else (fun i => if i = ((5 : Int32)).toNatClampNeg then (32 : Int64) else (fun i => if i = ((4 : Int32)).toNatClampNeg then (16 : Int64) else (fun i => if i = ((3 : Int32)).toNatClampNeg then (8 : Int64) else (fun i => if i = ((2 : Int32)).toNatClampNeg then (4 : Int64) else (fun i => if i = ((1 : Int32)).toNatClampNeg then (2 : Int64) else (fun i => if i = ((0 : Int32)).toNatClampNeg then (1 : Int64) else (fun _ => (0 : Int64)) i) i) i) i) i) i) i) i) i) i) (zi).toNatClampNeg))]))
  refine own_go (fun _ k => XS.iload X74.here hx rfl (hb hby at_165) rfl k) ?_
  show own_Ends _ _ _ _ _ _ _ (T74.setTop (mkF m 167 #[.val (.int p0), .val (.int p1), .val (.int p2), .val (.long q3), .second, .val (.long q4), .second, .val (.int p5), .val (.ref b1), .val (.ref b34), .val (.int zi), .val (.int zj), .unset, .unset, .unset, .unset, .unset, .unset, .unset, .unset, .unset, .unset, .unset, .unset, .unset, .unset, .unset, .unset, .unset, .unset, .unset, .unset, .unset, .unset, .unset, .unset, .unset, .unset, .unset] [(.int zj), (.ref b34), (.long ((fun i => if i = ((9 : Int32)).toNatClampNeg then (512 : Int64) else (fun i => if i = ((8 : Int32)).toNatClampNeg then (256 : Int64) else (fun i => if i = ((7 : Int32)).toNatClampNeg then (128 : Int64) else (fun i => if i = ((6 : Int32)).toNatClampNeg then (64 : Int64) else (fun i => if i = ((5 : Int32)).toNatClampNeg then (32 : Int64) else (fun i => if i = ((4 : Int32)).toNatClampNeg then (16 : Int64) else (fun i => if i = ((3 : Int32)).toNatClampNeg then (8 : Int64) else (fun i => if i = ((2 : Int32)).toNatClampNeg then (4 : Int64) else (fun i => if i = ((1 : Int32)).toNatClampNeg then (2 : Int64) else (fun i => if i = ((0 : Int32)).toNatClampNeg then (1 : Int64) else (fun _ => (0 : Int64)) i) i) i) i) i) i) i) i) i) i) (zi).toNatClampNeg))]))
  obtain ⟨c79, A79, i79, v79⟩ := own_Ar.at F77 zj (own_ix hzj).1 (own_ix hzj).2
  refine own_go (fun _ k => X74.laload hx (by rw [e74]; exact A79.1) (State.isArrayOf_alike hZ.alike A79.2.1) A79.2.2 i79 v79 (g := (mkF m 167 #[.val (.int p0), .val (.int p1), .val (.int p2), .val (.long q3), .second, .val (.long q4), .second, .val (.int p5), .val (.ref b1), .val (.ref b34), .val (.int zi), .val (.int zj), .unset, .unset, .unset, .unset, .unset, .unset, .unset, .unset, .unset, .unset, .unset, .unset, .unset, .unset, .unset, .unset, .unset, .unset, .unset, .unset, .unset, .unset, .unset, .unset, .unset, .unset, .unset] [(.int zj), (.ref b34), (.long ((fun i => if i = ((9 : Int32)).toNatClampNeg then (512 : Int64) else (fun i => if i = ((8 : Int32)).toNatClampNeg then (256 : Int64) else (fun i => if i = ((7 : Int32)).toNatClampNeg then (128 : Int64) else (fun i => if i = ((6 : Int32)).toNatClampNeg then (64 : Int64) else (fun i => if i = ((5 : Int32)).toNatClampNeg then (32 : Int64) else (fun i => if i = ((4 : Int32)).toNatClampNeg then (16 : Int64) else (fun i => if i = ((3 : Int32)).toNatClampNeg then (8 : Int64) else (fun i => if i = ((2 : Int32)).toNatClampNeg then (4 : Int64) else (fun i => if i = ((1 : Int32)).toNatClampNeg then (2 : Int64) else (fun i => if i = ((0 : Int32)).toNatClampNeg then (1 : Int64) else (fun _ => (0 : Int64)) i) i) i) i) i) i) i) i) i) i) (zi).toNatClampNeg))])) rfl rfl (hb hby at_167) _ k) ?_
  show own_Ends _ _ _ _ _ _ _ (T74.setTop (mkF m 168 #[.val (.int p0), .val (.int p1), .val (.int p2), .val (.long q3), .second, .val (.long q4), .second, .val (.int p5), .val (.ref b1), .val (.ref b34), .val (.int zi), .val (.int zj), .unset, .unset, .unset, .unset, .unset, .unset, .unset, .unset, .unset, .unset, .unset, .unset, .unset, .unset, .unset, .unset, .unset, .unset, .unset, .unset, .unset, .unset, .unset, .unset, .unset, .unset, .unset] [(.long ((fun i => if i = ((9 : Int32)).toNatClampNeg then (1953125 : Int64) else (fun i => if i = ((8 : Int32)).toNatClampNeg then (390625 : Int64) else (fun i => if i = ((7 : Int32)).toNatClampNeg then (78125 : Int64) else (fun i => if i = ((6 : Int32)).toNatClampNeg then (15625 : Int64) else (fun i => if i = ((5 : Int32)).toNatClampNeg then (3125 : Int64) else (fun i => if i = ((4 : Int32)).toNatClampNeg then (625 : Int64) else (fun i => if i = ((3 : Int32)).toNatClampNeg then (125 : Int64) else (fun i => if i = ((2 : Int32)).toNatClampNeg then (25 : Int64) else (fun i => if i = ((1 : Int32)).toNatClampNeg then (5 : Int64) else (fun i => if i = ((0 : Int32)).toNatClampNeg then (1 : Int64) else (fun _ => (0 : Int64)) i) i) i) i) i) i) i) i) i) i) (zj).toNatClampNeg)), (.long ((fun i => if i = ((9 : Int32)).toNatClampNeg then (512 : Int64) else (fun i => if i = ((8 : Int32)).toNatClampNeg then (256 : Int64) else (fun i => if i = ((7 : Int32)).toNatClampNeg then (128 : Int64) else (fun i => if i = ((6 : Int32)).toNatClampNeg then (64 : Int64) else (fun i => if i = ((5 : Int32)).toNatClampNeg then (32 : Int64) else (fun i => if i = ((4 : Int32)).toNatClampNeg then (16 : Int64) else (fun i => if i = ((3 : Int32)).toNatClampNeg then (8 : Int64) else (fun i => if i = ((2 : Int32)).toNatClampNeg then (4 : Int64) else (fun i => if i = ((1 : Int32)).toNatClampNeg then (2 : Int64) else (fun i => if i = ((0 : Int32)).toNatClampNeg then (1 : Int64) else (fun _ => (0 : Int64)) i) i) i) i) i) i) i) i) i) i) (zi).toNatClampNeg))]))
  refine own_go (fun _ k => XS.lmul X74.here hx rfl (hb hby at_168) rfl k) ?_
  show own_Ends _ _ _ _ _ _ _ (T74.setTop (mkF m 169 #[.val (.int p0), .val (.int p1), .val (.int p2), .val (.long q3), .second, .val (.long q4), .second, .val (.int p5), .val (.ref b1), .val (.ref b34), .val (.int zi), .val (.int zj), .unset, .unset, .unset, .unset, .unset, .unset, .unset, .unset, .unset, .unset, .unset, .unset, .unset, .unset, .unset, .unset, .unset, .unset, .unset, .unset, .unset, .unset, .unset, .unset, .unset, .unset, .unset] [(.long (((fun i => if i = ((9 : Int32)).toNatClampNeg then (512 : Int64) else (fun i => if i = ((8 : Int32)).toNatClampNeg then (256 : Int64) else (fun i => if i = ((7 : Int32)).toNatClampNeg then (128 : Int64) else (fun i => if i = ((6 : Int32)).toNatClampNeg then (64 : Int64) else (fun i => if i = ((5 : Int32)).toNatClampNeg then (32 : Int64) else (fun i => if i = ((4 : Int32)).toNatClampNeg then (16 : Int64) else (fun i => if i = ((3 : Int32)).toNatClampNeg then (8 : Int64) else (fun i => if i = ((2 : Int32)).toNatClampNeg then (4 : Int64) else (fun i => if i = ((1 : Int32)).toNatClampNeg then (2 : Int64) else (fun i => if i = ((0 : Int32)).toNatClampNeg then (1 : Int64) else (fun _ => (0 : Int64)) i) i) i) i) i) i) i) i) i) i) (zi).toNatClampNeg) * ((fun i => if i = ((9 : Int32)).toNatClampNeg then (1953125 : Int64) else (fun i => if i = ((8 : Int32)).toNatClampNeg then (390625 : Int64) else (fun i => if i = ((7 : Int32)).toNatClampNeg then (78125 : Int64) else (fun i => if i = ((6 : Int32)).toNatClampNeg then (15625 : Int64) else (fun i => if i = ((5 : Int32)).toNatClampNeg then (3125 : Int64) else (fun i => if i = ((4 : Int32)).toNatClampNeg then (625 : Int64) else (fun i => if i = ((3 : Int32)).toNatClampNeg then (125 : Int64) else (fun i => if i = ((2 : Int32)).toNatClampNeg then (25 : Int64) else (fun i => if i = ((1 : Int32)).toNatClampNeg then (5 : Int64) else (fun i => if i = ((0 : Int32)).toNatClampNeg then (1 : Int64) else (fun _ => (0 : Int64)) i) i) i) i) i) i) i) i) i) i) (zj).toNatClampNeg)))]))
  refine own_go (fun _ k => XS.lstore X74.here hx rfl (hb hby at_169) rfl (l' := #[.val (.int p0), .val (.int p1), .val (.int p2), .val (.long q3), .second, .val (.long q4), .second, .val (.int p5), .val (.ref b1), .val (.ref b34), .val (.int zi), .val (.int zj), .val (.long (((fun i => if i = ((9 : Int32)).toNatClampNeg then (512 : Int64) else (fun i => if i = ((8 : Int32)).toNatClampNeg then (256 : Int64) else (fun i => if i = ((7 : Int32)).toNatClampNeg then (128 : Int64) else (fun i => if i = ((6 : Int32)).toNatClampNeg then (64 : Int64) else (fun i => if i = ((5 : Int32)).toNatClampNeg then (32 : Int64) else (fun i => if i = ((4 : Int32)).toNatClampNeg then (16 : Int64) else (fun i => if i = ((3 : Int32)).toNatClampNeg then (8 : Int64) else (fun i => if i = ((2 : Int32)).toNatClampNeg then (4 : Int64) else (fun i => if i = ((1 : Int32)).toNatClampNeg then (2 : Int64) else (fun i => if i = ((0 : Int32)).toNatClampNeg then (1 : Int64) else (fun _ => (0 : Int64)) i) i) i) i) i) i) i) i) i) i) (zi).toNatClampNeg) * ((fun i => if i = ((9 : Int32)).toNatClampNeg then (1953125 : Int64) else (fun i => if i = ((8 : Int32)).toNatClampNeg then (390625 : Int64) else (fun i => if i = ((7 : Int32)).toNatClampNeg then (78125 : Int64) else (fun i => if i = ((6 : Int32)).toNatClampNeg then (15625 : Int64) else (fun i => if i = ((5 : Int32)).toNatClampNeg then (3125 : Int64) else (fun i => if i = ((4 : Int32)).toNatClampNeg then (625 : Int64) else (fun i => if i = ((3 : Int32)).toNatClampNeg then (125 : Int64) else (fun i => if i = ((2 : Int32)).toNatClampNeg then (25 : Int64) else (fun i => if i = ((1 : Int32)).toNatClampNeg then (5 : Int64) else (fun i => if i = ((0 : Int32)).toNatClampNeg then (1 : Int64) else (fun _ => (0 : Int64)) i) i) i) i) i) i) i) i) i) i) (zj).toNatClampNeg))), .second, .unset, .unset, .unset, .unset, .unset, .unset, .unset, .unset, .unset, .unset, .unset, .unset, .unset, .unset, .unset, .unset, .unset, .unset, .unset, .unset, .unset, .unset, .unset, .unset, .unset]) rfl k) ?_
  suffices hjzd : ∀ zd : Int64, zd = (((fun i => if i = ((9 : Int32)).toNatClampNeg then (512 : Int64) else (fun i => if i = ((8 : Int32)).toNatClampNeg then (256 : Int64) else (fun i => if i = ((7 : Int32)).toNatClampNeg then (128 : Int64) else (fun i => if i = ((6 : Int32)).toNatClampNeg then (64 : Int64) else (fun i => if i = ((5 : Int32)).toNatClampNeg then (32 : Int64) else (fun i => if i = ((4 : Int32)).toNatClampNeg then (16 : Int64) else (fun i => if i = ((3 : Int32)).toNatClampNeg then (8 : Int64) else (fun i => if i = ((2 : Int32)).toNatClampNeg then (4 : Int64) else (fun i => if i = ((1 : Int32)).toNatClampNeg then (2 : Int64) else (fun i => if i = ((0 : Int32)).toNatClampNeg then (1 : Int64) else (fun _ => (0 : Int64)) i) i) i) i) i) i) i) i) i) i) (zi).toNatClampNeg) * ((fun i => if i = ((9 : Int32)).toNatClampNeg then (1953125 : Int64) else (fun i => if i = ((8 : Int32)).toNatClampNeg then (390625 : Int64) else (fun i => if i = ((7 : Int32)).toNatClampNeg then (78125 : Int64) else (fun i => if i = ((6 : Int32)).toNatClampNeg then (15625 : Int64) else (fun i => if i = ((5 : Int32)).toNatClampNeg then (3125 : Int64) else (fun i => if i = ((4 : Int32)).toNatClampNeg then (625 : Int64) else (fun i => if i = ((3 : Int32)).toNatClampNeg then (125 : Int64) else (fun i => if i = ((2 : Int32)).toNatClampNeg then (25 : Int64) else (fun i => if i = ((1 : Int32)).toNatClampNeg then (5 : Int64) else (fun i => if i = ((0 : Int32)).toNatClampNeg then (1 : Int64) else (fun _ => (0 : Int64)) i) i) i) i) i) i) i) i) i) i) (zj).toNatClampNeg)) → own_Ends p e below s (Q0 Z p0 p1 p2 q3 q4 p5 h0 n0) 32 192 (T74.setTop (mkF m 171 #[.val (.int p0), .val (.int p1), .val (.int p2), .val (.long q3), .second, .val (.long q4), .second, .val (.int p5), .val (.ref b1), .val (.ref b34), .val (.int zi), .val (.int zj), .val (.long zd), .second, .unset, .unset, .unset, .unset, .unset, .unset, .unset, .unset, .unset, .unset, .unset, .unset, .unset, .unset, .unset, .unset, .unset, .unset, .unset, .unset, .unset, .unset, .unset, .unset, .unset] [])) by exact hjzd _ rfl
  intro zd hzd
  obtain ⟨LL, XL, NL⟩ : ∃ LL, Stand p l e room_1 s m #[(.int p0), (.int p1), (.int p2), (.long q3), (.long q4), (.int p5)] below meth c T74 LL 2 20 ∧ Fr n0 LL := ⟨_, X74, N74⟩
  have hdv := own_dd hzi hzj hzd
  have hdp := own_dpos hdv
  show own_Ends _ _ _ _ _ _ _ (T74.setTop (mkF m 171 #[.val (.int p0), .val (.int p1), .val (.int p2), .val (.long q3), .second, .val (.long q4), .second, .val (.int p5), .val (.ref b1), .val (.ref b34), .val (.int zi), .val (.int zj), .val (.long zd), .second, .unset, .unset, .unset, .unset, .unset, .unset, .unset, .unset, .unset, .unset, .unset, .unset, .unset, .unset, .unset, .unset, .unset, .unset, .unset, .unset, .unset, .unset, .unset, .unset, .unset] []))
  refine own_go (fun _ k => XS.iloadN XL.here hx rfl (hb hby at_171) rfl k) ?_
  show own_Ends _ _ _ _ _ _ _ (T74.setTop (mkF m 172 #[.val (.int p0), .val (.int p1), .val (.int p2), .val (.long q3), .second, .val (.long q4), .second, .val (.int p5), .val (.ref b1), .val (.ref b34), .val (.int zi), .val (.int zj), .val (.long zd), .second, .unset, .unset, .unset, .unset, .unset, .unset, .unset, .unset, .unset, .unset, .unset, .unset, .unset, .unset, .unset, .unset, .unset, .unset, .unset, .unset, .unset, .unset, .unset, .unset, .unset] [(.int p0)]))
  refine own_go (fun _ k => XL.ldcInt hx hown (mvT hZ (hw _ (List.mem_of_getElem? (i := 19) rfl))) (g := (mkF m 172 #[.val (.int p0), .val (.int p1), .val (.int p2), .val (.long q3), .second, .val (.long q4), .second, .val (.int p5), .val (.ref b1), .val (.ref b34), .val (.int zi), .val (.int zj), .val (.long zd), .second, .unset, .unset, .unset, .unset, .unset, .unset, .unset, .unset, .unset, .unset, .unset, .unset, .unset, .unset, .unset, .unset, .unset, .unset, .unset, .unset, .unset, .unset, .unset, .unset, .unset] [(.int p0)])) rfl (hb hby at_172) _ k) ?_
  show own_Ends _ _ _ _ _ _ _ (T74.setTop (mkF m 174 #[.val (.int p0), .val (.int p1), .val (.int p2), .val (.long q3), .second, .val (.long q4), .second, .val (.int p5), .val (.ref b1), .val (.ref b34), .val (.int zi), .val (.int zj), .val (.long zd), .second, .unset, .unset, .unset, .unset, .unset, .unset, .unset, .unset, .unset, .unset, .unset, .unset, .unset, .unset, .unset, .unset, .unset, .unset, .unset, .unset, .unset, .unset, .unset, .unset, .unset] [(.int (1048575 : Int32)), (.int p0)]))
  refine own_go (fun _ k => XS.iand XL.here hx rfl (hb hby at_174) rfl k) ?_
  show own_Ends _ _ _ _ _ _ _ (T74.setTop (mkF m 175 #[.val (.int p0), .val (.int p1), .val (.int p2), .val (.long q3), .second, .val (.long q4), .second, .val (.int p5), .val (.ref b1), .val (.ref b34), .val (.int zi), .val (.int zj), .val (.long zd), .second, .unset, .unset, .unset, .unset, .unset, .unset, .unset, .unset, .unset, .unset, .unset, .unset, .unset, .unset, .unset, .unset, .unset, .unset, .unset, .unset, .unset, .unset, .unset, .unset, .unset] [(.int (p0 &&& (1048575 : Int32)))]))
  refine own_go (fun _ k => XS.istore XL.here hx rfl (hb hby at_175) rfl (l' := #[.val (.int p0), .val (.int p1), .val (.int p2), .val (.long q3), .second, .val (.long q4), .second, .val (.int p5), .val (.ref b1), .val (.ref b34), .val (.int zi), .val (.int zj), .val (.long zd), .second, .val (.int (p0 &&& (1048575 : Int32))), .unset, .unset, .unset, .unset, .unset, .unset, .unset, .unset, .unset, .unset, .unset, .unset, .unset, .unset, .unset, .unset, .unset, .unset, .unset, .unset, .unset, .unset, .unset, .unset]) rfl k) ?_
  suffices hjzm : ∀ zm : Int32, zm = (p0 &&& (1048575 : Int32)) → own_Ends p e below s (Q0 Z p0 p1 p2 q3 q4 p5 h0 n0) 32 192 (T74.setTop (mkF m 177 #[.val (.int p0), .val (.int p1), .val (.int p2), .val (.long q3), .second, .val (.long q4), .second, .val (.int p5), .val (.ref b1), .val (.ref b34), .val (.int zi), .val (.int zj), .val (.long zd), .second, .val (.int zm), .unset, .unset, .unset, .unset, .unset, .unset, .unset, .unset, .unset, .unset, .unset, .unset, .unset, .unset, .unset, .unset, .unset, .unset, .unset, .unset, .unset, .unset, .unset, .unset] [])) by exact hjzm _ rfl
  intro zm hzm
  show own_Ends _ _ _ _ _ _ _ (T74.setTop (mkF m 177 #[.val (.int p0), .val (.int p1), .val (.int p2), .val (.long q3), .second, .val (.long q4), .second, .val (.int p5), .val (.ref b1), .val (.ref b34), .val (.int zi), .val (.int zj), .val (.long zd), .second, .val (.int zm), .unset, .unset, .unset, .unset, .unset, .unset, .unset, .unset, .unset, .unset, .unset, .unset, .unset, .unset, .unset, .unset, .unset, .unset, .unset, .unset, .unset, .unset, .unset, .unset] []))
  refine own_go (fun _ k => XS.iload XL.here hx rfl (hb hby at_177) rfl k) ?_
  show own_Ends _ _ _ _ _ _ _ (T74.setTop (mkF m 179 #[.val (.int p0), .val (.int p1), .val (.int p2), .val (.long q3), .second, .val (.long q4), .second, .val (.int p5), .val (.ref b1), .val (.ref b34), .val (.int zi), .val (.int zj), .val (.long zd), .second, .val (.int zm), .unset, .unset, .unset, .unset, .unset, .unset, .unset, .unset, .unset, .unset, .unset, .unset, .unset, .unset, .unset, .unset, .unset, .unset, .unset, .unset, .unset, .unset, .unset, .unset] [(.int zm)]))
  refine own_go (fun _ k => XL.ldc2Long hx hown (mvT hZ (hw _ (List.mem_of_getElem? (i := 20) rfl))) (g := (mkF m 179 #[.val (.int p0), .val (.int p1), .val (.int p2), .val (.long q3), .second, .val (.long q4), .second, .val (.int p5), .val (.ref b1), .val (.ref b34), .val (.int zi), .val (.int zj), .val (.long zd), .second, .val (.int zm), .unset, .unset, .unset, .unset, .unset, .unset, .unset, .unset, .unset, .unset, .unset, .unset, .unset, .unset, .unset, .unset, .unset, .unset, .unset, .unset, .unset, .unset, .unset, .unset] [(.int zm)])) rfl (hb hby at_179) _ k) ?_
  show own_Ends _ _ _ _ _ _ _ (T74.setTop (mkF m 182 #[.val (.int p0), .val (.int p1), .val (.int p2), .val (.long q3), .second, .val (.long q4), .second, .val (.int p5), .val (.ref b1), .val (.ref b34), .val (.int zi), .val (.int zj), .val (.long zd), .second, .val (.int zm), .unset, .unset, .unset, .unset, .unset, .unset, .unset, .unset, .unset, .unset, .unset, .unset, .unset, .unset, .unset, .unset, .unset, .unset, .unset, .unset, .unset, .unset, .unset, .unset] [(.long (1000000000 : Int64)), (.int zm)]))
  refine own_go (fun _ k => XS.lload XL.here hx rfl (hb hby at_182) rfl k) ?_
  show own_Ends _ _ _ _ _ _ _ (T74.setTop (mkF m 184 #[.val (.int p0), .val (.int p1), .val (.int p2), .val (.long q3), .second, .val (.long q4), .second, .val (.int p5), .val (.ref b1), .val (.ref b34), .val (.int zi), .val (.int zj), .val (.long zd), .second, .val (.int zm), .unset, .unset, .unset, .unset, .unset, .unset, .unset, .unset, .unset, .unset, .unset, .unset, .unset, .unset, .unset, .unset, .unset, .unset, .unset, .unset, .unset, .unset, .unset, .unset] [(.long zd), (.long (1000000000 : Int64)), (.int zm)]))
  refine own_go (fun _ k => XS.ldiv XL.here hx rfl (hb hby at_184) rfl (own_dnz hdv) k) ?_
  show own_Ends _ _ _ _ _ _ _ (T74.setTop (mkF m 185 #[.val (.int p0), .val (.int p1), .val (.int p2), .val (.long q3), .second, .val (.long q4), .second, .val (.int p5), .val (.ref b1), .val (.ref b34), .val (.int zi), .val (.int zj), .val (.long zd), .second, .val (.int zm), .unset, .unset, .unset, .unset, .unset, .unset, .unset, .unset, .unset, .unset, .unset, .unset, .unset, .unset, .unset, .unset, .unset, .unset, .unset, .unset, .unset, .unset, .unset, .unset] [(.long ((1000000000 : Int64) / zd)), (.int zm)]))
  obtain ⟨_, _, ⟨T80, L80, k80, n80⟩, -, X80, ⟨Lc80, hQ80, l80, y80, z80⟩, st80⟩ := Jvm.LawKit.callS XL hx (y := (⟨"com/example/octroi/octroi/bench/SentPerSecondPinLaw", "rate", "(IJ)D"⟩ : MethodName)) hown (mvT hZ (hw _ (List.mem_of_getElem? (i := 21) rfl))) (mvT hZ (hw _ (List.mem_of_getElem? (i := 22) rfl))) (mvT hZ (hw _ (List.mem_of_getElem? (i := 23) rfl))) (mvT hZ (hw _ (List.mem_of_getElem? (i := 24) rfl))) (by decide) (backOf (W := 0) (rmrate l Z ar hw [] zm ((1000000000 : Int64) / zd) h74 n0 F75 hdp) hZ (hw _ (List.mem_of_getElem? (i := 24) rfl)) (hw _ (List.mem_of_getElem? (i := 23) rfl)) (by decide) (by decide)) (g := (mkF m 185 #[.val (.int p0), .val (.int p1), .val (.int p2), .val (.long q3), .second, .val (.long q4), .second, .val (.int p5), .val (.ref b1), .val (.ref b34), .val (.int zi), .val (.int zj), .val (.long zd), .second, .val (.int zm), .unset, .unset, .unset, .unset, .unset, .unset, .unset, .unset, .unset, .unset, .unset, .unset, .unset, .unset, .unset, .unset, .unset, .unset, .unset, .unset, .unset, .unset, .unset, .unset] [(.long ((1000000000 : Int64) / zd)), (.int zm)])) rfl (by rw [hml]; rfl) (argsL := [(.int zm), (.long ((1000000000 : Int64) / zd))]) (rest := []) (lenOf pd0_0 rfl) rfl (by show 2 * 0 + _ ≤ _; exact Nat.le_of_eq rfl) (hb hby at_185) (fun _ _ => ⟨rfl, e74, (by decide : 2 + 2 ≤ _), (by decide : 20 + 5 ≤ _)⟩)
  dsimp only [Pt.U, Pt.locs, Pt.cells, Pt.slots] at X80 l80 y80 z80 st80 hQ80
  subst l80 y80 z80
  obtain ⟨rfl, N80q, K80⟩ := hQ80
  have N80 := Fr.app NL N80q
  have F81 : Old Z n0 T80.heap := (F75.keep K80 all0)
  refine own_go (fun _ k => st80 _ k) ?_
  show own_Ends _ _ _ _ _ _ _ (T80.setTop (mkF m 188 #[.val (.int p0), .val (.int p1), .val (.int p2), .val (.long q3), .second, .val (.long q4), .second, .val (.int p5), .val (.ref b1), .val (.ref b34), .val (.int zi), .val (.int zj), .val (.long zd), .second, .val (.int zm), .unset, .unset, .unset, .unset, .unset, .unset, .unset, .unset, .unset, .unset, .unset, .unset, .unset, .unset, .unset, .unset, .unset, .unset, .unset, .unset, .unset, .unset, .unset, .unset] [(.double (frate zm ((1000000000 : Int64) / zd)))]))
  refine own_go (fun _ k => XS.iload X80.here hx rfl (hb hby at_188) rfl k) ?_
  show own_Ends _ _ _ _ _ _ _ (T80.setTop (mkF m 190 #[.val (.int p0), .val (.int p1), .val (.int p2), .val (.long q3), .second, .val (.long q4), .second, .val (.int p5), .val (.ref b1), .val (.ref b34), .val (.int zi), .val (.int zj), .val (.long zd), .second, .val (.int zm), .unset, .unset, .unset, .unset, .unset, .unset, .unset, .unset, .unset, .unset, .unset, .unset, .unset, .unset, .unset, .unset, .unset, .unset, .unset, .unset, .unset, .unset, .unset, .unset] [(.int zm), (.double (frate zm ((1000000000 : Int64) / zd)))]))
  refine own_go (fun _ k => XS.i2l X80.here hx rfl (hb hby at_190) rfl k) ?_
  show own_Ends _ _ _ _ _ _ _ (T80.setTop (mkF m 191 #[.val (.int p0), .val (.int p1), .val (.int p2), .val (.long q3), .second, .val (.long q4), .second, .val (.int p5), .val (.ref b1), .val (.ref b34), .val (.int zi), .val (.int zj), .val (.long zd), .second, .val (.int zm), .unset, .unset, .unset, .unset, .unset, .unset, .unset, .unset, .unset, .unset, .unset, .unset, .unset, .unset, .unset, .unset, .unset, .unset, .unset, .unset, .unset, .unset, .unset, .unset] [(.long (zm.toInt64)), (.double (frate zm ((1000000000 : Int64) / zd)))]))
  refine own_go (fun _ k => XS.lload X80.here hx rfl (hb hby at_191) rfl k) ?_
  show own_Ends _ _ _ _ _ _ _ (T80.setTop (mkF m 193 #[.val (.int p0), .val (.int p1), .val (.int p2), .val (.long q3), .second, .val (.long q4), .second, .val (.int p5), .val (.ref b1), .val (.ref b34), .val (.int zi), .val (.int zj), .val (.long zd), .second, .val (.int zm), .unset, .unset, .unset, .unset, .unset, .unset, .unset, .unset, .unset, .unset, .unset, .unset, .unset, .unset, .unset, .unset, .unset, .unset, .unset, .unset, .unset, .unset, .unset, .unset] [(.long zd), (.long (zm.toInt64)), (.double (frate zm ((1000000000 : Int64) / zd)))]))
  refine own_go (fun _ k => XS.lmul X80.here hx rfl (hb hby at_193) rfl k) ?_
  show own_Ends _ _ _ _ _ _ _ (T80.setTop (mkF m 194 #[.val (.int p0), .val (.int p1), .val (.int p2), .val (.long q3), .second, .val (.long q4), .second, .val (.int p5), .val (.ref b1), .val (.ref b34), .val (.int zi), .val (.int zj), .val (.long zd), .second, .val (.int zm), .unset, .unset, .unset, .unset, .unset, .unset, .unset, .unset, .unset, .unset, .unset, .unset, .unset, .unset, .unset, .unset, .unset, .unset, .unset, .unset, .unset, .unset, .unset, .unset] [(.long ((zm.toInt64) * zd)), (.double (frate zm ((1000000000 : Int64) / zd)))]))
  refine own_go (fun _ k => XS.l2dS X80.here hx rfl (hb hby at_194) rfl rfl k) ?_
  show own_Ends _ _ _ _ _ _ _ (T80.setTop (mkF m 195 #[.val (.int p0), .val (.int p1), .val (.int p2), .val (.long q3), .second, .val (.long q4), .second, .val (.int p5), .val (.ref b1), .val (.ref b34), .val (.int zi), .val (.int zj), .val (.long zd), .second, .val (.int zm), .unset, .unset, .unset, .unset, .unset, .unset, .unset, .unset, .unset, .unset, .unset, .unset, .unset, .unset, .unset, .unset, .unset, .unset, .unset, .unset, .unset, .unset, .unset, .unset] [(.double (FP.l2d ((zm.toInt64) * zd))), (.double (frate zm ((1000000000 : Int64) / zd)))]))
  refine own_go (fun _ k => XS.dcmpS X80.here hx rfl (hb hby at_195) rfl rfl k) ?_
  show own_Ends _ _ _ _ _ _ _ (T80.setTop (mkF m 196 #[.val (.int p0), .val (.int p1), .val (.int p2), .val (.long q3), .second, .val (.long q4), .second, .val (.int p5), .val (.ref b1), .val (.ref b34), .val (.int zi), .val (.int zj), .val (.long zd), .second, .val (.int zm), .unset, .unset, .unset, .unset, .unset, .unset, .unset, .unset, .unset, .unset, .unset, .unset, .unset, .unset, .unset, .unset, .unset, .unset, .unset, .unset, .unset, .unset, .unset, .unset] [(.int (cmpValue (FP.dcmp (frate zm ((1000000000 : Int64) / zd)) (FP.l2d ((zm.toInt64) * zd))) .l))]))
  refine own_go (fun _ k => XS.ifNo X80.here hx rfl (hb hby at_196) rfl ((if0 _ _).trans (teq (own_frac hzm hdv)).2) k) ?_
  show own_Ends _ _ _ _ _ _ _ (T80.setTop (mkF m 199 #[.val (.int p0), .val (.int p1), .val (.int p2), .val (.long q3), .second, .val (.long q4), .second, .val (.int p5), .val (.ref b1), .val (.ref b34), .val (.int zi), .val (.int zj), .val (.long zd), .second, .val (.int zm), .unset, .unset, .unset, .unset, .unset, .unset, .unset, .unset, .unset, .unset, .unset, .unset, .unset, .unset, .unset, .unset, .unset, .unset, .unset, .unset, .unset, .unset, .unset, .unset] []))
  refine own_go (fun _ k => XS.iconst X80.here hx rfl (hb hby at_199) k) ?_
  show own_Ends _ _ _ _ _ _ _ (T80.setTop (mkF m 200 #[.val (.int p0), .val (.int p1), .val (.int p2), .val (.long q3), .second, .val (.long q4), .second, .val (.int p5), .val (.ref b1), .val (.ref b34), .val (.int zi), .val (.int zj), .val (.long zd), .second, .val (.int zm), .unset, .unset, .unset, .unset, .unset, .unset, .unset, .unset, .unset, .unset, .unset, .unset, .unset, .unset, .unset, .unset, .unset, .unset, .unset, .unset, .unset, .unset, .unset, .unset] [(.int (1 : Int32))]))
  refine own_go (fun _ k => XS.goto X80.here hx rfl (pc0 := 200) (pc' := 204) rfl (hb hby at_200) (by decide) (by decide) k) ?_
  show own_Ends _ _ _ _ _ _ _ (T80.setTop (mkF m 204 #[.val (.int p0), .val (.int p1), .val (.int p2), .val (.long q3), .second, .val (.long q4), .second, .val (.int p5), .val (.ref b1), .val (.ref b34), .val (.int zi), .val (.int zj), .val (.long zd), .second, .val (.int zm), .unset, .unset, .unset, .unset, .unset, .unset, .unset, .unset, .unset, .unset, .unset, .unset, .unset, .unset, .unset, .unset, .unset, .unset, .unset, .unset, .unset, .unset, .unset, .unset] [(.int (1 : Int32))]))
  refine own_go (fun _ k => XS.istore X80.here hx rfl (hb hby at_204) rfl (l' := #[.val (.int p0), .val (.int p1), .val (.int p2), .val (.long q3), .second, .val (.long q4), .second, .val (.int p5), .val (.ref b1), .val (.ref b34), .val (.int zi), .val (.int zj), .val (.long zd), .second, .val (.int zm), .val (.int (1 : Int32)), .unset, .unset, .unset, .unset, .unset, .unset, .unset, .unset, .unset, .unset, .unset, .unset, .unset, .unset, .unset, .unset, .unset, .unset, .unset, .unset, .unset, .unset, .unset]) rfl k) ?_
  show own_Ends _ _ _ _ _ _ _ (T80.setTop (mkF m 206 #[.val (.int p0), .val (.int p1), .val (.int p2), .val (.long q3), .second, .val (.long q4), .second, .val (.int p5), .val (.ref b1), .val (.ref b34), .val (.int zi), .val (.int zj), .val (.long zd), .second, .val (.int zm), .val (.int (1 : Int32)), .unset, .unset, .unset, .unset, .unset, .unset, .unset, .unset, .unset, .unset, .unset, .unset, .unset, .unset, .unset, .unset, .unset, .unset, .unset, .unset, .unset, .unset, .unset] []))
  refine own_go (fun _ k => XS.iloadN X80.here hx rfl (hb hby at_206) rfl k) ?_
  show own_Ends _ _ _ _ _ _ _ (T80.setTop (mkF m 207 #[.val (.int p0), .val (.int p1), .val (.int p2), .val (.long q3), .second, .val (.long q4), .second, .val (.int p5), .val (.ref b1), .val (.ref b34), .val (.int zi), .val (.int zj), .val (.long zd), .second, .val (.int zm), .val (.int (1 : Int32)), .unset, .unset, .unset, .unset, .unset, .unset, .unset, .unset, .unset, .unset, .unset, .unset, .unset, .unset, .unset, .unset, .unset, .unset, .unset, .unset, .unset, .unset, .unset] [(.int p1)]))
  refine own_go (fun _ k => X80.ldcInt hx hown (mvT hZ (hw _ (List.mem_of_getElem? (i := 19) rfl))) (g := (mkF m 207 #[.val (.int p0), .val (.int p1), .val (.int p2), .val (.long q3), .second, .val (.long q4), .second, .val (.int p5), .val (.ref b1), .val (.ref b34), .val (.int zi), .val (.int zj), .val (.long zd), .second, .val (.int zm), .val (.int (1 : Int32)), .unset, .unset, .unset, .unset, .unset, .unset, .unset, .unset, .unset, .unset, .unset, .unset, .unset, .unset, .unset, .unset, .unset, .unset, .unset, .unset, .unset, .unset, .unset] [(.int p1)])) rfl (hb hby at_207) _ k) ?_
  show own_Ends _ _ _ _ _ _ _ (T80.setTop (mkF m 209 #[.val (.int p0), .val (.int p1), .val (.int p2), .val (.long q3), .second, .val (.long q4), .second, .val (.int p5), .val (.ref b1), .val (.ref b34), .val (.int zi), .val (.int zj), .val (.long zd), .second, .val (.int zm), .val (.int (1 : Int32)), .unset, .unset, .unset, .unset, .unset, .unset, .unset, .unset, .unset, .unset, .unset, .unset, .unset, .unset, .unset, .unset, .unset, .unset, .unset, .unset, .unset, .unset, .unset] [(.int (1048575 : Int32)), (.int p1)]))
  refine own_go (fun _ k => XS.iand X80.here hx rfl (hb hby at_209) rfl k) ?_
  show own_Ends _ _ _ _ _ _ _ (T80.setTop (mkF m 210 #[.val (.int p0), .val (.int p1), .val (.int p2), .val (.long q3), .second, .val (.long q4), .second, .val (.int p5), .val (.ref b1), .val (.ref b34), .val (.int zi), .val (.int zj), .val (.long zd), .second, .val (.int zm), .val (.int (1 : Int32)), .unset, .unset, .unset, .unset, .unset, .unset, .unset, .unset, .unset, .unset, .unset, .unset, .unset, .unset, .unset, .unset, .unset, .unset, .unset, .unset, .unset, .unset, .unset] [(.int (p1 &&& (1048575 : Int32)))]))
  refine own_go (fun _ k => XS.iconst X80.here hx rfl (hb hby at_210) k) ?_
  show own_Ends _ _ _ _ _ _ _ (T80.setTop (mkF m 211 #[.val (.int p0), .val (.int p1), .val (.int p2), .val (.long q3), .second, .val (.long q4), .second, .val (.int p5), .val (.ref b1), .val (.ref b34), .val (.int zi), .val (.int zj), .val (.long zd), .second, .val (.int zm), .val (.int (1 : Int32)), .unset, .unset, .unset, .unset, .unset, .unset, .unset, .unset, .unset, .unset, .unset, .unset, .unset, .unset, .unset, .unset, .unset, .unset, .unset, .unset, .unset, .unset, .unset] [(.int (1 : Int32)), (.int (p1 &&& (1048575 : Int32)))]))
  refine own_go (fun _ k => XS.iadd X80.here hx rfl (hb hby at_211) rfl k) ?_
  show own_Ends _ _ _ _ _ _ _ (T80.setTop (mkF m 212 #[.val (.int p0), .val (.int p1), .val (.int p2), .val (.long q3), .second, .val (.long q4), .second, .val (.int p5), .val (.ref b1), .val (.ref b34), .val (.int zi), .val (.int zj), .val (.long zd), .second, .val (.int zm), .val (.int (1 : Int32)), .unset, .unset, .unset, .unset, .unset, .unset, .unset, .unset, .unset, .unset, .unset, .unset, .unset, .unset, .unset, .unset, .unset, .unset, .unset, .unset, .unset, .unset, .unset] [(.int ((p1 &&& (1048575 : Int32)) + (1 : Int32)))]))
  refine own_go (fun _ k => XS.istore X80.here hx rfl (hb hby at_212) rfl (l' := #[.val (.int p0), .val (.int p1), .val (.int p2), .val (.long q3), .second, .val (.long q4), .second, .val (.int p5), .val (.ref b1), .val (.ref b34), .val (.int zi), .val (.int zj), .val (.long zd), .second, .val (.int zm), .val (.int (1 : Int32)), .val (.int ((p1 &&& (1048575 : Int32)) + (1 : Int32))), .unset, .unset, .unset, .unset, .unset, .unset, .unset, .unset, .unset, .unset, .unset, .unset, .unset, .unset, .unset, .unset, .unset, .unset, .unset, .unset, .unset, .unset]) rfl k) ?_
  suffices hjzk : ∀ zk : Int32, zk = ((p1 &&& (1048575 : Int32)) + (1 : Int32)) → own_Ends p e below s (Q0 Z p0 p1 p2 q3 q4 p5 h0 n0) 32 192 (T80.setTop (mkF m 214 #[.val (.int p0), .val (.int p1), .val (.int p2), .val (.long q3), .second, .val (.long q4), .second, .val (.int p5), .val (.ref b1), .val (.ref b34), .val (.int zi), .val (.int zj), .val (.long zd), .second, .val (.int zm), .val (.int (1 : Int32)), .val (.int zk), .unset, .unset, .unset, .unset, .unset, .unset, .unset, .unset, .unset, .unset, .unset, .unset, .unset, .unset, .unset, .unset, .unset, .unset, .unset, .unset, .unset, .unset] [])) by exact hjzk _ rfl
  intro zk hzk
  show own_Ends _ _ _ _ _ _ _ (T80.setTop (mkF m 214 #[.val (.int p0), .val (.int p1), .val (.int p2), .val (.long q3), .second, .val (.long q4), .second, .val (.int p5), .val (.ref b1), .val (.ref b34), .val (.int zi), .val (.int zj), .val (.long zd), .second, .val (.int zm), .val (.int (1 : Int32)), .val (.int zk), .unset, .unset, .unset, .unset, .unset, .unset, .unset, .unset, .unset, .unset, .unset, .unset, .unset, .unset, .unset, .unset, .unset, .unset, .unset, .unset, .unset, .unset] []))
  refine own_go (fun _ k => XS.iloadN X80.here hx rfl (hb hby at_214) rfl k) ?_
  show own_Ends _ _ _ _ _ _ _ (T80.setTop (mkF m 215 #[.val (.int p0), .val (.int p1), .val (.int p2), .val (.long q3), .second, .val (.long q4), .second, .val (.int p5), .val (.ref b1), .val (.ref b34), .val (.int zi), .val (.int zj), .val (.long zd), .second, .val (.int zm), .val (.int (1 : Int32)), .val (.int zk), .unset, .unset, .unset, .unset, .unset, .unset, .unset, .unset, .unset, .unset, .unset, .unset, .unset, .unset, .unset, .unset, .unset, .unset, .unset, .unset, .unset, .unset] [(.int p2)]))
  refine own_go (fun _ k => XS.sipush X80.here hx rfl (hb hby at_215) k) ?_
  show own_Ends _ _ _ _ _ _ _ (T80.setTop (mkF m 218 #[.val (.int p0), .val (.int p1), .val (.int p2), .val (.long q3), .second, .val (.long q4), .second, .val (.int p5), .val (.ref b1), .val (.ref b34), .val (.int zi), .val (.int zj), .val (.long zd), .second, .val (.int zm), .val (.int (1 : Int32)), .val (.int zk), .unset, .unset, .unset, .unset, .unset, .unset, .unset, .unset, .unset, .unset, .unset, .unset, .unset, .unset, .unset, .unset, .unset, .unset, .unset, .unset, .unset, .unset] [(.int (1023 : Int32)), (.int p2)]))
  refine own_go (fun _ k => XS.iand X80.here hx rfl (hb hby at_218) rfl k) ?_
  show own_Ends _ _ _ _ _ _ _ (T80.setTop (mkF m 219 #[.val (.int p0), .val (.int p1), .val (.int p2), .val (.long q3), .second, .val (.long q4), .second, .val (.int p5), .val (.ref b1), .val (.ref b34), .val (.int zi), .val (.int zj), .val (.long zd), .second, .val (.int zm), .val (.int (1 : Int32)), .val (.int zk), .unset, .unset, .unset, .unset, .unset, .unset, .unset, .unset, .unset, .unset, .unset, .unset, .unset, .unset, .unset, .unset, .unset, .unset, .unset, .unset, .unset, .unset] [(.int (p2 &&& (1023 : Int32)))]))
  refine own_go (fun _ k => XS.istore X80.here hx rfl (hb hby at_219) rfl (l' := #[.val (.int p0), .val (.int p1), .val (.int p2), .val (.long q3), .second, .val (.long q4), .second, .val (.int p5), .val (.ref b1), .val (.ref b34), .val (.int zi), .val (.int zj), .val (.long zd), .second, .val (.int zm), .val (.int (1 : Int32)), .val (.int zk), .val (.int (p2 &&& (1023 : Int32))), .unset, .unset, .unset, .unset, .unset, .unset, .unset, .unset, .unset, .unset, .unset, .unset, .unset, .unset, .unset, .unset, .unset, .unset, .unset, .unset, .unset]) rfl k) ?_
  suffices hjzq : ∀ zq : Int32, zq = (p2 &&& (1023 : Int32)) → own_Ends p e below s (Q0 Z p0 p1 p2 q3 q4 p5 h0 n0) 32 192 (T80.setTop (mkF m 221 #[.val (.int p0), .val (.int p1), .val (.int p2), .val (.long q3), .second, .val (.long q4), .second, .val (.int p5), .val (.ref b1), .val (.ref b34), .val (.int zi), .val (.int zj), .val (.long zd), .second, .val (.int zm), .val (.int (1 : Int32)), .val (.int zk), .val (.int zq), .unset, .unset, .unset, .unset, .unset, .unset, .unset, .unset, .unset, .unset, .unset, .unset, .unset, .unset, .unset, .unset, .unset, .unset, .unset, .unset, .unset] [])) by exact hjzq _ rfl
  intro zq hzq
  show own_Ends _ _ _ _ _ _ _ (T80.setTop (mkF m 221 #[.val (.int p0), .val (.int p1), .val (.int p2), .val (.long q3), .second, .val (.long q4), .second, .val (.int p5), .val (.ref b1), .val (.ref b34), .val (.int zi), .val (.int zj), .val (.long zd), .second, .val (.int zm), .val (.int (1 : Int32)), .val (.int zk), .val (.int zq), .unset, .unset, .unset, .unset, .unset, .unset, .unset, .unset, .unset, .unset, .unset, .unset, .unset, .unset, .unset, .unset, .unset, .unset, .unset, .unset, .unset] []))
  refine own_go (fun _ k => XS.iload X80.here hx rfl (hb hby at_221) rfl k) ?_
  show own_Ends _ _ _ _ _ _ _ (T80.setTop (mkF m 223 #[.val (.int p0), .val (.int p1), .val (.int p2), .val (.long q3), .second, .val (.long q4), .second, .val (.int p5), .val (.ref b1), .val (.ref b34), .val (.int zi), .val (.int zj), .val (.long zd), .second, .val (.int zm), .val (.int (1 : Int32)), .val (.int zk), .val (.int zq), .unset, .unset, .unset, .unset, .unset, .unset, .unset, .unset, .unset, .unset, .unset, .unset, .unset, .unset, .unset, .unset, .unset, .unset, .unset, .unset, .unset] [(.int zq)]))
  refine own_go (fun _ k => XS.iload X80.here hx rfl (hb hby at_223) rfl k) ?_
  show own_Ends _ _ _ _ _ _ _ (T80.setTop (mkF m 225 #[.val (.int p0), .val (.int p1), .val (.int p2), .val (.long q3), .second, .val (.long q4), .second, .val (.int p5), .val (.ref b1), .val (.ref b34), .val (.int zi), .val (.int zj), .val (.long zd), .second, .val (.int zm), .val (.int (1 : Int32)), .val (.int zk), .val (.int zq), .unset, .unset, .unset, .unset, .unset, .unset, .unset, .unset, .unset, .unset, .unset, .unset, .unset, .unset, .unset, .unset, .unset, .unset, .unset, .unset, .unset] [(.int zk), (.int zq)]))
  refine own_go (fun _ k => XS.imul X80.here hx rfl (hb hby at_225) rfl k) ?_
  show own_Ends _ _ _ _ _ _ _ (T80.setTop (mkF m 226 #[.val (.int p0), .val (.int p1), .val (.int p2), .val (.long q3), .second, .val (.long q4), .second, .val (.int p5), .val (.ref b1), .val (.ref b34), .val (.int zi), .val (.int zj), .val (.long zd), .second, .val (.int zm), .val (.int (1 : Int32)), .val (.int zk), .val (.int zq), .unset, .unset, .unset, .unset, .unset, .unset, .unset, .unset, .unset, .unset, .unset, .unset, .unset, .unset, .unset, .unset, .unset, .unset, .unset, .unset, .unset] [(.int (zq * zk))]))
  refine own_go (fun _ k => XS.iload X80.here hx rfl (hb hby at_226) rfl k) ?_
  show own_Ends _ _ _ _ _ _ _ (T80.setTop (mkF m 228 #[.val (.int p0), .val (.int p1), .val (.int p2), .val (.long q3), .second, .val (.long q4), .second, .val (.int p5), .val (.ref b1), .val (.ref b34), .val (.int zi), .val (.int zj), .val (.long zd), .second, .val (.int zm), .val (.int (1 : Int32)), .val (.int zk), .val (.int zq), .unset, .unset, .unset, .unset, .unset, .unset, .unset, .unset, .unset, .unset, .unset, .unset, .unset, .unset, .unset, .unset, .unset, .unset, .unset, .unset, .unset] [(.int zk), (.int (zq * zk))]))
  refine own_go (fun _ k => XS.i2l X80.here hx rfl (hb hby at_228) rfl k) ?_
  show own_Ends _ _ _ _ _ _ _ (T80.setTop (mkF m 229 #[.val (.int p0), .val (.int p1), .val (.int p2), .val (.long q3), .second, .val (.long q4), .second, .val (.int p5), .val (.ref b1), .val (.ref b34), .val (.int zi), .val (.int zj), .val (.long zd), .second, .val (.int zm), .val (.int (1 : Int32)), .val (.int zk), .val (.int zq), .unset, .unset, .unset, .unset, .unset, .unset, .unset, .unset, .unset, .unset, .unset, .unset, .unset, .unset, .unset, .unset, .unset, .unset, .unset, .unset, .unset] [(.long (zk.toInt64)), (.int (zq * zk))]))
  refine own_go (fun _ k => X80.ldc2Long hx hown (mvT hZ (hw _ (List.mem_of_getElem? (i := 20) rfl))) (g := (mkF m 229 #[.val (.int p0), .val (.int p1), .val (.int p2), .val (.long q3), .second, .val (.long q4), .second, .val (.int p5), .val (.ref b1), .val (.ref b34), .val (.int zi), .val (.int zj), .val (.long zd), .second, .val (.int zm), .val (.int (1 : Int32)), .val (.int zk), .val (.int zq), .unset, .unset, .unset, .unset, .unset, .unset, .unset, .unset, .unset, .unset, .unset, .unset, .unset, .unset, .unset, .unset, .unset, .unset, .unset, .unset, .unset] [(.long (zk.toInt64)), (.int (zq * zk))])) rfl (hb hby at_229) _ k) ?_
  show own_Ends _ _ _ _ _ _ _ (T80.setTop (mkF m 232 #[.val (.int p0), .val (.int p1), .val (.int p2), .val (.long q3), .second, .val (.long q4), .second, .val (.int p5), .val (.ref b1), .val (.ref b34), .val (.int zi), .val (.int zj), .val (.long zd), .second, .val (.int zm), .val (.int (1 : Int32)), .val (.int zk), .val (.int zq), .unset, .unset, .unset, .unset, .unset, .unset, .unset, .unset, .unset, .unset, .unset, .unset, .unset, .unset, .unset, .unset, .unset, .unset, .unset, .unset, .unset] [(.long (1000000000 : Int64)), (.long (zk.toInt64)), (.int (zq * zk))]))
  refine own_go (fun _ k => XS.lmul X80.here hx rfl (hb hby at_232) rfl k) ?_
  show own_Ends _ _ _ _ _ _ _ (T80.setTop (mkF m 233 #[.val (.int p0), .val (.int p1), .val (.int p2), .val (.long q3), .second, .val (.long q4), .second, .val (.int p5), .val (.ref b1), .val (.ref b34), .val (.int zi), .val (.int zj), .val (.long zd), .second, .val (.int zm), .val (.int (1 : Int32)), .val (.int zk), .val (.int zq), .unset, .unset, .unset, .unset, .unset, .unset, .unset, .unset, .unset, .unset, .unset, .unset, .unset, .unset, .unset, .unset, .unset, .unset, .unset, .unset, .unset] [(.long ((zk.toInt64) * (1000000000 : Int64))), (.int (zq * zk))]))
  obtain ⟨_, _, ⟨T82, L82, k82, n82⟩, -, X82, ⟨Lc82, hQ82, l82, y82, z82⟩, st82⟩ := Jvm.LawKit.callS X80 hx (y := (⟨"com/example/octroi/octroi/bench/SentPerSecondPinLaw", "rate", "(IJ)D"⟩ : MethodName)) hown (mvT hZ (hw _ (List.mem_of_getElem? (i := 21) rfl))) (mvT hZ (hw _ (List.mem_of_getElem? (i := 22) rfl))) (mvT hZ (hw _ (List.mem_of_getElem? (i := 23) rfl))) (mvT hZ (hw _ (List.mem_of_getElem? (i := 24) rfl))) (by decide) (backOf (W := 0) (rmrate l Z ar hw [] (zq * zk) ((zk.toInt64) * (1000000000 : Int64)) T80.heap n0 F81 (own_kpos hzk)) hZ (hw _ (List.mem_of_getElem? (i := 24) rfl)) (hw _ (List.mem_of_getElem? (i := 23) rfl)) (by decide) (by decide)) (g := (mkF m 233 #[.val (.int p0), .val (.int p1), .val (.int p2), .val (.long q3), .second, .val (.long q4), .second, .val (.int p5), .val (.ref b1), .val (.ref b34), .val (.int zi), .val (.int zj), .val (.long zd), .second, .val (.int zm), .val (.int (1 : Int32)), .val (.int zk), .val (.int zq), .unset, .unset, .unset, .unset, .unset, .unset, .unset, .unset, .unset, .unset, .unset, .unset, .unset, .unset, .unset, .unset, .unset, .unset, .unset, .unset, .unset] [(.long ((zk.toInt64) * (1000000000 : Int64))), (.int (zq * zk))])) rfl (by rw [hml]; rfl) (argsL := [(.int (zq * zk)), (.long ((zk.toInt64) * (1000000000 : Int64)))]) (rest := []) (lenOf pd0_0 rfl) rfl (by show 2 * 0 + _ ≤ _; exact Nat.le_of_eq rfl) (hb hby at_233) (fun _ _ => ⟨rfl, rfl, (by decide : 4 + 2 ≤ _), (by decide : 25 + 5 ≤ _)⟩)
  dsimp only [Pt.U, Pt.locs, Pt.cells, Pt.slots] at X82 l82 y82 z82 st82 hQ82
  subst l82 y82 z82
  obtain ⟨rfl, N82q, K82⟩ := hQ82
  have N82 := Fr.app N80 N82q
  have F83 : Old Z n0 T82.heap := (F81.keep K82 all0)
  refine own_go (fun _ k => st82 _ k) ?_
  show own_Ends _ _ _ _ _ _ _ (T82.setTop (mkF m 236 #[.val (.int p0), .val (.int p1), .val (.int p2), .val (.long q3), .second, .val (.long q4), .second, .val (.int p5), .val (.ref b1), .val (.ref b34), .val (.int zi), .val (.int zj), .val (.long zd), .second, .val (.int zm), .val (.int (1 : Int32)), .val (.int zk), .val (.int zq), .unset, .unset, .unset, .unset, .unset, .unset, .unset, .unset, .unset, .unset, .unset, .unset, .unset, .unset, .unset, .unset, .unset, .unset, .unset, .unset, .unset] [(.double (frate (zq * zk) ((zk.toInt64) * (1000000000 : Int64))))]))
  refine own_go (fun _ k => XS.iload X82.here hx rfl (hb hby at_236) rfl k) ?_
  show own_Ends _ _ _ _ _ _ _ (T82.setTop (mkF m 238 #[.val (.int p0), .val (.int p1), .val (.int p2), .val (.long q3), .second, .val (.long q4), .second, .val (.int p5), .val (.ref b1), .val (.ref b34), .val (.int zi), .val (.int zj), .val (.long zd), .second, .val (.int zm), .val (.int (1 : Int32)), .val (.int zk), .val (.int zq), .unset, .unset, .unset, .unset, .unset, .unset, .unset, .unset, .unset, .unset, .unset, .unset, .unset, .unset, .unset, .unset, .unset, .unset, .unset, .unset, .unset] [(.int zq), (.double (frate (zq * zk) ((zk.toInt64) * (1000000000 : Int64))))]))
  refine own_go (fun _ k => XS.i2dS X82.here hx rfl (hb hby at_238) rfl rfl k) ?_
  show own_Ends _ _ _ _ _ _ _ (T82.setTop (mkF m 239 #[.val (.int p0), .val (.int p1), .val (.int p2), .val (.long q3), .second, .val (.long q4), .second, .val (.int p5), .val (.ref b1), .val (.ref b34), .val (.int zi), .val (.int zj), .val (.long zd), .second, .val (.int zm), .val (.int (1 : Int32)), .val (.int zk), .val (.int zq), .unset, .unset, .unset, .unset, .unset, .unset, .unset, .unset, .unset, .unset, .unset, .unset, .unset, .unset, .unset, .unset, .unset, .unset, .unset, .unset, .unset] [(.double (FP.i2d zq)), (.double (frate (zq * zk) ((zk.toInt64) * (1000000000 : Int64))))]))
  refine own_go (fun _ k => XS.dcmpS X82.here hx rfl (hb hby at_239) rfl rfl k) ?_
  show own_Ends _ _ _ _ _ _ _ (T82.setTop (mkF m 240 #[.val (.int p0), .val (.int p1), .val (.int p2), .val (.long q3), .second, .val (.long q4), .second, .val (.int p5), .val (.ref b1), .val (.ref b34), .val (.int zi), .val (.int zj), .val (.long zd), .second, .val (.int zm), .val (.int (1 : Int32)), .val (.int zk), .val (.int zq), .unset, .unset, .unset, .unset, .unset, .unset, .unset, .unset, .unset, .unset, .unset, .unset, .unset, .unset, .unset, .unset, .unset, .unset, .unset, .unset, .unset] [(.int (cmpValue (FP.dcmp (frate (zq * zk) ((zk.toInt64) * (1000000000 : Int64))) (FP.i2d zq)) .l))]))
  refine own_go (fun _ k => XS.ifNo X82.here hx rfl (hb hby at_240) rfl ((if0 _ _).trans (teq (own_mult hzk hzq)).2) k) ?_
  show own_Ends _ _ _ _ _ _ _ (T82.setTop (mkF m 243 #[.val (.int p0), .val (.int p1), .val (.int p2), .val (.long q3), .second, .val (.long q4), .second, .val (.int p5), .val (.ref b1), .val (.ref b34), .val (.int zi), .val (.int zj), .val (.long zd), .second, .val (.int zm), .val (.int (1 : Int32)), .val (.int zk), .val (.int zq), .unset, .unset, .unset, .unset, .unset, .unset, .unset, .unset, .unset, .unset, .unset, .unset, .unset, .unset, .unset, .unset, .unset, .unset, .unset, .unset, .unset] []))
  refine own_go (fun _ k => XS.iconst X82.here hx rfl (hb hby at_243) k) ?_
  show own_Ends _ _ _ _ _ _ _ (T82.setTop (mkF m 244 #[.val (.int p0), .val (.int p1), .val (.int p2), .val (.long q3), .second, .val (.long q4), .second, .val (.int p5), .val (.ref b1), .val (.ref b34), .val (.int zi), .val (.int zj), .val (.long zd), .second, .val (.int zm), .val (.int (1 : Int32)), .val (.int zk), .val (.int zq), .unset, .unset, .unset, .unset, .unset, .unset, .unset, .unset, .unset, .unset, .unset, .unset, .unset, .unset, .unset, .unset, .unset, .unset, .unset, .unset, .unset] [(.int (1 : Int32))]))
  refine own_go (fun _ k => XS.goto X82.here hx rfl (pc0 := 244) (pc' := 248) rfl (hb hby at_244) (by decide) (by decide) k) ?_
  show own_Ends _ _ _ _ _ _ _ (T82.setTop (mkF m 248 #[.val (.int p0), .val (.int p1), .val (.int p2), .val (.long q3), .second, .val (.long q4), .second, .val (.int p5), .val (.ref b1), .val (.ref b34), .val (.int zi), .val (.int zj), .val (.long zd), .second, .val (.int zm), .val (.int (1 : Int32)), .val (.int zk), .val (.int zq), .unset, .unset, .unset, .unset, .unset, .unset, .unset, .unset, .unset, .unset, .unset, .unset, .unset, .unset, .unset, .unset, .unset, .unset, .unset, .unset, .unset] [(.int (1 : Int32))]))
  refine own_go (fun _ k => XS.istore X82.here hx rfl (hb hby at_248) rfl (l' := #[.val (.int p0), .val (.int p1), .val (.int p2), .val (.long q3), .second, .val (.long q4), .second, .val (.int p5), .val (.ref b1), .val (.ref b34), .val (.int zi), .val (.int zj), .val (.long zd), .second, .val (.int zm), .val (.int (1 : Int32)), .val (.int zk), .val (.int zq), .val (.int (1 : Int32)), .unset, .unset, .unset, .unset, .unset, .unset, .unset, .unset, .unset, .unset, .unset, .unset, .unset, .unset, .unset, .unset, .unset, .unset, .unset, .unset]) rfl k) ?_
  show own_Ends _ _ _ _ _ _ _ (T82.setTop (mkF m 250 #[.val (.int p0), .val (.int p1), .val (.int p2), .val (.long q3), .second, .val (.long q4), .second, .val (.int p5), .val (.ref b1), .val (.ref b34), .val (.int zi), .val (.int zj), .val (.long zd), .second, .val (.int zm), .val (.int (1 : Int32)), .val (.int zk), .val (.int zq), .val (.int (1 : Int32)), .unset, .unset, .unset, .unset, .unset, .unset, .unset, .unset, .unset, .unset, .unset, .unset, .unset, .unset, .unset, .unset, .unset, .unset, .unset, .unset] []))
  refine own_go (fun _ k => XS.iloadN X82.here hx rfl (hb hby at_250) rfl k) ?_
  show own_Ends _ _ _ _ _ _ _ (T82.setTop (mkF m 251 #[.val (.int p0), .val (.int p1), .val (.int p2), .val (.long q3), .second, .val (.long q4), .second, .val (.int p5), .val (.ref b1), .val (.ref b34), .val (.int zi), .val (.int zj), .val (.long zd), .second, .val (.int zm), .val (.int (1 : Int32)), .val (.int zk), .val (.int zq), .val (.int (1 : Int32)), .unset, .unset, .unset, .unset, .unset, .unset, .unset, .unset, .unset, .unset, .unset, .unset, .unset, .unset, .unset, .unset, .unset, .unset, .unset, .unset] [(.int p0)]))
  refine own_go (fun _ k => X82.ldcInt hx hown (mvT hZ (hw _ (List.mem_of_getElem? (i := 55) rfl))) (g := (mkF m 251 #[.val (.int p0), .val (.int p1), .val (.int p2), .val (.long q3), .second, .val (.long q4), .second, .val (.int p5), .val (.ref b1), .val (.ref b34), .val (.int zi), .val (.int zj), .val (.long zd), .second, .val (.int zm), .val (.int (1 : Int32)), .val (.int zk), .val (.int zq), .val (.int (1 : Int32)), .unset, .unset, .unset, .unset, .unset, .unset, .unset, .unset, .unset, .unset, .unset, .unset, .unset, .unset, .unset, .unset, .unset, .unset, .unset, .unset] [(.int p0)])) rfl (hb hby at_251) _ k) ?_
  show own_Ends _ _ _ _ _ _ _ (T82.setTop (mkF m 253 #[.val (.int p0), .val (.int p1), .val (.int p2), .val (.long q3), .second, .val (.long q4), .second, .val (.int p5), .val (.ref b1), .val (.ref b34), .val (.int zi), .val (.int zj), .val (.long zd), .second, .val (.int zm), .val (.int (1 : Int32)), .val (.int zk), .val (.int zq), .val (.int (1 : Int32)), .unset, .unset, .unset, .unset, .unset, .unset, .unset, .unset, .unset, .unset, .unset, .unset, .unset, .unset, .unset, .unset, .unset, .unset, .unset, .unset] [(.int (2147483647 : Int32)), (.int p0)]))
  refine own_go (fun _ k => XS.iand X82.here hx rfl (hb hby at_253) rfl k) ?_
  show own_Ends _ _ _ _ _ _ _ (T82.setTop (mkF m 254 #[.val (.int p0), .val (.int p1), .val (.int p2), .val (.long q3), .second, .val (.long q4), .second, .val (.int p5), .val (.ref b1), .val (.ref b34), .val (.int zi), .val (.int zj), .val (.long zd), .second, .val (.int zm), .val (.int (1 : Int32)), .val (.int zk), .val (.int zq), .val (.int (1 : Int32)), .unset, .unset, .unset, .unset, .unset, .unset, .unset, .unset, .unset, .unset, .unset, .unset, .unset, .unset, .unset, .unset, .unset, .unset, .unset, .unset] [(.int (p0 &&& (2147483647 : Int32)))]))
  refine own_go (fun _ k => XS.istore X82.here hx rfl (hb hby at_254) rfl (l' := #[.val (.int p0), .val (.int p1), .val (.int p2), .val (.long q3), .second, .val (.long q4), .second, .val (.int p5), .val (.ref b1), .val (.ref b34), .val (.int zi), .val (.int zj), .val (.long zd), .second, .val (.int zm), .val (.int (1 : Int32)), .val (.int zk), .val (.int zq), .val (.int (1 : Int32)), .val (.int (p0 &&& (2147483647 : Int32))), .unset, .unset, .unset, .unset, .unset, .unset, .unset, .unset, .unset, .unset, .unset, .unset, .unset, .unset, .unset, .unset, .unset, .unset, .unset]) rfl k) ?_
  suffices hjza : ∀ za : Int32, za = (p0 &&& (2147483647 : Int32)) → own_Ends p e below s (Q0 Z p0 p1 p2 q3 q4 p5 h0 n0) 32 192 (T82.setTop (mkF m 256 #[.val (.int p0), .val (.int p1), .val (.int p2), .val (.long q3), .second, .val (.long q4), .second, .val (.int p5), .val (.ref b1), .val (.ref b34), .val (.int zi), .val (.int zj), .val (.long zd), .second, .val (.int zm), .val (.int (1 : Int32)), .val (.int zk), .val (.int zq), .val (.int (1 : Int32)), .val (.int za), .unset, .unset, .unset, .unset, .unset, .unset, .unset, .unset, .unset, .unset, .unset, .unset, .unset, .unset, .unset, .unset, .unset, .unset, .unset] [])) by exact hjza _ rfl
  intro za hza
  show own_Ends _ _ _ _ _ _ _ (T82.setTop (mkF m 256 #[.val (.int p0), .val (.int p1), .val (.int p2), .val (.long q3), .second, .val (.long q4), .second, .val (.int p5), .val (.ref b1), .val (.ref b34), .val (.int zi), .val (.int zj), .val (.long zd), .second, .val (.int zm), .val (.int (1 : Int32)), .val (.int zk), .val (.int zq), .val (.int (1 : Int32)), .val (.int za), .unset, .unset, .unset, .unset, .unset, .unset, .unset, .unset, .unset, .unset, .unset, .unset, .unset, .unset, .unset, .unset, .unset, .unset, .unset] []))
  refine own_go (fun _ k => XS.iloadN X82.here hx rfl (hb hby at_256) rfl k) ?_
  show own_Ends _ _ _ _ _ _ _ (T82.setTop (mkF m 257 #[.val (.int p0), .val (.int p1), .val (.int p2), .val (.long q3), .second, .val (.long q4), .second, .val (.int p5), .val (.ref b1), .val (.ref b34), .val (.int zi), .val (.int zj), .val (.long zd), .second, .val (.int zm), .val (.int (1 : Int32)), .val (.int zk), .val (.int zq), .val (.int (1 : Int32)), .val (.int za), .unset, .unset, .unset, .unset, .unset, .unset, .unset, .unset, .unset, .unset, .unset, .unset, .unset, .unset, .unset, .unset, .unset, .unset, .unset] [(.int p2)]))
  refine own_go (fun _ k => X82.ldcInt hx hown (mvT hZ (hw _ (List.mem_of_getElem? (i := 55) rfl))) (g := (mkF m 257 #[.val (.int p0), .val (.int p1), .val (.int p2), .val (.long q3), .second, .val (.long q4), .second, .val (.int p5), .val (.ref b1), .val (.ref b34), .val (.int zi), .val (.int zj), .val (.long zd), .second, .val (.int zm), .val (.int (1 : Int32)), .val (.int zk), .val (.int zq), .val (.int (1 : Int32)), .val (.int za), .unset, .unset, .unset, .unset, .unset, .unset, .unset, .unset, .unset, .unset, .unset, .unset, .unset, .unset, .unset, .unset, .unset, .unset, .unset] [(.int p2)])) rfl (hb hby at_257) _ k) ?_
  show own_Ends _ _ _ _ _ _ _ (T82.setTop (mkF m 259 #[.val (.int p0), .val (.int p1), .val (.int p2), .val (.long q3), .second, .val (.long q4), .second, .val (.int p5), .val (.ref b1), .val (.ref b34), .val (.int zi), .val (.int zj), .val (.long zd), .second, .val (.int zm), .val (.int (1 : Int32)), .val (.int zk), .val (.int zq), .val (.int (1 : Int32)), .val (.int za), .unset, .unset, .unset, .unset, .unset, .unset, .unset, .unset, .unset, .unset, .unset, .unset, .unset, .unset, .unset, .unset, .unset, .unset, .unset] [(.int (2147483647 : Int32)), (.int p2)]))
  refine own_go (fun _ k => XS.iand X82.here hx rfl (hb hby at_259) rfl k) ?_
  show own_Ends _ _ _ _ _ _ _ (T82.setTop (mkF m 260 #[.val (.int p0), .val (.int p1), .val (.int p2), .val (.long q3), .second, .val (.long q4), .second, .val (.int p5), .val (.ref b1), .val (.ref b34), .val (.int zi), .val (.int zj), .val (.long zd), .second, .val (.int zm), .val (.int (1 : Int32)), .val (.int zk), .val (.int zq), .val (.int (1 : Int32)), .val (.int za), .unset, .unset, .unset, .unset, .unset, .unset, .unset, .unset, .unset, .unset, .unset, .unset, .unset, .unset, .unset, .unset, .unset, .unset, .unset] [(.int (p2 &&& (2147483647 : Int32)))]))
  refine own_go (fun _ k => XS.istore X82.here hx rfl (hb hby at_260) rfl (l' := #[.val (.int p0), .val (.int p1), .val (.int p2), .val (.long q3), .second, .val (.long q4), .second, .val (.int p5), .val (.ref b1), .val (.ref b34), .val (.int zi), .val (.int zj), .val (.long zd), .second, .val (.int zm), .val (.int (1 : Int32)), .val (.int zk), .val (.int zq), .val (.int (1 : Int32)), .val (.int za), .val (.int (p2 &&& (2147483647 : Int32))), .unset, .unset, .unset, .unset, .unset, .unset, .unset, .unset, .unset, .unset, .unset, .unset, .unset, .unset, .unset, .unset, .unset, .unset]) rfl k) ?_
  suffices hjzc : ∀ zc : Int32, zc = (p2 &&& (2147483647 : Int32)) → own_Ends p e below s (Q0 Z p0 p1 p2 q3 q4 p5 h0 n0) 32 192 (T82.setTop (mkF m 262 #[.val (.int p0), .val (.int p1), .val (.int p2), .val (.long q3), .second, .val (.long q4), .second, .val (.int p5), .val (.ref b1), .val (.ref b34), .val (.int zi), .val (.int zj), .val (.long zd), .second, .val (.int zm), .val (.int (1 : Int32)), .val (.int zk), .val (.int zq), .val (.int (1 : Int32)), .val (.int za), .val (.int zc), .unset, .unset, .unset, .unset, .unset, .unset, .unset, .unset, .unset, .unset, .unset, .unset, .unset, .unset, .unset, .unset, .unset, .unset] [])) by exact hjzc _ rfl
  intro zc hzc
  show own_Ends _ _ _ _ _ _ _ (T82.setTop (mkF m 262 #[.val (.int p0), .val (.int p1), .val (.int p2), .val (.long q3), .second, .val (.long q4), .second, .val (.int p5), .val (.ref b1), .val (.ref b34), .val (.int zi), .val (.int zj), .val (.long zd), .second, .val (.int zm), .val (.int (1 : Int32)), .val (.int zk), .val (.int zq), .val (.int (1 : Int32)), .val (.int za), .val (.int zc), .unset, .unset, .unset, .unset, .unset, .unset, .unset, .unset, .unset, .unset, .unset, .unset, .unset, .unset, .unset, .unset, .unset, .unset] []))
  refine own_go (fun _ k => XS.iload X82.here hx rfl (hb hby at_262) rfl k) ?_
  show own_Ends _ _ _ _ _ _ _ (T82.setTop (mkF m 264 #[.val (.int p0), .val (.int p1), .val (.int p2), .val (.long q3), .second, .val (.long q4), .second, .val (.int p5), .val (.ref b1), .val (.ref b34), .val (.int zi), .val (.int zj), .val (.long zd), .second, .val (.int zm), .val (.int (1 : Int32)), .val (.int zk), .val (.int zq), .val (.int (1 : Int32)), .val (.int za), .val (.int zc), .unset, .unset, .unset, .unset, .unset, .unset, .unset, .unset, .unset, .unset, .unset, .unset, .unset, .unset, .unset, .unset, .unset, .unset] [(.int za)]))
  refine own_go (fun _ k => XS.iload X82.here hx rfl (hb hby at_264) rfl k) ?_
  show own_Ends _ _ _ _ _ _ _ (T82.setTop (mkF m 266 #[.val (.int p0), .val (.int p1), .val (.int p2), .val (.long q3), .second, .val (.long q4), .second, .val (.int p5), .val (.ref b1), .val (.ref b34), .val (.int zi), .val (.int zj), .val (.long zd), .second, .val (.int zm), .val (.int (1 : Int32)), .val (.int zk), .val (.int zq), .val (.int (1 : Int32)), .val (.int za), .val (.int zc), .unset, .unset, .unset, .unset, .unset, .unset, .unset, .unset, .unset, .unset, .unset, .unset, .unset, .unset, .unset, .unset, .unset, .unset] [(.int zc), (.int za)]))
  obtain ⟨_, _, ⟨T84, L84, k84, n84⟩, -, X84, ⟨Lc84, hQ84, l84, y84, z84⟩, st84⟩ := Jvm.LawKit.callS X82 hx (y := (⟨"java/lang/Math", "min", "(II)I"⟩ : MethodName)) hown (mvT hZ (hw _ (List.mem_of_getElem? (i := 56) rfl))) (mvT hZ (hw _ (List.mem_of_getElem? (i := 57) rfl))) (mvT hZ (hw _ (List.mem_of_getElem? (i := 58) rfl))) (mvT hZ (hw _ (List.mem_of_getElem? (i := 59) rfl))) (by decide) (backOf (W := 0) (rmminI l Z ar hw [] za zc T82.heap n0 F83) hZ (hw _ (List.mem_of_getElem? (i := 59) rfl)) (hw _ (List.mem_of_getElem? (i := 58) rfl)) (by decide) (by decide)) (g := (mkF m 266 #[.val (.int p0), .val (.int p1), .val (.int p2), .val (.long q3), .second, .val (.long q4), .second, .val (.int p5), .val (.ref b1), .val (.ref b34), .val (.int zi), .val (.int zj), .val (.long zd), .second, .val (.int zm), .val (.int (1 : Int32)), .val (.int zk), .val (.int zq), .val (.int (1 : Int32)), .val (.int za), .val (.int zc), .unset, .unset, .unset, .unset, .unset, .unset, .unset, .unset, .unset, .unset, .unset, .unset, .unset, .unset, .unset, .unset, .unset, .unset] [(.int zc), (.int za)])) rfl (by rw [hml]; rfl) (argsL := [(.int za), (.int zc)]) (rest := []) (lenOf pd0_1 rfl) rfl (by show 2 * 0 + _ ≤ _; exact Nat.le_of_eq rfl) (hb hby at_266) (fun _ _ => ⟨rfl, rfl, (by decide : 6 + 0 ≤ _), (by decide : 30 + 0 ≤ _)⟩)
  dsimp only [Pt.U, Pt.locs, Pt.cells, Pt.slots] at X84 l84 y84 z84 st84 hQ84
  subst l84 y84 z84
  obtain ⟨rfl, N84q, eq84⟩ := hQ84
  have e84 : T84.heap = T82.heap := eq84
  have N84 := Fr.app N82 N84q
  refine own_go (fun _ k => st84 _ k) ?_
  show own_Ends _ _ _ _ _ _ _ (T84.setTop (mkF m 269 #[.val (.int p0), .val (.int p1), .val (.int p2), .val (.long q3), .second, .val (.long q4), .second, .val (.int p5), .val (.ref b1), .val (.ref b34), .val (.int zi), .val (.int zj), .val (.long zd), .second, .val (.int zm), .val (.int (1 : Int32)), .val (.int zk), .val (.int zq), .val (.int (1 : Int32)), .val (.int za), .val (.int zc), .unset, .unset, .unset, .unset, .unset, .unset, .unset, .unset, .unset, .unset, .unset, .unset, .unset, .unset, .unset, .unset, .unset, .unset] [(.int (fminI za zc))]))
  refine own_go (fun _ k => XS.istore X84.here hx rfl (hb hby at_269) rfl (l' := #[.val (.int p0), .val (.int p1), .val (.int p2), .val (.long q3), .second, .val (.long q4), .second, .val (.int p5), .val (.ref b1), .val (.ref b34), .val (.int zi), .val (.int zj), .val (.long zd), .second, .val (.int zm), .val (.int (1 : Int32)), .val (.int zk), .val (.int zq), .val (.int (1 : Int32)), .val (.int za), .val (.int zc), .val (.int (fminI za zc)), .unset, .unset, .unset, .unset, .unset, .unset, .unset, .unset, .unset, .unset, .unset, .unset, .unset, .unset, .unset, .unset, .unset]) rfl k) ?_
  suffices hjzlo : ∀ zlo : Int32, zlo = (fminI za zc) → own_Ends p e below s (Q0 Z p0 p1 p2 q3 q4 p5 h0 n0) 32 192 (T84.setTop (mkF m 271 #[.val (.int p0), .val (.int p1), .val (.int p2), .val (.long q3), .second, .val (.long q4), .second, .val (.int p5), .val (.ref b1), .val (.ref b34), .val (.int zi), .val (.int zj), .val (.long zd), .second, .val (.int zm), .val (.int (1 : Int32)), .val (.int zk), .val (.int zq), .val (.int (1 : Int32)), .val (.int za), .val (.int zc), .val (.int zlo), .unset, .unset, .unset, .unset, .unset, .unset, .unset, .unset, .unset, .unset, .unset, .unset, .unset, .unset, .unset, .unset, .unset] [])) by exact hjzlo _ rfl
  intro zlo hzlo
  show own_Ends _ _ _ _ _ _ _ (T84.setTop (mkF m 271 #[.val (.int p0), .val (.int p1), .val (.int p2), .val (.long q3), .second, .val (.long q4), .second, .val (.int p5), .val (.ref b1), .val (.ref b34), .val (.int zi), .val (.int zj), .val (.long zd), .second, .val (.int zm), .val (.int (1 : Int32)), .val (.int zk), .val (.int zq), .val (.int (1 : Int32)), .val (.int za), .val (.int zc), .val (.int zlo), .unset, .unset, .unset, .unset, .unset, .unset, .unset, .unset, .unset, .unset, .unset, .unset, .unset, .unset, .unset, .unset, .unset] []))
  refine own_go (fun _ k => XS.iload X84.here hx rfl (hb hby at_271) rfl k) ?_
  show own_Ends _ _ _ _ _ _ _ (T84.setTop (mkF m 273 #[.val (.int p0), .val (.int p1), .val (.int p2), .val (.long q3), .second, .val (.long q4), .second, .val (.int p5), .val (.ref b1), .val (.ref b34), .val (.int zi), .val (.int zj), .val (.long zd), .second, .val (.int zm), .val (.int (1 : Int32)), .val (.int zk), .val (.int zq), .val (.int (1 : Int32)), .val (.int za), .val (.int zc), .val (.int zlo), .unset, .unset, .unset, .unset, .unset, .unset, .unset, .unset, .unset, .unset, .unset, .unset, .unset, .unset, .unset, .unset, .unset] [(.int za)]))
  refine own_go (fun _ k => XS.iload X84.here hx rfl (hb hby at_273) rfl k) ?_
  show own_Ends _ _ _ _ _ _ _ (T84.setTop (mkF m 275 #[.val (.int p0), .val (.int p1), .val (.int p2), .val (.long q3), .second, .val (.long q4), .second, .val (.int p5), .val (.ref b1), .val (.ref b34), .val (.int zi), .val (.int zj), .val (.long zd), .second, .val (.int zm), .val (.int (1 : Int32)), .val (.int zk), .val (.int zq), .val (.int (1 : Int32)), .val (.int za), .val (.int zc), .val (.int zlo), .unset, .unset, .unset, .unset, .unset, .unset, .unset, .unset, .unset, .unset, .unset, .unset, .unset, .unset, .unset, .unset, .unset] [(.int zc), (.int za)]))
  obtain ⟨_, _, ⟨T85, L85, k85, n85⟩, -, X85, ⟨Lc85, hQ85, l85, y85, z85⟩, st85⟩ := Jvm.LawKit.callS X84 hx (y := (⟨"java/lang/Math", "max", "(II)I"⟩ : MethodName)) hown (mvT hZ (hw _ (List.mem_of_getElem? (i := 60) rfl))) (mvT hZ (hw _ (List.mem_of_getElem? (i := 61) rfl))) (mvT hZ (hw _ (List.mem_of_getElem? (i := 58) rfl))) (mvT hZ (hw _ (List.mem_of_getElem? (i := 62) rfl))) (by decide) (backOf (W := 0) (rmmaxI l Z ar hw [] za zc T82.heap n0 F83) hZ (hw _ (List.mem_of_getElem? (i := 62) rfl)) (hw _ (List.mem_of_getElem? (i := 58) rfl)) (by decide) (by decide)) (g := (mkF m 275 #[.val (.int p0), .val (.int p1), .val (.int p2), .val (.long q3), .second, .val (.long q4), .second, .val (.int p5), .val (.ref b1), .val (.ref b34), .val (.int zi), .val (.int zj), .val (.long zd), .second, .val (.int zm), .val (.int (1 : Int32)), .val (.int zk), .val (.int zq), .val (.int (1 : Int32)), .val (.int za), .val (.int zc), .val (.int zlo), .unset, .unset, .unset, .unset, .unset, .unset, .unset, .unset, .unset, .unset, .unset, .unset, .unset, .unset, .unset, .unset, .unset] [(.int zc), (.int za)])) rfl (by rw [hml]; rfl) (argsL := [(.int za), (.int zc)]) (rest := []) (lenOf pd0_1 rfl) rfl (by show 2 * 0 + _ ≤ _; exact Nat.le_of_eq rfl) (hb hby at_275) (fun _ _ => ⟨rfl, e84, (by decide : 6 + 0 ≤ _), (by decide : 30 + 0 ≤ _)⟩)
  dsimp only [Pt.U, Pt.locs, Pt.cells, Pt.slots] at X85 l85 y85 z85 st85 hQ85
  subst l85 y85 z85
  obtain ⟨rfl, N85q, eq85⟩ := hQ85
  have e85 : T85.heap = T82.heap := eq85
  have N85 := Fr.app N84 N85q
  refine own_go (fun _ k => st85 _ k) ?_
  show own_Ends _ _ _ _ _ _ _ (T85.setTop (mkF m 278 #[.val (.int p0), .val (.int p1), .val (.int p2), .val (.long q3), .second, .val (.long q4), .second, .val (.int p5), .val (.ref b1), .val (.ref b34), .val (.int zi), .val (.int zj), .val (.long zd), .second, .val (.int zm), .val (.int (1 : Int32)), .val (.int zk), .val (.int zq), .val (.int (1 : Int32)), .val (.int za), .val (.int zc), .val (.int zlo), .unset, .unset, .unset, .unset, .unset, .unset, .unset, .unset, .unset, .unset, .unset, .unset, .unset, .unset, .unset, .unset, .unset] [(.int (fmaxI za zc))]))
  refine own_go (fun _ k => XS.istore X85.here hx rfl (hb hby at_278) rfl (l' := #[.val (.int p0), .val (.int p1), .val (.int p2), .val (.long q3), .second, .val (.long q4), .second, .val (.int p5), .val (.ref b1), .val (.ref b34), .val (.int zi), .val (.int zj), .val (.long zd), .second, .val (.int zm), .val (.int (1 : Int32)), .val (.int zk), .val (.int zq), .val (.int (1 : Int32)), .val (.int za), .val (.int zc), .val (.int zlo), .val (.int (fmaxI za zc)), .unset, .unset, .unset, .unset, .unset, .unset, .unset, .unset, .unset, .unset, .unset, .unset, .unset, .unset, .unset, .unset]) rfl k) ?_
  suffices hjzhi : ∀ zhi : Int32, zhi = (fmaxI za zc) → own_Ends p e below s (Q0 Z p0 p1 p2 q3 q4 p5 h0 n0) 32 192 (T85.setTop (mkF m 280 #[.val (.int p0), .val (.int p1), .val (.int p2), .val (.long q3), .second, .val (.long q4), .second, .val (.int p5), .val (.ref b1), .val (.ref b34), .val (.int zi), .val (.int zj), .val (.long zd), .second, .val (.int zm), .val (.int (1 : Int32)), .val (.int zk), .val (.int zq), .val (.int (1 : Int32)), .val (.int za), .val (.int zc), .val (.int zlo), .val (.int zhi), .unset, .unset, .unset, .unset, .unset, .unset, .unset, .unset, .unset, .unset, .unset, .unset, .unset, .unset, .unset, .unset] [])) by exact hjzhi _ rfl
  intro zhi hzhi
  have hC := own_mnmx hza hzc hzlo hzhi
  show own_Ends _ _ _ _ _ _ _ (T85.setTop (mkF m 280 #[.val (.int p0), .val (.int p1), .val (.int p2), .val (.long q3), .second, .val (.long q4), .second, .val (.int p5), .val (.ref b1), .val (.ref b34), .val (.int zi), .val (.int zj), .val (.long zd), .second, .val (.int zm), .val (.int (1 : Int32)), .val (.int zk), .val (.int zq), .val (.int (1 : Int32)), .val (.int za), .val (.int zc), .val (.int zlo), .val (.int zhi), .unset, .unset, .unset, .unset, .unset, .unset, .unset, .unset, .unset, .unset, .unset, .unset, .unset, .unset, .unset, .unset] []))
  refine own_go (fun _ k => XS.lloadN X85.here hx rfl (hb hby at_280) rfl k) ?_
  show own_Ends _ _ _ _ _ _ _ (T85.setTop (mkF m 281 #[.val (.int p0), .val (.int p1), .val (.int p2), .val (.long q3), .second, .val (.long q4), .second, .val (.int p5), .val (.ref b1), .val (.ref b34), .val (.int zi), .val (.int zj), .val (.long zd), .second, .val (.int zm), .val (.int (1 : Int32)), .val (.int zk), .val (.int zq), .val (.int (1 : Int32)), .val (.int za), .val (.int zc), .val (.int zlo), .val (.int zhi), .unset, .unset, .unset, .unset, .unset, .unset, .unset, .unset, .unset, .unset, .unset, .unset, .unset, .unset, .unset, .unset] [(.long q3)]))
  refine own_go (fun _ k => X85.ldc2Long hx hown (mvT hZ (hw _ (List.mem_of_getElem? (i := 63) rfl))) (g := (mkF m 281 #[.val (.int p0), .val (.int p1), .val (.int p2), .val (.long q3), .second, .val (.long q4), .second, .val (.int p5), .val (.ref b1), .val (.ref b34), .val (.int zi), .val (.int zj), .val (.long zd), .second, .val (.int zm), .val (.int (1 : Int32)), .val (.int zk), .val (.int zq), .val (.int (1 : Int32)), .val (.int za), .val (.int zc), .val (.int zlo), .val (.int zhi), .unset, .unset, .unset, .unset, .unset, .unset, .unset, .unset, .unset, .unset, .unset, .unset, .unset, .unset, .unset, .unset] [(.long q3)])) rfl (hb hby at_281) _ k) ?_
  show own_Ends _ _ _ _ _ _ _ (T85.setTop (mkF m 284 #[.val (.int p0), .val (.int p1), .val (.int p2), .val (.long q3), .second, .val (.long q4), .second, .val (.int p5), .val (.ref b1), .val (.ref b34), .val (.int zi), .val (.int zj), .val (.long zd), .second, .val (.int zm), .val (.int (1 : Int32)), .val (.int zk), .val (.int zq), .val (.int (1 : Int32)), .val (.int za), .val (.int zc), .val (.int zlo), .val (.int zhi), .unset, .unset, .unset, .unset, .unset, .unset, .unset, .unset, .unset, .unset, .unset, .unset, .unset, .unset, .unset, .unset] [(.long (9223372036854775807 : Int64)), (.long q3)]))
  refine own_go (fun _ k => XS.land X85.here hx rfl (hb hby at_284) rfl k) ?_
  show own_Ends _ _ _ _ _ _ _ (T85.setTop (mkF m 285 #[.val (.int p0), .val (.int p1), .val (.int p2), .val (.long q3), .second, .val (.long q4), .second, .val (.int p5), .val (.ref b1), .val (.ref b34), .val (.int zi), .val (.int zj), .val (.long zd), .second, .val (.int zm), .val (.int (1 : Int32)), .val (.int zk), .val (.int zq), .val (.int (1 : Int32)), .val (.int za), .val (.int zc), .val (.int zlo), .val (.int zhi), .unset, .unset, .unset, .unset, .unset, .unset, .unset, .unset, .unset, .unset, .unset, .unset, .unset, .unset, .unset, .unset] [(.long (q3 &&& (9223372036854775807 : Int64)))]))
  refine own_go (fun _ k => XS.lconst X85.here hx rfl (hb hby at_285) k) ?_
  show own_Ends _ _ _ _ _ _ _ (T85.setTop (mkF m 286 #[.val (.int p0), .val (.int p1), .val (.int p2), .val (.long q3), .second, .val (.long q4), .second, .val (.int p5), .val (.ref b1), .val (.ref b34), .val (.int zi), .val (.int zj), .val (.long zd), .second, .val (.int zm), .val (.int (1 : Int32)), .val (.int zk), .val (.int zq), .val (.int (1 : Int32)), .val (.int za), .val (.int zc), .val (.int zlo), .val (.int zhi), .unset, .unset, .unset, .unset, .unset, .unset, .unset, .unset, .unset, .unset, .unset, .unset, .unset, .unset, .unset, .unset] [(.long (1 : Int64)), (.long (q3 &&& (9223372036854775807 : Int64)))]))
  obtain ⟨_, _, ⟨T86, L86, k86, n86⟩, -, X86, ⟨Lc86, hQ86, l86, y86, z86⟩, st86⟩ := Jvm.LawKit.callS X85 hx (y := (⟨"java/lang/Math", "max", "(JJ)J"⟩ : MethodName)) hown (mvT hZ (hw _ (List.mem_of_getElem? (i := 64) rfl))) (mvT hZ (hw _ (List.mem_of_getElem? (i := 65) rfl))) (mvT hZ (hw _ (List.mem_of_getElem? (i := 58) rfl))) (mvT hZ (hw _ (List.mem_of_getElem? (i := 66) rfl))) (by decide) (backOf (W := 0) (rmmaxJ l Z ar hw [] (q3 &&& (9223372036854775807 : Int64)) (1 : Int64) T82.heap n0 F83) hZ (hw _ (List.mem_of_getElem? (i := 66) rfl)) (hw _ (List.mem_of_getElem? (i := 58) rfl)) (by decide) (by decide)) (g := (mkF m 286 #[.val (.int p0), .val (.int p1), .val (.int p2), .val (.long q3), .second, .val (.long q4), .second, .val (.int p5), .val (.ref b1), .val (.ref b34), .val (.int zi), .val (.int zj), .val (.long zd), .second, .val (.int zm), .val (.int (1 : Int32)), .val (.int zk), .val (.int zq), .val (.int (1 : Int32)), .val (.int za), .val (.int zc), .val (.int zlo), .val (.int zhi), .unset, .unset, .unset, .unset, .unset, .unset, .unset, .unset, .unset, .unset, .unset, .unset, .unset, .unset, .unset, .unset] [(.long (1 : Int64)), (.long (q3 &&& (9223372036854775807 : Int64)))])) rfl (by rw [hml]; rfl) (argsL := [(.long (q3 &&& (9223372036854775807 : Int64))), (.long (1 : Int64))]) (rest := []) (lenOf pd0_2 rfl) rfl (by show 2 * 0 + _ ≤ _; exact Nat.le_of_eq rfl) (hb hby at_286) (fun _ _ => ⟨rfl, e85, (by decide : 6 + 0 ≤ _), (by decide : 30 + 0 ≤ _)⟩)
  dsimp only [Pt.U, Pt.locs, Pt.cells, Pt.slots] at X86 l86 y86 z86 st86 hQ86
  subst l86 y86 z86
  obtain ⟨rfl, N86q, eq86⟩ := hQ86
  have e86 : T86.heap = T82.heap := eq86
  have N86 := Fr.app N85 N86q
  refine own_go (fun _ k => st86 _ k) ?_
  show own_Ends _ _ _ _ _ _ _ (T86.setTop (mkF m 289 #[.val (.int p0), .val (.int p1), .val (.int p2), .val (.long q3), .second, .val (.long q4), .second, .val (.int p5), .val (.ref b1), .val (.ref b34), .val (.int zi), .val (.int zj), .val (.long zd), .second, .val (.int zm), .val (.int (1 : Int32)), .val (.int zk), .val (.int zq), .val (.int (1 : Int32)), .val (.int za), .val (.int zc), .val (.int zlo), .val (.int zhi), .unset, .unset, .unset, .unset, .unset, .unset, .unset, .unset, .unset, .unset, .unset, .unset, .unset, .unset, .unset, .unset] [(.long (fmaxJ (q3 &&& (9223372036854775807 : Int64)) (1 : Int64)))]))
  refine own_go (fun _ k => XS.lstore X86.here hx rfl (hb hby at_289) rfl (l' := #[.val (.int p0), .val (.int p1), .val (.int p2), .val (.long q3), .second, .val (.long q4), .second, .val (.int p5), .val (.ref b1), .val (.ref b34), .val (.int zi), .val (.int zj), .val (.long zd), .second, .val (.int zm), .val (.int (1 : Int32)), .val (.int zk), .val (.int zq), .val (.int (1 : Int32)), .val (.int za), .val (.int zc), .val (.int zlo), .val (.int zhi), .val (.long (fmaxJ (q3 &&& (9223372036854775807 : Int64)) (1 : Int64))), .second, .unset, .unset, .unset, .unset, .unset, .unset, .unset, .unset, .unset, .unset, .unset, .unset, .unset, .unset]) rfl k) ?_
  suffices hjzx : ∀ zx : Int64, zx = (fmaxJ (q3 &&& (9223372036854775807 : Int64)) (1 : Int64)) → own_Ends p e below s (Q0 Z p0 p1 p2 q3 q4 p5 h0 n0) 32 192 (T86.setTop (mkF m 291 #[.val (.int p0), .val (.int p1), .val (.int p2), .val (.long q3), .second, .val (.long q4), .second, .val (.int p5), .val (.ref b1), .val (.ref b34), .val (.int zi), .val (.int zj), .val (.long zd), .second, .val (.int zm), .val (.int (1 : Int32)), .val (.int zk), .val (.int zq), .val (.int (1 : Int32)), .val (.int za), .val (.int zc), .val (.int zlo), .val (.int zhi), .val (.long zx), .second, .unset, .unset, .unset, .unset, .unset, .unset, .unset, .unset, .unset, .unset, .unset, .unset, .unset, .unset] [])) by exact hjzx _ rfl
  intro zx hzx
  show own_Ends _ _ _ _ _ _ _ (T86.setTop (mkF m 291 #[.val (.int p0), .val (.int p1), .val (.int p2), .val (.long q3), .second, .val (.long q4), .second, .val (.int p5), .val (.ref b1), .val (.ref b34), .val (.int zi), .val (.int zj), .val (.long zd), .second, .val (.int zm), .val (.int (1 : Int32)), .val (.int zk), .val (.int zq), .val (.int (1 : Int32)), .val (.int za), .val (.int zc), .val (.int zlo), .val (.int zhi), .val (.long zx), .second, .unset, .unset, .unset, .unset, .unset, .unset, .unset, .unset, .unset, .unset, .unset, .unset, .unset, .unset] []))
  refine own_go (fun _ k => XS.lload X86.here hx rfl (hb hby at_291) rfl k) ?_
  show own_Ends _ _ _ _ _ _ _ (T86.setTop (mkF m 293 #[.val (.int p0), .val (.int p1), .val (.int p2), .val (.long q3), .second, .val (.long q4), .second, .val (.int p5), .val (.ref b1), .val (.ref b34), .val (.int zi), .val (.int zj), .val (.long zd), .second, .val (.int zm), .val (.int (1 : Int32)), .val (.int zk), .val (.int zq), .val (.int (1 : Int32)), .val (.int za), .val (.int zc), .val (.int zlo), .val (.int zhi), .val (.long zx), .second, .unset, .unset, .unset, .unset, .unset, .unset, .unset, .unset, .unset, .unset, .unset, .unset, .unset, .unset] [(.long q4)]))
  refine own_go (fun _ k => X86.ldc2Long hx hown (mvT hZ (hw _ (List.mem_of_getElem? (i := 63) rfl))) (g := (mkF m 293 #[.val (.int p0), .val (.int p1), .val (.int p2), .val (.long q3), .second, .val (.long q4), .second, .val (.int p5), .val (.ref b1), .val (.ref b34), .val (.int zi), .val (.int zj), .val (.long zd), .second, .val (.int zm), .val (.int (1 : Int32)), .val (.int zk), .val (.int zq), .val (.int (1 : Int32)), .val (.int za), .val (.int zc), .val (.int zlo), .val (.int zhi), .val (.long zx), .second, .unset, .unset, .unset, .unset, .unset, .unset, .unset, .unset, .unset, .unset, .unset, .unset, .unset, .unset] [(.long q4)])) rfl (hb hby at_293) _ k) ?_
  show own_Ends _ _ _ _ _ _ _ (T86.setTop (mkF m 296 #[.val (.int p0), .val (.int p1), .val (.int p2), .val (.long q3), .second, .val (.long q4), .second, .val (.int p5), .val (.ref b1), .val (.ref b34), .val (.int zi), .val (.int zj), .val (.long zd), .second, .val (.int zm), .val (.int (1 : Int32)), .val (.int zk), .val (.int zq), .val (.int (1 : Int32)), .val (.int za), .val (.int zc), .val (.int zlo), .val (.int zhi), .val (.long zx), .second, .unset, .unset, .unset, .unset, .unset, .unset, .unset, .unset, .unset, .unset, .unset, .unset, .unset, .unset] [(.long (9223372036854775807 : Int64)), (.long q4)]))
  refine own_go (fun _ k => XS.land X86.here hx rfl (hb hby at_296) rfl k) ?_
  show own_Ends _ _ _ _ _ _ _ (T86.setTop (mkF m 297 #[.val (.int p0), .val (.int p1), .val (.int p2), .val (.long q3), .second, .val (.long q4), .second, .val (.int p5), .val (.ref b1), .val (.ref b34), .val (.int zi), .val (.int zj), .val (.long zd), .second, .val (.int zm), .val (.int (1 : Int32)), .val (.int zk), .val (.int zq), .val (.int (1 : Int32)), .val (.int za), .val (.int zc), .val (.int zlo), .val (.int zhi), .val (.long zx), .second, .unset, .unset, .unset, .unset, .unset, .unset, .unset, .unset, .unset, .unset, .unset, .unset, .unset, .unset] [(.long (q4 &&& (9223372036854775807 : Int64)))]))
  refine own_go (fun _ k => XS.lconst X86.here hx rfl (hb hby at_297) k) ?_
  show own_Ends _ _ _ _ _ _ _ (T86.setTop (mkF m 298 #[.val (.int p0), .val (.int p1), .val (.int p2), .val (.long q3), .second, .val (.long q4), .second, .val (.int p5), .val (.ref b1), .val (.ref b34), .val (.int zi), .val (.int zj), .val (.long zd), .second, .val (.int zm), .val (.int (1 : Int32)), .val (.int zk), .val (.int zq), .val (.int (1 : Int32)), .val (.int za), .val (.int zc), .val (.int zlo), .val (.int zhi), .val (.long zx), .second, .unset, .unset, .unset, .unset, .unset, .unset, .unset, .unset, .unset, .unset, .unset, .unset, .unset, .unset] [(.long (1 : Int64)), (.long (q4 &&& (9223372036854775807 : Int64)))]))
  obtain ⟨_, _, ⟨T87, L87, k87, n87⟩, -, X87, ⟨Lc87, hQ87, l87, y87, z87⟩, st87⟩ := Jvm.LawKit.callS X86 hx (y := (⟨"java/lang/Math", "max", "(JJ)J"⟩ : MethodName)) hown (mvT hZ (hw _ (List.mem_of_getElem? (i := 64) rfl))) (mvT hZ (hw _ (List.mem_of_getElem? (i := 65) rfl))) (mvT hZ (hw _ (List.mem_of_getElem? (i := 58) rfl))) (mvT hZ (hw _ (List.mem_of_getElem? (i := 66) rfl))) (by decide) (backOf (W := 0) (rmmaxJ l Z ar hw [] (q4 &&& (9223372036854775807 : Int64)) (1 : Int64) T82.heap n0 F83) hZ (hw _ (List.mem_of_getElem? (i := 66) rfl)) (hw _ (List.mem_of_getElem? (i := 58) rfl)) (by decide) (by decide)) (g := (mkF m 298 #[.val (.int p0), .val (.int p1), .val (.int p2), .val (.long q3), .second, .val (.long q4), .second, .val (.int p5), .val (.ref b1), .val (.ref b34), .val (.int zi), .val (.int zj), .val (.long zd), .second, .val (.int zm), .val (.int (1 : Int32)), .val (.int zk), .val (.int zq), .val (.int (1 : Int32)), .val (.int za), .val (.int zc), .val (.int zlo), .val (.int zhi), .val (.long zx), .second, .unset, .unset, .unset, .unset, .unset, .unset, .unset, .unset, .unset, .unset, .unset, .unset, .unset, .unset] [(.long (1 : Int64)), (.long (q4 &&& (9223372036854775807 : Int64)))])) rfl (by rw [hml]; rfl) (argsL := [(.long (q4 &&& (9223372036854775807 : Int64))), (.long (1 : Int64))]) (rest := []) (lenOf pd0_2 rfl) rfl (by show 2 * 0 + _ ≤ _; exact Nat.le_of_eq rfl) (hb hby at_298) (fun _ _ => ⟨rfl, e86, (by decide : 6 + 0 ≤ _), (by decide : 30 + 0 ≤ _)⟩)
  dsimp only [Pt.U, Pt.locs, Pt.cells, Pt.slots] at X87 l87 y87 z87 st87 hQ87
  subst l87 y87 z87
  obtain ⟨rfl, N87q, eq87⟩ := hQ87
  have e87 : T87.heap = T82.heap := eq87
  have N87 := Fr.app N86 N87q
  refine own_go (fun _ k => st87 _ k) ?_
  show own_Ends _ _ _ _ _ _ _ (T87.setTop (mkF m 301 #[.val (.int p0), .val (.int p1), .val (.int p2), .val (.long q3), .second, .val (.long q4), .second, .val (.int p5), .val (.ref b1), .val (.ref b34), .val (.int zi), .val (.int zj), .val (.long zd), .second, .val (.int zm), .val (.int (1 : Int32)), .val (.int zk), .val (.int zq), .val (.int (1 : Int32)), .val (.int za), .val (.int zc), .val (.int zlo), .val (.int zhi), .val (.long zx), .second, .unset, .unset, .unset, .unset, .unset, .unset, .unset, .unset, .unset, .unset, .unset, .unset, .unset, .unset] [(.long (fmaxJ (q4 &&& (9223372036854775807 : Int64)) (1 : Int64)))]))
  refine own_go (fun _ k => XS.lstore X87.here hx rfl (hb hby at_301) rfl (l' := #[.val (.int p0), .val (.int p1), .val (.int p2), .val (.long q3), .second, .val (.long q4), .second, .val (.int p5), .val (.ref b1), .val (.ref b34), .val (.int zi), .val (.int zj), .val (.long zd), .second, .val (.int zm), .val (.int (1 : Int32)), .val (.int zk), .val (.int zq), .val (.int (1 : Int32)), .val (.int za), .val (.int zc), .val (.int zlo), .val (.int zhi), .val (.long zx), .second, .val (.long (fmaxJ (q4 &&& (9223372036854775807 : Int64)) (1 : Int64))), .second, .unset, .unset, .unset, .unset, .unset, .unset, .unset, .unset, .unset, .unset, .unset, .unset]) rfl k) ?_
  suffices hjzy : ∀ zy : Int64, zy = (fmaxJ (q4 &&& (9223372036854775807 : Int64)) (1 : Int64)) → own_Ends p e below s (Q0 Z p0 p1 p2 q3 q4 p5 h0 n0) 32 192 (T87.setTop (mkF m 303 #[.val (.int p0), .val (.int p1), .val (.int p2), .val (.long q3), .second, .val (.long q4), .second, .val (.int p5), .val (.ref b1), .val (.ref b34), .val (.int zi), .val (.int zj), .val (.long zd), .second, .val (.int zm), .val (.int (1 : Int32)), .val (.int zk), .val (.int zq), .val (.int (1 : Int32)), .val (.int za), .val (.int zc), .val (.int zlo), .val (.int zhi), .val (.long zx), .second, .val (.long zy), .second, .unset, .unset, .unset, .unset, .unset, .unset, .unset, .unset, .unset, .unset, .unset, .unset] [])) by exact hjzy _ rfl
  intro zy hzy
  show own_Ends _ _ _ _ _ _ _ (T87.setTop (mkF m 303 #[.val (.int p0), .val (.int p1), .val (.int p2), .val (.long q3), .second, .val (.long q4), .second, .val (.int p5), .val (.ref b1), .val (.ref b34), .val (.int zi), .val (.int zj), .val (.long zd), .second, .val (.int zm), .val (.int (1 : Int32)), .val (.int zk), .val (.int zq), .val (.int (1 : Int32)), .val (.int za), .val (.int zc), .val (.int zlo), .val (.int zhi), .val (.long zx), .second, .val (.long zy), .second, .unset, .unset, .unset, .unset, .unset, .unset, .unset, .unset, .unset, .unset, .unset, .unset] []))
  refine own_go (fun _ k => XS.lload X87.here hx rfl (hb hby at_303) rfl k) ?_
  show own_Ends _ _ _ _ _ _ _ (T87.setTop (mkF m 305 #[.val (.int p0), .val (.int p1), .val (.int p2), .val (.long q3), .second, .val (.long q4), .second, .val (.int p5), .val (.ref b1), .val (.ref b34), .val (.int zi), .val (.int zj), .val (.long zd), .second, .val (.int zm), .val (.int (1 : Int32)), .val (.int zk), .val (.int zq), .val (.int (1 : Int32)), .val (.int za), .val (.int zc), .val (.int zlo), .val (.int zhi), .val (.long zx), .second, .val (.long zy), .second, .unset, .unset, .unset, .unset, .unset, .unset, .unset, .unset, .unset, .unset, .unset, .unset] [(.long zx)]))
  refine own_go (fun _ k => XS.lload X87.here hx rfl (hb hby at_305) rfl k) ?_
  show own_Ends _ _ _ _ _ _ _ (T87.setTop (mkF m 307 #[.val (.int p0), .val (.int p1), .val (.int p2), .val (.long q3), .second, .val (.long q4), .second, .val (.int p5), .val (.ref b1), .val (.ref b34), .val (.int zi), .val (.int zj), .val (.long zd), .second, .val (.int zm), .val (.int (1 : Int32)), .val (.int zk), .val (.int zq), .val (.int (1 : Int32)), .val (.int za), .val (.int zc), .val (.int zlo), .val (.int zhi), .val (.long zx), .second, .val (.long zy), .second, .unset, .unset, .unset, .unset, .unset, .unset, .unset, .unset, .unset, .unset, .unset, .unset] [(.long zy), (.long zx)]))
  obtain ⟨_, _, ⟨T88, L88, k88, n88⟩, -, X88, ⟨Lc88, hQ88, l88, y88, z88⟩, st88⟩ := Jvm.LawKit.callS X87 hx (y := (⟨"java/lang/Math", "min", "(JJ)J"⟩ : MethodName)) hown (mvT hZ (hw _ (List.mem_of_getElem? (i := 67) rfl))) (mvT hZ (hw _ (List.mem_of_getElem? (i := 68) rfl))) (mvT hZ (hw _ (List.mem_of_getElem? (i := 58) rfl))) (mvT hZ (hw _ (List.mem_of_getElem? (i := 69) rfl))) (by decide) (backOf (W := 0) (rmminJ l Z ar hw [] zx zy T82.heap n0 F83) hZ (hw _ (List.mem_of_getElem? (i := 69) rfl)) (hw _ (List.mem_of_getElem? (i := 58) rfl)) (by decide) (by decide)) (g := (mkF m 307 #[.val (.int p0), .val (.int p1), .val (.int p2), .val (.long q3), .second, .val (.long q4), .second, .val (.int p5), .val (.ref b1), .val (.ref b34), .val (.int zi), .val (.int zj), .val (.long zd), .second, .val (.int zm), .val (.int (1 : Int32)), .val (.int zk), .val (.int zq), .val (.int (1 : Int32)), .val (.int za), .val (.int zc), .val (.int zlo), .val (.int zhi), .val (.long zx), .second, .val (.long zy), .second, .unset, .unset, .unset, .unset, .unset, .unset, .unset, .unset, .unset, .unset, .unset, .unset] [(.long zy), (.long zx)])) rfl (by rw [hml]; rfl) (argsL := [(.long zx), (.long zy)]) (rest := []) (lenOf pd0_2 rfl) rfl (by show 2 * 0 + _ ≤ _; exact Nat.le_of_eq rfl) (hb hby at_307) (fun _ _ => ⟨rfl, e87, (by decide : 6 + 0 ≤ _), (by decide : 30 + 0 ≤ _)⟩)
  dsimp only [Pt.U, Pt.locs, Pt.cells, Pt.slots] at X88 l88 y88 z88 st88 hQ88
  subst l88 y88 z88
  obtain ⟨rfl, N88q, eq88⟩ := hQ88
  have e88 : T88.heap = T82.heap := eq88
  have N88 := Fr.app N87 N88q
  refine own_go (fun _ k => st88 _ k) ?_
  show own_Ends _ _ _ _ _ _ _ (T88.setTop (mkF m 310 #[.val (.int p0), .val (.int p1), .val (.int p2), .val (.long q3), .second, .val (.long q4), .second, .val (.int p5), .val (.ref b1), .val (.ref b34), .val (.int zi), .val (.int zj), .val (.long zd), .second, .val (.int zm), .val (.int (1 : Int32)), .val (.int zk), .val (.int zq), .val (.int (1 : Int32)), .val (.int za), .val (.int zc), .val (.int zlo), .val (.int zhi), .val (.long zx), .second, .val (.long zy), .second, .unset, .unset, .unset, .unset, .unset, .unset, .unset, .unset, .unset, .unset, .unset, .unset] [(.long (fminJ zx zy))]))
  refine own_go (fun _ k => XS.lstore X88.here hx rfl (hb hby at_310) rfl (l' := #[.val (.int p0), .val (.int p1), .val (.int p2), .val (.long q3), .second, .val (.long q4), .second, .val (.int p5), .val (.ref b1), .val (.ref b34), .val (.int zi), .val (.int zj), .val (.long zd), .second, .val (.int zm), .val (.int (1 : Int32)), .val (.int zk), .val (.int zq), .val (.int (1 : Int32)), .val (.int za), .val (.int zc), .val (.int zlo), .val (.int zhi), .val (.long zx), .second, .val (.long zy), .second, .val (.long (fminJ zx zy)), .second, .unset, .unset, .unset, .unset, .unset, .unset, .unset, .unset, .unset, .unset]) rfl k) ?_
  suffices hjzl : ∀ zl : Int64, zl = (fminJ zx zy) → own_Ends p e below s (Q0 Z p0 p1 p2 q3 q4 p5 h0 n0) 32 192 (T88.setTop (mkF m 312 #[.val (.int p0), .val (.int p1), .val (.int p2), .val (.long q3), .second, .val (.long q4), .second, .val (.int p5), .val (.ref b1), .val (.ref b34), .val (.int zi), .val (.int zj), .val (.long zd), .second, .val (.int zm), .val (.int (1 : Int32)), .val (.int zk), .val (.int zq), .val (.int (1 : Int32)), .val (.int za), .val (.int zc), .val (.int zlo), .val (.int zhi), .val (.long zx), .second, .val (.long zy), .second, .val (.long zl), .second, .unset, .unset, .unset, .unset, .unset, .unset, .unset, .unset, .unset, .unset] [])) by exact hjzl _ rfl
  intro zl hzl
  show own_Ends _ _ _ _ _ _ _ (T88.setTop (mkF m 312 #[.val (.int p0), .val (.int p1), .val (.int p2), .val (.long q3), .second, .val (.long q4), .second, .val (.int p5), .val (.ref b1), .val (.ref b34), .val (.int zi), .val (.int zj), .val (.long zd), .second, .val (.int zm), .val (.int (1 : Int32)), .val (.int zk), .val (.int zq), .val (.int (1 : Int32)), .val (.int za), .val (.int zc), .val (.int zlo), .val (.int zhi), .val (.long zx), .second, .val (.long zy), .second, .val (.long zl), .second, .unset, .unset, .unset, .unset, .unset, .unset, .unset, .unset, .unset, .unset] []))
  refine own_go (fun _ k => XS.lload X88.here hx rfl (hb hby at_312) rfl k) ?_
  show own_Ends _ _ _ _ _ _ _ (T88.setTop (mkF m 314 #[.val (.int p0), .val (.int p1), .val (.int p2), .val (.long q3), .second, .val (.long q4), .second, .val (.int p5), .val (.ref b1), .val (.ref b34), .val (.int zi), .val (.int zj), .val (.long zd), .second, .val (.int zm), .val (.int (1 : Int32)), .val (.int zk), .val (.int zq), .val (.int (1 : Int32)), .val (.int za), .val (.int zc), .val (.int zlo), .val (.int zhi), .val (.long zx), .second, .val (.long zy), .second, .val (.long zl), .second, .unset, .unset, .unset, .unset, .unset, .unset, .unset, .unset, .unset, .unset] [(.long zx)]))
  refine own_go (fun _ k => XS.lload X88.here hx rfl (hb hby at_314) rfl k) ?_
  show own_Ends _ _ _ _ _ _ _ (T88.setTop (mkF m 316 #[.val (.int p0), .val (.int p1), .val (.int p2), .val (.long q3), .second, .val (.long q4), .second, .val (.int p5), .val (.ref b1), .val (.ref b34), .val (.int zi), .val (.int zj), .val (.long zd), .second, .val (.int zm), .val (.int (1 : Int32)), .val (.int zk), .val (.int zq), .val (.int (1 : Int32)), .val (.int za), .val (.int zc), .val (.int zlo), .val (.int zhi), .val (.long zx), .second, .val (.long zy), .second, .val (.long zl), .second, .unset, .unset, .unset, .unset, .unset, .unset, .unset, .unset, .unset, .unset] [(.long zy), (.long zx)]))
  obtain ⟨_, _, ⟨T89, L89, k89, n89⟩, -, X89, ⟨Lc89, hQ89, l89, y89, z89⟩, st89⟩ := Jvm.LawKit.callS X88 hx (y := (⟨"java/lang/Math", "max", "(JJ)J"⟩ : MethodName)) hown (mvT hZ (hw _ (List.mem_of_getElem? (i := 64) rfl))) (mvT hZ (hw _ (List.mem_of_getElem? (i := 65) rfl))) (mvT hZ (hw _ (List.mem_of_getElem? (i := 58) rfl))) (mvT hZ (hw _ (List.mem_of_getElem? (i := 66) rfl))) (by decide) (backOf (W := 0) (rmmaxJ l Z ar hw [] zx zy T82.heap n0 F83) hZ (hw _ (List.mem_of_getElem? (i := 66) rfl)) (hw _ (List.mem_of_getElem? (i := 58) rfl)) (by decide) (by decide)) (g := (mkF m 316 #[.val (.int p0), .val (.int p1), .val (.int p2), .val (.long q3), .second, .val (.long q4), .second, .val (.int p5), .val (.ref b1), .val (.ref b34), .val (.int zi), .val (.int zj), .val (.long zd), .second, .val (.int zm), .val (.int (1 : Int32)), .val (.int zk), .val (.int zq), .val (.int (1 : Int32)), .val (.int za), .val (.int zc), .val (.int zlo), .val (.int zhi), .val (.long zx), .second, .val (.long zy), .second, .val (.long zl), .second, .unset, .unset, .unset, .unset, .unset, .unset, .unset, .unset, .unset, .unset] [(.long zy), (.long zx)])) rfl (by rw [hml]; rfl) (argsL := [(.long zx), (.long zy)]) (rest := []) (lenOf pd0_2 rfl) rfl (by show 2 * 0 + _ ≤ _; exact Nat.le_of_eq rfl) (hb hby at_316) (fun _ _ => ⟨rfl, e88, (by decide : 6 + 0 ≤ _), (by decide : 30 + 0 ≤ _)⟩)
  dsimp only [Pt.U, Pt.locs, Pt.cells, Pt.slots] at X89 l89 y89 z89 st89 hQ89
  subst l89 y89 z89
  obtain ⟨rfl, N89q, eq89⟩ := hQ89
  have e89 : T89.heap = T82.heap := eq89
  have N89 := Fr.app N88 N89q
  refine own_go (fun _ k => st89 _ k) ?_
  show own_Ends _ _ _ _ _ _ _ (T89.setTop (mkF m 319 #[.val (.int p0), .val (.int p1), .val (.int p2), .val (.long q3), .second, .val (.long q4), .second, .val (.int p5), .val (.ref b1), .val (.ref b34), .val (.int zi), .val (.int zj), .val (.long zd), .second, .val (.int zm), .val (.int (1 : Int32)), .val (.int zk), .val (.int zq), .val (.int (1 : Int32)), .val (.int za), .val (.int zc), .val (.int zlo), .val (.int zhi), .val (.long zx), .second, .val (.long zy), .second, .val (.long zl), .second, .unset, .unset, .unset, .unset, .unset, .unset, .unset, .unset, .unset, .unset] [(.long (fmaxJ zx zy))]))
  refine own_go (fun _ k => XS.lstore X89.here hx rfl (hb hby at_319) rfl (l' := #[.val (.int p0), .val (.int p1), .val (.int p2), .val (.long q3), .second, .val (.long q4), .second, .val (.int p5), .val (.ref b1), .val (.ref b34), .val (.int zi), .val (.int zj), .val (.long zd), .second, .val (.int zm), .val (.int (1 : Int32)), .val (.int zk), .val (.int zq), .val (.int (1 : Int32)), .val (.int za), .val (.int zc), .val (.int zlo), .val (.int zhi), .val (.long zx), .second, .val (.long zy), .second, .val (.long zl), .second, .val (.long (fmaxJ zx zy)), .second, .unset, .unset, .unset, .unset, .unset, .unset, .unset, .unset]) rfl k) ?_
  suffices hjzh : ∀ zh : Int64, zh = (fmaxJ zx zy) → own_Ends p e below s (Q0 Z p0 p1 p2 q3 q4 p5 h0 n0) 32 192 (T89.setTop (mkF m 321 #[.val (.int p0), .val (.int p1), .val (.int p2), .val (.long q3), .second, .val (.long q4), .second, .val (.int p5), .val (.ref b1), .val (.ref b34), .val (.int zi), .val (.int zj), .val (.long zd), .second, .val (.int zm), .val (.int (1 : Int32)), .val (.int zk), .val (.int zq), .val (.int (1 : Int32)), .val (.int za), .val (.int zc), .val (.int zlo), .val (.int zhi), .val (.long zx), .second, .val (.long zy), .second, .val (.long zl), .second, .val (.long zh), .second, .unset, .unset, .unset, .unset, .unset, .unset, .unset, .unset] [])) by exact hjzh _ rfl
  intro zh hzh
  have hN := own_nn2 (own_ln hzx) (own_ln hzy) hzl hzh
  have hNh := Int.lt_of_lt_of_le hN.1 hN.2
  show own_Ends _ _ _ _ _ _ _ (T89.setTop (mkF m 321 #[.val (.int p0), .val (.int p1), .val (.int p2), .val (.long q3), .second, .val (.long q4), .second, .val (.int p5), .val (.ref b1), .val (.ref b34), .val (.int zi), .val (.int zj), .val (.long zd), .second, .val (.int zm), .val (.int (1 : Int32)), .val (.int zk), .val (.int zq), .val (.int (1 : Int32)), .val (.int za), .val (.int zc), .val (.int zlo), .val (.int zhi), .val (.long zx), .second, .val (.long zy), .second, .val (.long zl), .second, .val (.long zh), .second, .unset, .unset, .unset, .unset, .unset, .unset, .unset, .unset] []))
  refine own_go (fun _ k => XS.iload X89.here hx rfl (hb hby at_321) rfl k) ?_
  show own_Ends _ _ _ _ _ _ _ (T89.setTop (mkF m 323 #[.val (.int p0), .val (.int p1), .val (.int p2), .val (.long q3), .second, .val (.long q4), .second, .val (.int p5), .val (.ref b1), .val (.ref b34), .val (.int zi), .val (.int zj), .val (.long zd), .second, .val (.int zm), .val (.int (1 : Int32)), .val (.int zk), .val (.int zq), .val (.int (1 : Int32)), .val (.int za), .val (.int zc), .val (.int zlo), .val (.int zhi), .val (.long zx), .second, .val (.long zy), .second, .val (.long zl), .second, .val (.long zh), .second, .unset, .unset, .unset, .unset, .unset, .unset, .unset, .unset] [(.int zhi)]))
  refine own_go (fun _ k => XS.lload X89.here hx rfl (hb hby at_323) rfl k) ?_
  show own_Ends _ _ _ _ _ _ _ (T89.setTop (mkF m 325 #[.val (.int p0), .val (.int p1), .val (.int p2), .val (.long q3), .second, .val (.long q4), .second, .val (.int p5), .val (.ref b1), .val (.ref b34), .val (.int zi), .val (.int zj), .val (.long zd), .second, .val (.int zm), .val (.int (1 : Int32)), .val (.int zk), .val (.int zq), .val (.int (1 : Int32)), .val (.int za), .val (.int zc), .val (.int zlo), .val (.int zhi), .val (.long zx), .second, .val (.long zy), .second, .val (.long zl), .second, .val (.long zh), .second, .unset, .unset, .unset, .unset, .unset, .unset, .unset, .unset] [(.long zl), (.int zhi)]))
  obtain ⟨_, _, ⟨T90, L90, k90, n90⟩, -, X90, ⟨Lc90, hQ90, l90, y90, z90⟩, st90⟩ := Jvm.LawKit.callS X89 hx (y := (⟨"com/example/octroi/octroi/bench/SentPerSecondPinLaw", "rate", "(IJ)D"⟩ : MethodName)) hown (mvT hZ (hw _ (List.mem_of_getElem? (i := 21) rfl))) (mvT hZ (hw _ (List.mem_of_getElem? (i := 22) rfl))) (mvT hZ (hw _ (List.mem_of_getElem? (i := 23) rfl))) (mvT hZ (hw _ (List.mem_of_getElem? (i := 24) rfl))) (by decide) (backOf (W := 0) (rmrate l Z ar hw [] zhi zl T82.heap n0 F83 hN.1) hZ (hw _ (List.mem_of_getElem? (i := 24) rfl)) (hw _ (List.mem_of_getElem? (i := 23) rfl)) (by decide) (by decide)) (g := (mkF m 325 #[.val (.int p0), .val (.int p1), .val (.int p2), .val (.long q3), .second, .val (.long q4), .second, .val (.int p5), .val (.ref b1), .val (.ref b34), .val (.int zi), .val (.int zj), .val (.long zd), .second, .val (.int zm), .val (.int (1 : Int32)), .val (.int zk), .val (.int zq), .val (.int (1 : Int32)), .val (.int za), .val (.int zc), .val (.int zlo), .val (.int zhi), .val (.long zx), .second, .val (.long zy), .second, .val (.long zl), .second, .val (.long zh), .second, .unset, .unset, .unset, .unset, .unset, .unset, .unset, .unset] [(.long zl), (.int zhi)])) rfl (by rw [hml]; rfl) (argsL := [(.int zhi), (.long zl)]) (rest := []) (lenOf pd0_0 rfl) rfl (by show 2 * 0 + _ ≤ _; exact Nat.le_of_eq rfl) (hb hby at_325) (fun _ _ => ⟨rfl, e89, (by decide : 6 + 2 ≤ _), (by decide : 30 + 5 ≤ _)⟩)
  dsimp only [Pt.U, Pt.locs, Pt.cells, Pt.slots] at X90 l90 y90 z90 st90 hQ90
  subst l90 y90 z90
  obtain ⟨rfl, N90q, K90⟩ := hQ90
  have N90 := Fr.app N89 N90q
  have F91 : Old Z n0 T90.heap := (F83.keep K90 all0)
  refine own_go (fun _ k => st90 _ k) ?_
  show own_Ends _ _ _ _ _ _ _ (T90.setTop (mkF m 328 #[.val (.int p0), .val (.int p1), .val (.int p2), .val (.long q3), .second, .val (.long q4), .second, .val (.int p5), .val (.ref b1), .val (.ref b34), .val (.int zi), .val (.int zj), .val (.long zd), .second, .val (.int zm), .val (.int (1 : Int32)), .val (.int zk), .val (.int zq), .val (.int (1 : Int32)), .val (.int za), .val (.int zc), .val (.int zlo), .val (.int zhi), .val (.long zx), .second, .val (.long zy), .second, .val (.long zl), .second, .val (.long zh), .second, .unset, .unset, .unset, .unset, .unset, .unset, .unset, .unset] [(.double (frate zhi zl))]))
  refine own_go (fun _ k => XS.dstore X90.here hx rfl (hb hby at_328) rfl (l' := #[.val (.int p0), .val (.int p1), .val (.int p2), .val (.long q3), .second, .val (.long q4), .second, .val (.int p5), .val (.ref b1), .val (.ref b34), .val (.int zi), .val (.int zj), .val (.long zd), .second, .val (.int zm), .val (.int (1 : Int32)), .val (.int zk), .val (.int zq), .val (.int (1 : Int32)), .val (.int za), .val (.int zc), .val (.int zlo), .val (.int zhi), .val (.long zx), .second, .val (.long zy), .second, .val (.long zl), .second, .val (.long zh), .second, .val (.double (frate zhi zl)), .second, .unset, .unset, .unset, .unset, .unset, .unset]) rfl k) ?_
  suffices hjrf : ∀ rf : UInt64, rf = (frate zhi zl) → own_Ends p e below s (Q0 Z p0 p1 p2 q3 q4 p5 h0 n0) 32 192 (T90.setTop (mkF m 330 #[.val (.int p0), .val (.int p1), .val (.int p2), .val (.long q3), .second, .val (.long q4), .second, .val (.int p5), .val (.ref b1), .val (.ref b34), .val (.int zi), .val (.int zj), .val (.long zd), .second, .val (.int zm), .val (.int (1 : Int32)), .val (.int zk), .val (.int zq), .val (.int (1 : Int32)), .val (.int za), .val (.int zc), .val (.int zlo), .val (.int zhi), .val (.long zx), .second, .val (.long zy), .second, .val (.long zl), .second, .val (.long zh), .second, .val (.double rf), .second, .unset, .unset, .unset, .unset, .unset, .unset] [])) by exact hjrf _ rfl
  intro rf hrf
  show own_Ends _ _ _ _ _ _ _ (T90.setTop (mkF m 330 #[.val (.int p0), .val (.int p1), .val (.int p2), .val (.long q3), .second, .val (.long q4), .second, .val (.int p5), .val (.ref b1), .val (.ref b34), .val (.int zi), .val (.int zj), .val (.long zd), .second, .val (.int zm), .val (.int (1 : Int32)), .val (.int zk), .val (.int zq), .val (.int (1 : Int32)), .val (.int za), .val (.int zc), .val (.int zlo), .val (.int zhi), .val (.long zx), .second, .val (.long zy), .second, .val (.long zl), .second, .val (.long zh), .second, .val (.double rf), .second, .unset, .unset, .unset, .unset, .unset, .unset] []))
  refine own_go (fun _ k => XS.iload X90.here hx rfl (hb hby at_330) rfl k) ?_
  show own_Ends _ _ _ _ _ _ _ (T90.setTop (mkF m 332 #[.val (.int p0), .val (.int p1), .val (.int p2), .val (.long q3), .second, .val (.long q4), .second, .val (.int p5), .val (.ref b1), .val (.ref b34), .val (.int zi), .val (.int zj), .val (.long zd), .second, .val (.int zm), .val (.int (1 : Int32)), .val (.int zk), .val (.int zq), .val (.int (1 : Int32)), .val (.int za), .val (.int zc), .val (.int zlo), .val (.int zhi), .val (.long zx), .second, .val (.long zy), .second, .val (.long zl), .second, .val (.long zh), .second, .val (.double rf), .second, .unset, .unset, .unset, .unset, .unset, .unset] [(.int zlo)]))
  refine own_go (fun _ k => XS.lload X90.here hx rfl (hb hby at_332) rfl k) ?_
  show own_Ends _ _ _ _ _ _ _ (T90.setTop (mkF m 334 #[.val (.int p0), .val (.int p1), .val (.int p2), .val (.long q3), .second, .val (.long q4), .second, .val (.int p5), .val (.ref b1), .val (.ref b34), .val (.int zi), .val (.int zj), .val (.long zd), .second, .val (.int zm), .val (.int (1 : Int32)), .val (.int zk), .val (.int zq), .val (.int (1 : Int32)), .val (.int za), .val (.int zc), .val (.int zlo), .val (.int zhi), .val (.long zx), .second, .val (.long zy), .second, .val (.long zl), .second, .val (.long zh), .second, .val (.double rf), .second, .unset, .unset, .unset, .unset, .unset, .unset] [(.long zl), (.int zlo)]))
  obtain ⟨_, _, ⟨T92, L92, k92, n92⟩, -, X92, ⟨Lc92, hQ92, l92, y92, z92⟩, st92⟩ := Jvm.LawKit.callS X90 hx (y := (⟨"com/example/octroi/octroi/bench/SentPerSecondPinLaw", "rate", "(IJ)D"⟩ : MethodName)) hown (mvT hZ (hw _ (List.mem_of_getElem? (i := 21) rfl))) (mvT hZ (hw _ (List.mem_of_getElem? (i := 22) rfl))) (mvT hZ (hw _ (List.mem_of_getElem? (i := 23) rfl))) (mvT hZ (hw _ (List.mem_of_getElem? (i := 24) rfl))) (by decide) (backOf (W := 0) (rmrate l Z ar hw [] zlo zl T90.heap n0 F91 hN.1) hZ (hw _ (List.mem_of_getElem? (i := 24) rfl)) (hw _ (List.mem_of_getElem? (i := 23) rfl)) (by decide) (by decide)) (g := (mkF m 334 #[.val (.int p0), .val (.int p1), .val (.int p2), .val (.long q3), .second, .val (.long q4), .second, .val (.int p5), .val (.ref b1), .val (.ref b34), .val (.int zi), .val (.int zj), .val (.long zd), .second, .val (.int zm), .val (.int (1 : Int32)), .val (.int zk), .val (.int zq), .val (.int (1 : Int32)), .val (.int za), .val (.int zc), .val (.int zlo), .val (.int zhi), .val (.long zx), .second, .val (.long zy), .second, .val (.long zl), .second, .val (.long zh), .second, .val (.double rf), .second, .unset, .unset, .unset, .unset, .unset, .unset] [(.long zl), (.int zlo)])) rfl (by rw [hml]; rfl) (argsL := [(.int zlo), (.long zl)]) (rest := []) (lenOf pd0_0 rfl) rfl (by show 2 * 0 + _ ≤ _; exact Nat.le_of_eq rfl) (hb hby at_334) (fun _ _ => ⟨rfl, rfl, (by decide : 8 + 2 ≤ _), (by decide : 35 + 5 ≤ _)⟩)
  dsimp only [Pt.U, Pt.locs, Pt.cells, Pt.slots] at X92 l92 y92 z92 st92 hQ92
  subst l92 y92 z92
  obtain ⟨rfl, N92q, K92⟩ := hQ92
  have N92 := Fr.app N90 N92q
  have F93 : Old Z n0 T92.heap := (F91.keep K92 all0)
  refine own_go (fun _ k => st92 _ k) ?_
  show own_Ends _ _ _ _ _ _ _ (T92.setTop (mkF m 337 #[.val (.int p0), .val (.int p1), .val (.int p2), .val (.long q3), .second, .val (.long q4), .second, .val (.int p5), .val (.ref b1), .val (.ref b34), .val (.int zi), .val (.int zj), .val (.long zd), .second, .val (.int zm), .val (.int (1 : Int32)), .val (.int zk), .val (.int zq), .val (.int (1 : Int32)), .val (.int za), .val (.int zc), .val (.int zlo), .val (.int zhi), .val (.long zx), .second, .val (.long zy), .second, .val (.long zl), .second, .val (.long zh), .second, .val (.double rf), .second, .unset, .unset, .unset, .unset, .unset, .unset] [(.double (frate zlo zl))]))
  refine own_go (fun _ k => XS.dstore X92.here hx rfl (hb hby at_337) rfl (l' := #[.val (.int p0), .val (.int p1), .val (.int p2), .val (.long q3), .second, .val (.long q4), .second, .val (.int p5), .val (.ref b1), .val (.ref b34), .val (.int zi), .val (.int zj), .val (.long zd), .second, .val (.int zm), .val (.int (1 : Int32)), .val (.int zk), .val (.int zq), .val (.int (1 : Int32)), .val (.int za), .val (.int zc), .val (.int zlo), .val (.int zhi), .val (.long zx), .second, .val (.long zy), .second, .val (.long zl), .second, .val (.long zh), .second, .val (.double rf), .second, .val (.double (frate zlo zl)), .second, .unset, .unset, .unset, .unset]) rfl k) ?_
  suffices hjrv : ∀ rv : UInt64, rv = (frate zlo zl) → own_Ends p e below s (Q0 Z p0 p1 p2 q3 q4 p5 h0 n0) 32 192 (T92.setTop (mkF m 339 #[.val (.int p0), .val (.int p1), .val (.int p2), .val (.long q3), .second, .val (.long q4), .second, .val (.int p5), .val (.ref b1), .val (.ref b34), .val (.int zi), .val (.int zj), .val (.long zd), .second, .val (.int zm), .val (.int (1 : Int32)), .val (.int zk), .val (.int zq), .val (.int (1 : Int32)), .val (.int za), .val (.int zc), .val (.int zlo), .val (.int zhi), .val (.long zx), .second, .val (.long zy), .second, .val (.long zl), .second, .val (.long zh), .second, .val (.double rf), .second, .val (.double rv), .second, .unset, .unset, .unset, .unset] [])) by exact hjrv _ rfl
  intro rv hrv
  show own_Ends _ _ _ _ _ _ _ (T92.setTop (mkF m 339 #[.val (.int p0), .val (.int p1), .val (.int p2), .val (.long q3), .second, .val (.long q4), .second, .val (.int p5), .val (.ref b1), .val (.ref b34), .val (.int zi), .val (.int zj), .val (.long zd), .second, .val (.int zm), .val (.int (1 : Int32)), .val (.int zk), .val (.int zq), .val (.int (1 : Int32)), .val (.int za), .val (.int zc), .val (.int zlo), .val (.int zhi), .val (.long zx), .second, .val (.long zy), .second, .val (.long zl), .second, .val (.long zh), .second, .val (.double rf), .second, .val (.double rv), .second, .unset, .unset, .unset, .unset] []))
  refine own_go (fun _ k => XS.iload X92.here hx rfl (hb hby at_339) rfl k) ?_
  show own_Ends _ _ _ _ _ _ _ (T92.setTop (mkF m 341 #[.val (.int p0), .val (.int p1), .val (.int p2), .val (.long q3), .second, .val (.long q4), .second, .val (.int p5), .val (.ref b1), .val (.ref b34), .val (.int zi), .val (.int zj), .val (.long zd), .second, .val (.int zm), .val (.int (1 : Int32)), .val (.int zk), .val (.int zq), .val (.int (1 : Int32)), .val (.int za), .val (.int zc), .val (.int zlo), .val (.int zhi), .val (.long zx), .second, .val (.long zy), .second, .val (.long zl), .second, .val (.long zh), .second, .val (.double rf), .second, .val (.double rv), .second, .unset, .unset, .unset, .unset] [(.int zhi)]))
  refine own_go (fun _ k => XS.lload X92.here hx rfl (hb hby at_341) rfl k) ?_
  show own_Ends _ _ _ _ _ _ _ (T92.setTop (mkF m 343 #[.val (.int p0), .val (.int p1), .val (.int p2), .val (.long q3), .second, .val (.long q4), .second, .val (.int p5), .val (.ref b1), .val (.ref b34), .val (.int zi), .val (.int zj), .val (.long zd), .second, .val (.int zm), .val (.int (1 : Int32)), .val (.int zk), .val (.int zq), .val (.int (1 : Int32)), .val (.int za), .val (.int zc), .val (.int zlo), .val (.int zhi), .val (.long zx), .second, .val (.long zy), .second, .val (.long zl), .second, .val (.long zh), .second, .val (.double rf), .second, .val (.double rv), .second, .unset, .unset, .unset, .unset] [(.long zh), (.int zhi)]))
  obtain ⟨_, _, ⟨T94, L94, k94, n94⟩, -, X94, ⟨Lc94, hQ94, l94, y94, z94⟩, st94⟩ := Jvm.LawKit.callS X92 hx (y := (⟨"com/example/octroi/octroi/bench/SentPerSecondPinLaw", "rate", "(IJ)D"⟩ : MethodName)) hown (mvT hZ (hw _ (List.mem_of_getElem? (i := 21) rfl))) (mvT hZ (hw _ (List.mem_of_getElem? (i := 22) rfl))) (mvT hZ (hw _ (List.mem_of_getElem? (i := 23) rfl))) (mvT hZ (hw _ (List.mem_of_getElem? (i := 24) rfl))) (by decide) (backOf (W := 0) (rmrate l Z ar hw [] zhi zh T92.heap n0 F93 hNh) hZ (hw _ (List.mem_of_getElem? (i := 24) rfl)) (hw _ (List.mem_of_getElem? (i := 23) rfl)) (by decide) (by decide)) (g := (mkF m 343 #[.val (.int p0), .val (.int p1), .val (.int p2), .val (.long q3), .second, .val (.long q4), .second, .val (.int p5), .val (.ref b1), .val (.ref b34), .val (.int zi), .val (.int zj), .val (.long zd), .second, .val (.int zm), .val (.int (1 : Int32)), .val (.int zk), .val (.int zq), .val (.int (1 : Int32)), .val (.int za), .val (.int zc), .val (.int zlo), .val (.int zhi), .val (.long zx), .second, .val (.long zy), .second, .val (.long zl), .second, .val (.long zh), .second, .val (.double rf), .second, .val (.double rv), .second, .unset, .unset, .unset, .unset] [(.long zh), (.int zhi)])) rfl (by rw [hml]; rfl) (argsL := [(.int zhi), (.long zh)]) (rest := []) (lenOf pd0_0 rfl) rfl (by show 2 * 0 + _ ≤ _; exact Nat.le_of_eq rfl) (hb hby at_343) (fun _ _ => ⟨rfl, rfl, (by decide : 10 + 2 ≤ _), (by decide : 40 + 5 ≤ _)⟩)
  dsimp only [Pt.U, Pt.locs, Pt.cells, Pt.slots] at X94 l94 y94 z94 st94 hQ94
  subst l94 y94 z94
  obtain ⟨rfl, N94q, K94⟩ := hQ94
  have N94 := Fr.app N92 N94q
  have F95 : Old Z n0 T94.heap := (F93.keep K94 all0)
  refine own_go (fun _ k => st94 _ k) ?_
  show own_Ends _ _ _ _ _ _ _ (T94.setTop (mkF m 346 #[.val (.int p0), .val (.int p1), .val (.int p2), .val (.long q3), .second, .val (.long q4), .second, .val (.int p5), .val (.ref b1), .val (.ref b34), .val (.int zi), .val (.int zj), .val (.long zd), .second, .val (.int zm), .val (.int (1 : Int32)), .val (.int zk), .val (.int zq), .val (.int (1 : Int32)), .val (.int za), .val (.int zc), .val (.int zlo), .val (.int zhi), .val (.long zx), .second, .val (.long zy), .second, .val (.long zl), .second, .val (.long zh), .second, .val (.double rf), .second, .val (.double rv), .second, .unset, .unset, .unset, .unset] [(.double (frate zhi zh))]))
  refine own_go (fun _ k => XS.dstore X94.here hx rfl (hb hby at_346) rfl (l' := #[.val (.int p0), .val (.int p1), .val (.int p2), .val (.long q3), .second, .val (.long q4), .second, .val (.int p5), .val (.ref b1), .val (.ref b34), .val (.int zi), .val (.int zj), .val (.long zd), .second, .val (.int zm), .val (.int (1 : Int32)), .val (.int zk), .val (.int zq), .val (.int (1 : Int32)), .val (.int za), .val (.int zc), .val (.int zlo), .val (.int zhi), .val (.long zx), .second, .val (.long zy), .second, .val (.long zl), .second, .val (.long zh), .second, .val (.double rf), .second, .val (.double rv), .second, .val (.double (frate zhi zh)), .second, .unset, .unset]) rfl k) ?_
  suffices hjrs : ∀ rs : UInt64, rs = (frate zhi zh) → own_Ends p e below s (Q0 Z p0 p1 p2 q3 q4 p5 h0 n0) 32 192 (T94.setTop (mkF m 348 #[.val (.int p0), .val (.int p1), .val (.int p2), .val (.long q3), .second, .val (.long q4), .second, .val (.int p5), .val (.ref b1), .val (.ref b34), .val (.int zi), .val (.int zj), .val (.long zd), .second, .val (.int zm), .val (.int (1 : Int32)), .val (.int zk), .val (.int zq), .val (.int (1 : Int32)), .val (.int za), .val (.int zc), .val (.int zlo), .val (.int zhi), .val (.long zx), .second, .val (.long zy), .second, .val (.long zl), .second, .val (.long zh), .second, .val (.double rf), .second, .val (.double rv), .second, .val (.double rs), .second, .unset, .unset] [])) by exact hjrs _ rfl
  intro rs hrs
  show own_Ends _ _ _ _ _ _ _ (T94.setTop (mkF m 348 #[.val (.int p0), .val (.int p1), .val (.int p2), .val (.long q3), .second, .val (.long q4), .second, .val (.int p5), .val (.ref b1), .val (.ref b34), .val (.int zi), .val (.int zj), .val (.long zd), .second, .val (.int zm), .val (.int (1 : Int32)), .val (.int zk), .val (.int zq), .val (.int (1 : Int32)), .val (.int za), .val (.int zc), .val (.int zlo), .val (.int zhi), .val (.long zx), .second, .val (.long zy), .second, .val (.long zl), .second, .val (.long zh), .second, .val (.double rf), .second, .val (.double rv), .second, .val (.double rs), .second, .unset, .unset] []))
  refine own_go (fun _ k => XS.dload X94.here hx rfl (hb hby at_348) rfl k) ?_
  show own_Ends _ _ _ _ _ _ _ (T94.setTop (mkF m 350 #[.val (.int p0), .val (.int p1), .val (.int p2), .val (.long q3), .second, .val (.long q4), .second, .val (.int p5), .val (.ref b1), .val (.ref b34), .val (.int zi), .val (.int zj), .val (.long zd), .second, .val (.int zm), .val (.int (1 : Int32)), .val (.int zk), .val (.int zq), .val (.int (1 : Int32)), .val (.int za), .val (.int zc), .val (.int zlo), .val (.int zhi), .val (.long zx), .second, .val (.long zy), .second, .val (.long zl), .second, .val (.long zh), .second, .val (.double rf), .second, .val (.double rv), .second, .val (.double rs), .second, .unset, .unset] [(.double rv)]))
  refine own_go (fun _ k => XS.dload X94.here hx rfl (hb hby at_350) rfl k) ?_
  show own_Ends _ _ _ _ _ _ _ (T94.setTop (mkF m 352 #[.val (.int p0), .val (.int p1), .val (.int p2), .val (.long q3), .second, .val (.long q4), .second, .val (.int p5), .val (.ref b1), .val (.ref b34), .val (.int zi), .val (.int zj), .val (.long zd), .second, .val (.int zm), .val (.int (1 : Int32)), .val (.int zk), .val (.int zq), .val (.int (1 : Int32)), .val (.int za), .val (.int zc), .val (.int zlo), .val (.int zhi), .val (.long zx), .second, .val (.long zy), .second, .val (.long zl), .second, .val (.long zh), .second, .val (.double rf), .second, .val (.double rv), .second, .val (.double rs), .second, .unset, .unset] [(.double rf), (.double rv)]))
  refine own_go (fun _ k => XS.dcmpS X94.here hx rfl (hb hby at_352) rfl rfl k) ?_
  show own_Ends _ _ _ _ _ _ _ (T94.setTop (mkF m 353 #[.val (.int p0), .val (.int p1), .val (.int p2), .val (.long q3), .second, .val (.long q4), .second, .val (.int p5), .val (.ref b1), .val (.ref b34), .val (.int zi), .val (.int zj), .val (.long zd), .second, .val (.int zm), .val (.int (1 : Int32)), .val (.int zk), .val (.int zq), .val (.int (1 : Int32)), .val (.int za), .val (.int zc), .val (.int zlo), .val (.int zhi), .val (.long zx), .second, .val (.long zy), .second, .val (.long zl), .second, .val (.long zh), .second, .val (.double rf), .second, .val (.double rv), .second, .val (.double rs), .second, .unset, .unset] [(.int (cmpValue (FP.dcmp rv rf) .g))]))
  refine own_go (fun _ k => XS.ifNo X94.here hx rfl (hb hby at_353) rfl ((if0 _ _).trans (flt (own_m1 hC hN hrv hrf)).2.2.1) k) ?_
  show own_Ends _ _ _ _ _ _ _ (T94.setTop (mkF m 356 #[.val (.int p0), .val (.int p1), .val (.int p2), .val (.long q3), .second, .val (.long q4), .second, .val (.int p5), .val (.ref b1), .val (.ref b34), .val (.int zi), .val (.int zj), .val (.long zd), .second, .val (.int zm), .val (.int (1 : Int32)), .val (.int zk), .val (.int zq), .val (.int (1 : Int32)), .val (.int za), .val (.int zc), .val (.int zlo), .val (.int zhi), .val (.long zx), .second, .val (.long zy), .second, .val (.long zl), .second, .val (.long zh), .second, .val (.double rf), .second, .val (.double rv), .second, .val (.double rs), .second, .unset, .unset] []))
  refine own_go (fun _ k => XS.dload X94.here hx rfl (hb hby at_356) rfl k) ?_
  show own_Ends _ _ _ _ _ _ _ (T94.setTop (mkF m 358 #[.val (.int p0), .val (.int p1), .val (.int p2), .val (.long q3), .second, .val (.long q4), .second, .val (.int p5), .val (.ref b1), .val (.ref b34), .val (.int zi), .val (.int zj), .val (.long zd), .second, .val (.int zm), .val (.int (1 : Int32)), .val (.int zk), .val (.int zq), .val (.int (1 : Int32)), .val (.int za), .val (.int zc), .val (.int zlo), .val (.int zhi), .val (.long zx), .second, .val (.long zy), .second, .val (.long zl), .second, .val (.long zh), .second, .val (.double rf), .second, .val (.double rv), .second, .val (.double rs), .second, .unset, .unset] [(.double rs)]))
  refine own_go (fun _ k => XS.dload X94.here hx rfl (hb hby at_358) rfl k) ?_
  show own_Ends _ _ _ _ _ _ _ (T94.setTop (mkF m 360 #[.val (.int p0), .val (.int p1), .val (.int p2), .val (.long q3), .second, .val (.long q4), .second, .val (.int p5), .val (.ref b1), .val (.ref b34), .val (.int zi), .val (.int zj), .val (.long zd), .second, .val (.int zm), .val (.int (1 : Int32)), .val (.int zk), .val (.int zq), .val (.int (1 : Int32)), .val (.int za), .val (.int zc), .val (.int zlo), .val (.int zhi), .val (.long zx), .second, .val (.long zy), .second, .val (.long zl), .second, .val (.long zh), .second, .val (.double rf), .second, .val (.double rv), .second, .val (.double rs), .second, .unset, .unset] [(.double rf), (.double rs)]))
  refine own_go (fun _ k => XS.dcmpS X94.here hx rfl (hb hby at_360) rfl rfl k) ?_
  show own_Ends _ _ _ _ _ _ _ (T94.setTop (mkF m 361 #[.val (.int p0), .val (.int p1), .val (.int p2), .val (.long q3), .second, .val (.long q4), .second, .val (.int p5), .val (.ref b1), .val (.ref b34), .val (.int zi), .val (.int zj), .val (.long zd), .second, .val (.int zm), .val (.int (1 : Int32)), .val (.int zk), .val (.int zq), .val (.int (1 : Int32)), .val (.int za), .val (.int zc), .val (.int zlo), .val (.int zhi), .val (.long zx), .second, .val (.long zy), .second, .val (.long zl), .second, .val (.long zh), .second, .val (.double rf), .second, .val (.double rv), .second, .val (.double rs), .second, .unset, .unset] [(.int (cmpValue (FP.dcmp rs rf) .g))]))
  refine own_go (fun _ k => XS.ifNo X94.here hx rfl (hb hby at_361) rfl ((if0 _ _).trans (flt (own_m2 hC hN hrs hrf)).2.2.1) k) ?_
  show own_Ends _ _ _ _ _ _ _ (T94.setTop (mkF m 364 #[.val (.int p0), .val (.int p1), .val (.int p2), .val (.long q3), .second, .val (.long q4), .second, .val (.int p5), .val (.ref b1), .val (.ref b34), .val (.int zi), .val (.int zj), .val (.long zd), .second, .val (.int zm), .val (.int (1 : Int32)), .val (.int zk), .val (.int zq), .val (.int (1 : Int32)), .val (.int za), .val (.int zc), .val (.int zlo), .val (.int zhi), .val (.long zx), .second, .val (.long zy), .second, .val (.long zl), .second, .val (.long zh), .second, .val (.double rf), .second, .val (.double rv), .second, .val (.double rs), .second, .unset, .unset] []))
  refine own_go (fun _ k => XS.iconst X94.here hx rfl (hb hby at_364) k) ?_
  show own_Ends _ _ _ _ _ _ _ (T94.setTop (mkF m 365 #[.val (.int p0), .val (.int p1), .val (.int p2), .val (.long q3), .second, .val (.long q4), .second, .val (.int p5), .val (.ref b1), .val (.ref b34), .val (.int zi), .val (.int zj), .val (.long zd), .second, .val (.int zm), .val (.int (1 : Int32)), .val (.int zk), .val (.int zq), .val (.int (1 : Int32)), .val (.int za), .val (.int zc), .val (.int zlo), .val (.int zhi), .val (.long zx), .second, .val (.long zy), .second, .val (.long zl), .second, .val (.long zh), .second, .val (.double rf), .second, .val (.double rv), .second, .val (.double rs), .second, .unset, .unset] [(.int (1 : Int32))]))
  refine own_go (fun _ k => XS.goto X94.here hx rfl (pc0 := 365) (pc' := 369) rfl (hb hby at_365) (by decide) (by decide) k) ?_
  show own_Ends _ _ _ _ _ _ _ (T94.setTop (mkF m 369 #[.val (.int p0), .val (.int p1), .val (.int p2), .val (.long q3), .second, .val (.long q4), .second, .val (.int p5), .val (.ref b1), .val (.ref b34), .val (.int zi), .val (.int zj), .val (.long zd), .second, .val (.int zm), .val (.int (1 : Int32)), .val (.int zk), .val (.int zq), .val (.int (1 : Int32)), .val (.int za), .val (.int zc), .val (.int zlo), .val (.int zhi), .val (.long zx), .second, .val (.long zy), .second, .val (.long zl), .second, .val (.long zh), .second, .val (.double rf), .second, .val (.double rv), .second, .val (.double rs), .second, .unset, .unset] [(.int (1 : Int32))]))
  refine own_go (fun _ k => XS.istore X94.here hx rfl (hb hby at_369) rfl (l' := #[.val (.int p0), .val (.int p1), .val (.int p2), .val (.long q3), .second, .val (.long q4), .second, .val (.int p5), .val (.ref b1), .val (.ref b34), .val (.int zi), .val (.int zj), .val (.long zd), .second, .val (.int zm), .val (.int (1 : Int32)), .val (.int zk), .val (.int zq), .val (.int (1 : Int32)), .val (.int za), .val (.int zc), .val (.int zlo), .val (.int zhi), .val (.long zx), .second, .val (.long zy), .second, .val (.long zl), .second, .val (.long zh), .second, .val (.double rf), .second, .val (.double rv), .second, .val (.double rs), .second, .val (.int (1 : Int32)), .unset]) rfl k) ?_
  show own_Ends _ _ _ _ _ _ _ (T94.setTop (mkF m 371 #[.val (.int p0), .val (.int p1), .val (.int p2), .val (.long q3), .second, .val (.long q4), .second, .val (.int p5), .val (.ref b1), .val (.ref b34), .val (.int zi), .val (.int zj), .val (.long zd), .second, .val (.int zm), .val (.int (1 : Int32)), .val (.int zk), .val (.int zq), .val (.int (1 : Int32)), .val (.int za), .val (.int zc), .val (.int zlo), .val (.int zhi), .val (.long zx), .second, .val (.long zy), .second, .val (.long zl), .second, .val (.long zh), .second, .val (.double rf), .second, .val (.double rv), .second, .val (.double rs), .second, .val (.int (1 : Int32)), .unset] []))
  refine own_go (fun _ k => XS.iload X94.here hx rfl (hb hby at_371) rfl k) ?_
  show own_Ends _ _ _ _ _ _ _ (T94.setTop (mkF m 373 #[.val (.int p0), .val (.int p1), .val (.int p2), .val (.long q3), .second, .val (.long q4), .second, .val (.int p5), .val (.ref b1), .val (.ref b34), .val (.int zi), .val (.int zj), .val (.long zd), .second, .val (.int zm), .val (.int (1 : Int32)), .val (.int zk), .val (.int zq), .val (.int (1 : Int32)), .val (.int za), .val (.int zc), .val (.int zlo), .val (.int zhi), .val (.long zx), .second, .val (.long zy), .second, .val (.long zl), .second, .val (.long zh), .second, .val (.double rf), .second, .val (.double rv), .second, .val (.double rs), .second, .val (.int (1 : Int32)), .unset] [(.int zhi)]))
  by_cases hc96 : (0 : Int32) < zhi
  · refine own_go (fun _ k => XS.ifNo X94.here hx rfl (hb hby at_373) rfl ((if0 _ _).trans (tlt hc96).2.2.2) k) ?_
    show own_Ends _ _ _ _ _ _ _ (T94.setTop (mkF m 376 #[.val (.int p0), .val (.int p1), .val (.int p2), .val (.long q3), .second, .val (.long q4), .second, .val (.int p5), .val (.ref b1), .val (.ref b34), .val (.int zi), .val (.int zj), .val (.long zd), .second, .val (.int zm), .val (.int (1 : Int32)), .val (.int zk), .val (.int zq), .val (.int (1 : Int32)), .val (.int za), .val (.int zc), .val (.int zlo), .val (.int zhi), .val (.long zx), .second, .val (.long zy), .second, .val (.long zl), .second, .val (.long zh), .second, .val (.double rf), .second, .val (.double rv), .second, .val (.double rs), .second, .val (.int (1 : Int32)), .unset] []))
    refine own_go (fun _ k => XS.iconst X94.here hx rfl (hb hby at_376) k) ?_
    show own_Ends _ _ _ _ _ _ _ (T94.setTop (mkF m 377 #[.val (.int p0), .val (.int p1), .val (.int p2), .val (.long q3), .second, .val (.long q4), .second, .val (.int p5), .val (.ref b1), .val (.ref b34), .val (.int zi), .val (.int zj), .val (.long zd), .second, .val (.int zm), .val (.int (1 : Int32)), .val (.int zk), .val (.int zq), .val (.int (1 : Int32)), .val (.int za), .val (.int zc), .val (.int zlo), .val (.int zhi), .val (.long zx), .second, .val (.long zy), .second, .val (.long zl), .second, .val (.long zh), .second, .val (.double rf), .second, .val (.double rv), .second, .val (.double rs), .second, .val (.int (1 : Int32)), .unset] [(.int (1 : Int32))]))
    refine own_go (fun _ k => XS.goto X94.here hx rfl (pc0 := 377) (pc' := 381) rfl (hb hby at_377) (by decide) (by decide) k) ?_
    show own_Ends _ _ _ _ _ _ _ (T94.setTop (mkF m 381 #[.val (.int p0), .val (.int p1), .val (.int p2), .val (.long q3), .second, .val (.long q4), .second, .val (.int p5), .val (.ref b1), .val (.ref b34), .val (.int zi), .val (.int zj), .val (.long zd), .second, .val (.int zm), .val (.int (1 : Int32)), .val (.int zk), .val (.int zq), .val (.int (1 : Int32)), .val (.int za), .val (.int zc), .val (.int zlo), .val (.int zhi), .val (.long zx), .second, .val (.long zy), .second, .val (.long zl), .second, .val (.long zh), .second, .val (.double rf), .second, .val (.double rv), .second, .val (.double rs), .second, .val (.int (1 : Int32)), .unset] [(.int (1 : Int32))]))
    refine own_go (fun _ k => XS.dload X94.here hx rfl (hb hby at_381) rfl k) ?_
    show own_Ends _ _ _ _ _ _ _ (T94.setTop (mkF m 383 #[.val (.int p0), .val (.int p1), .val (.int p2), .val (.long q3), .second, .val (.long q4), .second, .val (.int p5), .val (.ref b1), .val (.ref b34), .val (.int zi), .val (.int zj), .val (.long zd), .second, .val (.int zm), .val (.int (1 : Int32)), .val (.int zk), .val (.int zq), .val (.int (1 : Int32)), .val (.int za), .val (.int zc), .val (.int zlo), .val (.int zhi), .val (.long zx), .second, .val (.long zy), .second, .val (.long zl), .second, .val (.long zh), .second, .val (.double rf), .second, .val (.double rv), .second, .val (.double rs), .second, .val (.int (1 : Int32)), .unset] [(.double rs), (.int (1 : Int32))]))
    refine own_go (fun _ k => XS.dconst0 X94.here hx rfl (hb hby at_383) (v := (0 : UInt64)) (by decide) k) ?_
    show own_Ends _ _ _ _ _ _ _ (T94.setTop (mkF m 384 #[.val (.int p0), .val (.int p1), .val (.int p2), .val (.long q3), .second, .val (.long q4), .second, .val (.int p5), .val (.ref b1), .val (.ref b34), .val (.int zi), .val (.int zj), .val (.long zd), .second, .val (.int zm), .val (.int (1 : Int32)), .val (.int zk), .val (.int zq), .val (.int (1 : Int32)), .val (.int za), .val (.int zc), .val (.int zlo), .val (.int zhi), .val (.long zx), .second, .val (.long zy), .second, .val (.long zl), .second, .val (.long zh), .second, .val (.double rf), .second, .val (.double rv), .second, .val (.double rs), .second, .val (.int (1 : Int32)), .unset] [(.double (0 : UInt64)), (.double rs), (.int (1 : Int32))]))
    refine own_go (fun _ k => XS.dcmpS X94.here hx rfl (hb hby at_384) rfl rfl k) ?_
    show own_Ends _ _ _ _ _ _ _ (T94.setTop (mkF m 385 #[.val (.int p0), .val (.int p1), .val (.int p2), .val (.long q3), .second, .val (.long q4), .second, .val (.int p5), .val (.ref b1), .val (.ref b34), .val (.int zi), .val (.int zj), .val (.long zd), .second, .val (.int zm), .val (.int (1 : Int32)), .val (.int zk), .val (.int zq), .val (.int (1 : Int32)), .val (.int za), .val (.int zc), .val (.int zlo), .val (.int zhi), .val (.long zx), .second, .val (.long zy), .second, .val (.long zl), .second, .val (.long zh), .second, .val (.double rf), .second, .val (.double rv), .second, .val (.double rs), .second, .val (.int (1 : Int32)), .unset] [(.int (cmpValue (FP.dcmp rs (0 : UInt64)) .l)), (.int (1 : Int32))]))
    refine own_go (fun _ k => XS.ifNo X94.here hx rfl (hb hby at_385) rfl ((if0 _ _).trans (tlt (own_s1 hc96 hNh hrs)).2.2.2) k) ?_
    show own_Ends _ _ _ _ _ _ _ (T94.setTop (mkF m 388 #[.val (.int p0), .val (.int p1), .val (.int p2), .val (.long q3), .second, .val (.long q4), .second, .val (.int p5), .val (.ref b1), .val (.ref b34), .val (.int zi), .val (.int zj), .val (.long zd), .second, .val (.int zm), .val (.int (1 : Int32)), .val (.int zk), .val (.int zq), .val (.int (1 : Int32)), .val (.int za), .val (.int zc), .val (.int zlo), .val (.int zhi), .val (.long zx), .second, .val (.long zy), .second, .val (.long zl), .second, .val (.long zh), .second, .val (.double rf), .second, .val (.double rv), .second, .val (.double rs), .second, .val (.int (1 : Int32)), .unset] [(.int (1 : Int32))]))
    refine own_go (fun _ k => XS.iconst X94.here hx rfl (hb hby at_388) k) ?_
    show own_Ends _ _ _ _ _ _ _ (T94.setTop (mkF m 389 #[.val (.int p0), .val (.int p1), .val (.int p2), .val (.long q3), .second, .val (.long q4), .second, .val (.int p5), .val (.ref b1), .val (.ref b34), .val (.int zi), .val (.int zj), .val (.long zd), .second, .val (.int zm), .val (.int (1 : Int32)), .val (.int zk), .val (.int zq), .val (.int (1 : Int32)), .val (.int za), .val (.int zc), .val (.int zlo), .val (.int zhi), .val (.long zx), .second, .val (.long zy), .second, .val (.long zl), .second, .val (.long zh), .second, .val (.double rf), .second, .val (.double rv), .second, .val (.double rs), .second, .val (.int (1 : Int32)), .unset] [(.int (1 : Int32)), (.int (1 : Int32))]))
    refine own_go (fun _ k => XS.goto X94.here hx rfl (pc0 := 389) (pc' := 393) rfl (hb hby at_389) (by decide) (by decide) k) ?_
    show own_Ends _ _ _ _ _ _ _ (T94.setTop (mkF m 393 #[.val (.int p0), .val (.int p1), .val (.int p2), .val (.long q3), .second, .val (.long q4), .second, .val (.int p5), .val (.ref b1), .val (.ref b34), .val (.int zi), .val (.int zj), .val (.long zd), .second, .val (.int zm), .val (.int (1 : Int32)), .val (.int zk), .val (.int zq), .val (.int (1 : Int32)), .val (.int za), .val (.int zc), .val (.int zlo), .val (.int zhi), .val (.long zx), .second, .val (.long zy), .second, .val (.long zl), .second, .val (.long zh), .second, .val (.double rf), .second, .val (.double rv), .second, .val (.double rs), .second, .val (.int (1 : Int32)), .unset] [(.int (1 : Int32)), (.int (1 : Int32))]))
    refine own_go (fun _ k => XS.icmpNo X94.here hx rfl (hb hby at_393) rfl (teq (by decide)).2 k) ?_
    show own_Ends _ _ _ _ _ _ _ (T94.setTop (mkF m 396 #[.val (.int p0), .val (.int p1), .val (.int p2), .val (.long q3), .second, .val (.long q4), .second, .val (.int p5), .val (.ref b1), .val (.ref b34), .val (.int zi), .val (.int zj), .val (.long zd), .second, .val (.int zm), .val (.int (1 : Int32)), .val (.int zk), .val (.int zq), .val (.int (1 : Int32)), .val (.int za), .val (.int zc), .val (.int zlo), .val (.int zhi), .val (.long zx), .second, .val (.long zy), .second, .val (.long zl), .second, .val (.long zh), .second, .val (.double rf), .second, .val (.double rv), .second, .val (.double rs), .second, .val (.int (1 : Int32)), .unset] []))
    refine own_go (fun _ k => XS.iload X94.here hx rfl (hb hby at_396) rfl k) ?_
    show own_Ends _ _ _ _ _ _ _ (T94.setTop (mkF m 398 #[.val (.int p0), .val (.int p1), .val (.int p2), .val (.long q3), .second, .val (.long q4), .second, .val (.int p5), .val (.ref b1), .val (.ref b34), .val (.int zi), .val (.int zj), .val (.long zd), .second, .val (.int zm), .val (.int (1 : Int32)), .val (.int zk), .val (.int zq), .val (.int (1 : Int32)), .val (.int za), .val (.int zc), .val (.int zlo), .val (.int zhi), .val (.long zx), .second, .val (.long zy), .second, .val (.long zl), .second, .val (.long zh), .second, .val (.double rf), .second, .val (.double rv), .second, .val (.double rs), .second, .val (.int (1 : Int32)), .unset] [(.int zhi)]))
    refine own_go (fun _ k => XS.ifYes X94.here hx rfl (pc0 := 398) (pc' := 405) rfl (hb hby at_398) rfl ((if0 _ _).trans (feq (own_h1 hc96)).2) (by decide) (by decide) k) ?_
    show own_Ends _ _ _ _ _ _ _ (T94.setTop (mkF m 405 #[.val (.int p0), .val (.int p1), .val (.int p2), .val (.long q3), .second, .val (.long q4), .second, .val (.int p5), .val (.ref b1), .val (.ref b34), .val (.int zi), .val (.int zj), .val (.long zd), .second, .val (.int zm), .val (.int (1 : Int32)), .val (.int zk), .val (.int zq), .val (.int (1 : Int32)), .val (.int za), .val (.int zc), .val (.int zlo), .val (.int zhi), .val (.long zx), .second, .val (.long zy), .second, .val (.long zl), .second, .val (.long zh), .second, .val (.double rf), .second, .val (.double rv), .second, .val (.double rs), .second, .val (.int (1 : Int32)), .unset] []))
    refine own_go (fun _ k => XS.iconst X94.here hx rfl (hb hby at_405) k) ?_
    show own_Ends _ _ _ _ _ _ _ (T94.setTop (mkF m 406 #[.val (.int p0), .val (.int p1), .val (.int p2), .val (.long q3), .second, .val (.long q4), .second, .val (.int p5), .val (.ref b1), .val (.ref b34), .val (.int zi), .val (.int zj), .val (.long zd), .second, .val (.int zm), .val (.int (1 : Int32)), .val (.int zk), .val (.int zq), .val (.int (1 : Int32)), .val (.int za), .val (.int zc), .val (.int zlo), .val (.int zhi), .val (.long zx), .second, .val (.long zy), .second, .val (.long zl), .second, .val (.long zh), .second, .val (.double rf), .second, .val (.double rv), .second, .val (.double rs), .second, .val (.int (1 : Int32)), .unset] [(.int (0 : Int32))]))
    refine own_go (fun _ k => XS.dload X94.here hx rfl (hb hby at_406) rfl k) ?_
    show own_Ends _ _ _ _ _ _ _ (T94.setTop (mkF m 408 #[.val (.int p0), .val (.int p1), .val (.int p2), .val (.long q3), .second, .val (.long q4), .second, .val (.int p5), .val (.ref b1), .val (.ref b34), .val (.int zi), .val (.int zj), .val (.long zd), .second, .val (.int zm), .val (.int (1 : Int32)), .val (.int zk), .val (.int zq), .val (.int (1 : Int32)), .val (.int za), .val (.int zc), .val (.int zlo), .val (.int zhi), .val (.long zx), .second, .val (.long zy), .second, .val (.long zl), .second, .val (.long zh), .second, .val (.double rf), .second, .val (.double rv), .second, .val (.double rs), .second, .val (.int (1 : Int32)), .unset] [(.double rs), (.int (0 : Int32))]))
    refine own_go (fun _ k => XS.dconst0 X94.here hx rfl (hb hby at_408) (v := (0 : UInt64)) (by decide) k) ?_
    show own_Ends _ _ _ _ _ _ _ (T94.setTop (mkF m 409 #[.val (.int p0), .val (.int p1), .val (.int p2), .val (.long q3), .second, .val (.long q4), .second, .val (.int p5), .val (.ref b1), .val (.ref b34), .val (.int zi), .val (.int zj), .val (.long zd), .second, .val (.int zm), .val (.int (1 : Int32)), .val (.int zk), .val (.int zq), .val (.int (1 : Int32)), .val (.int za), .val (.int zc), .val (.int zlo), .val (.int zhi), .val (.long zx), .second, .val (.long zy), .second, .val (.long zl), .second, .val (.long zh), .second, .val (.double rf), .second, .val (.double rv), .second, .val (.double rs), .second, .val (.int (1 : Int32)), .unset] [(.double (0 : UInt64)), (.double rs), (.int (0 : Int32))]))
    refine own_go (fun _ k => XS.dcmpS X94.here hx rfl (hb hby at_409) rfl rfl k) ?_
    show own_Ends _ _ _ _ _ _ _ (T94.setTop (mkF m 410 #[.val (.int p0), .val (.int p1), .val (.int p2), .val (.long q3), .second, .val (.long q4), .second, .val (.int p5), .val (.ref b1), .val (.ref b34), .val (.int zi), .val (.int zj), .val (.long zd), .second, .val (.int zm), .val (.int (1 : Int32)), .val (.int zk), .val (.int zq), .val (.int (1 : Int32)), .val (.int za), .val (.int zc), .val (.int zlo), .val (.int zhi), .val (.long zx), .second, .val (.long zy), .second, .val (.long zl), .second, .val (.long zh), .second, .val (.double rf), .second, .val (.double rv), .second, .val (.double rs), .second, .val (.int (1 : Int32)), .unset] [(.int (cmpValue (FP.dcmp rs (0 : UInt64)) .l)), (.int (0 : Int32))]))
    refine own_go (fun _ k => XS.ifYes X94.here hx rfl (pc0 := 410) (pc' := 417) rfl (hb hby at_410) rfl ((if0 _ _).trans (feq (own_s2 hc96 hNh hrs)).2) (by decide) (by decide) k) ?_
    show own_Ends _ _ _ _ _ _ _ (T94.setTop (mkF m 417 #[.val (.int p0), .val (.int p1), .val (.int p2), .val (.long q3), .second, .val (.long q4), .second, .val (.int p5), .val (.ref b1), .val (.ref b34), .val (.int zi), .val (.int zj), .val (.long zd), .second, .val (.int zm), .val (.int (1 : Int32)), .val (.int zk), .val (.int zq), .val (.int (1 : Int32)), .val (.int za), .val (.int zc), .val (.int zlo), .val (.int zhi), .val (.long zx), .second, .val (.long zy), .second, .val (.long zl), .second, .val (.long zh), .second, .val (.double rf), .second, .val (.double rv), .second, .val (.double rs), .second, .val (.int (1 : Int32)), .unset] [(.int (0 : Int32))]))
    refine own_go (fun _ k => XS.iconst X94.here hx rfl (hb hby at_417) k) ?_
    show own_Ends _ _ _ _ _ _ _ (T94.setTop (mkF m 418 #[.val (.int p0), .val (.int p1), .val (.int p2), .val (.long q3), .second, .val (.long q4), .second, .val (.int p5), .val (.ref b1), .val (.ref b34), .val (.int zi), .val (.int zj), .val (.long zd), .second, .val (.int zm), .val (.int (1 : Int32)), .val (.int zk), .val (.int zq), .val (.int (1 : Int32)), .val (.int za), .val (.int zc), .val (.int zlo), .val (.int zhi), .val (.long zx), .second, .val (.long zy), .second, .val (.long zl), .second, .val (.long zh), .second, .val (.double rf), .second, .val (.double rv), .second, .val (.double rs), .second, .val (.int (1 : Int32)), .unset] [(.int (0 : Int32)), (.int (0 : Int32))]))
    refine own_go (fun _ k => XS.icmpNo X94.here hx rfl (hb hby at_418) rfl (teq (by decide)).2 k) ?_
    show own_Ends _ _ _ _ _ _ _ (T94.setTop (mkF m 421 #[.val (.int p0), .val (.int p1), .val (.int p2), .val (.long q3), .second, .val (.long q4), .second, .val (.int p5), .val (.ref b1), .val (.ref b34), .val (.int zi), .val (.int zj), .val (.long zd), .second, .val (.int zm), .val (.int (1 : Int32)), .val (.int zk), .val (.int zq), .val (.int (1 : Int32)), .val (.int za), .val (.int zc), .val (.int zlo), .val (.int zhi), .val (.long zx), .second, .val (.long zy), .second, .val (.long zl), .second, .val (.long zh), .second, .val (.double rf), .second, .val (.double rv), .second, .val (.double rs), .second, .val (.int (1 : Int32)), .unset] []))
    refine own_go (fun _ k => XS.iconst X94.here hx rfl (hb hby at_421) k) ?_
    show own_Ends _ _ _ _ _ _ _ (T94.setTop (mkF m 422 #[.val (.int p0), .val (.int p1), .val (.int p2), .val (.long q3), .second, .val (.long q4), .second, .val (.int p5), .val (.ref b1), .val (.ref b34), .val (.int zi), .val (.int zj), .val (.long zd), .second, .val (.int zm), .val (.int (1 : Int32)), .val (.int zk), .val (.int zq), .val (.int (1 : Int32)), .val (.int za), .val (.int zc), .val (.int zlo), .val (.int zhi), .val (.long zx), .second, .val (.long zy), .second, .val (.long zl), .second, .val (.long zh), .second, .val (.double rf), .second, .val (.double rv), .second, .val (.double rs), .second, .val (.int (1 : Int32)), .unset] [(.int (1 : Int32))]))
    refine own_go (fun _ k => XS.goto X94.here hx rfl (pc0 := 422) (pc' := 426) rfl (hb hby at_422) (by decide) (by decide) k) ?_
    show own_Ends _ _ _ _ _ _ _ (T94.setTop (mkF m 426 #[.val (.int p0), .val (.int p1), .val (.int p2), .val (.long q3), .second, .val (.long q4), .second, .val (.int p5), .val (.ref b1), .val (.ref b34), .val (.int zi), .val (.int zj), .val (.long zd), .second, .val (.int zm), .val (.int (1 : Int32)), .val (.int zk), .val (.int zq), .val (.int (1 : Int32)), .val (.int za), .val (.int zc), .val (.int zlo), .val (.int zhi), .val (.long zx), .second, .val (.long zy), .second, .val (.long zl), .second, .val (.long zh), .second, .val (.double rf), .second, .val (.double rv), .second, .val (.double rs), .second, .val (.int (1 : Int32)), .unset] [(.int (1 : Int32))]))
    refine own_go (fun _ k => XS.istore X94.here hx rfl (hb hby at_426) rfl (l' := #[.val (.int p0), .val (.int p1), .val (.int p2), .val (.long q3), .second, .val (.long q4), .second, .val (.int p5), .val (.ref b1), .val (.ref b34), .val (.int zi), .val (.int zj), .val (.long zd), .second, .val (.int zm), .val (.int (1 : Int32)), .val (.int zk), .val (.int zq), .val (.int (1 : Int32)), .val (.int za), .val (.int zc), .val (.int zlo), .val (.int zhi), .val (.long zx), .second, .val (.long zy), .second, .val (.long zl), .second, .val (.long zh), .second, .val (.double rf), .second, .val (.double rv), .second, .val (.double rs), .second, .val (.int (1 : Int32)), .val (.int (1 : Int32))]) rfl k) ?_
    show own_Ends _ _ _ _ _ _ _ (T94.setTop (mkF m 428 #[.val (.int p0), .val (.int p1), .val (.int p2), .val (.long q3), .second, .val (.long q4), .second, .val (.int p5), .val (.ref b1), .val (.ref b34), .val (.int zi), .val (.int zj), .val (.long zd), .second, .val (.int zm), .val (.int (1 : Int32)), .val (.int zk), .val (.int zq), .val (.int (1 : Int32)), .val (.int za), .val (.int zc), .val (.int zlo), .val (.int zhi), .val (.long zx), .second, .val (.long zy), .second, .val (.long zl), .second, .val (.long zh), .second, .val (.double rf), .second, .val (.double rv), .second, .val (.double rs), .second, .val (.int (1 : Int32)), .val (.int (1 : Int32))] []))
    refine own_go (fun _ k => XS.iload X94.here hx rfl (hb hby at_428) rfl k) ?_
    show own_Ends _ _ _ _ _ _ _ (T94.setTop (mkF m 430 #[.val (.int p0), .val (.int p1), .val (.int p2), .val (.long q3), .second, .val (.long q4), .second, .val (.int p5), .val (.ref b1), .val (.ref b34), .val (.int zi), .val (.int zj), .val (.long zd), .second, .val (.int zm), .val (.int (1 : Int32)), .val (.int zk), .val (.int zq), .val (.int (1 : Int32)), .val (.int za), .val (.int zc), .val (.int zlo), .val (.int zhi), .val (.long zx), .second, .val (.long zy), .second, .val (.long zl), .second, .val (.long zh), .second, .val (.double rf), .second, .val (.double rv), .second, .val (.double rs), .second, .val (.int (1 : Int32)), .val (.int (1 : Int32))] [(.int (1 : Int32))]))
    refine own_go (fun _ k => XS.ifNo X94.here hx rfl (hb hby at_430) rfl ((if0 _ _).trans (feq (by decide)).1) k) ?_
    show own_Ends _ _ _ _ _ _ _ (T94.setTop (mkF m 433 #[.val (.int p0), .val (.int p1), .val (.int p2), .val (.long q3), .second, .val (.long q4), .second, .val (.int p5), .val (.ref b1), .val (.ref b34), .val (.int zi), .val (.int zj), .val (.long zd), .second, .val (.int zm), .val (.int (1 : Int32)), .val (.int zk), .val (.int zq), .val (.int (1 : Int32)), .val (.int za), .val (.int zc), .val (.int zlo), .val (.int zhi), .val (.long zx), .second, .val (.long zy), .second, .val (.long zl), .second, .val (.long zh), .second, .val (.double rf), .second, .val (.double rv), .second, .val (.double rs), .second, .val (.int (1 : Int32)), .val (.int (1 : Int32))] []))
    refine own_go (fun _ k => XS.iload X94.here hx rfl (hb hby at_433) rfl k) ?_
    show own_Ends _ _ _ _ _ _ _ (T94.setTop (mkF m 435 #[.val (.int p0), .val (.int p1), .val (.int p2), .val (.long q3), .second, .val (.long q4), .second, .val (.int p5), .val (.ref b1), .val (.ref b34), .val (.int zi), .val (.int zj), .val (.long zd), .second, .val (.int zm), .val (.int (1 : Int32)), .val (.int zk), .val (.int zq), .val (.int (1 : Int32)), .val (.int za), .val (.int zc), .val (.int zlo), .val (.int zhi), .val (.long zx), .second, .val (.long zy), .second, .val (.long zl), .second, .val (.long zh), .second, .val (.double rf), .second, .val (.double rv), .second, .val (.double rs), .second, .val (.int (1 : Int32)), .val (.int (1 : Int32))] [(.int (1 : Int32))]))
    refine own_go (fun _ k => XS.ifNo X94.here hx rfl (hb hby at_435) rfl ((if0 _ _).trans (feq (by decide)).1) k) ?_
    show own_Ends _ _ _ _ _ _ _ (T94.setTop (mkF m 438 #[.val (.int p0), .val (.int p1), .val (.int p2), .val (.long q3), .second, .val (.long q4), .second, .val (.int p5), .val (.ref b1), .val (.ref b34), .val (.int zi), .val (.int zj), .val (.long zd), .second, .val (.int zm), .val (.int (1 : Int32)), .val (.int zk), .val (.int zq), .val (.int (1 : Int32)), .val (.int za), .val (.int zc), .val (.int zlo), .val (.int zhi), .val (.long zx), .second, .val (.long zy), .second, .val (.long zl), .second, .val (.long zh), .second, .val (.double rf), .second, .val (.double rv), .second, .val (.double rs), .second, .val (.int (1 : Int32)), .val (.int (1 : Int32))] []))
    refine own_go (fun _ k => XS.iload X94.here hx rfl (hb hby at_438) rfl k) ?_
    show own_Ends _ _ _ _ _ _ _ (T94.setTop (mkF m 440 #[.val (.int p0), .val (.int p1), .val (.int p2), .val (.long q3), .second, .val (.long q4), .second, .val (.int p5), .val (.ref b1), .val (.ref b34), .val (.int zi), .val (.int zj), .val (.long zd), .second, .val (.int zm), .val (.int (1 : Int32)), .val (.int zk), .val (.int zq), .val (.int (1 : Int32)), .val (.int za), .val (.int zc), .val (.int zlo), .val (.int zhi), .val (.long zx), .second, .val (.long zy), .second, .val (.long zl), .second, .val (.long zh), .second, .val (.double rf), .second, .val (.double rv), .second, .val (.double rs), .second, .val (.int (1 : Int32)), .val (.int (1 : Int32))] [(.int (1 : Int32))]))
    refine own_go (fun _ k => XS.ifNo X94.here hx rfl (hb hby at_440) rfl ((if0 _ _).trans (feq (by decide)).1) k) ?_
    show own_Ends _ _ _ _ _ _ _ (T94.setTop (mkF m 443 #[.val (.int p0), .val (.int p1), .val (.int p2), .val (.long q3), .second, .val (.long q4), .second, .val (.int p5), .val (.ref b1), .val (.ref b34), .val (.int zi), .val (.int zj), .val (.long zd), .second, .val (.int zm), .val (.int (1 : Int32)), .val (.int zk), .val (.int zq), .val (.int (1 : Int32)), .val (.int za), .val (.int zc), .val (.int zlo), .val (.int zhi), .val (.long zx), .second, .val (.long zy), .second, .val (.long zl), .second, .val (.long zh), .second, .val (.double rf), .second, .val (.double rv), .second, .val (.double rs), .second, .val (.int (1 : Int32)), .val (.int (1 : Int32))] []))
    refine own_go (fun _ k => XS.iload X94.here hx rfl (hb hby at_443) rfl k) ?_
    show own_Ends _ _ _ _ _ _ _ (T94.setTop (mkF m 445 #[.val (.int p0), .val (.int p1), .val (.int p2), .val (.long q3), .second, .val (.long q4), .second, .val (.int p5), .val (.ref b1), .val (.ref b34), .val (.int zi), .val (.int zj), .val (.long zd), .second, .val (.int zm), .val (.int (1 : Int32)), .val (.int zk), .val (.int zq), .val (.int (1 : Int32)), .val (.int za), .val (.int zc), .val (.int zlo), .val (.int zhi), .val (.long zx), .second, .val (.long zy), .second, .val (.long zl), .second, .val (.long zh), .second, .val (.double rf), .second, .val (.double rv), .second, .val (.double rs), .second, .val (.int (1 : Int32)), .val (.int (1 : Int32))] [(.int (1 : Int32))]))
    refine own_go (fun _ k => XS.ifNo X94.here hx rfl (hb hby at_445) rfl ((if0 _ _).trans (feq (by decide)).1) k) ?_
    show own_Ends _ _ _ _ _ _ _ (T94.setTop (mkF m 448 #[.val (.int p0), .val (.int p1), .val (.int p2), .val (.long q3), .second, .val (.long q4), .second, .val (.int p5), .val (.ref b1), .val (.ref b34), .val (.int zi), .val (.int zj), .val (.long zd), .second, .val (.int zm), .val (.int (1 : Int32)), .val (.int zk), .val (.int zq), .val (.int (1 : Int32)), .val (.int za), .val (.int zc), .val (.int zlo), .val (.int zhi), .val (.long zx), .second, .val (.long zy), .second, .val (.long zl), .second, .val (.long zh), .second, .val (.double rf), .second, .val (.double rv), .second, .val (.double rs), .second, .val (.int (1 : Int32)), .val (.int (1 : Int32))] []))
    refine own_go (fun _ k => XS.iconst X94.here hx rfl (hb hby at_448) k) ?_
    show own_Ends _ _ _ _ _ _ _ (T94.setTop (mkF m 449 #[.val (.int p0), .val (.int p1), .val (.int p2), .val (.long q3), .second, .val (.long q4), .second, .val (.int p5), .val (.ref b1), .val (.ref b34), .val (.int zi), .val (.int zj), .val (.long zd), .second, .val (.int zm), .val (.int (1 : Int32)), .val (.int zk), .val (.int zq), .val (.int (1 : Int32)), .val (.int za), .val (.int zc), .val (.int zlo), .val (.int zhi), .val (.long zx), .second, .val (.long zy), .second, .val (.long zl), .second, .val (.long zh), .second, .val (.double rf), .second, .val (.double rv), .second, .val (.double rs), .second, .val (.int (1 : Int32)), .val (.int (1 : Int32))] [(.int (1 : Int32))]))
    refine own_go (fun _ k => XS.goto X94.here hx rfl (pc0 := 449) (pc' := 453) rfl (hb hby at_449) (by decide) (by decide) k) ?_
    show own_Ends _ _ _ _ _ _ _ (T94.setTop (mkF m 453 #[.val (.int p0), .val (.int p1), .val (.int p2), .val (.long q3), .second, .val (.long q4), .second, .val (.int p5), .val (.ref b1), .val (.ref b34), .val (.int zi), .val (.int zj), .val (.long zd), .second, .val (.int zm), .val (.int (1 : Int32)), .val (.int zk), .val (.int zq), .val (.int (1 : Int32)), .val (.int za), .val (.int zc), .val (.int zlo), .val (.int zhi), .val (.long zx), .second, .val (.long zy), .second, .val (.long zl), .second, .val (.long zh), .second, .val (.double rf), .second, .val (.double rv), .second, .val (.double rs), .second, .val (.int (1 : Int32)), .val (.int (1 : Int32))] [(.int (1 : Int32))]))
    exact own_retN X94 hx hlk (t := .boolean) Bd.returns (by simp) (hb hby at_453) (by decide) (by decide) ⟨rfl, N94⟩
  · refine own_go (fun _ k => XS.ifYes X94.here hx rfl (pc0 := 373) (pc' := 380) rfl (hb hby at_373) rfl ((if0 _ _).trans (flt hc96).2.2.2) (by decide) (by decide) k) ?_
    show own_Ends _ _ _ _ _ _ _ (T94.setTop (mkF m 380 #[.val (.int p0), .val (.int p1), .val (.int p2), .val (.long q3), .second, .val (.long q4), .second, .val (.int p5), .val (.ref b1), .val (.ref b34), .val (.int zi), .val (.int zj), .val (.long zd), .second, .val (.int zm), .val (.int (1 : Int32)), .val (.int zk), .val (.int zq), .val (.int (1 : Int32)), .val (.int za), .val (.int zc), .val (.int zlo), .val (.int zhi), .val (.long zx), .second, .val (.long zy), .second, .val (.long zl), .second, .val (.long zh), .second, .val (.double rf), .second, .val (.double rv), .second, .val (.double rs), .second, .val (.int (1 : Int32)), .unset] []))
    refine own_go (fun _ k => XS.iconst X94.here hx rfl (hb hby at_380) k) ?_
    show own_Ends _ _ _ _ _ _ _ (T94.setTop (mkF m 381 #[.val (.int p0), .val (.int p1), .val (.int p2), .val (.long q3), .second, .val (.long q4), .second, .val (.int p5), .val (.ref b1), .val (.ref b34), .val (.int zi), .val (.int zj), .val (.long zd), .second, .val (.int zm), .val (.int (1 : Int32)), .val (.int zk), .val (.int zq), .val (.int (1 : Int32)), .val (.int za), .val (.int zc), .val (.int zlo), .val (.int zhi), .val (.long zx), .second, .val (.long zy), .second, .val (.long zl), .second, .val (.long zh), .second, .val (.double rf), .second, .val (.double rv), .second, .val (.double rs), .second, .val (.int (1 : Int32)), .unset] [(.int (0 : Int32))]))
    refine own_go (fun _ k => XS.dload X94.here hx rfl (hb hby at_381) rfl k) ?_
    show own_Ends _ _ _ _ _ _ _ (T94.setTop (mkF m 383 #[.val (.int p0), .val (.int p1), .val (.int p2), .val (.long q3), .second, .val (.long q4), .second, .val (.int p5), .val (.ref b1), .val (.ref b34), .val (.int zi), .val (.int zj), .val (.long zd), .second, .val (.int zm), .val (.int (1 : Int32)), .val (.int zk), .val (.int zq), .val (.int (1 : Int32)), .val (.int za), .val (.int zc), .val (.int zlo), .val (.int zhi), .val (.long zx), .second, .val (.long zy), .second, .val (.long zl), .second, .val (.long zh), .second, .val (.double rf), .second, .val (.double rv), .second, .val (.double rs), .second, .val (.int (1 : Int32)), .unset] [(.double rs), (.int (0 : Int32))]))
    refine own_go (fun _ k => XS.dconst0 X94.here hx rfl (hb hby at_383) (v := (0 : UInt64)) (by decide) k) ?_
    show own_Ends _ _ _ _ _ _ _ (T94.setTop (mkF m 384 #[.val (.int p0), .val (.int p1), .val (.int p2), .val (.long q3), .second, .val (.long q4), .second, .val (.int p5), .val (.ref b1), .val (.ref b34), .val (.int zi), .val (.int zj), .val (.long zd), .second, .val (.int zm), .val (.int (1 : Int32)), .val (.int zk), .val (.int zq), .val (.int (1 : Int32)), .val (.int za), .val (.int zc), .val (.int zlo), .val (.int zhi), .val (.long zx), .second, .val (.long zy), .second, .val (.long zl), .second, .val (.long zh), .second, .val (.double rf), .second, .val (.double rv), .second, .val (.double rs), .second, .val (.int (1 : Int32)), .unset] [(.double (0 : UInt64)), (.double rs), (.int (0 : Int32))]))
    refine own_go (fun _ k => XS.dcmpS X94.here hx rfl (hb hby at_384) rfl rfl k) ?_
    show own_Ends _ _ _ _ _ _ _ (T94.setTop (mkF m 385 #[.val (.int p0), .val (.int p1), .val (.int p2), .val (.long q3), .second, .val (.long q4), .second, .val (.int p5), .val (.ref b1), .val (.ref b34), .val (.int zi), .val (.int zj), .val (.long zd), .second, .val (.int zm), .val (.int (1 : Int32)), .val (.int zk), .val (.int zq), .val (.int (1 : Int32)), .val (.int za), .val (.int zc), .val (.int zlo), .val (.int zhi), .val (.long zx), .second, .val (.long zy), .second, .val (.long zl), .second, .val (.long zh), .second, .val (.double rf), .second, .val (.double rv), .second, .val (.double rs), .second, .val (.int (1 : Int32)), .unset] [(.int (cmpValue (FP.dcmp rs (0 : UInt64)) .l)), (.int (0 : Int32))]))
    refine own_go (fun _ k => XS.ifYes X94.here hx rfl (pc0 := 385) (pc' := 392) rfl (hb hby at_385) rfl ((if0 _ _).trans (flt (own_s0 hC hc96 hNh hrs).1).2.2.2) (by decide) (by decide) k) ?_
    show own_Ends _ _ _ _ _ _ _ (T94.setTop (mkF m 392 #[.val (.int p0), .val (.int p1), .val (.int p2), .val (.long q3), .second, .val (.long q4), .second, .val (.int p5), .val (.ref b1), .val (.ref b34), .val (.int zi), .val (.int zj), .val (.long zd), .second, .val (.int zm), .val (.int (1 : Int32)), .val (.int zk), .val (.int zq), .val (.int (1 : Int32)), .val (.int za), .val (.int zc), .val (.int zlo), .val (.int zhi), .val (.long zx), .second, .val (.long zy), .second, .val (.long zl), .second, .val (.long zh), .second, .val (.double rf), .second, .val (.double rv), .second, .val (.double rs), .second, .val (.int (1 : Int32)), .unset] [(.int (0 : Int32))]))
    refine own_go (fun _ k => XS.iconst X94.here hx rfl (hb hby at_392) k) ?_
    show own_Ends _ _ _ _ _ _ _ (T94.setTop (mkF m 393 #[.val (.int p0), .val (.int p1), .val (.int p2), .val (.long q3), .second, .val (.long q4), .second, .val (.int p5), .val (.ref b1), .val (.ref b34), .val (.int zi), .val (.int zj), .val (.long zd), .second, .val (.int zm), .val (.int (1 : Int32)), .val (.int zk), .val (.int zq), .val (.int (1 : Int32)), .val (.int za), .val (.int zc), .val (.int zlo), .val (.int zhi), .val (.long zx), .second, .val (.long zy), .second, .val (.long zl), .second, .val (.long zh), .second, .val (.double rf), .second, .val (.double rv), .second, .val (.double rs), .second, .val (.int (1 : Int32)), .unset] [(.int (0 : Int32)), (.int (0 : Int32))]))
    refine own_go (fun _ k => XS.icmpNo X94.here hx rfl (hb hby at_393) rfl (teq (by decide)).2 k) ?_
    show own_Ends _ _ _ _ _ _ _ (T94.setTop (mkF m 396 #[.val (.int p0), .val (.int p1), .val (.int p2), .val (.long q3), .second, .val (.long q4), .second, .val (.int p5), .val (.ref b1), .val (.ref b34), .val (.int zi), .val (.int zj), .val (.long zd), .second, .val (.int zm), .val (.int (1 : Int32)), .val (.int zk), .val (.int zq), .val (.int (1 : Int32)), .val (.int za), .val (.int zc), .val (.int zlo), .val (.int zhi), .val (.long zx), .second, .val (.long zy), .second, .val (.long zl), .second, .val (.long zh), .second, .val (.double rf), .second, .val (.double rv), .second, .val (.double rs), .second, .val (.int (1 : Int32)), .unset] []))
    refine own_go (fun _ k => XS.iload X94.here hx rfl (hb hby at_396) rfl k) ?_
    show own_Ends _ _ _ _ _ _ _ (T94.setTop (mkF m 398 #[.val (.int p0), .val (.int p1), .val (.int p2), .val (.long q3), .second, .val (.long q4), .second, .val (.int p5), .val (.ref b1), .val (.ref b34), .val (.int zi), .val (.int zj), .val (.long zd), .second, .val (.int zm), .val (.int (1 : Int32)), .val (.int zk), .val (.int zq), .val (.int (1 : Int32)), .val (.int za), .val (.int zc), .val (.int zlo), .val (.int zhi), .val (.long zx), .second, .val (.long zy), .second, .val (.long zl), .second, .val (.long zh), .second, .val (.double rf), .second, .val (.double rv), .second, .val (.double rs), .second, .val (.int (1 : Int32)), .unset] [(.int zhi)]))
    refine own_go (fun _ k => XS.ifNo X94.here hx rfl (hb hby at_398) rfl ((if0 _ _).trans (teq (own_h0 hC hc96)).2) k) ?_
    show own_Ends _ _ _ _ _ _ _ (T94.setTop (mkF m 401 #[.val (.int p0), .val (.int p1), .val (.int p2), .val (.long q3), .second, .val (.long q4), .second, .val (.int p5), .val (.ref b1), .val (.ref b34), .val (.int zi), .val (.int zj), .val (.long zd), .second, .val (.int zm), .val (.int (1 : Int32)), .val (.int zk), .val (.int zq), .val (.int (1 : Int32)), .val (.int za), .val (.int zc), .val (.int zlo), .val (.int zhi), .val (.long zx), .second, .val (.long zy), .second, .val (.long zl), .second, .val (.long zh), .second, .val (.double rf), .second, .val (.double rv), .second, .val (.double rs), .second, .val (.int (1 : Int32)), .unset] []))
    refine own_go (fun _ k => XS.iconst X94.here hx rfl (hb hby at_401) k) ?_
    show own_Ends _ _ _ _ _ _ _ (T94.setTop (mkF m 402 #[.val (.int p0), .val (.int p1), .val (.int p2), .val (.long q3), .second, .val (.long q4), .second, .val (.int p5), .val (.ref b1), .val (.ref b34), .val (.int zi), .val (.int zj), .val (.long zd), .second, .val (.int zm), .val (.int (1 : Int32)), .val (.int zk), .val (.int zq), .val (.int (1 : Int32)), .val (.int za), .val (.int zc), .val (.int zlo), .val (.int zhi), .val (.long zx), .second, .val (.long zy), .second, .val (.long zl), .second, .val (.long zh), .second, .val (.double rf), .second, .val (.double rv), .second, .val (.double rs), .second, .val (.int (1 : Int32)), .unset] [(.int (1 : Int32))]))
    refine own_go (fun _ k => XS.goto X94.here hx rfl (pc0 := 402) (pc' := 406) rfl (hb hby at_402) (by decide) (by decide) k) ?_
    show own_Ends _ _ _ _ _ _ _ (T94.setTop (mkF m 406 #[.val (.int p0), .val (.int p1), .val (.int p2), .val (.long q3), .second, .val (.long q4), .second, .val (.int p5), .val (.ref b1), .val (.ref b34), .val (.int zi), .val (.int zj), .val (.long zd), .second, .val (.int zm), .val (.int (1 : Int32)), .val (.int zk), .val (.int zq), .val (.int (1 : Int32)), .val (.int za), .val (.int zc), .val (.int zlo), .val (.int zhi), .val (.long zx), .second, .val (.long zy), .second, .val (.long zl), .second, .val (.long zh), .second, .val (.double rf), .second, .val (.double rv), .second, .val (.double rs), .second, .val (.int (1 : Int32)), .unset] [(.int (1 : Int32))]))
    refine own_go (fun _ k => XS.dload X94.here hx rfl (hb hby at_406) rfl k) ?_
    show own_Ends _ _ _ _ _ _ _ (T94.setTop (mkF m 408 #[.val (.int p0), .val (.int p1), .val (.int p2), .val (.long q3), .second, .val (.long q4), .second, .val (.int p5), .val (.ref b1), .val (.ref b34), .val (.int zi), .val (.int zj), .val (.long zd), .second, .val (.int zm), .val (.int (1 : Int32)), .val (.int zk), .val (.int zq), .val (.int (1 : Int32)), .val (.int za), .val (.int zc), .val (.int zlo), .val (.int zhi), .val (.long zx), .second, .val (.long zy), .second, .val (.long zl), .second, .val (.long zh), .second, .val (.double rf), .second, .val (.double rv), .second, .val (.double rs), .second, .val (.int (1 : Int32)), .unset] [(.double rs), (.int (1 : Int32))]))
    refine own_go (fun _ k => XS.dconst0 X94.here hx rfl (hb hby at_408) (v := (0 : UInt64)) (by decide) k) ?_
    show own_Ends _ _ _ _ _ _ _ (T94.setTop (mkF m 409 #[.val (.int p0), .val (.int p1), .val (.int p2), .val (.long q3), .second, .val (.long q4), .second, .val (.int p5), .val (.ref b1), .val (.ref b34), .val (.int zi), .val (.int zj), .val (.long zd), .second, .val (.int zm), .val (.int (1 : Int32)), .val (.int zk), .val (.int zq), .val (.int (1 : Int32)), .val (.int za), .val (.int zc), .val (.int zlo), .val (.int zhi), .val (.long zx), .second, .val (.long zy), .second, .val (.long zl), .second, .val (.long zh), .second, .val (.double rf), .second, .val (.double rv), .second, .val (.double rs), .second, .val (.int (1 : Int32)), .unset] [(.double (0 : UInt64)), (.double rs), (.int (1 : Int32))]))
    refine own_go (fun _ k => XS.dcmpS X94.here hx rfl (hb hby at_409) rfl rfl k) ?_
    show own_Ends _ _ _ _ _ _ _ (T94.setTop (mkF m 410 #[.val (.int p0), .val (.int p1), .val (.int p2), .val (.long q3), .second, .val (.long q4), .second, .val (.int p5), .val (.ref b1), .val (.ref b34), .val (.int zi), .val (.int zj), .val (.long zd), .second, .val (.int zm), .val (.int (1 : Int32)), .val (.int zk), .val (.int zq), .val (.int (1 : Int32)), .val (.int za), .val (.int zc), .val (.int zlo), .val (.int zhi), .val (.long zx), .second, .val (.long zy), .second, .val (.long zl), .second, .val (.long zh), .second, .val (.double rf), .second, .val (.double rv), .second, .val (.double rs), .second, .val (.int (1 : Int32)), .unset] [(.int (cmpValue (FP.dcmp rs (0 : UInt64)) .l)), (.int (1 : Int32))]))
    refine own_go (fun _ k => XS.ifNo X94.here hx rfl (hb hby at_410) rfl ((if0 _ _).trans (teq (own_s0 hC hc96 hNh hrs).2).2) k) ?_
    show own_Ends _ _ _ _ _ _ _ (T94.setTop (mkF m 413 #[.val (.int p0), .val (.int p1), .val (.int p2), .val (.long q3), .second, .val (.long q4), .second, .val (.int p5), .val (.ref b1), .val (.ref b34), .val (.int zi), .val (.int zj), .val (.long zd), .second, .val (.int zm), .val (.int (1 : Int32)), .val (.int zk), .val (.int zq), .val (.int (1 : Int32)), .val (.int za), .val (.int zc), .val (.int zlo), .val (.int zhi), .val (.long zx), .second, .val (.long zy), .second, .val (.long zl), .second, .val (.long zh), .second, .val (.double rf), .second, .val (.double rv), .second, .val (.double rs), .second, .val (.int (1 : Int32)), .unset] [(.int (1 : Int32))]))
    refine own_go (fun _ k => XS.iconst X94.here hx rfl (hb hby at_413) k) ?_
    show own_Ends _ _ _ _ _ _ _ (T94.setTop (mkF m 414 #[.val (.int p0), .val (.int p1), .val (.int p2), .val (.long q3), .second, .val (.long q4), .second, .val (.int p5), .val (.ref b1), .val (.ref b34), .val (.int zi), .val (.int zj), .val (.long zd), .second, .val (.int zm), .val (.int (1 : Int32)), .val (.int zk), .val (.int zq), .val (.int (1 : Int32)), .val (.int za), .val (.int zc), .val (.int zlo), .val (.int zhi), .val (.long zx), .second, .val (.long zy), .second, .val (.long zl), .second, .val (.long zh), .second, .val (.double rf), .second, .val (.double rv), .second, .val (.double rs), .second, .val (.int (1 : Int32)), .unset] [(.int (1 : Int32)), (.int (1 : Int32))]))
    refine own_go (fun _ k => XS.goto X94.here hx rfl (pc0 := 414) (pc' := 418) rfl (hb hby at_414) (by decide) (by decide) k) ?_
    show own_Ends _ _ _ _ _ _ _ (T94.setTop (mkF m 418 #[.val (.int p0), .val (.int p1), .val (.int p2), .val (.long q3), .second, .val (.long q4), .second, .val (.int p5), .val (.ref b1), .val (.ref b34), .val (.int zi), .val (.int zj), .val (.long zd), .second, .val (.int zm), .val (.int (1 : Int32)), .val (.int zk), .val (.int zq), .val (.int (1 : Int32)), .val (.int za), .val (.int zc), .val (.int zlo), .val (.int zhi), .val (.long zx), .second, .val (.long zy), .second, .val (.long zl), .second, .val (.long zh), .second, .val (.double rf), .second, .val (.double rv), .second, .val (.double rs), .second, .val (.int (1 : Int32)), .unset] [(.int (1 : Int32)), (.int (1 : Int32))]))
    refine own_go (fun _ k => XS.icmpNo X94.here hx rfl (hb hby at_418) rfl (teq (by decide)).2 k) ?_
    show own_Ends _ _ _ _ _ _ _ (T94.setTop (mkF m 421 #[.val (.int p0), .val (.int p1), .val (.int p2), .val (.long q3), .second, .val (.long q4), .second, .val (.int p5), .val (.ref b1), .val (.ref b34), .val (.int zi), .val (.int zj), .val (.long zd), .second, .val (.int zm), .val (.int (1 : Int32)), .val (.int zk), .val (.int zq), .val (.int (1 : Int32)), .val (.int za), .val (.int zc), .val (.int zlo), .val (.int zhi), .val (.long zx), .second, .val (.long zy), .second, .val (.long zl), .second, .val (.long zh), .second, .val (.double rf), .second, .val (.double rv), .second, .val (.double rs), .second, .val (.int (1 : Int32)), .unset] []))
    refine own_go (fun _ k => XS.iconst X94.here hx rfl (hb hby at_421) k) ?_
    show own_Ends _ _ _ _ _ _ _ (T94.setTop (mkF m 422 #[.val (.int p0), .val (.int p1), .val (.int p2), .val (.long q3), .second, .val (.long q4), .second, .val (.int p5), .val (.ref b1), .val (.ref b34), .val (.int zi), .val (.int zj), .val (.long zd), .second, .val (.int zm), .val (.int (1 : Int32)), .val (.int zk), .val (.int zq), .val (.int (1 : Int32)), .val (.int za), .val (.int zc), .val (.int zlo), .val (.int zhi), .val (.long zx), .second, .val (.long zy), .second, .val (.long zl), .second, .val (.long zh), .second, .val (.double rf), .second, .val (.double rv), .second, .val (.double rs), .second, .val (.int (1 : Int32)), .unset] [(.int (1 : Int32))]))
    refine own_go (fun _ k => XS.goto X94.here hx rfl (pc0 := 422) (pc' := 426) rfl (hb hby at_422) (by decide) (by decide) k) ?_
    show own_Ends _ _ _ _ _ _ _ (T94.setTop (mkF m 426 #[.val (.int p0), .val (.int p1), .val (.int p2), .val (.long q3), .second, .val (.long q4), .second, .val (.int p5), .val (.ref b1), .val (.ref b34), .val (.int zi), .val (.int zj), .val (.long zd), .second, .val (.int zm), .val (.int (1 : Int32)), .val (.int zk), .val (.int zq), .val (.int (1 : Int32)), .val (.int za), .val (.int zc), .val (.int zlo), .val (.int zhi), .val (.long zx), .second, .val (.long zy), .second, .val (.long zl), .second, .val (.long zh), .second, .val (.double rf), .second, .val (.double rv), .second, .val (.double rs), .second, .val (.int (1 : Int32)), .unset] [(.int (1 : Int32))]))
    refine own_go (fun _ k => XS.istore X94.here hx rfl (hb hby at_426) rfl (l' := #[.val (.int p0), .val (.int p1), .val (.int p2), .val (.long q3), .second, .val (.long q4), .second, .val (.int p5), .val (.ref b1), .val (.ref b34), .val (.int zi), .val (.int zj), .val (.long zd), .second, .val (.int zm), .val (.int (1 : Int32)), .val (.int zk), .val (.int zq), .val (.int (1 : Int32)), .val (.int za), .val (.int zc), .val (.int zlo), .val (.int zhi), .val (.long zx), .second, .val (.long zy), .second, .val (.long zl), .second, .val (.long zh), .second, .val (.double rf), .second, .val (.double rv), .second, .val (.double rs), .second, .val (.int (1 : Int32)), .val (.int (1 : Int32))]) rfl k) ?_
    show own_Ends _ _ _ _ _ _ _ (T94.setTop (mkF m 428 #[.val (.int p0), .val (.int p1), .val (.int p2), .val (.long q3), .second, .val (.long q4), .second, .val (.int p5), .val (.ref b1), .val (.ref b34), .val (.int zi), .val (.int zj), .val (.long zd), .second, .val (.int zm), .val (.int (1 : Int32)), .val (.int zk), .val (.int zq), .val (.int (1 : Int32)), .val (.int za), .val (.int zc), .val (.int zlo), .val (.int zhi), .val (.long zx), .second, .val (.long zy), .second, .val (.long zl), .second, .val (.long zh), .second, .val (.double rf), .second, .val (.double rv), .second, .val (.double rs), .second, .val (.int (1 : Int32)), .val (.int (1 : Int32))] []))
    refine own_go (fun _ k => XS.iload X94.here hx rfl (hb hby at_428) rfl k) ?_
    show own_Ends _ _ _ _ _ _ _ (T94.setTop (mkF m 430 #[.val (.int p0), .val (.int p1), .val (.int p2), .val (.long q3), .second, .val (.long q4), .second, .val (.int p5), .val (.ref b1), .val (.ref b34), .val (.int zi), .val (.int zj), .val (.long zd), .second, .val (.int zm), .val (.int (1 : Int32)), .val (.int zk), .val (.int zq), .val (.int (1 : Int32)), .val (.int za), .val (.int zc), .val (.int zlo), .val (.int zhi), .val (.long zx), .second, .val (.long zy), .second, .val (.long zl), .second, .val (.long zh), .second, .val (.double rf), .second, .val (.double rv), .second, .val (.double rs), .second, .val (.int (1 : Int32)), .val (.int (1 : Int32))] [(.int (1 : Int32))]))
    refine own_go (fun _ k => XS.ifNo X94.here hx rfl (hb hby at_430) rfl ((if0 _ _).trans (feq (by decide)).1) k) ?_
    show own_Ends _ _ _ _ _ _ _ (T94.setTop (mkF m 433 #[.val (.int p0), .val (.int p1), .val (.int p2), .val (.long q3), .second, .val (.long q4), .second, .val (.int p5), .val (.ref b1), .val (.ref b34), .val (.int zi), .val (.int zj), .val (.long zd), .second, .val (.int zm), .val (.int (1 : Int32)), .val (.int zk), .val (.int zq), .val (.int (1 : Int32)), .val (.int za), .val (.int zc), .val (.int zlo), .val (.int zhi), .val (.long zx), .second, .val (.long zy), .second, .val (.long zl), .second, .val (.long zh), .second, .val (.double rf), .second, .val (.double rv), .second, .val (.double rs), .second, .val (.int (1 : Int32)), .val (.int (1 : Int32))] []))
    refine own_go (fun _ k => XS.iload X94.here hx rfl (hb hby at_433) rfl k) ?_
    show own_Ends _ _ _ _ _ _ _ (T94.setTop (mkF m 435 #[.val (.int p0), .val (.int p1), .val (.int p2), .val (.long q3), .second, .val (.long q4), .second, .val (.int p5), .val (.ref b1), .val (.ref b34), .val (.int zi), .val (.int zj), .val (.long zd), .second, .val (.int zm), .val (.int (1 : Int32)), .val (.int zk), .val (.int zq), .val (.int (1 : Int32)), .val (.int za), .val (.int zc), .val (.int zlo), .val (.int zhi), .val (.long zx), .second, .val (.long zy), .second, .val (.long zl), .second, .val (.long zh), .second, .val (.double rf), .second, .val (.double rv), .second, .val (.double rs), .second, .val (.int (1 : Int32)), .val (.int (1 : Int32))] [(.int (1 : Int32))]))
    refine own_go (fun _ k => XS.ifNo X94.here hx rfl (hb hby at_435) rfl ((if0 _ _).trans (feq (by decide)).1) k) ?_
    show own_Ends _ _ _ _ _ _ _ (T94.setTop (mkF m 438 #[.val (.int p0), .val (.int p1), .val (.int p2), .val (.long q3), .second, .val (.long q4), .second, .val (.int p5), .val (.ref b1), .val (.ref b34), .val (.int zi), .val (.int zj), .val (.long zd), .second, .val (.int zm), .val (.int (1 : Int32)), .val (.int zk), .val (.int zq), .val (.int (1 : Int32)), .val (.int za), .val (.int zc), .val (.int zlo), .val (.int zhi), .val (.long zx), .second, .val (.long zy), .second, .val (.long zl), .second, .val (.long zh), .second, .val (.double rf), .second, .val (.double rv), .second, .val (.double rs), .second, .val (.int (1 : Int32)), .val (.int (1 : Int32))] []))
    refine own_go (fun _ k => XS.iload X94.here hx rfl (hb hby at_438) rfl k) ?_
    show own_Ends _ _ _ _ _ _ _ (T94.setTop (mkF m 440 #[.val (.int p0), .val (.int p1), .val (.int p2), .val (.long q3), .second, .val (.long q4), .second, .val (.int p5), .val (.ref b1), .val (.ref b34), .val (.int zi), .val (.int zj), .val (.long zd), .second, .val (.int zm), .val (.int (1 : Int32)), .val (.int zk), .val (.int zq), .val (.int (1 : Int32)), .val (.int za), .val (.int zc), .val (.int zlo), .val (.int zhi), .val (.long zx), .second, .val (.long zy), .second, .val (.long zl), .second, .val (.long zh), .second, .val (.double rf), .second, .val (.double rv), .second, .val (.double rs), .second, .val (.int (1 : Int32)), .val (.int (1 : Int32))] [(.int (1 : Int32))]))
    refine own_go (fun _ k => XS.ifNo X94.here hx rfl (hb hby at_440) rfl ((if0 _ _).trans (feq (by decide)).1) k) ?_
    show own_Ends _ _ _ _ _ _ _ (T94.setTop (mkF m 443 #[.val (.int p0), .val (.int p1), .val (.int p2), .val (.long q3), .second, .val (.long q4), .second, .val (.int p5), .val (.ref b1), .val (.ref b34), .val (.int zi), .val (.int zj), .val (.long zd), .second, .val (.int zm), .val (.int (1 : Int32)), .val (.int zk), .val (.int zq), .val (.int (1 : Int32)), .val (.int za), .val (.int zc), .val (.int zlo), .val (.int zhi), .val (.long zx), .second, .val (.long zy), .second, .val (.long zl), .second, .val (.long zh), .second, .val (.double rf), .second, .val (.double rv), .second, .val (.double rs), .second, .val (.int (1 : Int32)), .val (.int (1 : Int32))] []))
    refine own_go (fun _ k => XS.iload X94.here hx rfl (hb hby at_443) rfl k) ?_
    show own_Ends _ _ _ _ _ _ _ (T94.setTop (mkF m 445 #[.val (.int p0), .val (.int p1), .val (.int p2), .val (.long q3), .second, .val (.long q4), .second, .val (.int p5), .val (.ref b1), .val (.ref b34), .val (.int zi), .val (.int zj), .val (.long zd), .second, .val (.int zm), .val (.int (1 : Int32)), .val (.int zk), .val (.int zq), .val (.int (1 : Int32)), .val (.int za), .val (.int zc), .val (.int zlo), .val (.int zhi), .val (.long zx), .second, .val (.long zy), .second, .val (.long zl), .second, .val (.long zh), .second, .val (.double rf), .second, .val (.double rv), .second, .val (.double rs), .second, .val (.int (1 : Int32)), .val (.int (1 : Int32))] [(.int (1 : Int32))]))
    refine own_go (fun _ k => XS.ifNo X94.here hx rfl (hb hby at_445) rfl ((if0 _ _).trans (feq (by decide)).1) k) ?_
    show own_Ends _ _ _ _ _ _ _ (T94.setTop (mkF m 448 #[.val (.int p0), .val (.int p1), .val (.int p2), .val (.long q3), .second, .val (.long q4), .second, .val (.int p5), .val (.ref b1), .val (.ref b34), .val (.int zi), .val (.int zj), .val (.long zd), .second, .val (.int zm), .val (.int (1 : Int32)), .val (.int zk), .val (.int zq), .val (.int (1 : Int32)), .val (.int za), .val (.int zc), .val (.int zlo), .val (.int zhi), .val (.long zx), .second, .val (.long zy), .second, .val (.long zl), .second, .val (.long zh), .second, .val (.double rf), .second, .val (.double rv), .second, .val (.double rs), .second, .val (.int (1 : Int32)), .val (.int (1 : Int32))] []))
    refine own_go (fun _ k => XS.iconst X94.here hx rfl (hb hby at_448) k) ?_
    show own_Ends _ _ _ _ _ _ _ (T94.setTop (mkF m 449 #[.val (.int p0), .val (.int p1), .val (.int p2), .val (.long q3), .second, .val (.long q4), .second, .val (.int p5), .val (.ref b1), .val (.ref b34), .val (.int zi), .val (.int zj), .val (.long zd), .second, .val (.int zm), .val (.int (1 : Int32)), .val (.int zk), .val (.int zq), .val (.int (1 : Int32)), .val (.int za), .val (.int zc), .val (.int zlo), .val (.int zhi), .val (.long zx), .second, .val (.long zy), .second, .val (.long zl), .second, .val (.long zh), .second, .val (.double rf), .second, .val (.double rv), .second, .val (.double rs), .second, .val (.int (1 : Int32)), .val (.int (1 : Int32))] [(.int (1 : Int32))]))
    refine own_go (fun _ k => XS.goto X94.here hx rfl (pc0 := 449) (pc' := 453) rfl (hb hby at_449) (by decide) (by decide) k) ?_
    show own_Ends _ _ _ _ _ _ _ (T94.setTop (mkF m 453 #[.val (.int p0), .val (.int p1), .val (.int p2), .val (.long q3), .second, .val (.long q4), .second, .val (.int p5), .val (.ref b1), .val (.ref b34), .val (.int zi), .val (.int zj), .val (.long zd), .second, .val (.int zm), .val (.int (1 : Int32)), .val (.int zk), .val (.int zq), .val (.int (1 : Int32)), .val (.int za), .val (.int zc), .val (.int zlo), .val (.int zhi), .val (.long zx), .second, .val (.long zy), .second, .val (.long zl), .second, .val (.long zh), .second, .val (.double rf), .second, .val (.double rv), .second, .val (.double rs), .second, .val (.int (1 : Int32)), .val (.int (1 : Int32))] [(.int (1 : Int32))]))
    exact own_retN X94 hx hlk (t := .boolean) Bd.returns (by simp) (hb hby at_453) (by decide) (by decide) ⟨rfl, N94⟩
set_option maxRecDepth 65536 in
set_option maxHeartbeats 40000000 in
theorem comes_1 {Post : Tables → Env → Array Value → State → Outcome → State → Prop} (hpost : ∀ tb e args s v u, (limb_1_1.after args s (.returned v) u = true ∧ limb_1_2.after args s (.returned v) u = true ∧ True) → FrameEnd s (.returned v) u (Jvm.fieldLocs frame_1_writes args s ++ Jvm.arrayLocs frame_1_arrays args s ++ Jvm.staticLocs frame_1_statics s) 32 192 → Post tb e args s (.returned v) u) :
    ArmFor flags0 classFile x code maxLocals ret World_1 tables_1 room_1 Calls_1 rest_1 Pre_1 Post := by
  intro l hfl _ _ p e ha hc hk s m args below hf hA hF happ hP
  obtain ⟨hcalls, hrest, hpre⟩ := hP
  obtain ⟨-, -, -, hnamed, -, -, -, hat⟩ := (Spec.applies_iff hf).mp happ
  obtain ⟨hg, hn⟩ := and_e (Cond.before_iff.mp (show (Jvm.Cond.and given_1 narrow_1).before args s = true from hpre))
  obtain ⟨hcount, hg0⟩ := and_e hg
  obtain ⟨ga0, hg1⟩ := and_e hg0
  obtain ⟨ga1, hg2⟩ := and_e hg1
  obtain ⟨ga2, hg3⟩ := and_e hg2
  obtain ⟨ga3, hg4⟩ := and_e hg3
  obtain ⟨ga4, hg5⟩ := and_e hg4
  obtain ⟨w0, w1, w2, w3, w4, w5, rfl⟩ : ∃ w0 w1 w2 w3 w4 w5 : Value, args = #[w0, w1, w2, w3, w4, w5] := by
    have hs : args.size = 6 := by simpa [Cond.value, given_1] using hcount
    obtain ⟨L⟩ := args
    match L, hs with
    | [w0, w1, w2, w3, w4, w5], _ => exact ⟨w0, w1, w2, w3, w4, w5, rfl⟩
  have hw := fun d (hd : d ∈ tables_1) => atoms_spec (ws := Jvm.Cond.code x code maxLocals ret :: tables_1) hat d (List.mem_cons_of_mem _ hd)
  have hfit : Fit s := fun {y c} hc i hi => by
    obtain ⟨ha, rfl⟩ := Array.getElem?_eq_some_iff.mp hc
    have q := List.all_eq_true.mp ((Array.all_eq_true_iff_forall_mem.mp hF) _ (Array.getElem_mem ha)) i (List.mem_range.mpr hi)
    simpa [Array.getElem?_eq_getElem hi] using q
  obtain ⟨p0, ei0⟩ := is_v ga0
  obtain rfl : w0 = (.int p0) := Option.some.inj ei0
  obtain ⟨p1, ei1⟩ := is_v ga1
  obtain rfl : w1 = (.int p1) := Option.some.inj ei1
  obtain ⟨p2, ei2⟩ := is_v ga2
  obtain rfl : w2 = (.int p2) := Option.some.inj ei2
  obtain ⟨q3, ei3⟩ := isL_v ga3
  obtain rfl : w3 = (.long q3) := Option.some.inj ei3
  obtain ⟨q4, ei4⟩ := isL_v ga4
  obtain rfl : w4 = (.long q4) := Option.some.inj ei4
  obtain ⟨p5, ei5⟩ := is_v hg5
  obtain rfl : w5 = (.int p5) := Option.some.inj ei5
  obtain ⟨n, o, h1, h2, h3, _, L, rfl, ⟨rfl, N⟩, hq⟩ := rm0 l s _ hw tables_1 p0 p1 p2 q3 q4 p5 s.heap s.heap.size (Old.start s) p e ha hc hk s m _ below hf ((Spec.applies_iff_loose hf).mp happ).1 ⟨rfl, State.Warmed39.refl s, rfl⟩ trivial
  refine ⟨n, _, h1, h2, h3, hpost _ _ _ _ _ _ ⟨Cond.after_iff.mpr rfl, Cond.after_iff.mpr (eq_i res_at (Term.int_eval (1)) rfl), trivial⟩ ⟨hq.1, hq.2.1, (hq.2.2.sift fun y hy => Or.inr (N y hy)).mono (by decide) (by decide)⟩⟩
theorem main_1_1 : Claimed_1_1 := comes_1 fun _ _ _ _ _ _ h hF => ⟨h.1, hF⟩
theorem main_1_2 : Claimed_1_2 := comes_1 fun _ _ _ _ _ _ h hF => ⟨h.2.1, hF⟩
end Jvm.Pilot.@@N@@
namespace Jvm.Pilot.@@N@@
open Jvm Jvm.ClassFile Sem Op Lib Jvm.Free Jvm.Stand Jvm.Pilot.@@N@@.Jvm.D
/-! MADE BY PROGRAM (witnessworld.py) out of the Statement's table words and the real class files: 13 classes; the members and pool entries that the words name. The judged class is class 1, her method 2. -/
namespace start1
open Jvm.ClassFile
def u (s : String) : CpInfo := .utf8 (stringToUtf16 s)
/-- a pool by its gaps: so many unusable entries, then the entry; so many at the end -/
def gap : Nat → List CpInfo → List CpInfo
  | 0, r => r
  | n + 1, r => .unusable :: gap n r
def poolList (es : List (Nat × CpInfo)) (last : Nat) : List CpInfo := es.foldr (fun e r => gap e.1 (e.2 :: r)) (gap last [])
def pool (es : List (Nat × CpInfo)) (last : Nat) : Array CpInfo := ⟨poolList es last⟩
def fileOf (pool : Array CpInfo) (this : Nat) (attrs : Array Attribute := #[]) (ms : Array MethodInfo := #[]) (fl : Nat := 33) (sup : Nat := 0) (ifs : Array Nat := #[]) (fds : Array FieldInfo := #[]) : ClassFile where
  minorVersion := 0
  majorVersion := 65
  constantPool := pool
  accessFlags := fl
  thisClass := this
  superClass := sup
  interfaces := ifs
  fields := fds
  methods := ms
  attributes := attrs
def plain (name : String) (sup : Option ClassId) : Class where
  name := name
  kind := .ordinary
  loader := none
  accessFlags := 33
  super := sup
  interfaces := #[]
  cf := none
  fields := #[]
  methods := #[]
  instanceTypes := #[]
  staticTypes := #[]
  resolved := #[]
  callSites := []
  init := .initialized
  statics := none
  mirror := none

def pool0 : Array CpInfo := pool [(5, u "<init>"), (0, u "()V"), (1, .class_ 10), (1, u "java/lang/Object")] 113

def k0c0 : Code := { maxStack := 0, maxLocals := 1, code := object_method_1_code, exceptionTable := #[], attributes := #[] }
def k0m0 : Method := { name := "<init>", desc := "()V", sig := { parameters := [], returnType := none }, accessFlags := 1, code := some k0c0 }
/-- java/lang/Object -/
def k0 : Class := { plain "java/lang/Object" none with
  accessFlags := 33
  interfaces := #[]
  cf := some (fileOf pool0 8 #[] #[{ accessFlags := 1, nameIndex := 5, descriptorIndex := 6, attributes := #[] }] 33 0 #[] #[])
  fields := #[]
  methods := #[k0m0]
  instanceTypes := #[]
  staticTypes := #[]
  resolved := Array.replicate 124 none
  statics := none }

def pool1 : Array CpInfo := pool [(2, .class_ 4), (1, u "java/lang/Object"), (0, u "<init>"), (0, u "()V"), (0, .class_ 8), (0, u "com/example/octroi/octroi/bench/ClosedLoop$Sent"), (0, .methodref 7 10), (0, .nameAndType 5 11), (0, u "(IJ[JII)V"), (0, .methodref 7 13), (0, .nameAndType 14 15), (0, u "perSecond"), (0, u "()D"), (0, .long 2), (1, .long 4), (1, .long 8), (1, .long 16), (1, .long 32), (1, .long 64), (1, .long 128), (1, .long 256), (1, .long 512), (1, .long 5), (1, .long 25), (1, .long 125), (1, .long 625), (1, .long 3125), (1, .long 15625), (1, .long 78125), (1, .long 390625), (1, .long 1953125), (1, .integer 1048575), (0, .long 1000000000), (1, .methodref 56 57), (0, .class_ 58), (0, .nameAndType 59 60), (0, u "com/example/octroi/octroi/bench/SentPerSecondPinLaw"), (0, u "rate"), (0, u "(IJ)D"), (0, .integer 2147483647), (0, .methodref 63 64), (0, .class_ 65), (0, .nameAndType 66 67), (0, u "java/lang/Math"), (0, u "min"), (0, u "(II)I"), (0, .methodref 63 69), (0, .nameAndType 70 67), (0, u "max"), (2, .long 9223372036854775807), (1, .methodref 63 76), (0, .nameAndType 70 77), (0, u "(JJ)J"), (0, .methodref 63 79), (0, .nameAndType 66 77), (2, u "law"), (0, u "(IIIJJI)Z")] 9

def k1m0 : Method := { name := "<init>", desc := "()V", sig := { parameters := [], returnType := none }, accessFlags := 1, code := none }
def k1c1 : Code := { maxStack := 8, maxLocals := 3, code := method_2_code, exceptionTable := #[], attributes := #[] }
def k1m1 : Method := { name := "rate", desc := "(IJ)D", sig := { parameters := [.int, .long], returnType := some .double }, accessFlags := 10, code := some k1c1 }
def k1c2 : Code := { maxStack := 6, maxLocals := 39, code := code, exceptionTable := #[], attributes := #[] }
def k1m2 : Method := { name := "law", desc := "(IIIJJI)Z", sig := { parameters := [.int, .int, .int, .long, .long, .int], returnType := some .boolean }, accessFlags := 9, code := some k1c2 }
/-- com/example/octroi/octroi/bench/SentPerSecondPinLaw -/
def k1 : Class := { plain "com/example/octroi/octroi/bench/SentPerSecondPinLaw" (some 0) with
  accessFlags := 49
  interfaces := #[]
  cf := some (fileOf pool1 56 #[] #[{ accessFlags := 1, nameIndex := 5, descriptorIndex := 6, attributes := #[] }, { accessFlags := 10, nameIndex := 59, descriptorIndex := 60, attributes := #[] }, { accessFlags := 9, nameIndex := 82, descriptorIndex := 83, attributes := #[] }] 49 2 #[] #[])
  fields := #[]
  methods := #[k1m0, k1m1, k1m2]
  instanceTypes := #[]
  staticTypes := #[]
  resolved := Array.replicate 93 none
  statics := none }

def pool2 : Array CpInfo := pool [(1, .methodref 2 3), (0, .class_ 4), (0, .nameAndType 5 6), (0, u "java/lang/Object"), (0, u "<init>"), (0, u "()V"), (0, .class_ 8), (0, u "java/lang/Record")] 13

def k2c0 : Code := { maxStack := 1, maxLocals := 1, code := jdk_30_method_1_code, exceptionTable := #[], attributes := #[] }
def k2m0 : Method := { name := "<init>", desc := "()V", sig := { parameters := [], returnType := none }, accessFlags := 4, code := some k2c0 }
/-- java/lang/Record -/
def k2 : Class := { plain "java/lang/Record" (some 0) with
  accessFlags := 1057
  interfaces := #[]
  cf := some (fileOf pool2 7 #[] #[{ accessFlags := 4, nameIndex := 5, descriptorIndex := 6, attributes := #[] }] 1057 2 #[] #[])
  fields := #[]
  methods := #[k2m0]
  instanceTypes := #[]
  staticTypes := #[]
  resolved := Array.replicate 22 none
  statics := none }

def pool3 : Array CpInfo := pool [(1, .methodref 2 3), (0, .class_ 4), (0, .nameAndType 5 6), (0, u "java/lang/Record"), (0, u "<init>"), (0, u "()V"), (0, .fieldref 8 9), (0, .class_ 10), (0, .nameAndType 11 12), (0, u "com/example/octroi/octroi/bench/ClosedLoop$Sent"), (0, u "count"), (0, u "I"), (0, .fieldref 8 14), (0, .nameAndType 15 16), (0, u "nanos"), (0, u "J"), (0, .fieldref 8 18), (0, .nameAndType 19 20), (0, u "latencies"), (0, u "[J"), (0, .fieldref 8 22), (0, .nameAndType 23 12), (0, u "notOk"), (0, .fieldref 8 25), (0, .nameAndType 26 12), (0, u "succeeded"), (0, .double 4741671816366391296), (38, u "(IJ[JII)V"), (3, u "perSecond"), (0, u "()D"), (9, .class_ 82), (0, u "com/example/octroi/octroi/bench/ClosedLoop")] 23

def k3c0 : Code := { maxStack := 3, maxLocals := 7, code := prog_12_method_1_code, exceptionTable := #[], attributes := #[] }
def k3m0 : Method := { name := "<init>", desc := "(IJ[JII)V", sig := { parameters := [.int, .long, (.array .long), .int, .int], returnType := none }, accessFlags := 0, code := some k3c0 }
def k3c1 : Code := { maxStack := 4, maxLocals := 1, code := prog_12_method_2_code, exceptionTable := #[], attributes := #[] }
def k3m1 : Method := { name := "perSecond", desc := "()D", sig := { parameters := [], returnType := some .double }, accessFlags := 0, code := some k3c1 }
/-- com/example/octroi/octroi/bench/ClosedLoop$Sent -/
def k3 : Class := { plain "com/example/octroi/octroi/bench/ClosedLoop$Sent" (some 2) with
  accessFlags := 48
  interfaces := #[]
  cf := some (fileOf pool3 8 #[.nestHost 81] #[{ accessFlags := 0, nameIndex := 5, descriptorIndex := 66, attributes := #[] }, { accessFlags := 0, nameIndex := 70, descriptorIndex := 71, attributes := #[] }] 48 2 #[] #[{ accessFlags := 18, nameIndex := 11, descriptorIndex := 12, attributes := #[] }, { accessFlags := 18, nameIndex := 15, descriptorIndex := 16, attributes := #[] }, { accessFlags := 18, nameIndex := 19, descriptorIndex := 20, attributes := #[] }, { accessFlags := 18, nameIndex := 23, descriptorIndex := 12, attributes := #[] }, { accessFlags := 18, nameIndex := 26, descriptorIndex := 12, attributes := #[] }])
  fields := #[{ name := "count", type := .int, accessFlags := 18, slot := 0, constantValue := 0 }, { name := "nanos", type := .long, accessFlags := 18, slot := 1, constantValue := 0 }, { name := "latencies", type := (.array .long), accessFlags := 18, slot := 2, constantValue := 0 }, { name := "notOk", type := .int, accessFlags := 18, slot := 3, constantValue := 0 }, { name := "succeeded", type := .int, accessFlags := 18, slot := 4, constantValue := 0 }]
  methods := #[k3m0, k3m1]
  instanceTypes := #[.int, .long, (.array .long), .int, .int]
  staticTypes := #[]
  resolved := Array.replicate 106 none
  statics := none }

def pool4 : Array CpInfo := pool [(1, .class_ 2), (0, u "java/lang/Math"), (1, .class_ 6), (1, u "java/lang/Object"), (0, u "<init>"), (0, u "()V"), (89, .class_ 100), (1, u "java/lang/Math$RandomNumberGeneratorHolder"), (20, u "(JJ)J"), (50, u "negativeZeroFloatBits"), (0, u "J"), (2, u "negativeZeroDoubleBits"), (21, u "max"), (2, u "min"), (43, u "$assertionsDisabled"), (0, u "Z"), (88, u "(II)I"), (2, u "twoToTheDoubleScaleDown"), (0, u "D"), (4, u "twoToTheDoubleScaleUp"), (9, u "E"), (3, u "PI"), (2, u "TAU"), (2, u "DEGREES_TO_RADIANS"), (0, u "RADIANS_TO_DEGREES")] 94

def k4m0 : Method := { name := "<init>", desc := "()V", sig := { parameters := [], returnType := none }, accessFlags := 2, code := none }
def k4c1 : Code := { maxStack := 2, maxLocals := 2, code := jdk_29_method_65_code, exceptionTable := #[], attributes := #[] }
def k4m1 : Method := { name := "max", desc := "(II)I", sig := { parameters := [.int, .int], returnType := some .int }, accessFlags := 9, code := some k4c1 }
def k4c2 : Code := { maxStack := 4, maxLocals := 4, code := jdk_29_method_66_code, exceptionTable := #[], attributes := #[] }
def k4m2 : Method := { name := "max", desc := "(JJ)J", sig := { parameters := [.long, .long], returnType := some .long }, accessFlags := 9, code := some k4c2 }
def k4c3 : Code := { maxStack := 2, maxLocals := 2, code := jdk_29_method_69_code, exceptionTable := #[], attributes := #[] }
def k4m3 : Method := { name := "min", desc := "(II)I", sig := { parameters := [.int, .int], returnType := some .int }, accessFlags := 9, code := some k4c3 }
def k4c4 : Code := { maxStack := 4, maxLocals := 4, code := jdk_29_method_70_code, exceptionTable := #[], attributes := #[] }
def k4m4 : Method := { name := "min", desc := "(JJ)J", sig := { parameters := [.long, .long], returnType := some .long }, accessFlags := 9, code := some k4c4 }
/-- java/lang/Math -/
def k4 : Class := { plain "java/lang/Math" (some 0) with
  accessFlags := 49
  interfaces := #[]
  cf := some (fileOf pool4 1 #[.nestMembers #[98]] #[{ accessFlags := 2, nameIndex := 7, descriptorIndex := 8, attributes := #[] }, { accessFlags := 9, nameIndex := 198, descriptorIndex := 335, attributes := #[] }, { accessFlags := 9, nameIndex := 198, descriptorIndex := 121, attributes := #[] }, { accessFlags := 9, nameIndex := 201, descriptorIndex := 335, attributes := #[] }, { accessFlags := 9, nameIndex := 201, descriptorIndex := 121, attributes := #[] }] 49 4 #[] #[{ accessFlags := 25, nameIndex := 354, descriptorIndex := 339, attributes := #[] }, { accessFlags := 25, nameIndex := 358, descriptorIndex := 339, attributes := #[] }, { accessFlags := 25, nameIndex := 361, descriptorIndex := 339, attributes := #[] }, { accessFlags := 26, nameIndex := 364, descriptorIndex := 339, attributes := #[] }, { accessFlags := 26, nameIndex := 365, descriptorIndex := 339, attributes := #[] }, { accessFlags := 26, nameIndex := 172, descriptorIndex := 173, attributes := #[] }, { accessFlags := 26, nameIndex := 176, descriptorIndex := 173, attributes := #[] }, { accessFlags := 8, nameIndex := 344, descriptorIndex := 339, attributes := #[] }, { accessFlags := 8, nameIndex := 338, descriptorIndex := 339, attributes := #[] }, { accessFlags := 4120, nameIndex := 245, descriptorIndex := 246, attributes := #[] }])
  fields := #[{ name := "E", type := .double, accessFlags := 25, slot := 0, constantValue := 0 }, { name := "PI", type := .double, accessFlags := 25, slot := 1, constantValue := 0 }, { name := "TAU", type := .double, accessFlags := 25, slot := 2, constantValue := 0 }, { name := "DEGREES_TO_RADIANS", type := .double, accessFlags := 26, slot := 3, constantValue := 0 }, { name := "RADIANS_TO_DEGREES", type := .double, accessFlags := 26, slot := 4, constantValue := 0 }, { name := "negativeZeroFloatBits", type := .long, accessFlags := 26, slot := 5, constantValue := 0 }, { name := "negativeZeroDoubleBits", type := .long, accessFlags := 26, slot := 6, constantValue := 0 }, { name := "twoToTheDoubleScaleUp", type := .double, accessFlags := 8, slot := 7, constantValue := 0 }, { name := "twoToTheDoubleScaleDown", type := .double, accessFlags := 8, slot := 8, constantValue := 0 }, { name := "$assertionsDisabled", type := .boolean, accessFlags := 4120, slot := 9, constantValue := 0 }]
  methods := #[k4m0, k4m1, k4m2, k4m3, k4m4]
  instanceTypes := #[]
  staticTypes := #[.double, .double, .double, .double, .double, .long, .long, .double, .double, .boolean]
  resolved := Array.replicate 460 none
  statics := none }

def pool5 : Array CpInfo := pool [(1, u "java/lang/Cloneable"), (0, .class_ 1), (0, u "java/lang/Object"), (0, .class_ 3)] 3

/-- java/lang/Cloneable -/
def k5 : Class := { plain "java/lang/Cloneable" (some 0) with
  accessFlags := 1537
  interfaces := #[]
  cf := some (fileOf pool5 2 #[] #[] 1537 4 #[] #[])
  fields := #[]
  methods := #[]
  instanceTypes := #[]
  staticTypes := #[]
  resolved := Array.replicate 8 none
  statics := none }

def pool6 : Array CpInfo := pool [(1, u "java/io/Serializable"), (0, .class_ 1), (0, u "java/lang/Object"), (0, .class_ 3)] 3

/-- java/io/Serializable -/
def k6 : Class := { plain "java/io/Serializable" (some 0) with
  accessFlags := 1537
  interfaces := #[]
  cf := some (fileOf pool6 2 #[] #[] 1537 4 #[] #[])
  fields := #[]
  methods := #[]
  instanceTypes := #[]
  staticTypes := #[]
  resolved := Array.replicate 8 none
  statics := none }

/-- the primitive byte -/
def k7 : Class := { plain "byte" none with kind := .primitive 'B', accessFlags := 0x411 }
/-- [B -/
def k8 : Class := { plain "[B" (some 0) with kind := .array 7 .byte, interfaces := #[5, 6], accessFlags := 1041 }

/-- the primitive int -/
def k9 : Class := { plain "int" none with kind := .primitive 'I', accessFlags := 0x411 }
/-- [I -/
def k10 : Class := { plain "[I" (some 0) with kind := .array 9 .int, interfaces := #[5, 6], accessFlags := 1041 }

/-- the primitive long -/
def k11 : Class := { plain "long" none with kind := .primitive 'J', accessFlags := 0x411 }
/-- [J -/
def k12 : Class := { plain "[J" (some 0) with kind := .array 11 .long, interfaces := #[5, 6], accessFlags := 1041 }

def heap : Heap := #[]
def classes : Array Class := #[k0, k1, k2, k3, k4, k5, k6, k7, k8, k9, k10, k11, k12]
def interned : List (Array UInt16 × Addr) := []
def slotsUsed : Nat := 0
def theMethod : MethodId := ⟨1, 2⟩
def args0 : Array Value := #[.int 5, .int 3, .int 7, .long 20, .long 9, .int 3]
def aboutOver (below : List Frame) : State where
  vm := { classes := classes, interned := interned.toArray }
  heap := heap
  slotsUsed := slotsUsed
  threads := #[{ frames := .invoking theMethod args0 :: below }]
def below0 : List Frame := [.native { method := ⟨0, 0⟩, args := #[] }]
def about1 : State := aboutOver below0
def p0 : Program := .bare "" "" ""
def e0 : Env := launch0.env 0 0 0
theorem w_frames : about1.frames = Frame.invoking theMethod args0 :: below0 := rfl
set_option maxRecDepth 65536 in
theorem w_args : argsFit about1.vm theMethod args0 = true := by decide +kernel
set_option maxRecDepth 65536 in
theorem w_heap : heapFits about1 = true := by decide +kernel
set_option maxRecDepth 65536 in
theorem w_runnable : about1.curStatus? = some .runnable := by decide +kernel
set_option maxRecDepth 65536 in
theorem w_alone : about1.alone = true := by decide +kernel
set_option maxRecDepth 65536 in
theorem w_named : about1.methodNamed? x = some theMethod := by decide +kernel
set_option maxRecDepth 65536 in
theorem w_hears : about1.hears theMethod below0 = true := by decide +kernel
set_option maxRecDepth 65536 in
theorem w_ripe : about1.ripe theMethod args0 below0 = true := by decide +kernel
theorem w_running : about1.status = .running := rfl
set_option maxRecDepth 65536 in
theorem w_room : about1.hasRoom e0.platform room_1 = true :=
  launch0.hasRoom_least _ room_1 (by decide +kernel) (by decide +kernel) (by decide +kernel) (by decide +kernel) (by decide +kernel) (by decide +kernel)
theorem allAtoms_all (ts : List Jvm.Cond) (a : Array Jvm.Value) (st : Jvm.State) : (allAtoms ts).before a st = ts.all (fun c => c.before a st) := by
  induction ts with
  | nil => rfl
  | cons c t ih =>
    show (Jvm.Cond.and c (allAtoms t)).before a st = _
    rw [Jvm.Cond.before_and, ih, List.all_cons]
def words1 : List Jvm.Cond := Jvm.Cond.code x code maxLocals ret :: tables_1
/-- a 'code' word, met by the world's own term for the bytes: nothing is compared byte by byte -/
theorem code_word {y : MethodName} {bytes : ByteArray} {mx : Nat} {rt : Option FieldType} {a : Array Value} {s : State} {m : MethodId} {meth : Method} {c : Code} (h1 : s.methodNamed? y = some m) (h2 : s.vm.method? m = some meth) (h3 : meth.code = some c) (h4 : c.code = bytes)
    (h5 : (c.maxLocals == mx && c.exceptionTable.isEmpty && decide (c.maxStack ≤ mostOperands) && decide (meth.sig.returnType = rt) && !meth.locks && decide (parseMethodDescriptor y.desc = some meth.sig)) = true) : (Jvm.Cond.code y bytes mx rt).before a s = true := by
  simp only [Bool.and_eq_true, beq_iff_eq, Bool.not_eq_true', decide_eq_true_eq] at h5
  obtain ⟨⟨⟨⟨⟨g1, g2⟩, g3⟩, g4⟩, g5⟩, g6⟩ := h5
  simp [Cond.before, Cond.holds, Cond.value, h1, h2, h3, h4, g1, g2, g3, g4, g5, g6]
def isCode : Jvm.Cond → Bool
  | .code _ _ _ _ => true
  | _ => false
theorem all_split {L : List Jvm.Cond} {P : Jvm.Cond → Bool} (h1 : L.all (fun c => isCode c || P c) = true) (h2 : ∀ c ∈ L.filter isCode, P c = true) : L.all P = true := by
  refine List.all_eq_true.mpr fun c hc => ?_
  have h := List.all_eq_true.mp h1 c hc
  rcases Bool.eq_false_or_eq_true (isCode c) with hi | hi
  · exact h2 c (List.mem_filter.mpr ⟨hc, hi⟩)
  · simpa [hi] using h
set_option maxRecDepth 65536 in
theorem w_c0 : (Jvm.Cond.code x code maxLocals ret).before args0 about1 = true := code_word (m := ⟨1, 2⟩) (meth := k1m2) (c := k1c2) (by decide +kernel) rfl rfl rfl (by decide +kernel)
set_option maxRecDepth 65536 in
theorem w_c1 : (Jvm.Cond.code ({ cls := "com/example/octroi/octroi/bench/SentPerSecondPinLaw", name := "rate", desc := "(IJ)D" } : Jvm.MethodName) method_2_code (3 : Nat) (Option.some Jvm.ClassFile.FieldType.double)).before args0 about1 = true := code_word (m := ⟨1, 1⟩) (meth := k1m1) (c := k1c1) (by decide +kernel) rfl rfl rfl (by decide +kernel)
set_option maxRecDepth 65536 in
theorem w_c2 : (Jvm.Cond.code ({ cls := "com/example/octroi/octroi/bench/ClosedLoop$Sent", name := "<init>", desc := "(IJ[JII)V" } : Jvm.MethodName) prog_12_method_1_code (7 : Nat) (Option.none : Option Jvm.ClassFile.FieldType)).before args0 about1 = true := code_word (m := ⟨3, 0⟩) (meth := k3m0) (c := k3c0) (by decide +kernel) rfl rfl rfl (by decide +kernel)
set_option maxRecDepth 65536 in
theorem w_c3 : (Jvm.Cond.code ({ cls := "java/lang/Record", name := "<init>", desc := "()V" } : Jvm.MethodName) jdk_30_method_1_code (1 : Nat) (Option.none : Option Jvm.ClassFile.FieldType)).before args0 about1 = true := code_word (m := ⟨2, 0⟩) (meth := k2m0) (c := k2c0) (by decide +kernel) rfl rfl rfl (by decide +kernel)
set_option maxRecDepth 65536 in
theorem w_c4 : (Jvm.Cond.code ({ cls := "java/lang/Object", name := "<init>", desc := "()V" } : Jvm.MethodName) object_method_1_code (1 : Nat) (Option.none : Option Jvm.ClassFile.FieldType)).before args0 about1 = true := code_word (m := ⟨0, 0⟩) (meth := k0m0) (c := k0c0) (by decide +kernel) rfl rfl rfl (by decide +kernel)
set_option maxRecDepth 65536 in
theorem w_c5 : (Jvm.Cond.code ({ cls := "com/example/octroi/octroi/bench/ClosedLoop$Sent", name := "perSecond", desc := "()D" } : Jvm.MethodName) prog_12_method_2_code (1 : Nat) (Option.some Jvm.ClassFile.FieldType.double)).before args0 about1 = true := code_word (m := ⟨3, 1⟩) (meth := k3m1) (c := k3c1) (by decide +kernel) rfl rfl rfl (by decide +kernel)
set_option maxRecDepth 65536 in
theorem w_c6 : (Jvm.Cond.code ({ cls := "java/lang/Math", name := "min", desc := "(II)I" } : Jvm.MethodName) jdk_29_method_69_code (2 : Nat) (Option.some Jvm.ClassFile.FieldType.int)).before args0 about1 = true := code_word (m := ⟨4, 3⟩) (meth := k4m3) (c := k4c3) (by decide +kernel) rfl rfl rfl (by decide +kernel)
set_option maxRecDepth 65536 in
theorem w_c7 : (Jvm.Cond.code ({ cls := "java/lang/Math", name := "max", desc := "(II)I" } : Jvm.MethodName) jdk_29_method_65_code (2 : Nat) (Option.some Jvm.ClassFile.FieldType.int)).before args0 about1 = true := code_word (m := ⟨4, 1⟩) (meth := k4m1) (c := k4c1) (by decide +kernel) rfl rfl rfl (by decide +kernel)
set_option maxRecDepth 65536 in
theorem w_c8 : (Jvm.Cond.code ({ cls := "java/lang/Math", name := "max", desc := "(JJ)J" } : Jvm.MethodName) jdk_29_method_66_code (4 : Nat) (Option.some Jvm.ClassFile.FieldType.long)).before args0 about1 = true := code_word (m := ⟨4, 2⟩) (meth := k4m2) (c := k4c2) (by decide +kernel) rfl rfl rfl (by decide +kernel)
set_option maxRecDepth 65536 in
theorem w_c9 : (Jvm.Cond.code ({ cls := "java/lang/Math", name := "min", desc := "(JJ)J" } : Jvm.MethodName) jdk_29_method_70_code (4 : Nat) (Option.some Jvm.ClassFile.FieldType.long)).before args0 about1 = true := code_word (m := ⟨4, 4⟩) (meth := k4m4) (c := k4c4) (by decide +kernel) rfl rfl rfl (by decide +kernel)
def codes1 : List Jvm.Cond := [Jvm.Cond.code x code maxLocals ret, Jvm.Cond.code ({ cls := "com/example/octroi/octroi/bench/SentPerSecondPinLaw", name := "rate", desc := "(IJ)D" } : Jvm.MethodName) method_2_code (3 : Nat) (Option.some Jvm.ClassFile.FieldType.double), Jvm.Cond.code ({ cls := "com/example/octroi/octroi/bench/ClosedLoop$Sent", name := "<init>", desc := "(IJ[JII)V" } : Jvm.MethodName) prog_12_method_1_code (7 : Nat) (Option.none : Option Jvm.ClassFile.FieldType), Jvm.Cond.code ({ cls := "java/lang/Record", name := "<init>", desc := "()V" } : Jvm.MethodName) jdk_30_method_1_code (1 : Nat) (Option.none : Option Jvm.ClassFile.FieldType), Jvm.Cond.code ({ cls := "java/lang/Object", name := "<init>", desc := "()V" } : Jvm.MethodName) object_method_1_code (1 : Nat) (Option.none : Option Jvm.ClassFile.FieldType), Jvm.Cond.code ({ cls := "com/example/octroi/octroi/bench/ClosedLoop$Sent", name := "perSecond", desc := "()D" } : Jvm.MethodName) prog_12_method_2_code (1 : Nat) (Option.some Jvm.ClassFile.FieldType.double), Jvm.Cond.code ({ cls := "java/lang/Math", name := "min", desc := "(II)I" } : Jvm.MethodName) jdk_29_method_69_code (2 : Nat) (Option.some Jvm.ClassFile.FieldType.int), Jvm.Cond.code ({ cls := "java/lang/Math", name := "max", desc := "(II)I" } : Jvm.MethodName) jdk_29_method_65_code (2 : Nat) (Option.some Jvm.ClassFile.FieldType.int), Jvm.Cond.code ({ cls := "java/lang/Math", name := "max", desc := "(JJ)J" } : Jvm.MethodName) jdk_29_method_66_code (4 : Nat) (Option.some Jvm.ClassFile.FieldType.long), Jvm.Cond.code ({ cls := "java/lang/Math", name := "min", desc := "(JJ)J" } : Jvm.MethodName) jdk_29_method_70_code (4 : Nat) (Option.some Jvm.ClassFile.FieldType.long)]
set_option maxRecDepth 65536 in
theorem codes_eq : words1.filter isCode = codes1 := rfl
theorem w_codes : ∀ c ∈ words1.filter isCode, c.before args0 about1 = true := by
  rw [codes_eq]
  intro c hc
  simp only [codes1, List.mem_cons, List.not_mem_nil, or_false] at hc
  rcases hc with rfl | rfl | rfl | rfl | rfl | rfl | rfl | rfl | rfl | rfl
  · exact w_c0
  · exact w_c1
  · exact w_c2
  · exact w_c3
  · exact w_c4
  · exact w_c5
  · exact w_c6
  · exact w_c7
  · exact w_c8
  · exact w_c9
set_option maxRecDepth 65536 in
theorem w_t1 : (words1.take 24).all (fun c => isCode c || c.before args0 about1) = true := by decide +kernel
set_option maxRecDepth 65536 in
theorem w_t2 : ((words1.drop 24).take 24).all (fun c => isCode c || c.before args0 about1) = true := by decide +kernel
set_option maxRecDepth 65536 in
theorem w_t3 : ((words1.drop 24).drop 24).all (fun c => isCode c || c.before args0 about1) = true := by decide +kernel
theorem w_tables : (allAtoms (Jvm.Cond.code x code maxLocals ret :: tables_1)).before args0 about1 = true := by
  rw [allAtoms_all]
  show words1.all (fun c => c.before args0 about1) = true
  refine all_split ?_ w_codes
  rw [← List.take_append_drop 24 words1, List.all_append, w_t1, ← List.take_append_drop 24 (words1.drop 24), List.all_append, w_t2, w_t3]
  rfl
set_option maxRecDepth 65536 in
theorem w_case : (Jvm.Cond.and given_1 narrow_1).before args0 about1 = true := by decide +kernel
theorem w_applies : (headSpec (Jvm.Cond.code x code maxLocals ret :: tables_1) room_1).applies x e0.platform about1 = true :=
  (Spec.applies_iff w_frames).mpr ⟨w_running, w_runnable, w_alone, w_named, w_hears, w_ripe, w_room, w_tables⟩
theorem atStart : AtStart classFile x code maxLocals ret World_1 tables_1 room_1 Calls_1 rest_1 Pre_1 launch0 p0 e0 about1 theMethod args0 below0 :=
  ⟨lists_1, trivial, launch0.admits_env _ _ _, launch0.least_env, fairChoices_fair.cas, fairChoices_fair.clock, w_frames, w_args, w_heap, w_applies, trivial, trivial, w_case⟩
end start1
theorem witness_1 : WitnessClaimed_1 := ⟨start1.p0, start1.e0, start1.about1, start1.theMethod, start1.args0, start1.below0, start1.atStart⟩
end Jvm.Pilot.@@N@@
