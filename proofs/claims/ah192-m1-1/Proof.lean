import JvmDerived
import JvmDerived.Pilot.@@N@@Statement
import JvmDerived.Pilot.@@N@@Code
set_option linter.unusedVariables false
set_option linter.unusedSimpArgs false
@@BLOCK:NumsL.lean.txt@@
namespace Jvm.Pilot.@@N@@
open Jvm Jvm.ClassFile Sem Op Lib Jvm.Free Jvm.Stand Jvm.LawKit Jvm.RoadKit Bundle Jvm.Pilot.@@N@@.Jvm.D
theorem own_ne {k : Int32} {n : Int} (z : Int32) (hl : z.toInt = n) (h : ¬ k = z) : n ≠ k.toInt := fun e => h (Int32.toInt_inj.mp (by rw [hl]; exact e.symm))
theorem own_ext {Z : State} {n0 : Nat} {h : Heap} (O : Old Z n0 h) : Ext Z.heap h := O.2
theorem own_sz {Z : State} {n0 : Nat} {h : Heap} (O : Old Z n0 h) : n0 ≤ h.size := by have := O.2.1; rw [O.1] at this; exact this
def own_Ends (p : Program) (e : Env) (below : List Frame) (s : State) (Q : Option Value → Heap → List Loc → Prop) (k n : Nat) (A : State) : Prop :=
  ∃ (U : State) (o : Outcome), Steps p.tables e below A U ∧ U.status = .running ∧ Ended U below o ∧ ∃ v L, o = .returned v ∧ Q v U.heap L ∧ FrameEnd s o U L k n
section OwnKit
variable {p : Program} {l : Launch} {e : Env} {R : Room} {s : State} {m : MethodId} {args : Array Value} {below : List Frame} {meth : Method} {c : Code} {T : State} {locs : List Loc} {cells slots k n : Nat} {Q : Option Value → Heap → List Loc → Prop} {A B : State}
theorem own_go (h : ∀ t, Steps p.tables e below B t → Steps p.tables e below A t) (K : own_Ends p e below s Q k n B) : own_Ends p e below s Q k n A := by
  obtain ⟨U, o, h1, r⟩ := K
  exact ⟨U, o, h U h1, r⟩
theorem own_ret (X : Stand p l e R s m args below meth c T locs cells slots) (hx : p.tables.exec = Jvm.exec) (hlk : meth.locks = false) {pc : Nat} {Ls : Array Slot} {w : Value} {t : FieldType} {i : Instr} {rest : List Value} (hret : meth.sig.returnType = some t) (hn : narrow t w = w)
    (hi : (i = .ireturn ∧ (t = .int ∨ t = .boolean ∨ t = .byte ∨ t = .char ∨ t = .short) ∧ ∃ z, w = .int z) ∨ (i = .lreturn ∧ t = .long ∧ ∃ z, w = .long z) ∨ (i = .dreturn ∧ t = .double ∧ ∃ z, w = .double z) ∨ (i = .freturn ∧ t = .float ∧ ∃ z, w = .float z) ∨ (i = .areturn ∧ t.isReference = true ∧ w.isRef = true))
    (hd : decode c.code pc = .ok (i, 1)) (hk : cells ≤ k) (hs : slots ≤ n) (hQ : Q (some w) T.heap locs) : own_Ends p e below s Q k n (T.setTop (mkF m pc Ls (w :: rest))) := by
  obtain ⟨fs, hr, hrun, hended, hW, hsame⟩ := X.leave (v := some w) (fun h => by rw [hret] at h; cases h) hlk
  exact ⟨_, _, retOut X hx hret hn hi hd hr, hrun, hended, _, _, rfl, hQ, ⟨_, rfl⟩, hW, hsame.mono hk hs⟩
theorem own_retI (X : Stand p l e R s m args below meth c T locs cells slots) (hx : p.tables.exec = Jvm.exec) (hlk : meth.locks = false) {pc : Nat} {Ls : Array Slot} {z : Int32} {rest : List Value} (hret : meth.sig.returnType = some .int) (hd : decode c.code pc = .ok (.ireturn, 1)) (hk : cells ≤ k) (hs : slots ≤ n) (hQ : Q (some (.int z)) T.heap locs) : own_Ends p e below s Q k n (T.setTop (mkF m pc Ls (.int z :: rest))) :=
  own_ret X hx hlk hret rfl (Or.inl ⟨rfl, Or.inl rfl, _, rfl⟩) hd hk hs hQ
theorem own_retJ (X : Stand p l e R s m args below meth c T locs cells slots) (hx : p.tables.exec = Jvm.exec) (hlk : meth.locks = false) {pc : Nat} {Ls : Array Slot} {z : Int64} {rest : List Value} (hret : meth.sig.returnType = some .long) (hd : decode c.code pc = .ok (.lreturn, 1)) (hk : cells ≤ k) (hs : slots ≤ n) (hQ : Q (some (.long z)) T.heap locs) : own_Ends p e below s Q k n (T.setTop (mkF m pc Ls (.long z :: rest))) :=
  own_ret X hx hlk hret rfl (Or.inr (Or.inl ⟨rfl, rfl, _, rfl⟩)) hd hk hs hQ
theorem own_retD (X : Stand p l e R s m args below meth c T locs cells slots) (hx : p.tables.exec = Jvm.exec) (hlk : meth.locks = false) {pc : Nat} {Ls : Array Slot} {z : UInt64} {rest : List Value} (hret : meth.sig.returnType = some .double) (hd : decode c.code pc = .ok (.dreturn, 1)) (hk : cells ≤ k) (hs : slots ≤ n) (hQ : Q (some (.double z)) T.heap locs) : own_Ends p e below s Q k n (T.setTop (mkF m pc Ls (.double z :: rest))) :=
  own_ret X hx hlk hret rfl (Or.inr (Or.inr (Or.inl ⟨rfl, rfl, _, rfl⟩))) hd hk hs hQ
theorem own_retA (X : Stand p l e R s m args below meth c T locs cells slots) (hx : p.tables.exec = Jvm.exec) (hlk : meth.locks = false) {pc : Nat} {Ls : Array Slot} {w : Value} {t : FieldType} {rest : List Value} (hret : meth.sig.returnType = some t) (ht : t.isReference = true) (hw : w.isRef = true) (hn : narrow t w = w) (hd : decode c.code pc = .ok (.areturn, 1)) (hk : cells ≤ k) (hs : slots ≤ n) (hQ : Q (some w) T.heap locs) : own_Ends p e below s Q k n (T.setTop (mkF m pc Ls (w :: rest))) :=
  own_ret X hx hlk hret hn (Or.inr (Or.inr (Or.inr (Or.inr ⟨rfl, ht, hw⟩)))) hd hk hs hQ
theorem own_retN (X : Stand p l e R s m args below meth c T locs cells slots) (hx : p.tables.exec = Jvm.exec) (hlk : meth.locks = false) {pc : Nat} {Ls : Array Slot} {z : Int32} {t : FieldType} {rest : List Value} (hret : meth.sig.returnType = some t) (ht : t = .boolean ∨ t = .byte ∨ t = .char ∨ t = .short) (hd : decode c.code pc = .ok (.ireturn, 1)) (hk : cells ≤ k) (hs : slots ≤ n) (hQ : Q (some (.int (nar t z))) T.heap locs) : own_Ends p e below s Q k n (T.setTop (mkF m pc Ls (.int z :: rest))) := by
  obtain ⟨fs, hr, hrun, hended, hW, hsame⟩ := X.leave (v := some (.int (nar t z))) (fun h => by rw [hret] at h; cases h) hlk
  exact ⟨_, _, retN X hx hret ht hd hr, hrun, hended, _, _, rfl, hQ, ⟨_, rfl⟩, hW, hsame.mono hk hs⟩
theorem own_retV (X : Stand p l e R s m args below meth c T locs cells slots) (hx : p.tables.exec = Jvm.exec) (hlk : meth.locks = false) {pc : Nat} {Ls : Array Slot} (hret : meth.sig.returnType = none) (hd : decode c.code pc = .ok (.return_, 1)) (hk : cells ≤ k) (hs : slots ≤ n) (hQ : Q none T.heap locs) : own_Ends p e below s Q k n (T.setTop (mkF m pc Ls [])) := by
  obtain ⟨fs, hr, hrun, hended, hW, hsame⟩ := X.leave (v := none) (fun _ => rfl) hlk
  exact ⟨_, _, X.returnOut hx hret hd hr, hrun, hended, _, _, rfl, hQ, ⟨_, rfl⟩, hW, hsame.mono hk hs⟩
end OwnKit

def own_Ar (Z : State) (h : Heap) (a : Addr) (ty : FieldType) (n : Nat) (f : Nat → Value) : Prop := ∃ c : Cell, Arr Z h a c ty ∧ c.slots.size = n ∧ ∀ i, i < n → c.slots[i]? = some (f i)
section OwnArr
variable {Z : State} {h h' : Heap} {a b : Addr} {ty : FieldType} {n sl : Nat} {f : Nat → Value} {v : Value} {ws : List Addr}
theorem own_Ar.lt (F : own_Ar Z h a ty n f) : a < h.size := by obtain ⟨c, A, -⟩ := F; exact A.lt
theorem own_Ar.ext (F : own_Ar Z h a ty n f) (E : Ext h h') : own_Ar Z h' a ty n f := by obtain ⟨c, A, r⟩ := F; exact ⟨c, A.ext E, r⟩
theorem own_Ar.other (F : own_Ar Z h b ty n f) (W : Wr h h' a sl v) (q : b ≠ a) : own_Ar Z h' b ty n f := by obtain ⟨c, A, r⟩ := F; exact ⟨c, A.other W q, r⟩
theorem own_Ar.keep (F : own_Ar Z h a ty n f) (K : Keep h h' ws) (q : a ∉ ws) : own_Ar Z h' a ty n f := by obtain ⟨c, A, r⟩ := F; exact ⟨c, ⟨K.2.1 a c A.1 q, A.2⟩, r⟩
theorem own_Ar.at (F : own_Ar Z h a ty n f) (j : Int32) (h0 : ¬ j < 0) (h1 : j.toNatClampNeg < n) : ∃ c : Cell, Arr Z h a c ty ∧ ¬ (j < 0 ∨ c.slots.size ≤ j.toNatClampNeg) ∧ c.slots[j.toNatClampNeg]? = some (f j.toNatClampNeg) := by
  obtain ⟨c, A, e, r⟩ := F
  exact ⟨c, A, fun q => q.elim h0 (fun z => by omega), r _ h1⟩
theorem own_Ar.len (F : own_Ar Z h a ty n f) : ∃ c : Cell, Arr Z h a c ty ∧ c.slots.size.toInt32 = Int32.ofNat n := by
  obtain ⟨c, A, e, r⟩ := F
  exact ⟨c, A, by rw [e]⟩
theorem own_Ar.newI {k : ClassId} {z : Int32} (A : Arr Z h a (newA k ty z) ty) (hz : z.toNatClampNeg = n) (hd : defaultValue ty = .int 0) : own_Ar Z h a ty n (fun _ => .int 0) :=
  ⟨_, A, by rw [sz_new]; exact hz, fun i hi => by simp [newA, hz, hi, hd]⟩
theorem own_Ar.newJ {k : ClassId} {z : Int32} (A : Arr Z h a (newA k .long z) .long) (hz : z.toNatClampNeg = n) : own_Ar Z h a .long n (fun _ => .long 0) :=
  ⟨_, A, by rw [sz_new]; exact hz, fun i hi => by simp [newA, hz, hi, defaultValue]⟩
theorem own_Ar.set (F : own_Ar Z h a ty n f) (W : Wr h h' a sl v) {f' : Nat → Value} (hf : ∀ i, i < n → f' i = if i = sl then v else f i) : own_Ar Z h' a ty n f' := by
  obtain ⟨c, A, e, r⟩ := F
  refine ⟨_, A.same W, by simp [Cell.setSlot, e], fun i hi => ?_⟩
  obtain ⟨c', w1, -, w3, w4⟩ := W
  cases A.1.symm.trans w1
  rw [hf i hi]
  by_cases q : i = sl
  · subst q; simp [Cell.setSlot, w3]
  · rw [if_neg q, ← r i hi]; exact Array.getElem?_setIfInBounds_ne (Ne.symm q)
theorem own_Ar.setI {G : Nat → Int32} {x : Int32} (F : own_Ar Z h a ty n (fun i => .int (G i))) (W : Wr h h' a sl (.int x)) : own_Ar Z h' a ty n (fun i => .int (if i = sl then x else G i)) :=
  F.set W fun i _ => by by_cases q : i = sl <;> simp [q]
theorem own_Ar.setJ {G : Nat → Int64} {x : Int64} (F : own_Ar Z h a ty n (fun i => .long (G i))) (W : Wr h h' a sl (.long x)) : own_Ar Z h' a ty n (fun i => .long (if i = sl then x else G i)) :=
  F.set W fun i _ => by by_cases q : i = sl <;> simp [q]
theorem own_Ar.cong (F : own_Ar Z h a ty n f) {f' : Nat → Value} (hf : ∀ i, i < n → f' i = f i) : own_Ar Z h a ty n f' := by
  obtain ⟨c, A, e, r⟩ := F
  exact ⟨c, A, e, fun i hi => by rw [hf i hi]; exact r i hi⟩
end OwnArr
theorem own_c32 {i : Nat} (h : i < 2147483648) : (Int32.ofNat i).toInt = (i : Int) := Int32.toInt_ofNat_of_lt h
theorem own_tn {x : Int32} : x.toNatClampNeg = x.toInt.toNat := rfl
theorem own_ixg {i t l k : Int32} {K : Int} (hk : k.toInt = K) (hK : 0 ≤ K ∧ K ≤ 2) (k1 : 0 ≤ i.toInt ∧ i.toInt ≤ 5) (k3 : t.toInt ≤ 5) (k5 : 0 ≤ l.toInt ∧ l.toInt ≤ 3) (h1 : ¬ t < i + l) (h2 : K < l.toInt) : ¬ (i + k) < 0 ∧ (i + k).toNatClampNeg < 5 := by
  have e1 : (i + l).toInt = i.toInt + l.toInt := Jvm.Kit.i32_add (by omega) (by omega)
  have e2 : (i + k).toInt = i.toInt + K := by rw [← hk]; exact Jvm.Kit.i32_add (by omega) (by omega)
  rw [Int32.lt_iff_toInt_lt, e1] at h1
  rw [Int32.lt_iff_toInt_lt, e2, own_tn, e2, show (0 : Int32).toInt = 0 by decide]
  omega
theorem own_ix0 {i t l : Int32} (k1 : 0 ≤ i.toInt ∧ i.toInt ≤ 5) (k3 : t.toInt ≤ 5) (k5 : 0 ≤ l.toInt ∧ l.toInt ≤ 3) (h1 : ¬ t < i + l) (h2 : ¬ l < (1 : Int32)) : ¬ i < 0 ∧ i.toNatClampNeg < 5 := by
  have := own_ixg (k := 0) (K := 0) (by decide) (by decide) k1 k3 k5 h1 (by rw [Int32.lt_iff_toInt_lt, show (1 : Int32).toInt = 1 by decide] at h2; omega)
  rwa [Int32.add_zero] at this
theorem own_ix1 {i t l : Int32} (k1 : 0 ≤ i.toInt ∧ i.toInt ≤ 5) (k3 : t.toInt ≤ 5) (k5 : 0 ≤ l.toInt ∧ l.toInt ≤ 3) (h1 : ¬ t < i + l) (h2 : ¬ l < (2 : Int32)) : ¬ (i + (1 : Int32)) < 0 ∧ (i + (1 : Int32)).toNatClampNeg < 5 :=
  own_ixg (K := 1) (by decide) (by decide) k1 k3 k5 h1 (by rw [Int32.lt_iff_toInt_lt, show (2 : Int32).toInt = 2 by decide] at h2; omega)
theorem own_ix2 {i t l : Int32} (k1 : 0 ≤ i.toInt ∧ i.toInt ≤ 5) (k3 : t.toInt ≤ 5) (k5 : 0 ≤ l.toInt ∧ l.toInt ≤ 3) (h1 : ¬ t < i + l) (h2 : ¬ l < (3 : Int32)) : ¬ (i + (2 : Int32)) < 0 ∧ (i + (2 : Int32)).toNatClampNeg < 5 :=
  own_ixg (K := 2) (by decide) (by decide) k1 k3 k5 h1 (by rw [Int32.lt_iff_toInt_lt, show (3 : Int32).toInt = 3 by decide] at h2; omega)
def own_idx (B M : Nat → Int32) (nf nt nl : Nat) (r : Int32) : Prop :=
  (∃ i : Nat, r = Int32.ofNat i ∧ nf ≤ i ∧ i + nl ≤ nt ∧ (∀ q, q < nl → B (i + q) = M q) ∧ ∀ j, nf ≤ j → j < i → ¬ ∀ q, q < nl → B (j + q) = M q) ∨
  (r = (-1 : Int32) ∧ ∀ j, nf ≤ j → j + nl ≤ nt → ¬ ∀ q, q < nl → B (j + q) = M q)
section Idx
variable {B M : Nat → Int32} {nf nt nl i mm : Nat} {p2 p4 : Int32}
theorem own_sub9 (e2 : p2 = Int32.ofNat nt) (e4 : p4 = Int32.ofNat nl) (m2 : nt ≤ 5) (m4 : nl ≤ 3) : (p2 - p4).toInt = (nt : Int) - nl := by
  have a := own_c32 (i := nt) (by omega)
  have b := own_c32 (i := nl) (by omega)
  rw [← e2] at a; rw [← e4] at b
  rw [Jvm.Kit.i32_sub (by omega) (by omega), a, b]
theorem own_past9 (e2 : p2 = Int32.ofNat nt) (e4 : p4 = Int32.ofNat nl) (m2 : nt ≤ 5) (m4 : nl ≤ 3) (hi : i = 6) : (p2 - p4) < Int32.ofNat i := by
  rw [Int32.lt_iff_toInt_lt, own_sub9 e2 e4 m2 m4, own_c32 (by omega)]; omega
theorem own_in9' (e2 : p2 = Int32.ofNat nt) (e4 : p4 = Int32.ofNat nl) (m2 : nt ≤ 5) (m4 : nl ≤ 3) (hi : i ≤ 6) (h : ¬ (p2 - p4) < Int32.ofNat i) : i + nl ≤ nt := by
  rw [Int32.lt_iff_toInt_lt, own_sub9 e2 e4 m2 m4, own_c32 (by omega)] at h; omega
theorem own_in9 (e2 : p2 = Int32.ofNat nt) (e4 : p4 = Int32.ofNat nl) (m2 : nt ≤ 5) (m4 : nl ≤ 3) (hi : i ≤ 6) (h : ¬ (p2 - p4) < Int32.ofNat i) : i + nl ≤ 5 := by
  have := own_in9' e2 e4 m2 m4 hi h; omega
theorem own_end9 {j : Nat} (e2 : p2 = Int32.ofNat nt) (e4 : p4 = Int32.ofNat nl) (m2 : nt ≤ 5) (m4 : nl ≤ 3) (hi : i ≤ 6) (h : (p2 - p4) < Int32.ofNat i) (hj : j + nl ≤ nt) : j < i := by
  rw [Int32.lt_iff_toInt_lt, own_sub9 e2 e4 m2 m4, own_c32 (by omega)] at h; omega
theorem own_succ {i : Nat} : Int32.ofNat i + (1 : Int32) = Int32.ofNat (i + 1) := (Int32.ofNat_add i 1).symm
theorem own_more (hno : ∀ j, nf ≤ j → j < i → ¬ ∀ q, q < nl → B (j + q) = M q) (hb : ¬ ∀ q, q < nl → B (i + q) = M q) : ∀ j, nf ≤ j → j < i + 1 → ¬ ∀ q, q < nl → B (j + q) = M q := fun j h1 h2 => by
  rcases Nat.lt_or_ge j i with z | z
  · exact hno j h1 z
  · have : j = i := by omega
    subst this; exact hb
theorem own_ii (h : i ≤ 6) (h2 : mm ≤ 3) : (Int32.ofNat i + Int32.ofNat mm).toNatClampNeg = i + mm := by
  rw [own_tn, Jvm.Kit.i32_add (by rw [own_c32 (by omega), own_c32 (by omega)]; omega) (by rw [own_c32 (by omega), own_c32 (by omega)]; omega), own_c32 (by omega), own_c32 (by omega)]; omega
theorem own_m (h2 : mm ≤ 3) : (Int32.ofNat mm).toNatClampNeg = mm := by rw [own_tn, own_c32 (by omega)]; omega
theorem own_bad (m4 : nl ≤ 3) (hm : mm < nl) (hne : ¬ B (Int32.ofNat i + Int32.ofNat mm).toNatClampNeg = M (Int32.ofNat mm).toNatClampNeg) (hi : i ≤ 6 := by omega) : ¬ ∀ q, q < nl → B (i + q) = M q := fun h => by
  rw [own_ii hi (by omega), own_m (by omega)] at hne
  exact hne (h mm hm)
theorem own_eq33 (hi : i ≤ 6) (hm : mm ≤ 3) (he : B (Int32.ofNat i + Int32.ofNat mm).toNatClampNeg = M (Int32.ofNat mm).toNatClampNeg) : B (i + mm) = M mm := by
  rwa [own_ii hi hm, own_m hm] at he
theorem own_grow (hall : ∀ q, q < mm → B (i + q) = M q) (he : B (i + mm) = M mm) : ∀ q, q < mm + 1 → B (i + q) = M q := fun q hq => by
  rcases Nat.lt_or_ge q mm with z | z
  · exact hall q z
  · have : q = mm := by omega
    subst this; exact he
theorem own_full (hall : ∀ q, q < mm → B (i + q) = M q) (h : mm = nl) : ∀ q, q < nl → B (i + q) = M q := h ▸ hall
theorem own_19z (e4 : p4 = Int32.ofNat nl) (m4 : nl ≤ 3) (h : mm = nl) : ¬ Int32.ofNat mm < p4 := by
  rw [e4, h]; exact Int32.lt_irrefl
theorem own_19s (e4 : p4 = Int32.ofNat nl) (m4 : nl ≤ 3) (h : mm < nl) : Int32.ofNat mm < p4 := by
  rw [e4, Int32.lt_iff_toInt_lt, own_c32 (by omega), own_c32 (by omega)]; omega
theorem own_46z (e4 : p4 = Int32.ofNat nl) (h : mm = nl) : Int32.ofNat mm = p4 := by rw [e4, h]
theorem own_46s (e4 : p4 = Int32.ofNat nl) (m4 : nl ≤ 3) (h : mm < nl) : ¬ Int32.ofNat mm = p4 := fun q => by
  have := own_19s e4 m4 h
  rw [q] at this; exact Int32.lt_irrefl this
theorem own_nn (h : i + mm ≤ 4) : ¬ (Int32.ofNat i + Int32.ofNat mm) < 0 := by
  rw [Int32.lt_iff_toInt_lt, Jvm.Kit.i32_add (by rw [own_c32 (by omega), own_c32 (by omega)]; omega) (by rw [own_c32 (by omega), own_c32 (by omega)]; omega), own_c32 (by omega), own_c32 (by omega), show (0 : Int32).toInt = 0 by decide]; omega
theorem own_lt5 (h : i + mm ≤ 4) : (Int32.ofNat i + Int32.ofNat mm).toNatClampNeg < 5 := by
  rw [own_tn, Jvm.Kit.i32_add (by rw [own_c32 (by omega), own_c32 (by omega)]; omega) (by rw [own_c32 (by omega), own_c32 (by omega)]; omega), own_c32 (by omega), own_c32 (by omega)]; omega
theorem own_nn1 (h : mm ≤ 3) : ¬ Int32.ofNat mm < 0 := by
  rw [Int32.lt_iff_toInt_lt, own_c32 (by omega), show (0 : Int32).toInt = 0 by decide]; omega
theorem own_lt3 (h : mm ≤ 3) (h2 : mm < 3) : (Int32.ofNat mm).toNatClampNeg < 3 := by rw [own_m h]; exact h2
end Idx
theorem d1_0 : decode method_2_code 0 = .ok (.iload_n 0, 1) := by decide +kernel
theorem d1_1 : decode method_2_code 1 = .ok (.iconst 3, 1) := by decide +kernel
theorem d1_2 : decode method_2_code 2 = .ok (.iand, 1) := by decide +kernel
theorem d1_3 : decode method_2_code 3 = .ok (.istore_n 1, 1) := by decide +kernel
theorem d1_4 : decode method_2_code 4 = .ok (.iload_n 1, 1) := by decide +kernel
theorem d1_5 : decode method_2_code 5 = .ok (.ifCond .ne 5, 3) := by decide +kernel
theorem d1_8 : decode method_2_code 8 = .ok (.iconst 0, 1) := by decide +kernel
theorem d1_9 : decode method_2_code 9 = .ok (.ireturn, 1) := by decide +kernel
theorem d1_10 : decode method_2_code 10 = .ok (.iload_n 1, 1) := by decide +kernel
theorem d1_11 : decode method_2_code 11 = .ok (.iconst 1, 1) := by decide +kernel
theorem d1_12 : decode method_2_code 12 = .ok (.if_icmp .ne 5, 3) := by decide +kernel
theorem d1_15 : decode method_2_code 15 = .ok (.iconst 1, 1) := by decide +kernel
theorem d1_16 : decode method_2_code 16 = .ok (.ireturn, 1) := by decide +kernel
theorem d1_17 : decode method_2_code 17 = .ok (.iload_n 1, 1) := by decide +kernel
theorem d1_18 : decode method_2_code 18 = .ok (.iconst 2, 1) := by decide +kernel
theorem d1_19 : decode method_2_code 19 = .ok (.if_icmp .ne 6, 3) := by decide +kernel
theorem d1_22 : decode method_2_code 22 = .ok (.bipush (-128), 2) := by decide +kernel
theorem d1_24 : decode method_2_code 24 = .ok (.ireturn, 1) := by decide +kernel
theorem d1_25 : decode method_2_code 25 = .ok (.bipush 127, 2) := by decide +kernel
theorem d1_27 : decode method_2_code 27 = .ok (.ireturn, 1) := by decide +kernel
theorem pn1 : plainName "com/example/octroi/octroi/bench/ConnectionIndexOfPinLaw" = true := by first | (simp [plainName, overriddenIn]; done) | decide +kernel
theorem ef1 (m : MethodId) (p0 : Int32) : entryFrame m #[(.int p0)] 2 = mkF m 0 #[.val (.int p0), .unset] [] := by first | (simp [entryFrame, mkF, argsToLocals, Value.category]; done) | rfl
def f1 (p0 : Int32) : Int32 := (let z1 : Int32 := (p0 &&& (3 : Int32)); (if z1 = (0 : Int32) then (0 : Int32) else (if z1 = (1 : Int32) then (1 : Int32) else (if z1 = (2 : Int32) then (-128 : Int32) else (127 : Int32)))))
def Q1 (Z : State) (p0 : Int32) (h0 : Heap) (n0 : Nat) (v : Option Value) (h : Heap) (L : List Loc) : Prop := v = some (.int (f1 p0)) ∧ Fr n0 L ∧ h = h0
set_option maxRecDepth 65536 in
set_option maxHeartbeats 40000000 in
theorem rm1 (l : Launch) (Z : State) (ar : Array Value) (hw : ∀ d ∈ tables_1, d.before ar Z = true) (ws : List Jvm.Cond) (p0 : Int32) (h0 : Heap) (n0 : Nat) (O0 : Old Z n0 h0) :
    MetFree l (⟨"com/example/octroi/octroi/bench/ConnectionIndexOfPinLaw", "sym", "(I)B"⟩ : MethodName) (head1 (Jvm.Cond.code (⟨"com/example/octroi/octroi/bench/ConnectionIndexOfPinLaw", "sym", "(I)B"⟩ : MethodName) method_2_code 2 (some .byte) :: ws) ({ frames := 0, cells := 0, slots := 0, locals := 0 } : Room)) (fun a U => a = #[(.int p0)] ∧ Z.Warmed39 U.vm ∧ U.heap = h0) (fun _ _ _ _ _ => True) (fun _ U o U' => ∃ v L, o = .returned v ∧ Q1 Z p0 h0 n0 v U'.heap L ∧ FrameEnd U o U' L ({ frames := 0, cells := 0, slots := 0, locals := 0 } : Room).cells ({ frames := 0, cells := 0, slots := 0, locals := 0 } : Room).slots) := by
  refine MetFree.of_bodySF (plainFor_of_name pn1) hisR ?_
  intro p e s m args below meth c s₁ Bd hml0 hP hK
  obtain ⟨rfl, hZ, hh⟩ := hP
  have hx := Bd.exec
  have hby := Bd.bytes
  have hml : c.maxLocals = 2 := hml0
  have hown : s.vm.findClass "com/example/octroi/octroi/bench/ConnectionIndexOfPinLaw" = some m.cls := findClass_of_methodNamed Bd.named
  have hnm := (name_of_methodNamed Bd.named Bd.method).1
  have hlk : meth.locks = false := BodyLoose.notSynchronized Bd
  have X0 : Stand p l e ({ frames := 0, cells := 0, slots := 0, locals := 0 } : Room) s m #[(.int p0)] below meth c s₁ [] 0 0 := Stand.of_body Bd
  have e0 : s₁.heap = h0 := by rw [← hh, Bd.state]; rfl
  have N0 := Fr.nil n0
  suffices hmain : own_Ends p e below s (Q1 Z p0 h0 n0) 0 0 (s₁.setTop (mkF m 0 #[.val (.int p0), .unset] [])) by
    obtain ⟨U, o, h1, r⟩ := hmain
    exact ⟨U, o, castTop (ef1 m p0) h1, r⟩
  show own_Ends _ _ _ _ _ _ _ (s₁.setTop (mkF m 0 #[.val (.int p0), .unset] []))
  refine own_go (fun _ k => XS.iloadN X0.here hx rfl (hb hby d1_0) rfl k) ?_
  show own_Ends _ _ _ _ _ _ _ (s₁.setTop (mkF m 1 #[.val (.int p0), .unset] [(.int p0)]))
  refine own_go (fun _ k => XS.iconst X0.here hx rfl (hb hby d1_1) k) ?_
  show own_Ends _ _ _ _ _ _ _ (s₁.setTop (mkF m 2 #[.val (.int p0), .unset] [(.int (3 : Int32)), (.int p0)]))
  refine own_go (fun _ k => XS.iand X0.here hx rfl (hb hby d1_2) rfl k) ?_
  show own_Ends _ _ _ _ _ _ _ (s₁.setTop (mkF m 3 #[.val (.int p0), .unset] [(.int (p0 &&& (3 : Int32)))]))
  refine own_go (fun _ k => XS.istoreN X0.here hx rfl (hb hby d1_3) rfl (l' := #[.val (.int p0), .val (.int (p0 &&& (3 : Int32)))]) rfl k) ?_
  suffices hjz1 : ∀ z1 : Int32, z1 = (p0 &&& (3 : Int32)) → own_Ends p e below s (Q1 Z p0 h0 n0) 0 0 (s₁.setTop (mkF m 4 #[.val (.int p0), .val (.int z1)] [])) by exact hjz1 _ rfl
  intro z1 hz1
  show own_Ends _ _ _ _ _ _ _ (s₁.setTop (mkF m 4 #[.val (.int p0), .val (.int z1)] []))
  refine own_go (fun _ k => XS.iloadN X0.here hx rfl (hb hby d1_4) rfl k) ?_
  show own_Ends _ _ _ _ _ _ _ (s₁.setTop (mkF m 5 #[.val (.int p0), .val (.int z1)] [(.int z1)]))
  by_cases hc2 : z1 = (0 : Int32)
  · refine own_go (fun _ k => XS.ifNo X0.here hx rfl (hb hby d1_5) rfl ((if0 _ _).trans (teq hc2).2) k) ?_
    show own_Ends _ _ _ _ _ _ _ (s₁.setTop (mkF m 8 #[.val (.int p0), .val (.int z1)] []))
    refine own_go (fun _ k => XS.iconst X0.here hx rfl (hb hby d1_8) k) ?_
    show own_Ends _ _ _ _ _ _ _ (s₁.setTop (mkF m 9 #[.val (.int p0), .val (.int z1)] [(.int (0 : Int32))]))
    exact own_retN X0 hx hlk (t := .byte) Bd.returns (by simp) (hb hby d1_9) (by decide) (by decide) ⟨congrArg (fun z => some (Value.int z)) ((by decide : nar .byte (0 : Int32) = (0 : Int32)).trans (by subst hz1; exact ((if_pos hc2)).symm)), N0, e0⟩
  · refine own_go (fun _ k => XS.ifYes X0.here hx rfl (pc0 := 5) (pc' := 10) rfl (hb hby d1_5) rfl ((if0 _ _).trans (feq hc2).2) (by decide) (by decide) k) ?_
    show own_Ends _ _ _ _ _ _ _ (s₁.setTop (mkF m 10 #[.val (.int p0), .val (.int z1)] []))
    refine own_go (fun _ k => XS.iloadN X0.here hx rfl (hb hby d1_10) rfl k) ?_
    show own_Ends _ _ _ _ _ _ _ (s₁.setTop (mkF m 11 #[.val (.int p0), .val (.int z1)] [(.int z1)]))
    refine own_go (fun _ k => XS.iconst X0.here hx rfl (hb hby d1_11) k) ?_
    show own_Ends _ _ _ _ _ _ _ (s₁.setTop (mkF m 12 #[.val (.int p0), .val (.int z1)] [(.int (1 : Int32)), (.int z1)]))
    by_cases hc3 : z1 = (1 : Int32)
    · refine own_go (fun _ k => XS.icmpNo X0.here hx rfl (hb hby d1_12) rfl (teq hc3).2 k) ?_
      show own_Ends _ _ _ _ _ _ _ (s₁.setTop (mkF m 15 #[.val (.int p0), .val (.int z1)] []))
      refine own_go (fun _ k => XS.iconst X0.here hx rfl (hb hby d1_15) k) ?_
      show own_Ends _ _ _ _ _ _ _ (s₁.setTop (mkF m 16 #[.val (.int p0), .val (.int z1)] [(.int (1 : Int32))]))
      exact own_retN X0 hx hlk (t := .byte) Bd.returns (by simp) (hb hby d1_16) (by decide) (by decide) ⟨congrArg (fun z => some (Value.int z)) ((by decide : nar .byte (1 : Int32) = (1 : Int32)).trans (by subst hz1; exact (((if_neg hc2).trans (if_pos hc3))).symm)), N0, e0⟩
    · refine own_go (fun _ k => XS.icmpYes X0.here hx rfl (pc0 := 12) (pc' := 17) rfl (hb hby d1_12) rfl (feq hc3).2 (by decide) (by decide) k) ?_
      show own_Ends _ _ _ _ _ _ _ (s₁.setTop (mkF m 17 #[.val (.int p0), .val (.int z1)] []))
      refine own_go (fun _ k => XS.iloadN X0.here hx rfl (hb hby d1_17) rfl k) ?_
      show own_Ends _ _ _ _ _ _ _ (s₁.setTop (mkF m 18 #[.val (.int p0), .val (.int z1)] [(.int z1)]))
      refine own_go (fun _ k => XS.iconst X0.here hx rfl (hb hby d1_18) k) ?_
      show own_Ends _ _ _ _ _ _ _ (s₁.setTop (mkF m 19 #[.val (.int p0), .val (.int z1)] [(.int (2 : Int32)), (.int z1)]))
      by_cases hc4 : z1 = (2 : Int32)
      · refine own_go (fun _ k => XS.icmpNo X0.here hx rfl (hb hby d1_19) rfl (teq hc4).2 k) ?_
        show own_Ends _ _ _ _ _ _ _ (s₁.setTop (mkF m 22 #[.val (.int p0), .val (.int z1)] []))
        refine own_go (fun _ k => XS.bipush X0.here hx rfl (hb hby d1_22) k) ?_
        show own_Ends _ _ _ _ _ _ _ (s₁.setTop (mkF m 24 #[.val (.int p0), .val (.int z1)] [(.int (-128 : Int32))]))
        exact own_retN X0 hx hlk (t := .byte) Bd.returns (by simp) (hb hby d1_24) (by decide) (by decide) ⟨congrArg (fun z => some (Value.int z)) ((by decide : nar .byte (-128 : Int32) = (-128 : Int32)).trans (by subst hz1; exact ((((if_neg hc2).trans (if_neg hc3)).trans (if_pos hc4))).symm)), N0, e0⟩
      · refine own_go (fun _ k => XS.icmpYes X0.here hx rfl (pc0 := 19) (pc' := 25) rfl (hb hby d1_19) rfl (feq hc4).2 (by decide) (by decide) k) ?_
        show own_Ends _ _ _ _ _ _ _ (s₁.setTop (mkF m 25 #[.val (.int p0), .val (.int z1)] []))
        refine own_go (fun _ k => XS.bipush X0.here hx rfl (hb hby d1_25) k) ?_
        show own_Ends _ _ _ _ _ _ _ (s₁.setTop (mkF m 27 #[.val (.int p0), .val (.int z1)] [(.int (127 : Int32))]))
        exact own_retN X0 hx hlk (t := .byte) Bd.returns (by simp) (hb hby d1_27) (by decide) (by decide) ⟨congrArg (fun z => some (Value.int z)) ((by decide : nar .byte (127 : Int32) = (127 : Int32)).trans (by subst hz1; exact ((((if_neg hc2).trans (if_neg hc3)).trans (if_neg hc4))).symm)), N0, e0⟩
theorem d2_0 : decode method_3_code 0 = .ok (.iload_n 1, 1) := by decide +kernel
theorem d2_1 : decode method_3_code 1 = .ok (.iload_n 2, 1) := by decide +kernel
theorem d2_2 : decode method_3_code 2 = .ok (.if_icmp .ge 5, 3) := by decide +kernel
theorem d2_5 : decode method_3_code 5 = .ok (.iconst 0, 1) := by decide +kernel
theorem d2_6 : decode method_3_code 6 = .ok (.ireturn, 1) := by decide +kernel
theorem d2_7 : decode method_3_code 7 = .ok (.iload_n 1, 1) := by decide +kernel
theorem d2_8 : decode method_3_code 8 = .ok (.iload 5, 2) := by decide +kernel
theorem d2_10 : decode method_3_code 10 = .ok (.iadd, 1) := by decide +kernel
theorem d2_11 : decode method_3_code 11 = .ok (.iload_n 3, 1) := by decide +kernel
theorem d2_12 : decode method_3_code 12 = .ok (.if_icmp .le 5, 3) := by decide +kernel
theorem d2_15 : decode method_3_code 15 = .ok (.iconst 0, 1) := by decide +kernel
theorem d2_16 : decode method_3_code 16 = .ok (.ireturn, 1) := by decide +kernel
theorem d2_17 : decode method_3_code 17 = .ok (.iload 5, 2) := by decide +kernel
theorem d2_19 : decode method_3_code 19 = .ok (.iconst 1, 1) := by decide +kernel
theorem d2_20 : decode method_3_code 20 = .ok (.if_icmp .lt 13, 3) := by decide +kernel
theorem d2_23 : decode method_3_code 23 = .ok (.aload_n 0, 1) := by decide +kernel
theorem d2_24 : decode method_3_code 24 = .ok (.iload_n 1, 1) := by decide +kernel
theorem d2_25 : decode method_3_code 25 = .ok (.baload, 1) := by decide +kernel
theorem d2_26 : decode method_3_code 26 = .ok (.aload 4, 2) := by decide +kernel
theorem d2_28 : decode method_3_code 28 = .ok (.iconst 0, 1) := by decide +kernel
theorem d2_29 : decode method_3_code 29 = .ok (.baload, 1) := by decide +kernel
theorem d2_30 : decode method_3_code 30 = .ok (.if_icmp .ne 43, 3) := by decide +kernel
theorem d2_33 : decode method_3_code 33 = .ok (.iload 5, 2) := by decide +kernel
theorem d2_35 : decode method_3_code 35 = .ok (.iconst 2, 1) := by decide +kernel
theorem d2_36 : decode method_3_code 36 = .ok (.if_icmp .lt 15, 3) := by decide +kernel
theorem d2_39 : decode method_3_code 39 = .ok (.aload_n 0, 1) := by decide +kernel
theorem d2_40 : decode method_3_code 40 = .ok (.iload_n 1, 1) := by decide +kernel
theorem d2_41 : decode method_3_code 41 = .ok (.iconst 1, 1) := by decide +kernel
theorem d2_42 : decode method_3_code 42 = .ok (.iadd, 1) := by decide +kernel
theorem d2_43 : decode method_3_code 43 = .ok (.baload, 1) := by decide +kernel
theorem d2_44 : decode method_3_code 44 = .ok (.aload 4, 2) := by decide +kernel
theorem d2_46 : decode method_3_code 46 = .ok (.iconst 1, 1) := by decide +kernel
theorem d2_47 : decode method_3_code 47 = .ok (.baload, 1) := by decide +kernel
theorem d2_48 : decode method_3_code 48 = .ok (.if_icmp .ne 25, 3) := by decide +kernel
theorem d2_51 : decode method_3_code 51 = .ok (.iload 5, 2) := by decide +kernel
theorem d2_53 : decode method_3_code 53 = .ok (.iconst 3, 1) := by decide +kernel
theorem d2_54 : decode method_3_code 54 = .ok (.if_icmp .lt 15, 3) := by decide +kernel
theorem d2_57 : decode method_3_code 57 = .ok (.aload_n 0, 1) := by decide +kernel
theorem d2_58 : decode method_3_code 58 = .ok (.iload_n 1, 1) := by decide +kernel
theorem d2_59 : decode method_3_code 59 = .ok (.iconst 2, 1) := by decide +kernel
theorem d2_60 : decode method_3_code 60 = .ok (.iadd, 1) := by decide +kernel
theorem d2_61 : decode method_3_code 61 = .ok (.baload, 1) := by decide +kernel
theorem d2_62 : decode method_3_code 62 = .ok (.aload 4, 2) := by decide +kernel
theorem d2_64 : decode method_3_code 64 = .ok (.iconst 2, 1) := by decide +kernel
theorem d2_65 : decode method_3_code 65 = .ok (.baload, 1) := by decide +kernel
theorem d2_66 : decode method_3_code 66 = .ok (.if_icmp .ne 7, 3) := by decide +kernel
theorem d2_69 : decode method_3_code 69 = .ok (.iconst 1, 1) := by decide +kernel
theorem d2_70 : decode method_3_code 70 = .ok (.goto 4, 3) := by decide +kernel
theorem d2_73 : decode method_3_code 73 = .ok (.iconst 0, 1) := by decide +kernel
theorem d2_74 : decode method_3_code 74 = .ok (.ireturn, 1) := by decide +kernel
theorem pn2 : plainName "com/example/octroi/octroi/bench/ConnectionIndexOfPinLaw" = true := by first | (simp [plainName, overriddenIn]; done) | decide +kernel
theorem ef2 (m : MethodId) (a0 : Addr) (p1 : Int32) (p2 : Int32) (p3 : Int32) (a4 : Addr) (p5 : Int32) : entryFrame m #[(.ref a0), (.int p1), (.int p2), (.int p3), (.ref a4), (.int p5)] 6 = mkF m 0 #[.val (.ref a0), .val (.int p1), .val (.int p2), .val (.int p3), .val (.ref a4), .val (.int p5)] [] := by first | (simp [entryFrame, mkF, argsToLocals, Value.category]; done) | rfl
def f2 (a0 : Addr) (p1 : Int32) (p2 : Int32) (p3 : Int32) (a4 : Addr) (p5 : Int32) (G_a0 : Nat → Int32) (G_a4 : Nat → Int32) : Int32 := (if p1 < p2 then (0 : Int32) else (if p3 < (p1 + p5) then (0 : Int32) else (if p5 < (1 : Int32) then (if p5 < (2 : Int32) then (if p5 < (3 : Int32) then (1 : Int32) else (if (G_a0 ((p1 + (2 : Int32))).toNatClampNeg) = (G_a4 ((2 : Int32)).toNatClampNeg) then (1 : Int32) else (0 : Int32))) else (if (G_a0 ((p1 + (1 : Int32))).toNatClampNeg) = (G_a4 ((1 : Int32)).toNatClampNeg) then (if p5 < (3 : Int32) then (1 : Int32) else (if (G_a0 ((p1 + (2 : Int32))).toNatClampNeg) = (G_a4 ((2 : Int32)).toNatClampNeg) then (1 : Int32) else (0 : Int32))) else (0 : Int32))) else (if (G_a0 (p1).toNatClampNeg) = (G_a4 ((0 : Int32)).toNatClampNeg) then (if p5 < (2 : Int32) then (if p5 < (3 : Int32) then (1 : Int32) else (if (G_a0 ((p1 + (2 : Int32))).toNatClampNeg) = (G_a4 ((2 : Int32)).toNatClampNeg) then (1 : Int32) else (0 : Int32))) else (if (G_a0 ((p1 + (1 : Int32))).toNatClampNeg) = (G_a4 ((1 : Int32)).toNatClampNeg) then (if p5 < (3 : Int32) then (1 : Int32) else (if (G_a0 ((p1 + (2 : Int32))).toNatClampNeg) = (G_a4 ((2 : Int32)).toNatClampNeg) then (1 : Int32) else (0 : Int32))) else (0 : Int32))) else (0 : Int32)))))
def Q2 (Z : State) (a0 : Addr) (p1 : Int32) (p2 : Int32) (p3 : Int32) (a4 : Addr) (p5 : Int32) (G_a0 : Nat → Int32) (G_a4 : Nat → Int32) (h0 : Heap) (n0 : Nat) (v : Option Value) (h : Heap) (L : List Loc) : Prop := v = some (.int (f2 a0 p1 p2 p3 a4 p5 G_a0 G_a4)) ∧ Fr n0 L ∧ h = h0
set_option maxRecDepth 65536 in
set_option maxHeartbeats 40000000 in
theorem rm2 (l : Launch) (Z : State) (ar : Array Value) (hw : ∀ d ∈ tables_1, d.before ar Z = true) (ws : List Jvm.Cond) (a0 : Addr) (p1 : Int32) (p2 : Int32) (p3 : Int32) (a4 : Addr) (p5 : Int32) (G_a0 : Nat → Int32) (G_a4 : Nat → Int32) (h0 : Heap) (n0 : Nat) (O0 : Old Z n0 h0) (A_a0 : own_Ar Z h0 a0 .byte 5 (fun i => .int (G_a0 i))) (A_a4 : own_Ar Z h0 a4 .byte 3 (fun i => .int (G_a4 i))) (k1 : 0 ≤ p1.toInt ∧ p1.toInt ≤ 5) (k3 : p3.toInt ≤ 5) (k5 : 0 ≤ p5.toInt ∧ p5.toInt ≤ 3) :
    MetFree l (⟨"com/example/octroi/octroi/bench/ConnectionIndexOfPinLaw", "at", "([BIII[BI)Z"⟩ : MethodName) (head1 (Jvm.Cond.code (⟨"com/example/octroi/octroi/bench/ConnectionIndexOfPinLaw", "at", "([BIII[BI)Z"⟩ : MethodName) method_3_code 6 (some .boolean) :: ws) ({ frames := 0, cells := 0, slots := 0, locals := 0 } : Room)) (fun a U => a = #[(.ref a0), (.int p1), (.int p2), (.int p3), (.ref a4), (.int p5)] ∧ Z.Warmed39 U.vm ∧ U.heap = h0) (fun _ _ _ _ _ => True) (fun _ U o U' => ∃ v L, o = .returned v ∧ Q2 Z a0 p1 p2 p3 a4 p5 G_a0 G_a4 h0 n0 v U'.heap L ∧ FrameEnd U o U' L ({ frames := 0, cells := 0, slots := 0, locals := 0 } : Room).cells ({ frames := 0, cells := 0, slots := 0, locals := 0 } : Room).slots) := by
  refine MetFree.of_bodySF (plainFor_of_name pn2) hisR ?_
  intro p e s m args below meth c s₁ Bd hml0 hP hK
  obtain ⟨rfl, hZ, hh⟩ := hP
  have hx := Bd.exec
  have hby := Bd.bytes
  have hml : c.maxLocals = 6 := hml0
  have hown : s.vm.findClass "com/example/octroi/octroi/bench/ConnectionIndexOfPinLaw" = some m.cls := findClass_of_methodNamed Bd.named
  have hnm := (name_of_methodNamed Bd.named Bd.method).1
  have hlk : meth.locks = false := BodyLoose.notSynchronized Bd
  have X0 : Stand p l e ({ frames := 0, cells := 0, slots := 0, locals := 0 } : Room) s m #[(.ref a0), (.int p1), (.int p2), (.int p3), (.ref a4), (.int p5)] below meth c s₁ [] 0 0 := Stand.of_body Bd
  have e0 : s₁.heap = h0 := by rw [← hh, Bd.state]; rfl
  have N0 := Fr.nil n0
  suffices hmain : own_Ends p e below s (Q2 Z a0 p1 p2 p3 a4 p5 G_a0 G_a4 h0 n0) 0 0 (s₁.setTop (mkF m 0 #[.val (.ref a0), .val (.int p1), .val (.int p2), .val (.int p3), .val (.ref a4), .val (.int p5)] [])) by
    obtain ⟨U, o, h1, r⟩ := hmain
    exact ⟨U, o, castTop (ef2 m a0 p1 p2 p3 a4 p5) h1, r⟩
  show own_Ends _ _ _ _ _ _ _ (s₁.setTop (mkF m 0 #[.val (.ref a0), .val (.int p1), .val (.int p2), .val (.int p3), .val (.ref a4), .val (.int p5)] []))
  refine own_go (fun _ k => XS.iloadN X0.here hx rfl (hb hby d2_0) rfl k) ?_
  show own_Ends _ _ _ _ _ _ _ (s₁.setTop (mkF m 1 #[.val (.ref a0), .val (.int p1), .val (.int p2), .val (.int p3), .val (.ref a4), .val (.int p5)] [(.int p1)]))
  refine own_go (fun _ k => XS.iloadN X0.here hx rfl (hb hby d2_1) rfl k) ?_
  show own_Ends _ _ _ _ _ _ _ (s₁.setTop (mkF m 2 #[.val (.ref a0), .val (.int p1), .val (.int p2), .val (.int p3), .val (.ref a4), .val (.int p5)] [(.int p2), (.int p1)]))
  by_cases hc1 : p1 < p2
  · refine own_go (fun _ k => XS.icmpNo X0.here hx rfl (hb hby d2_2) rfl (tlt hc1).2.1 k) ?_
    show own_Ends _ _ _ _ _ _ _ (s₁.setTop (mkF m 5 #[.val (.ref a0), .val (.int p1), .val (.int p2), .val (.int p3), .val (.ref a4), .val (.int p5)] []))
    refine own_go (fun _ k => XS.iconst X0.here hx rfl (hb hby d2_5) k) ?_
    show own_Ends _ _ _ _ _ _ _ (s₁.setTop (mkF m 6 #[.val (.ref a0), .val (.int p1), .val (.int p2), .val (.int p3), .val (.ref a4), .val (.int p5)] [(.int (0 : Int32))]))
    exact own_retN X0 hx hlk (t := .boolean) Bd.returns (by simp) (hb hby d2_6) (by decide) (by decide) ⟨congrArg (fun z => some (Value.int z)) ((by decide : nar .boolean (0 : Int32) = (0 : Int32)).trans (by exact ((if_pos hc1)).symm)), N0, e0⟩
  · refine own_go (fun _ k => XS.icmpYes X0.here hx rfl (pc0 := 2) (pc' := 7) rfl (hb hby d2_2) rfl (flt hc1).2.1 (by decide) (by decide) k) ?_
    show own_Ends _ _ _ _ _ _ _ (s₁.setTop (mkF m 7 #[.val (.ref a0), .val (.int p1), .val (.int p2), .val (.int p3), .val (.ref a4), .val (.int p5)] []))
    refine own_go (fun _ k => XS.iloadN X0.here hx rfl (hb hby d2_7) rfl k) ?_
    show own_Ends _ _ _ _ _ _ _ (s₁.setTop (mkF m 8 #[.val (.ref a0), .val (.int p1), .val (.int p2), .val (.int p3), .val (.ref a4), .val (.int p5)] [(.int p1)]))
    refine own_go (fun _ k => XS.iload X0.here hx rfl (hb hby d2_8) rfl k) ?_
    show own_Ends _ _ _ _ _ _ _ (s₁.setTop (mkF m 10 #[.val (.ref a0), .val (.int p1), .val (.int p2), .val (.int p3), .val (.ref a4), .val (.int p5)] [(.int p5), (.int p1)]))
    refine own_go (fun _ k => XS.iadd X0.here hx rfl (hb hby d2_10) rfl k) ?_
    show own_Ends _ _ _ _ _ _ _ (s₁.setTop (mkF m 11 #[.val (.ref a0), .val (.int p1), .val (.int p2), .val (.int p3), .val (.ref a4), .val (.int p5)] [(.int (p1 + p5))]))
    refine own_go (fun _ k => XS.iloadN X0.here hx rfl (hb hby d2_11) rfl k) ?_
    show own_Ends _ _ _ _ _ _ _ (s₁.setTop (mkF m 12 #[.val (.ref a0), .val (.int p1), .val (.int p2), .val (.int p3), .val (.ref a4), .val (.int p5)] [(.int p3), (.int (p1 + p5))]))
    by_cases hc2 : p3 < (p1 + p5)
    · refine own_go (fun _ k => XS.icmpNo X0.here hx rfl (hb hby d2_12) rfl (tlt hc2).2.2.2 k) ?_
      show own_Ends _ _ _ _ _ _ _ (s₁.setTop (mkF m 15 #[.val (.ref a0), .val (.int p1), .val (.int p2), .val (.int p3), .val (.ref a4), .val (.int p5)] []))
      refine own_go (fun _ k => XS.iconst X0.here hx rfl (hb hby d2_15) k) ?_
      show own_Ends _ _ _ _ _ _ _ (s₁.setTop (mkF m 16 #[.val (.ref a0), .val (.int p1), .val (.int p2), .val (.int p3), .val (.ref a4), .val (.int p5)] [(.int (0 : Int32))]))
      exact own_retN X0 hx hlk (t := .boolean) Bd.returns (by simp) (hb hby d2_16) (by decide) (by decide) ⟨congrArg (fun z => some (Value.int z)) ((by decide : nar .boolean (0 : Int32) = (0 : Int32)).trans (by exact (((if_neg hc1).trans (if_pos hc2))).symm)), N0, e0⟩
    · refine own_go (fun _ k => XS.icmpYes X0.here hx rfl (pc0 := 12) (pc' := 17) rfl (hb hby d2_12) rfl (flt hc2).2.2.2 (by decide) (by decide) k) ?_
      show own_Ends _ _ _ _ _ _ _ (s₁.setTop (mkF m 17 #[.val (.ref a0), .val (.int p1), .val (.int p2), .val (.int p3), .val (.ref a4), .val (.int p5)] []))
      refine own_go (fun _ k => XS.iload X0.here hx rfl (hb hby d2_17) rfl k) ?_
      show own_Ends _ _ _ _ _ _ _ (s₁.setTop (mkF m 19 #[.val (.ref a0), .val (.int p1), .val (.int p2), .val (.int p3), .val (.ref a4), .val (.int p5)] [(.int p5)]))
      refine own_go (fun _ k => XS.iconst X0.here hx rfl (hb hby d2_19) k) ?_
      show own_Ends _ _ _ _ _ _ _ (s₁.setTop (mkF m 20 #[.val (.ref a0), .val (.int p1), .val (.int p2), .val (.int p3), .val (.ref a4), .val (.int p5)] [(.int (1 : Int32)), (.int p5)]))
      by_cases hc3 : p5 < (1 : Int32)
      · refine own_go (fun _ k => XS.icmpYes X0.here hx rfl (pc0 := 20) (pc' := 33) rfl (hb hby d2_20) rfl (tlt hc3).1 (by decide) (by decide) k) ?_
        show own_Ends _ _ _ _ _ _ _ (s₁.setTop (mkF m 33 #[.val (.ref a0), .val (.int p1), .val (.int p2), .val (.int p3), .val (.ref a4), .val (.int p5)] []))
        refine own_go (fun _ k => XS.iload X0.here hx rfl (hb hby d2_33) rfl k) ?_
        show own_Ends _ _ _ _ _ _ _ (s₁.setTop (mkF m 35 #[.val (.ref a0), .val (.int p1), .val (.int p2), .val (.int p3), .val (.ref a4), .val (.int p5)] [(.int p5)]))
        refine own_go (fun _ k => XS.iconst X0.here hx rfl (hb hby d2_35) k) ?_
        show own_Ends _ _ _ _ _ _ _ (s₁.setTop (mkF m 36 #[.val (.ref a0), .val (.int p1), .val (.int p2), .val (.int p3), .val (.ref a4), .val (.int p5)] [(.int (2 : Int32)), (.int p5)]))
        by_cases hc4 : p5 < (2 : Int32)
        · refine own_go (fun _ k => XS.icmpYes X0.here hx rfl (pc0 := 36) (pc' := 51) rfl (hb hby d2_36) rfl (tlt hc4).1 (by decide) (by decide) k) ?_
          show own_Ends _ _ _ _ _ _ _ (s₁.setTop (mkF m 51 #[.val (.ref a0), .val (.int p1), .val (.int p2), .val (.int p3), .val (.ref a4), .val (.int p5)] []))
          refine own_go (fun _ k => XS.iload X0.here hx rfl (hb hby d2_51) rfl k) ?_
          show own_Ends _ _ _ _ _ _ _ (s₁.setTop (mkF m 53 #[.val (.ref a0), .val (.int p1), .val (.int p2), .val (.int p3), .val (.ref a4), .val (.int p5)] [(.int p5)]))
          refine own_go (fun _ k => XS.iconst X0.here hx rfl (hb hby d2_53) k) ?_
          show own_Ends _ _ _ _ _ _ _ (s₁.setTop (mkF m 54 #[.val (.ref a0), .val (.int p1), .val (.int p2), .val (.int p3), .val (.ref a4), .val (.int p5)] [(.int (3 : Int32)), (.int p5)]))
          by_cases hc5 : p5 < (3 : Int32)
          · refine own_go (fun _ k => XS.icmpYes X0.here hx rfl (pc0 := 54) (pc' := 69) rfl (hb hby d2_54) rfl (tlt hc5).1 (by decide) (by decide) k) ?_
            show own_Ends _ _ _ _ _ _ _ (s₁.setTop (mkF m 69 #[.val (.ref a0), .val (.int p1), .val (.int p2), .val (.int p3), .val (.ref a4), .val (.int p5)] []))
            refine own_go (fun _ k => XS.iconst X0.here hx rfl (hb hby d2_69) k) ?_
            show own_Ends _ _ _ _ _ _ _ (s₁.setTop (mkF m 70 #[.val (.ref a0), .val (.int p1), .val (.int p2), .val (.int p3), .val (.ref a4), .val (.int p5)] [(.int (1 : Int32))]))
            refine own_go (fun _ k => XS.goto X0.here hx rfl (pc0 := 70) (pc' := 74) rfl (hb hby d2_70) (by decide) (by decide) k) ?_
            show own_Ends _ _ _ _ _ _ _ (s₁.setTop (mkF m 74 #[.val (.ref a0), .val (.int p1), .val (.int p2), .val (.int p3), .val (.ref a4), .val (.int p5)] [(.int (1 : Int32))]))
            exact own_retN X0 hx hlk (t := .boolean) Bd.returns (by simp) (hb hby d2_74) (by decide) (by decide) ⟨congrArg (fun z => some (Value.int z)) ((by decide : nar .boolean (1 : Int32) = (1 : Int32)).trans (by exact ((((((if_neg hc1).trans (if_neg hc2)).trans (if_pos hc3)).trans (if_pos hc4)).trans (if_pos hc5))).symm)), N0, e0⟩
          · refine own_go (fun _ k => XS.icmpNo X0.here hx rfl (hb hby d2_54) rfl (flt hc5).1 k) ?_
            show own_Ends _ _ _ _ _ _ _ (s₁.setTop (mkF m 57 #[.val (.ref a0), .val (.int p1), .val (.int p2), .val (.int p3), .val (.ref a4), .val (.int p5)] []))
            refine own_go (fun _ k => XS.aloadN X0.here hx rfl (hb hby d2_57) rfl rfl k) ?_
            show own_Ends _ _ _ _ _ _ _ (s₁.setTop (mkF m 58 #[.val (.ref a0), .val (.int p1), .val (.int p2), .val (.int p3), .val (.ref a4), .val (.int p5)] [(.ref a0)]))
            refine own_go (fun _ k => XS.iloadN X0.here hx rfl (hb hby d2_58) rfl k) ?_
            show own_Ends _ _ _ _ _ _ _ (s₁.setTop (mkF m 59 #[.val (.ref a0), .val (.int p1), .val (.int p2), .val (.int p3), .val (.ref a4), .val (.int p5)] [(.int p1), (.ref a0)]))
            refine own_go (fun _ k => XS.iconst X0.here hx rfl (hb hby d2_59) k) ?_
            show own_Ends _ _ _ _ _ _ _ (s₁.setTop (mkF m 60 #[.val (.ref a0), .val (.int p1), .val (.int p2), .val (.int p3), .val (.ref a4), .val (.int p5)] [(.int (2 : Int32)), (.int p1), (.ref a0)]))
            refine own_go (fun _ k => XS.iadd X0.here hx rfl (hb hby d2_60) rfl k) ?_
            show own_Ends _ _ _ _ _ _ _ (s₁.setTop (mkF m 61 #[.val (.ref a0), .val (.int p1), .val (.int p2), .val (.int p3), .val (.ref a4), .val (.int p5)] [(.int (p1 + (2 : Int32))), (.ref a0)]))
            obtain ⟨c6, A6, i6, v6⟩ := own_Ar.at A_a0 (p1 + (2 : Int32)) (own_ix2 k1 k3 k5 hc2 hc5).1 (own_ix2 k1 k3 k5 hc2 hc5).2
            refine own_go (fun _ k => X0.baloadBytes hx (by rw [e0]; exact A6.1) (State.isArrayOf_alike hZ.alike A6.2.1) A6.2.2 i6 v6 (g := (mkF m 61 #[.val (.ref a0), .val (.int p1), .val (.int p2), .val (.int p3), .val (.ref a4), .val (.int p5)] [(.int (p1 + (2 : Int32))), (.ref a0)])) rfl rfl (hb hby d2_61) _ k) ?_
            show own_Ends _ _ _ _ _ _ _ (s₁.setTop (mkF m 62 #[.val (.ref a0), .val (.int p1), .val (.int p2), .val (.int p3), .val (.ref a4), .val (.int p5)] [(.int (G_a0 ((p1 + (2 : Int32))).toNatClampNeg))]))
            refine own_go (fun _ k => XS.aload X0.here hx rfl (hb hby d2_62) rfl rfl k) ?_
            show own_Ends _ _ _ _ _ _ _ (s₁.setTop (mkF m 64 #[.val (.ref a0), .val (.int p1), .val (.int p2), .val (.int p3), .val (.ref a4), .val (.int p5)] [(.ref a4), (.int (G_a0 ((p1 + (2 : Int32))).toNatClampNeg))]))
            refine own_go (fun _ k => XS.iconst X0.here hx rfl (hb hby d2_64) k) ?_
            show own_Ends _ _ _ _ _ _ _ (s₁.setTop (mkF m 65 #[.val (.ref a0), .val (.int p1), .val (.int p2), .val (.int p3), .val (.ref a4), .val (.int p5)] [(.int (2 : Int32)), (.ref a4), (.int (G_a0 ((p1 + (2 : Int32))).toNatClampNeg))]))
            obtain ⟨c7, A7, i7, v7⟩ := own_Ar.at A_a4 (2 : Int32) (by decide) (by decide)
            refine own_go (fun _ k => X0.baloadBytes hx (by rw [e0]; exact A7.1) (State.isArrayOf_alike hZ.alike A7.2.1) A7.2.2 i7 v7 (g := (mkF m 65 #[.val (.ref a0), .val (.int p1), .val (.int p2), .val (.int p3), .val (.ref a4), .val (.int p5)] [(.int (2 : Int32)), (.ref a4), (.int (G_a0 ((p1 + (2 : Int32))).toNatClampNeg))])) rfl rfl (hb hby d2_65) _ k) ?_
            show own_Ends _ _ _ _ _ _ _ (s₁.setTop (mkF m 66 #[.val (.ref a0), .val (.int p1), .val (.int p2), .val (.int p3), .val (.ref a4), .val (.int p5)] [(.int (G_a4 ((2 : Int32)).toNatClampNeg)), (.int (G_a0 ((p1 + (2 : Int32))).toNatClampNeg))]))
            by_cases hc8 : (G_a0 ((p1 + (2 : Int32))).toNatClampNeg) = (G_a4 ((2 : Int32)).toNatClampNeg)
            · refine own_go (fun _ k => XS.icmpNo X0.here hx rfl (hb hby d2_66) rfl (teq hc8).2 k) ?_
              show own_Ends _ _ _ _ _ _ _ (s₁.setTop (mkF m 69 #[.val (.ref a0), .val (.int p1), .val (.int p2), .val (.int p3), .val (.ref a4), .val (.int p5)] []))
              refine own_go (fun _ k => XS.iconst X0.here hx rfl (hb hby d2_69) k) ?_
              show own_Ends _ _ _ _ _ _ _ (s₁.setTop (mkF m 70 #[.val (.ref a0), .val (.int p1), .val (.int p2), .val (.int p3), .val (.ref a4), .val (.int p5)] [(.int (1 : Int32))]))
              refine own_go (fun _ k => XS.goto X0.here hx rfl (pc0 := 70) (pc' := 74) rfl (hb hby d2_70) (by decide) (by decide) k) ?_
              show own_Ends _ _ _ _ _ _ _ (s₁.setTop (mkF m 74 #[.val (.ref a0), .val (.int p1), .val (.int p2), .val (.int p3), .val (.ref a4), .val (.int p5)] [(.int (1 : Int32))]))
              exact own_retN X0 hx hlk (t := .boolean) Bd.returns (by simp) (hb hby d2_74) (by decide) (by decide) ⟨congrArg (fun z => some (Value.int z)) ((by decide : nar .boolean (1 : Int32) = (1 : Int32)).trans (by exact (((((((if_neg hc1).trans (if_neg hc2)).trans (if_pos hc3)).trans (if_pos hc4)).trans (if_neg hc5)).trans (if_pos hc8))).symm)), N0, e0⟩
            · refine own_go (fun _ k => XS.icmpYes X0.here hx rfl (pc0 := 66) (pc' := 73) rfl (hb hby d2_66) rfl (feq hc8).2 (by decide) (by decide) k) ?_
              show own_Ends _ _ _ _ _ _ _ (s₁.setTop (mkF m 73 #[.val (.ref a0), .val (.int p1), .val (.int p2), .val (.int p3), .val (.ref a4), .val (.int p5)] []))
              refine own_go (fun _ k => XS.iconst X0.here hx rfl (hb hby d2_73) k) ?_
              show own_Ends _ _ _ _ _ _ _ (s₁.setTop (mkF m 74 #[.val (.ref a0), .val (.int p1), .val (.int p2), .val (.int p3), .val (.ref a4), .val (.int p5)] [(.int (0 : Int32))]))
              exact own_retN X0 hx hlk (t := .boolean) Bd.returns (by simp) (hb hby d2_74) (by decide) (by decide) ⟨congrArg (fun z => some (Value.int z)) ((by decide : nar .boolean (0 : Int32) = (0 : Int32)).trans (by exact (((((((if_neg hc1).trans (if_neg hc2)).trans (if_pos hc3)).trans (if_pos hc4)).trans (if_neg hc5)).trans (if_neg hc8))).symm)), N0, e0⟩
        · refine own_go (fun _ k => XS.icmpNo X0.here hx rfl (hb hby d2_36) rfl (flt hc4).1 k) ?_
          show own_Ends _ _ _ _ _ _ _ (s₁.setTop (mkF m 39 #[.val (.ref a0), .val (.int p1), .val (.int p2), .val (.int p3), .val (.ref a4), .val (.int p5)] []))
          refine own_go (fun _ k => XS.aloadN X0.here hx rfl (hb hby d2_39) rfl rfl k) ?_
          show own_Ends _ _ _ _ _ _ _ (s₁.setTop (mkF m 40 #[.val (.ref a0), .val (.int p1), .val (.int p2), .val (.int p3), .val (.ref a4), .val (.int p5)] [(.ref a0)]))
          refine own_go (fun _ k => XS.iloadN X0.here hx rfl (hb hby d2_40) rfl k) ?_
          show own_Ends _ _ _ _ _ _ _ (s₁.setTop (mkF m 41 #[.val (.ref a0), .val (.int p1), .val (.int p2), .val (.int p3), .val (.ref a4), .val (.int p5)] [(.int p1), (.ref a0)]))
          refine own_go (fun _ k => XS.iconst X0.here hx rfl (hb hby d2_41) k) ?_
          show own_Ends _ _ _ _ _ _ _ (s₁.setTop (mkF m 42 #[.val (.ref a0), .val (.int p1), .val (.int p2), .val (.int p3), .val (.ref a4), .val (.int p5)] [(.int (1 : Int32)), (.int p1), (.ref a0)]))
          refine own_go (fun _ k => XS.iadd X0.here hx rfl (hb hby d2_42) rfl k) ?_
          show own_Ends _ _ _ _ _ _ _ (s₁.setTop (mkF m 43 #[.val (.ref a0), .val (.int p1), .val (.int p2), .val (.int p3), .val (.ref a4), .val (.int p5)] [(.int (p1 + (1 : Int32))), (.ref a0)]))
          obtain ⟨c9, A9, i9, v9⟩ := own_Ar.at A_a0 (p1 + (1 : Int32)) (own_ix1 k1 k3 k5 hc2 hc4).1 (own_ix1 k1 k3 k5 hc2 hc4).2
          refine own_go (fun _ k => X0.baloadBytes hx (by rw [e0]; exact A9.1) (State.isArrayOf_alike hZ.alike A9.2.1) A9.2.2 i9 v9 (g := (mkF m 43 #[.val (.ref a0), .val (.int p1), .val (.int p2), .val (.int p3), .val (.ref a4), .val (.int p5)] [(.int (p1 + (1 : Int32))), (.ref a0)])) rfl rfl (hb hby d2_43) _ k) ?_
          show own_Ends _ _ _ _ _ _ _ (s₁.setTop (mkF m 44 #[.val (.ref a0), .val (.int p1), .val (.int p2), .val (.int p3), .val (.ref a4), .val (.int p5)] [(.int (G_a0 ((p1 + (1 : Int32))).toNatClampNeg))]))
          refine own_go (fun _ k => XS.aload X0.here hx rfl (hb hby d2_44) rfl rfl k) ?_
          show own_Ends _ _ _ _ _ _ _ (s₁.setTop (mkF m 46 #[.val (.ref a0), .val (.int p1), .val (.int p2), .val (.int p3), .val (.ref a4), .val (.int p5)] [(.ref a4), (.int (G_a0 ((p1 + (1 : Int32))).toNatClampNeg))]))
          refine own_go (fun _ k => XS.iconst X0.here hx rfl (hb hby d2_46) k) ?_
          show own_Ends _ _ _ _ _ _ _ (s₁.setTop (mkF m 47 #[.val (.ref a0), .val (.int p1), .val (.int p2), .val (.int p3), .val (.ref a4), .val (.int p5)] [(.int (1 : Int32)), (.ref a4), (.int (G_a0 ((p1 + (1 : Int32))).toNatClampNeg))]))
          obtain ⟨c10, A10, i10, v10⟩ := own_Ar.at A_a4 (1 : Int32) (by decide) (by decide)
          refine own_go (fun _ k => X0.baloadBytes hx (by rw [e0]; exact A10.1) (State.isArrayOf_alike hZ.alike A10.2.1) A10.2.2 i10 v10 (g := (mkF m 47 #[.val (.ref a0), .val (.int p1), .val (.int p2), .val (.int p3), .val (.ref a4), .val (.int p5)] [(.int (1 : Int32)), (.ref a4), (.int (G_a0 ((p1 + (1 : Int32))).toNatClampNeg))])) rfl rfl (hb hby d2_47) _ k) ?_
          show own_Ends _ _ _ _ _ _ _ (s₁.setTop (mkF m 48 #[.val (.ref a0), .val (.int p1), .val (.int p2), .val (.int p3), .val (.ref a4), .val (.int p5)] [(.int (G_a4 ((1 : Int32)).toNatClampNeg)), (.int (G_a0 ((p1 + (1 : Int32))).toNatClampNeg))]))
          by_cases hc11 : (G_a0 ((p1 + (1 : Int32))).toNatClampNeg) = (G_a4 ((1 : Int32)).toNatClampNeg)
          · refine own_go (fun _ k => XS.icmpNo X0.here hx rfl (hb hby d2_48) rfl (teq hc11).2 k) ?_
            show own_Ends _ _ _ _ _ _ _ (s₁.setTop (mkF m 51 #[.val (.ref a0), .val (.int p1), .val (.int p2), .val (.int p3), .val (.ref a4), .val (.int p5)] []))
            refine own_go (fun _ k => XS.iload X0.here hx rfl (hb hby d2_51) rfl k) ?_
            show own_Ends _ _ _ _ _ _ _ (s₁.setTop (mkF m 53 #[.val (.ref a0), .val (.int p1), .val (.int p2), .val (.int p3), .val (.ref a4), .val (.int p5)] [(.int p5)]))
            refine own_go (fun _ k => XS.iconst X0.here hx rfl (hb hby d2_53) k) ?_
            show own_Ends _ _ _ _ _ _ _ (s₁.setTop (mkF m 54 #[.val (.ref a0), .val (.int p1), .val (.int p2), .val (.int p3), .val (.ref a4), .val (.int p5)] [(.int (3 : Int32)), (.int p5)]))
            by_cases hc12 : p5 < (3 : Int32)
            · refine own_go (fun _ k => XS.icmpYes X0.here hx rfl (pc0 := 54) (pc' := 69) rfl (hb hby d2_54) rfl (tlt hc12).1 (by decide) (by decide) k) ?_
              show own_Ends _ _ _ _ _ _ _ (s₁.setTop (mkF m 69 #[.val (.ref a0), .val (.int p1), .val (.int p2), .val (.int p3), .val (.ref a4), .val (.int p5)] []))
              refine own_go (fun _ k => XS.iconst X0.here hx rfl (hb hby d2_69) k) ?_
              show own_Ends _ _ _ _ _ _ _ (s₁.setTop (mkF m 70 #[.val (.ref a0), .val (.int p1), .val (.int p2), .val (.int p3), .val (.ref a4), .val (.int p5)] [(.int (1 : Int32))]))
              refine own_go (fun _ k => XS.goto X0.here hx rfl (pc0 := 70) (pc' := 74) rfl (hb hby d2_70) (by decide) (by decide) k) ?_
              show own_Ends _ _ _ _ _ _ _ (s₁.setTop (mkF m 74 #[.val (.ref a0), .val (.int p1), .val (.int p2), .val (.int p3), .val (.ref a4), .val (.int p5)] [(.int (1 : Int32))]))
              exact own_retN X0 hx hlk (t := .boolean) Bd.returns (by simp) (hb hby d2_74) (by decide) (by decide) ⟨congrArg (fun z => some (Value.int z)) ((by decide : nar .boolean (1 : Int32) = (1 : Int32)).trans (by exact (((((((if_neg hc1).trans (if_neg hc2)).trans (if_pos hc3)).trans (if_neg hc4)).trans (if_pos hc11)).trans (if_pos hc12))).symm)), N0, e0⟩
            · refine own_go (fun _ k => XS.icmpNo X0.here hx rfl (hb hby d2_54) rfl (flt hc12).1 k) ?_
              show own_Ends _ _ _ _ _ _ _ (s₁.setTop (mkF m 57 #[.val (.ref a0), .val (.int p1), .val (.int p2), .val (.int p3), .val (.ref a4), .val (.int p5)] []))
              refine own_go (fun _ k => XS.aloadN X0.here hx rfl (hb hby d2_57) rfl rfl k) ?_
              show own_Ends _ _ _ _ _ _ _ (s₁.setTop (mkF m 58 #[.val (.ref a0), .val (.int p1), .val (.int p2), .val (.int p3), .val (.ref a4), .val (.int p5)] [(.ref a0)]))
              refine own_go (fun _ k => XS.iloadN X0.here hx rfl (hb hby d2_58) rfl k) ?_
              show own_Ends _ _ _ _ _ _ _ (s₁.setTop (mkF m 59 #[.val (.ref a0), .val (.int p1), .val (.int p2), .val (.int p3), .val (.ref a4), .val (.int p5)] [(.int p1), (.ref a0)]))
              refine own_go (fun _ k => XS.iconst X0.here hx rfl (hb hby d2_59) k) ?_
              show own_Ends _ _ _ _ _ _ _ (s₁.setTop (mkF m 60 #[.val (.ref a0), .val (.int p1), .val (.int p2), .val (.int p3), .val (.ref a4), .val (.int p5)] [(.int (2 : Int32)), (.int p1), (.ref a0)]))
              refine own_go (fun _ k => XS.iadd X0.here hx rfl (hb hby d2_60) rfl k) ?_
              show own_Ends _ _ _ _ _ _ _ (s₁.setTop (mkF m 61 #[.val (.ref a0), .val (.int p1), .val (.int p2), .val (.int p3), .val (.ref a4), .val (.int p5)] [(.int (p1 + (2 : Int32))), (.ref a0)]))
              obtain ⟨c13, A13, i13, v13⟩ := own_Ar.at A_a0 (p1 + (2 : Int32)) (own_ix2 k1 k3 k5 hc2 hc12).1 (own_ix2 k1 k3 k5 hc2 hc12).2
              refine own_go (fun _ k => X0.baloadBytes hx (by rw [e0]; exact A13.1) (State.isArrayOf_alike hZ.alike A13.2.1) A13.2.2 i13 v13 (g := (mkF m 61 #[.val (.ref a0), .val (.int p1), .val (.int p2), .val (.int p3), .val (.ref a4), .val (.int p5)] [(.int (p1 + (2 : Int32))), (.ref a0)])) rfl rfl (hb hby d2_61) _ k) ?_
              show own_Ends _ _ _ _ _ _ _ (s₁.setTop (mkF m 62 #[.val (.ref a0), .val (.int p1), .val (.int p2), .val (.int p3), .val (.ref a4), .val (.int p5)] [(.int (G_a0 ((p1 + (2 : Int32))).toNatClampNeg))]))
              refine own_go (fun _ k => XS.aload X0.here hx rfl (hb hby d2_62) rfl rfl k) ?_
              show own_Ends _ _ _ _ _ _ _ (s₁.setTop (mkF m 64 #[.val (.ref a0), .val (.int p1), .val (.int p2), .val (.int p3), .val (.ref a4), .val (.int p5)] [(.ref a4), (.int (G_a0 ((p1 + (2 : Int32))).toNatClampNeg))]))
              refine own_go (fun _ k => XS.iconst X0.here hx rfl (hb hby d2_64) k) ?_
              show own_Ends _ _ _ _ _ _ _ (s₁.setTop (mkF m 65 #[.val (.ref a0), .val (.int p1), .val (.int p2), .val (.int p3), .val (.ref a4), .val (.int p5)] [(.int (2 : Int32)), (.ref a4), (.int (G_a0 ((p1 + (2 : Int32))).toNatClampNeg))]))
              obtain ⟨c14, A14, i14, v14⟩ := own_Ar.at A_a4 (2 : Int32) (by decide) (by decide)
              refine own_go (fun _ k => X0.baloadBytes hx (by rw [e0]; exact A14.1) (State.isArrayOf_alike hZ.alike A14.2.1) A14.2.2 i14 v14 (g := (mkF m 65 #[.val (.ref a0), .val (.int p1), .val (.int p2), .val (.int p3), .val (.ref a4), .val (.int p5)] [(.int (2 : Int32)), (.ref a4), (.int (G_a0 ((p1 + (2 : Int32))).toNatClampNeg))])) rfl rfl (hb hby d2_65) _ k) ?_
              show own_Ends _ _ _ _ _ _ _ (s₁.setTop (mkF m 66 #[.val (.ref a0), .val (.int p1), .val (.int p2), .val (.int p3), .val (.ref a4), .val (.int p5)] [(.int (G_a4 ((2 : Int32)).toNatClampNeg)), (.int (G_a0 ((p1 + (2 : Int32))).toNatClampNeg))]))
              by_cases hc15 : (G_a0 ((p1 + (2 : Int32))).toNatClampNeg) = (G_a4 ((2 : Int32)).toNatClampNeg)
              · refine own_go (fun _ k => XS.icmpNo X0.here hx rfl (hb hby d2_66) rfl (teq hc15).2 k) ?_
                show own_Ends _ _ _ _ _ _ _ (s₁.setTop (mkF m 69 #[.val (.ref a0), .val (.int p1), .val (.int p2), .val (.int p3), .val (.ref a4), .val (.int p5)] []))
                refine own_go (fun _ k => XS.iconst X0.here hx rfl (hb hby d2_69) k) ?_
                show own_Ends _ _ _ _ _ _ _ (s₁.setTop (mkF m 70 #[.val (.ref a0), .val (.int p1), .val (.int p2), .val (.int p3), .val (.ref a4), .val (.int p5)] [(.int (1 : Int32))]))
                refine own_go (fun _ k => XS.goto X0.here hx rfl (pc0 := 70) (pc' := 74) rfl (hb hby d2_70) (by decide) (by decide) k) ?_
                show own_Ends _ _ _ _ _ _ _ (s₁.setTop (mkF m 74 #[.val (.ref a0), .val (.int p1), .val (.int p2), .val (.int p3), .val (.ref a4), .val (.int p5)] [(.int (1 : Int32))]))
                exact own_retN X0 hx hlk (t := .boolean) Bd.returns (by simp) (hb hby d2_74) (by decide) (by decide) ⟨congrArg (fun z => some (Value.int z)) ((by decide : nar .boolean (1 : Int32) = (1 : Int32)).trans (by exact ((((((((if_neg hc1).trans (if_neg hc2)).trans (if_pos hc3)).trans (if_neg hc4)).trans (if_pos hc11)).trans (if_neg hc12)).trans (if_pos hc15))).symm)), N0, e0⟩
              · refine own_go (fun _ k => XS.icmpYes X0.here hx rfl (pc0 := 66) (pc' := 73) rfl (hb hby d2_66) rfl (feq hc15).2 (by decide) (by decide) k) ?_
                show own_Ends _ _ _ _ _ _ _ (s₁.setTop (mkF m 73 #[.val (.ref a0), .val (.int p1), .val (.int p2), .val (.int p3), .val (.ref a4), .val (.int p5)] []))
                refine own_go (fun _ k => XS.iconst X0.here hx rfl (hb hby d2_73) k) ?_
                show own_Ends _ _ _ _ _ _ _ (s₁.setTop (mkF m 74 #[.val (.ref a0), .val (.int p1), .val (.int p2), .val (.int p3), .val (.ref a4), .val (.int p5)] [(.int (0 : Int32))]))
                exact own_retN X0 hx hlk (t := .boolean) Bd.returns (by simp) (hb hby d2_74) (by decide) (by decide) ⟨congrArg (fun z => some (Value.int z)) ((by decide : nar .boolean (0 : Int32) = (0 : Int32)).trans (by exact ((((((((if_neg hc1).trans (if_neg hc2)).trans (if_pos hc3)).trans (if_neg hc4)).trans (if_pos hc11)).trans (if_neg hc12)).trans (if_neg hc15))).symm)), N0, e0⟩
          · refine own_go (fun _ k => XS.icmpYes X0.here hx rfl (pc0 := 48) (pc' := 73) rfl (hb hby d2_48) rfl (feq hc11).2 (by decide) (by decide) k) ?_
            show own_Ends _ _ _ _ _ _ _ (s₁.setTop (mkF m 73 #[.val (.ref a0), .val (.int p1), .val (.int p2), .val (.int p3), .val (.ref a4), .val (.int p5)] []))
            refine own_go (fun _ k => XS.iconst X0.here hx rfl (hb hby d2_73) k) ?_
            show own_Ends _ _ _ _ _ _ _ (s₁.setTop (mkF m 74 #[.val (.ref a0), .val (.int p1), .val (.int p2), .val (.int p3), .val (.ref a4), .val (.int p5)] [(.int (0 : Int32))]))
            exact own_retN X0 hx hlk (t := .boolean) Bd.returns (by simp) (hb hby d2_74) (by decide) (by decide) ⟨congrArg (fun z => some (Value.int z)) ((by decide : nar .boolean (0 : Int32) = (0 : Int32)).trans (by exact ((((((if_neg hc1).trans (if_neg hc2)).trans (if_pos hc3)).trans (if_neg hc4)).trans (if_neg hc11))).symm)), N0, e0⟩
      · refine own_go (fun _ k => XS.icmpNo X0.here hx rfl (hb hby d2_20) rfl (flt hc3).1 k) ?_
        show own_Ends _ _ _ _ _ _ _ (s₁.setTop (mkF m 23 #[.val (.ref a0), .val (.int p1), .val (.int p2), .val (.int p3), .val (.ref a4), .val (.int p5)] []))
        refine own_go (fun _ k => XS.aloadN X0.here hx rfl (hb hby d2_23) rfl rfl k) ?_
        show own_Ends _ _ _ _ _ _ _ (s₁.setTop (mkF m 24 #[.val (.ref a0), .val (.int p1), .val (.int p2), .val (.int p3), .val (.ref a4), .val (.int p5)] [(.ref a0)]))
        refine own_go (fun _ k => XS.iloadN X0.here hx rfl (hb hby d2_24) rfl k) ?_
        show own_Ends _ _ _ _ _ _ _ (s₁.setTop (mkF m 25 #[.val (.ref a0), .val (.int p1), .val (.int p2), .val (.int p3), .val (.ref a4), .val (.int p5)] [(.int p1), (.ref a0)]))
        obtain ⟨c16, A16, i16, v16⟩ := own_Ar.at A_a0 p1 (own_ix0 k1 k3 k5 hc2 hc3).1 (own_ix0 k1 k3 k5 hc2 hc3).2
        refine own_go (fun _ k => X0.baloadBytes hx (by rw [e0]; exact A16.1) (State.isArrayOf_alike hZ.alike A16.2.1) A16.2.2 i16 v16 (g := (mkF m 25 #[.val (.ref a0), .val (.int p1), .val (.int p2), .val (.int p3), .val (.ref a4), .val (.int p5)] [(.int p1), (.ref a0)])) rfl rfl (hb hby d2_25) _ k) ?_
        show own_Ends _ _ _ _ _ _ _ (s₁.setTop (mkF m 26 #[.val (.ref a0), .val (.int p1), .val (.int p2), .val (.int p3), .val (.ref a4), .val (.int p5)] [(.int (G_a0 (p1).toNatClampNeg))]))
        refine own_go (fun _ k => XS.aload X0.here hx rfl (hb hby d2_26) rfl rfl k) ?_
        show own_Ends _ _ _ _ _ _ _ (s₁.setTop (mkF m 28 #[.val (.ref a0), .val (.int p1), .val (.int p2), .val (.int p3), .val (.ref a4), .val (.int p5)] [(.ref a4), (.int (G_a0 (p1).toNatClampNeg))]))
        refine own_go (fun _ k => XS.iconst X0.here hx rfl (hb hby d2_28) k) ?_
        show own_Ends _ _ _ _ _ _ _ (s₁.setTop (mkF m 29 #[.val (.ref a0), .val (.int p1), .val (.int p2), .val (.int p3), .val (.ref a4), .val (.int p5)] [(.int (0 : Int32)), (.ref a4), (.int (G_a0 (p1).toNatClampNeg))]))
        obtain ⟨c17, A17, i17, v17⟩ := own_Ar.at A_a4 (0 : Int32) (by decide) (by decide)
        refine own_go (fun _ k => X0.baloadBytes hx (by rw [e0]; exact A17.1) (State.isArrayOf_alike hZ.alike A17.2.1) A17.2.2 i17 v17 (g := (mkF m 29 #[.val (.ref a0), .val (.int p1), .val (.int p2), .val (.int p3), .val (.ref a4), .val (.int p5)] [(.int (0 : Int32)), (.ref a4), (.int (G_a0 (p1).toNatClampNeg))])) rfl rfl (hb hby d2_29) _ k) ?_
        show own_Ends _ _ _ _ _ _ _ (s₁.setTop (mkF m 30 #[.val (.ref a0), .val (.int p1), .val (.int p2), .val (.int p3), .val (.ref a4), .val (.int p5)] [(.int (G_a4 ((0 : Int32)).toNatClampNeg)), (.int (G_a0 (p1).toNatClampNeg))]))
        by_cases hc18 : (G_a0 (p1).toNatClampNeg) = (G_a4 ((0 : Int32)).toNatClampNeg)
        · refine own_go (fun _ k => XS.icmpNo X0.here hx rfl (hb hby d2_30) rfl (teq hc18).2 k) ?_
          show own_Ends _ _ _ _ _ _ _ (s₁.setTop (mkF m 33 #[.val (.ref a0), .val (.int p1), .val (.int p2), .val (.int p3), .val (.ref a4), .val (.int p5)] []))
          refine own_go (fun _ k => XS.iload X0.here hx rfl (hb hby d2_33) rfl k) ?_
          show own_Ends _ _ _ _ _ _ _ (s₁.setTop (mkF m 35 #[.val (.ref a0), .val (.int p1), .val (.int p2), .val (.int p3), .val (.ref a4), .val (.int p5)] [(.int p5)]))
          refine own_go (fun _ k => XS.iconst X0.here hx rfl (hb hby d2_35) k) ?_
          show own_Ends _ _ _ _ _ _ _ (s₁.setTop (mkF m 36 #[.val (.ref a0), .val (.int p1), .val (.int p2), .val (.int p3), .val (.ref a4), .val (.int p5)] [(.int (2 : Int32)), (.int p5)]))
          by_cases hc19 : p5 < (2 : Int32)
          · refine own_go (fun _ k => XS.icmpYes X0.here hx rfl (pc0 := 36) (pc' := 51) rfl (hb hby d2_36) rfl (tlt hc19).1 (by decide) (by decide) k) ?_
            show own_Ends _ _ _ _ _ _ _ (s₁.setTop (mkF m 51 #[.val (.ref a0), .val (.int p1), .val (.int p2), .val (.int p3), .val (.ref a4), .val (.int p5)] []))
            refine own_go (fun _ k => XS.iload X0.here hx rfl (hb hby d2_51) rfl k) ?_
            show own_Ends _ _ _ _ _ _ _ (s₁.setTop (mkF m 53 #[.val (.ref a0), .val (.int p1), .val (.int p2), .val (.int p3), .val (.ref a4), .val (.int p5)] [(.int p5)]))
            refine own_go (fun _ k => XS.iconst X0.here hx rfl (hb hby d2_53) k) ?_
            show own_Ends _ _ _ _ _ _ _ (s₁.setTop (mkF m 54 #[.val (.ref a0), .val (.int p1), .val (.int p2), .val (.int p3), .val (.ref a4), .val (.int p5)] [(.int (3 : Int32)), (.int p5)]))
            by_cases hc20 : p5 < (3 : Int32)
            · refine own_go (fun _ k => XS.icmpYes X0.here hx rfl (pc0 := 54) (pc' := 69) rfl (hb hby d2_54) rfl (tlt hc20).1 (by decide) (by decide) k) ?_
              show own_Ends _ _ _ _ _ _ _ (s₁.setTop (mkF m 69 #[.val (.ref a0), .val (.int p1), .val (.int p2), .val (.int p3), .val (.ref a4), .val (.int p5)] []))
              refine own_go (fun _ k => XS.iconst X0.here hx rfl (hb hby d2_69) k) ?_
              show own_Ends _ _ _ _ _ _ _ (s₁.setTop (mkF m 70 #[.val (.ref a0), .val (.int p1), .val (.int p2), .val (.int p3), .val (.ref a4), .val (.int p5)] [(.int (1 : Int32))]))
              refine own_go (fun _ k => XS.goto X0.here hx rfl (pc0 := 70) (pc' := 74) rfl (hb hby d2_70) (by decide) (by decide) k) ?_
              show own_Ends _ _ _ _ _ _ _ (s₁.setTop (mkF m 74 #[.val (.ref a0), .val (.int p1), .val (.int p2), .val (.int p3), .val (.ref a4), .val (.int p5)] [(.int (1 : Int32))]))
              exact own_retN X0 hx hlk (t := .boolean) Bd.returns (by simp) (hb hby d2_74) (by decide) (by decide) ⟨congrArg (fun z => some (Value.int z)) ((by decide : nar .boolean (1 : Int32) = (1 : Int32)).trans (by exact (((((((if_neg hc1).trans (if_neg hc2)).trans (if_neg hc3)).trans (if_pos hc18)).trans (if_pos hc19)).trans (if_pos hc20))).symm)), N0, e0⟩
            · refine own_go (fun _ k => XS.icmpNo X0.here hx rfl (hb hby d2_54) rfl (flt hc20).1 k) ?_
              show own_Ends _ _ _ _ _ _ _ (s₁.setTop (mkF m 57 #[.val (.ref a0), .val (.int p1), .val (.int p2), .val (.int p3), .val (.ref a4), .val (.int p5)] []))
              refine own_go (fun _ k => XS.aloadN X0.here hx rfl (hb hby d2_57) rfl rfl k) ?_
              show own_Ends _ _ _ _ _ _ _ (s₁.setTop (mkF m 58 #[.val (.ref a0), .val (.int p1), .val (.int p2), .val (.int p3), .val (.ref a4), .val (.int p5)] [(.ref a0)]))
              refine own_go (fun _ k => XS.iloadN X0.here hx rfl (hb hby d2_58) rfl k) ?_
              show own_Ends _ _ _ _ _ _ _ (s₁.setTop (mkF m 59 #[.val (.ref a0), .val (.int p1), .val (.int p2), .val (.int p3), .val (.ref a4), .val (.int p5)] [(.int p1), (.ref a0)]))
              refine own_go (fun _ k => XS.iconst X0.here hx rfl (hb hby d2_59) k) ?_
              show own_Ends _ _ _ _ _ _ _ (s₁.setTop (mkF m 60 #[.val (.ref a0), .val (.int p1), .val (.int p2), .val (.int p3), .val (.ref a4), .val (.int p5)] [(.int (2 : Int32)), (.int p1), (.ref a0)]))
              refine own_go (fun _ k => XS.iadd X0.here hx rfl (hb hby d2_60) rfl k) ?_
              show own_Ends _ _ _ _ _ _ _ (s₁.setTop (mkF m 61 #[.val (.ref a0), .val (.int p1), .val (.int p2), .val (.int p3), .val (.ref a4), .val (.int p5)] [(.int (p1 + (2 : Int32))), (.ref a0)]))
              obtain ⟨c21, A21, i21, v21⟩ := own_Ar.at A_a0 (p1 + (2 : Int32)) (own_ix2 k1 k3 k5 hc2 hc20).1 (own_ix2 k1 k3 k5 hc2 hc20).2
              refine own_go (fun _ k => X0.baloadBytes hx (by rw [e0]; exact A21.1) (State.isArrayOf_alike hZ.alike A21.2.1) A21.2.2 i21 v21 (g := (mkF m 61 #[.val (.ref a0), .val (.int p1), .val (.int p2), .val (.int p3), .val (.ref a4), .val (.int p5)] [(.int (p1 + (2 : Int32))), (.ref a0)])) rfl rfl (hb hby d2_61) _ k) ?_
              show own_Ends _ _ _ _ _ _ _ (s₁.setTop (mkF m 62 #[.val (.ref a0), .val (.int p1), .val (.int p2), .val (.int p3), .val (.ref a4), .val (.int p5)] [(.int (G_a0 ((p1 + (2 : Int32))).toNatClampNeg))]))
              refine own_go (fun _ k => XS.aload X0.here hx rfl (hb hby d2_62) rfl rfl k) ?_
              show own_Ends _ _ _ _ _ _ _ (s₁.setTop (mkF m 64 #[.val (.ref a0), .val (.int p1), .val (.int p2), .val (.int p3), .val (.ref a4), .val (.int p5)] [(.ref a4), (.int (G_a0 ((p1 + (2 : Int32))).toNatClampNeg))]))
              refine own_go (fun _ k => XS.iconst X0.here hx rfl (hb hby d2_64) k) ?_
              show own_Ends _ _ _ _ _ _ _ (s₁.setTop (mkF m 65 #[.val (.ref a0), .val (.int p1), .val (.int p2), .val (.int p3), .val (.ref a4), .val (.int p5)] [(.int (2 : Int32)), (.ref a4), (.int (G_a0 ((p1 + (2 : Int32))).toNatClampNeg))]))
              obtain ⟨c22, A22, i22, v22⟩ := own_Ar.at A_a4 (2 : Int32) (by decide) (by decide)
              refine own_go (fun _ k => X0.baloadBytes hx (by rw [e0]; exact A22.1) (State.isArrayOf_alike hZ.alike A22.2.1) A22.2.2 i22 v22 (g := (mkF m 65 #[.val (.ref a0), .val (.int p1), .val (.int p2), .val (.int p3), .val (.ref a4), .val (.int p5)] [(.int (2 : Int32)), (.ref a4), (.int (G_a0 ((p1 + (2 : Int32))).toNatClampNeg))])) rfl rfl (hb hby d2_65) _ k) ?_
              show own_Ends _ _ _ _ _ _ _ (s₁.setTop (mkF m 66 #[.val (.ref a0), .val (.int p1), .val (.int p2), .val (.int p3), .val (.ref a4), .val (.int p5)] [(.int (G_a4 ((2 : Int32)).toNatClampNeg)), (.int (G_a0 ((p1 + (2 : Int32))).toNatClampNeg))]))
              by_cases hc23 : (G_a0 ((p1 + (2 : Int32))).toNatClampNeg) = (G_a4 ((2 : Int32)).toNatClampNeg)
              · refine own_go (fun _ k => XS.icmpNo X0.here hx rfl (hb hby d2_66) rfl (teq hc23).2 k) ?_
                show own_Ends _ _ _ _ _ _ _ (s₁.setTop (mkF m 69 #[.val (.ref a0), .val (.int p1), .val (.int p2), .val (.int p3), .val (.ref a4), .val (.int p5)] []))
                refine own_go (fun _ k => XS.iconst X0.here hx rfl (hb hby d2_69) k) ?_
                show own_Ends _ _ _ _ _ _ _ (s₁.setTop (mkF m 70 #[.val (.ref a0), .val (.int p1), .val (.int p2), .val (.int p3), .val (.ref a4), .val (.int p5)] [(.int (1 : Int32))]))
                refine own_go (fun _ k => XS.goto X0.here hx rfl (pc0 := 70) (pc' := 74) rfl (hb hby d2_70) (by decide) (by decide) k) ?_
                show own_Ends _ _ _ _ _ _ _ (s₁.setTop (mkF m 74 #[.val (.ref a0), .val (.int p1), .val (.int p2), .val (.int p3), .val (.ref a4), .val (.int p5)] [(.int (1 : Int32))]))
                exact own_retN X0 hx hlk (t := .boolean) Bd.returns (by simp) (hb hby d2_74) (by decide) (by decide) ⟨congrArg (fun z => some (Value.int z)) ((by decide : nar .boolean (1 : Int32) = (1 : Int32)).trans (by exact ((((((((if_neg hc1).trans (if_neg hc2)).trans (if_neg hc3)).trans (if_pos hc18)).trans (if_pos hc19)).trans (if_neg hc20)).trans (if_pos hc23))).symm)), N0, e0⟩
              · refine own_go (fun _ k => XS.icmpYes X0.here hx rfl (pc0 := 66) (pc' := 73) rfl (hb hby d2_66) rfl (feq hc23).2 (by decide) (by decide) k) ?_
                show own_Ends _ _ _ _ _ _ _ (s₁.setTop (mkF m 73 #[.val (.ref a0), .val (.int p1), .val (.int p2), .val (.int p3), .val (.ref a4), .val (.int p5)] []))
                refine own_go (fun _ k => XS.iconst X0.here hx rfl (hb hby d2_73) k) ?_
                show own_Ends _ _ _ _ _ _ _ (s₁.setTop (mkF m 74 #[.val (.ref a0), .val (.int p1), .val (.int p2), .val (.int p3), .val (.ref a4), .val (.int p5)] [(.int (0 : Int32))]))
                exact own_retN X0 hx hlk (t := .boolean) Bd.returns (by simp) (hb hby d2_74) (by decide) (by decide) ⟨congrArg (fun z => some (Value.int z)) ((by decide : nar .boolean (0 : Int32) = (0 : Int32)).trans (by exact ((((((((if_neg hc1).trans (if_neg hc2)).trans (if_neg hc3)).trans (if_pos hc18)).trans (if_pos hc19)).trans (if_neg hc20)).trans (if_neg hc23))).symm)), N0, e0⟩
          · refine own_go (fun _ k => XS.icmpNo X0.here hx rfl (hb hby d2_36) rfl (flt hc19).1 k) ?_
            show own_Ends _ _ _ _ _ _ _ (s₁.setTop (mkF m 39 #[.val (.ref a0), .val (.int p1), .val (.int p2), .val (.int p3), .val (.ref a4), .val (.int p5)] []))
            refine own_go (fun _ k => XS.aloadN X0.here hx rfl (hb hby d2_39) rfl rfl k) ?_
            show own_Ends _ _ _ _ _ _ _ (s₁.setTop (mkF m 40 #[.val (.ref a0), .val (.int p1), .val (.int p2), .val (.int p3), .val (.ref a4), .val (.int p5)] [(.ref a0)]))
            refine own_go (fun _ k => XS.iloadN X0.here hx rfl (hb hby d2_40) rfl k) ?_
            show own_Ends _ _ _ _ _ _ _ (s₁.setTop (mkF m 41 #[.val (.ref a0), .val (.int p1), .val (.int p2), .val (.int p3), .val (.ref a4), .val (.int p5)] [(.int p1), (.ref a0)]))
            refine own_go (fun _ k => XS.iconst X0.here hx rfl (hb hby d2_41) k) ?_
            show own_Ends _ _ _ _ _ _ _ (s₁.setTop (mkF m 42 #[.val (.ref a0), .val (.int p1), .val (.int p2), .val (.int p3), .val (.ref a4), .val (.int p5)] [(.int (1 : Int32)), (.int p1), (.ref a0)]))
            refine own_go (fun _ k => XS.iadd X0.here hx rfl (hb hby d2_42) rfl k) ?_
            show own_Ends _ _ _ _ _ _ _ (s₁.setTop (mkF m 43 #[.val (.ref a0), .val (.int p1), .val (.int p2), .val (.int p3), .val (.ref a4), .val (.int p5)] [(.int (p1 + (1 : Int32))), (.ref a0)]))
            obtain ⟨c24, A24, i24, v24⟩ := own_Ar.at A_a0 (p1 + (1 : Int32)) (own_ix1 k1 k3 k5 hc2 hc19).1 (own_ix1 k1 k3 k5 hc2 hc19).2
            refine own_go (fun _ k => X0.baloadBytes hx (by rw [e0]; exact A24.1) (State.isArrayOf_alike hZ.alike A24.2.1) A24.2.2 i24 v24 (g := (mkF m 43 #[.val (.ref a0), .val (.int p1), .val (.int p2), .val (.int p3), .val (.ref a4), .val (.int p5)] [(.int (p1 + (1 : Int32))), (.ref a0)])) rfl rfl (hb hby d2_43) _ k) ?_
            show own_Ends _ _ _ _ _ _ _ (s₁.setTop (mkF m 44 #[.val (.ref a0), .val (.int p1), .val (.int p2), .val (.int p3), .val (.ref a4), .val (.int p5)] [(.int (G_a0 ((p1 + (1 : Int32))).toNatClampNeg))]))
            refine own_go (fun _ k => XS.aload X0.here hx rfl (hb hby d2_44) rfl rfl k) ?_
            show own_Ends _ _ _ _ _ _ _ (s₁.setTop (mkF m 46 #[.val (.ref a0), .val (.int p1), .val (.int p2), .val (.int p3), .val (.ref a4), .val (.int p5)] [(.ref a4), (.int (G_a0 ((p1 + (1 : Int32))).toNatClampNeg))]))
            refine own_go (fun _ k => XS.iconst X0.here hx rfl (hb hby d2_46) k) ?_
            show own_Ends _ _ _ _ _ _ _ (s₁.setTop (mkF m 47 #[.val (.ref a0), .val (.int p1), .val (.int p2), .val (.int p3), .val (.ref a4), .val (.int p5)] [(.int (1 : Int32)), (.ref a4), (.int (G_a0 ((p1 + (1 : Int32))).toNatClampNeg))]))
            obtain ⟨c25, A25, i25, v25⟩ := own_Ar.at A_a4 (1 : Int32) (by decide) (by decide)
            refine own_go (fun _ k => X0.baloadBytes hx (by rw [e0]; exact A25.1) (State.isArrayOf_alike hZ.alike A25.2.1) A25.2.2 i25 v25 (g := (mkF m 47 #[.val (.ref a0), .val (.int p1), .val (.int p2), .val (.int p3), .val (.ref a4), .val (.int p5)] [(.int (1 : Int32)), (.ref a4), (.int (G_a0 ((p1 + (1 : Int32))).toNatClampNeg))])) rfl rfl (hb hby d2_47) _ k) ?_
            show own_Ends _ _ _ _ _ _ _ (s₁.setTop (mkF m 48 #[.val (.ref a0), .val (.int p1), .val (.int p2), .val (.int p3), .val (.ref a4), .val (.int p5)] [(.int (G_a4 ((1 : Int32)).toNatClampNeg)), (.int (G_a0 ((p1 + (1 : Int32))).toNatClampNeg))]))
            by_cases hc26 : (G_a0 ((p1 + (1 : Int32))).toNatClampNeg) = (G_a4 ((1 : Int32)).toNatClampNeg)
            · refine own_go (fun _ k => XS.icmpNo X0.here hx rfl (hb hby d2_48) rfl (teq hc26).2 k) ?_
              show own_Ends _ _ _ _ _ _ _ (s₁.setTop (mkF m 51 #[.val (.ref a0), .val (.int p1), .val (.int p2), .val (.int p3), .val (.ref a4), .val (.int p5)] []))
              refine own_go (fun _ k => XS.iload X0.here hx rfl (hb hby d2_51) rfl k) ?_
              show own_Ends _ _ _ _ _ _ _ (s₁.setTop (mkF m 53 #[.val (.ref a0), .val (.int p1), .val (.int p2), .val (.int p3), .val (.ref a4), .val (.int p5)] [(.int p5)]))
              refine own_go (fun _ k => XS.iconst X0.here hx rfl (hb hby d2_53) k) ?_
              show own_Ends _ _ _ _ _ _ _ (s₁.setTop (mkF m 54 #[.val (.ref a0), .val (.int p1), .val (.int p2), .val (.int p3), .val (.ref a4), .val (.int p5)] [(.int (3 : Int32)), (.int p5)]))
              by_cases hc27 : p5 < (3 : Int32)
              · refine own_go (fun _ k => XS.icmpYes X0.here hx rfl (pc0 := 54) (pc' := 69) rfl (hb hby d2_54) rfl (tlt hc27).1 (by decide) (by decide) k) ?_
                show own_Ends _ _ _ _ _ _ _ (s₁.setTop (mkF m 69 #[.val (.ref a0), .val (.int p1), .val (.int p2), .val (.int p3), .val (.ref a4), .val (.int p5)] []))
                refine own_go (fun _ k => XS.iconst X0.here hx rfl (hb hby d2_69) k) ?_
                show own_Ends _ _ _ _ _ _ _ (s₁.setTop (mkF m 70 #[.val (.ref a0), .val (.int p1), .val (.int p2), .val (.int p3), .val (.ref a4), .val (.int p5)] [(.int (1 : Int32))]))
                refine own_go (fun _ k => XS.goto X0.here hx rfl (pc0 := 70) (pc' := 74) rfl (hb hby d2_70) (by decide) (by decide) k) ?_
                show own_Ends _ _ _ _ _ _ _ (s₁.setTop (mkF m 74 #[.val (.ref a0), .val (.int p1), .val (.int p2), .val (.int p3), .val (.ref a4), .val (.int p5)] [(.int (1 : Int32))]))
                exact own_retN X0 hx hlk (t := .boolean) Bd.returns (by simp) (hb hby d2_74) (by decide) (by decide) ⟨congrArg (fun z => some (Value.int z)) ((by decide : nar .boolean (1 : Int32) = (1 : Int32)).trans (by exact ((((((((if_neg hc1).trans (if_neg hc2)).trans (if_neg hc3)).trans (if_pos hc18)).trans (if_neg hc19)).trans (if_pos hc26)).trans (if_pos hc27))).symm)), N0, e0⟩
              · refine own_go (fun _ k => XS.icmpNo X0.here hx rfl (hb hby d2_54) rfl (flt hc27).1 k) ?_
                show own_Ends _ _ _ _ _ _ _ (s₁.setTop (mkF m 57 #[.val (.ref a0), .val (.int p1), .val (.int p2), .val (.int p3), .val (.ref a4), .val (.int p5)] []))
                refine own_go (fun _ k => XS.aloadN X0.here hx rfl (hb hby d2_57) rfl rfl k) ?_
                show own_Ends _ _ _ _ _ _ _ (s₁.setTop (mkF m 58 #[.val (.ref a0), .val (.int p1), .val (.int p2), .val (.int p3), .val (.ref a4), .val (.int p5)] [(.ref a0)]))
                refine own_go (fun _ k => XS.iloadN X0.here hx rfl (hb hby d2_58) rfl k) ?_
                show own_Ends _ _ _ _ _ _ _ (s₁.setTop (mkF m 59 #[.val (.ref a0), .val (.int p1), .val (.int p2), .val (.int p3), .val (.ref a4), .val (.int p5)] [(.int p1), (.ref a0)]))
                refine own_go (fun _ k => XS.iconst X0.here hx rfl (hb hby d2_59) k) ?_
                show own_Ends _ _ _ _ _ _ _ (s₁.setTop (mkF m 60 #[.val (.ref a0), .val (.int p1), .val (.int p2), .val (.int p3), .val (.ref a4), .val (.int p5)] [(.int (2 : Int32)), (.int p1), (.ref a0)]))
                refine own_go (fun _ k => XS.iadd X0.here hx rfl (hb hby d2_60) rfl k) ?_
                show own_Ends _ _ _ _ _ _ _ (s₁.setTop (mkF m 61 #[.val (.ref a0), .val (.int p1), .val (.int p2), .val (.int p3), .val (.ref a4), .val (.int p5)] [(.int (p1 + (2 : Int32))), (.ref a0)]))
                obtain ⟨c28, A28, i28, v28⟩ := own_Ar.at A_a0 (p1 + (2 : Int32)) (own_ix2 k1 k3 k5 hc2 hc27).1 (own_ix2 k1 k3 k5 hc2 hc27).2
                refine own_go (fun _ k => X0.baloadBytes hx (by rw [e0]; exact A28.1) (State.isArrayOf_alike hZ.alike A28.2.1) A28.2.2 i28 v28 (g := (mkF m 61 #[.val (.ref a0), .val (.int p1), .val (.int p2), .val (.int p3), .val (.ref a4), .val (.int p5)] [(.int (p1 + (2 : Int32))), (.ref a0)])) rfl rfl (hb hby d2_61) _ k) ?_
                show own_Ends _ _ _ _ _ _ _ (s₁.setTop (mkF m 62 #[.val (.ref a0), .val (.int p1), .val (.int p2), .val (.int p3), .val (.ref a4), .val (.int p5)] [(.int (G_a0 ((p1 + (2 : Int32))).toNatClampNeg))]))
                refine own_go (fun _ k => XS.aload X0.here hx rfl (hb hby d2_62) rfl rfl k) ?_
                show own_Ends _ _ _ _ _ _ _ (s₁.setTop (mkF m 64 #[.val (.ref a0), .val (.int p1), .val (.int p2), .val (.int p3), .val (.ref a4), .val (.int p5)] [(.ref a4), (.int (G_a0 ((p1 + (2 : Int32))).toNatClampNeg))]))
                refine own_go (fun _ k => XS.iconst X0.here hx rfl (hb hby d2_64) k) ?_
                show own_Ends _ _ _ _ _ _ _ (s₁.setTop (mkF m 65 #[.val (.ref a0), .val (.int p1), .val (.int p2), .val (.int p3), .val (.ref a4), .val (.int p5)] [(.int (2 : Int32)), (.ref a4), (.int (G_a0 ((p1 + (2 : Int32))).toNatClampNeg))]))
                obtain ⟨c29, A29, i29, v29⟩ := own_Ar.at A_a4 (2 : Int32) (by decide) (by decide)
                refine own_go (fun _ k => X0.baloadBytes hx (by rw [e0]; exact A29.1) (State.isArrayOf_alike hZ.alike A29.2.1) A29.2.2 i29 v29 (g := (mkF m 65 #[.val (.ref a0), .val (.int p1), .val (.int p2), .val (.int p3), .val (.ref a4), .val (.int p5)] [(.int (2 : Int32)), (.ref a4), (.int (G_a0 ((p1 + (2 : Int32))).toNatClampNeg))])) rfl rfl (hb hby d2_65) _ k) ?_
                show own_Ends _ _ _ _ _ _ _ (s₁.setTop (mkF m 66 #[.val (.ref a0), .val (.int p1), .val (.int p2), .val (.int p3), .val (.ref a4), .val (.int p5)] [(.int (G_a4 ((2 : Int32)).toNatClampNeg)), (.int (G_a0 ((p1 + (2 : Int32))).toNatClampNeg))]))
                by_cases hc30 : (G_a0 ((p1 + (2 : Int32))).toNatClampNeg) = (G_a4 ((2 : Int32)).toNatClampNeg)
                · refine own_go (fun _ k => XS.icmpNo X0.here hx rfl (hb hby d2_66) rfl (teq hc30).2 k) ?_
                  show own_Ends _ _ _ _ _ _ _ (s₁.setTop (mkF m 69 #[.val (.ref a0), .val (.int p1), .val (.int p2), .val (.int p3), .val (.ref a4), .val (.int p5)] []))
                  refine own_go (fun _ k => XS.iconst X0.here hx rfl (hb hby d2_69) k) ?_
                  show own_Ends _ _ _ _ _ _ _ (s₁.setTop (mkF m 70 #[.val (.ref a0), .val (.int p1), .val (.int p2), .val (.int p3), .val (.ref a4), .val (.int p5)] [(.int (1 : Int32))]))
                  refine own_go (fun _ k => XS.goto X0.here hx rfl (pc0 := 70) (pc' := 74) rfl (hb hby d2_70) (by decide) (by decide) k) ?_
                  show own_Ends _ _ _ _ _ _ _ (s₁.setTop (mkF m 74 #[.val (.ref a0), .val (.int p1), .val (.int p2), .val (.int p3), .val (.ref a4), .val (.int p5)] [(.int (1 : Int32))]))
                  exact own_retN X0 hx hlk (t := .boolean) Bd.returns (by simp) (hb hby d2_74) (by decide) (by decide) ⟨congrArg (fun z => some (Value.int z)) ((by decide : nar .boolean (1 : Int32) = (1 : Int32)).trans (by exact (((((((((if_neg hc1).trans (if_neg hc2)).trans (if_neg hc3)).trans (if_pos hc18)).trans (if_neg hc19)).trans (if_pos hc26)).trans (if_neg hc27)).trans (if_pos hc30))).symm)), N0, e0⟩
                · refine own_go (fun _ k => XS.icmpYes X0.here hx rfl (pc0 := 66) (pc' := 73) rfl (hb hby d2_66) rfl (feq hc30).2 (by decide) (by decide) k) ?_
                  show own_Ends _ _ _ _ _ _ _ (s₁.setTop (mkF m 73 #[.val (.ref a0), .val (.int p1), .val (.int p2), .val (.int p3), .val (.ref a4), .val (.int p5)] []))
                  refine own_go (fun _ k => XS.iconst X0.here hx rfl (hb hby d2_73) k) ?_
                  show own_Ends _ _ _ _ _ _ _ (s₁.setTop (mkF m 74 #[.val (.ref a0), .val (.int p1), .val (.int p2), .val (.int p3), .val (.ref a4), .val (.int p5)] [(.int (0 : Int32))]))
                  exact own_retN X0 hx hlk (t := .boolean) Bd.returns (by simp) (hb hby d2_74) (by decide) (by decide) ⟨congrArg (fun z => some (Value.int z)) ((by decide : nar .boolean (0 : Int32) = (0 : Int32)).trans (by exact (((((((((if_neg hc1).trans (if_neg hc2)).trans (if_neg hc3)).trans (if_pos hc18)).trans (if_neg hc19)).trans (if_pos hc26)).trans (if_neg hc27)).trans (if_neg hc30))).symm)), N0, e0⟩
            · refine own_go (fun _ k => XS.icmpYes X0.here hx rfl (pc0 := 48) (pc' := 73) rfl (hb hby d2_48) rfl (feq hc26).2 (by decide) (by decide) k) ?_
              show own_Ends _ _ _ _ _ _ _ (s₁.setTop (mkF m 73 #[.val (.ref a0), .val (.int p1), .val (.int p2), .val (.int p3), .val (.ref a4), .val (.int p5)] []))
              refine own_go (fun _ k => XS.iconst X0.here hx rfl (hb hby d2_73) k) ?_
              show own_Ends _ _ _ _ _ _ _ (s₁.setTop (mkF m 74 #[.val (.ref a0), .val (.int p1), .val (.int p2), .val (.int p3), .val (.ref a4), .val (.int p5)] [(.int (0 : Int32))]))
              exact own_retN X0 hx hlk (t := .boolean) Bd.returns (by simp) (hb hby d2_74) (by decide) (by decide) ⟨congrArg (fun z => some (Value.int z)) ((by decide : nar .boolean (0 : Int32) = (0 : Int32)).trans (by exact (((((((if_neg hc1).trans (if_neg hc2)).trans (if_neg hc3)).trans (if_pos hc18)).trans (if_neg hc19)).trans (if_neg hc26))).symm)), N0, e0⟩
        · refine own_go (fun _ k => XS.icmpYes X0.here hx rfl (pc0 := 30) (pc' := 73) rfl (hb hby d2_30) rfl (feq hc18).2 (by decide) (by decide) k) ?_
          show own_Ends _ _ _ _ _ _ _ (s₁.setTop (mkF m 73 #[.val (.ref a0), .val (.int p1), .val (.int p2), .val (.int p3), .val (.ref a4), .val (.int p5)] []))
          refine own_go (fun _ k => XS.iconst X0.here hx rfl (hb hby d2_73) k) ?_
          show own_Ends _ _ _ _ _ _ _ (s₁.setTop (mkF m 74 #[.val (.ref a0), .val (.int p1), .val (.int p2), .val (.int p3), .val (.ref a4), .val (.int p5)] [(.int (0 : Int32))]))
          exact own_retN X0 hx hlk (t := .boolean) Bd.returns (by simp) (hb hby d2_74) (by decide) (by decide) ⟨congrArg (fun z => some (Value.int z)) ((by decide : nar .boolean (0 : Int32) = (0 : Int32)).trans (by exact (((((if_neg hc1).trans (if_neg hc2)).trans (if_neg hc3)).trans (if_neg hc18))).symm)), N0, e0⟩
theorem d3_0 : decode prog_13_method_13_code 0 = .ok (.iload_n 1, 1) := by decide +kernel
theorem d3_1 : decode prog_13_method_13_code 1 = .ok (.istore 5, 2) := by decide +kernel
theorem d3_3 : decode prog_13_method_13_code 3 = .ok (.iload 5, 2) := by decide +kernel
theorem d3_5 : decode prog_13_method_13_code 5 = .ok (.iload_n 2, 1) := by decide +kernel
theorem d3_6 : decode prog_13_method_13_code 6 = .ok (.iload 4, 2) := by decide +kernel
theorem d3_8 : decode prog_13_method_13_code 8 = .ok (.isub, 1) := by decide +kernel
theorem d3_9 : decode prog_13_method_13_code 9 = .ok (.if_icmp .gt 49, 3) := by decide +kernel
theorem d3_12 : decode prog_13_method_13_code 12 = .ok (.iconst 0, 1) := by decide +kernel
theorem d3_13 : decode prog_13_method_13_code 13 = .ok (.istore 6, 2) := by decide +kernel
theorem d3_15 : decode prog_13_method_13_code 15 = .ok (.iload 6, 2) := by decide +kernel
theorem d3_17 : decode prog_13_method_13_code 17 = .ok (.iload 4, 2) := by decide +kernel
theorem d3_19 : decode prog_13_method_13_code 19 = .ok (.if_icmp .ge 23, 3) := by decide +kernel
theorem d3_22 : decode prog_13_method_13_code 22 = .ok (.aload_n 0, 1) := by decide +kernel
theorem d3_23 : decode prog_13_method_13_code 23 = .ok (.iload 5, 2) := by decide +kernel
theorem d3_25 : decode prog_13_method_13_code 25 = .ok (.iload 6, 2) := by decide +kernel
theorem d3_27 : decode prog_13_method_13_code 27 = .ok (.iadd, 1) := by decide +kernel
theorem d3_28 : decode prog_13_method_13_code 28 = .ok (.baload, 1) := by decide +kernel
theorem d3_29 : decode prog_13_method_13_code 29 = .ok (.aload_n 3, 1) := by decide +kernel
theorem d3_30 : decode prog_13_method_13_code 30 = .ok (.iload 6, 2) := by decide +kernel
theorem d3_32 : decode prog_13_method_13_code 32 = .ok (.baload, 1) := by decide +kernel
theorem d3_33 : decode prog_13_method_13_code 33 = .ok (.if_icmp .ne 9, 3) := by decide +kernel
theorem d3_36 : decode prog_13_method_13_code 36 = .ok (.iinc 6 1, 3) := by decide +kernel
theorem d3_39 : decode prog_13_method_13_code 39 = .ok (.goto (-24), 3) := by decide +kernel
theorem d3_42 : decode prog_13_method_13_code 42 = .ok (.iload 6, 2) := by decide +kernel
theorem d3_44 : decode prog_13_method_13_code 44 = .ok (.iload 4, 2) := by decide +kernel
theorem d3_46 : decode prog_13_method_13_code 46 = .ok (.if_icmp .ne 6, 3) := by decide +kernel
theorem d3_49 : decode prog_13_method_13_code 49 = .ok (.iload 5, 2) := by decide +kernel
theorem d3_51 : decode prog_13_method_13_code 51 = .ok (.ireturn, 1) := by decide +kernel
theorem d3_52 : decode prog_13_method_13_code 52 = .ok (.iinc 5 1, 3) := by decide +kernel
theorem d3_55 : decode prog_13_method_13_code 55 = .ok (.goto (-52), 3) := by decide +kernel
theorem d3_58 : decode prog_13_method_13_code 58 = .ok (.iconst (-1), 1) := by decide +kernel
theorem d3_59 : decode prog_13_method_13_code 59 = .ok (.ireturn, 1) := by decide +kernel
theorem pn3 : plainName "com/example/octroi/octroi/bench/Connection" = true := by first | (simp [plainName, overriddenIn]; done) | decide +kernel
theorem ef3 (m : MethodId) (a0 : Addr) (p1 : Int32) (p2 : Int32) (a3 : Addr) (p4 : Int32) : entryFrame m #[(.ref a0), (.int p1), (.int p2), (.ref a3), (.int p4)] 7 = mkF m 0 #[.val (.ref a0), .val (.int p1), .val (.int p2), .val (.ref a3), .val (.int p4), .unset, .unset] [] := by first | (simp [entryFrame, mkF, argsToLocals, Value.category]; done) | rfl
def Q3 (Z : State) (a0 : Addr) (p1 : Int32) (p2 : Int32) (a3 : Addr) (p4 : Int32) (G_a0 : Nat → Int32) (G_a3 : Nat → Int32) (nf : Nat) (nt : Nat) (nl : Nat) (h0 : Heap) (n0 : Nat) (v : Option Value) (h : Heap) (L : List Loc) : Prop := ∃ r : Int32, v = some (.int r) ∧ own_idx G_a0 G_a3 nf nt nl r ∧ Fr n0 L ∧ h = h0
set_option maxRecDepth 65536 in
set_option maxHeartbeats 40000000 in
theorem rm3 (l : Launch) (Z : State) (ar : Array Value) (hw : ∀ d ∈ tables_1, d.before ar Z = true) (ws : List Jvm.Cond) (a0 : Addr) (p1 : Int32) (p2 : Int32) (a3 : Addr) (p4 : Int32) (G_a0 : Nat → Int32) (G_a3 : Nat → Int32) (nf : Nat) (nt : Nat) (nl : Nat) (h0 : Heap) (n0 : Nat) (O0 : Old Z n0 h0) (A_a0 : own_Ar Z h0 a0 .byte 5 (fun i => .int (G_a0 i))) (A_a3 : own_Ar Z h0 a3 .byte 3 (fun i => .int (G_a3 i))) (e1 : p1 = Int32.ofNat nf) (e2 : p2 = Int32.ofNat nt) (e4 : p4 = Int32.ofNat nl) (m1 : nf ≤ 5) (m2 : nt ≤ 5) (m4 : nl ≤ 3) :
    MetFree l (⟨"com/example/octroi/octroi/bench/Connection", "indexOf", "([BII[BI)I"⟩ : MethodName) (head1 (Jvm.Cond.code (⟨"com/example/octroi/octroi/bench/Connection", "indexOf", "([BII[BI)I"⟩ : MethodName) prog_13_method_13_code 7 (some .int) :: ws) ({ frames := 0, cells := 0, slots := 0, locals := 0 } : Room)) (fun a U => a = #[(.ref a0), (.int p1), (.int p2), (.ref a3), (.int p4)] ∧ Z.Warmed39 U.vm ∧ U.heap = h0) (fun _ _ _ _ _ => True) (fun _ U o U' => ∃ v L, o = .returned v ∧ Q3 Z a0 p1 p2 a3 p4 G_a0 G_a3 nf nt nl h0 n0 v U'.heap L ∧ FrameEnd U o U' L ({ frames := 0, cells := 0, slots := 0, locals := 0 } : Room).cells ({ frames := 0, cells := 0, slots := 0, locals := 0 } : Room).slots) := by
  refine MetFree.of_bodySF (plainFor_of_name pn3) hisR ?_
  intro p e s m args below meth c s₁ Bd hml0 hP hK
  obtain ⟨rfl, hZ, hh⟩ := hP
  have hx := Bd.exec
  have hby := Bd.bytes
  have hml : c.maxLocals = 7 := hml0
  have hown : s.vm.findClass "com/example/octroi/octroi/bench/Connection" = some m.cls := findClass_of_methodNamed Bd.named
  have hnm := (name_of_methodNamed Bd.named Bd.method).1
  have hlk : meth.locks = false := BodyLoose.notSynchronized Bd
  have X0 : Stand p l e ({ frames := 0, cells := 0, slots := 0, locals := 0 } : Room) s m #[(.ref a0), (.int p1), (.int p2), (.ref a3), (.int p4)] below meth c s₁ [] 0 0 := Stand.of_body Bd
  have e0 : s₁.heap = h0 := by rw [← hh, Bd.state]; rfl
  have N0 := Fr.nil n0
  suffices hmain : own_Ends p e below s (Q3 Z a0 p1 p2 a3 p4 G_a0 G_a3 nf nt nl h0 n0) 0 0 (s₁.setTop (mkF m 0 #[.val (.ref a0), .val (.int p1), .val (.int p2), .val (.ref a3), .val (.int p4), .unset, .unset] [])) by
    obtain ⟨U, o, h1, r⟩ := hmain
    exact ⟨U, o, castTop (ef3 m a0 p1 p2 a3 p4) h1, r⟩
  show own_Ends _ _ _ _ _ _ _ (s₁.setTop (mkF m 0 #[.val (.ref a0), .val (.int p1), .val (.int p2), .val (.ref a3), .val (.int p4), .unset, .unset] []))
  refine own_go (fun _ k => XS.iloadN X0.here hx rfl (hb hby d3_0) rfl k) ?_
  show own_Ends _ _ _ _ _ _ _ (s₁.setTop (mkF m 1 #[.val (.ref a0), .val (.int p1), .val (.int p2), .val (.ref a3), .val (.int p4), .unset, .unset] [(.int p1)]))
  refine own_go (fun _ k => XS.istore X0.here hx rfl (hb hby d3_1) rfl (l' := #[.val (.ref a0), .val (.int p1), .val (.int p2), .val (.ref a3), .val (.int p4), .val (.int p1), .unset]) rfl k) ?_
  suffices hout : ∀ (k i : Nat) (s6 : Slot), (s6 = .unset ∨ ∃ w, s6 = .val w ∧ w.category = 1) → i + k = 6 → nf ≤ i → (∀ j, nf ≤ j → j < i → ¬ (∀ q, q < nl → G_a0 (j + q) = G_a3 q)) → own_Ends p e below s (Q3 Z a0 p1 p2 a3 p4 G_a0 G_a3 nf nt nl h0 n0) 0 0 (s₁.setTop (mkF m 3 #[.val (.ref a0), .val (.int p1), .val (.int p2), .val (.ref a3), .val (.int p4), .val (.int (Int32.ofNat i)), s6] [])) by
    have := hout (6 - nf) nf .unset (Or.inl rfl) (by omega) (Nat.le_refl _) (fun j h1 h2 => absurd h2 (by omega))
    rw [← e1] at this
    exact this
  intro k
  induction k with
  | zero =>
    intro i s6 hs6 hk hi hno
    show own_Ends _ _ _ _ _ _ _ (s₁.setTop (mkF m 3 #[.val (.ref a0), .val (.int p1), .val (.int p2), .val (.ref a3), .val (.int p4), .val (.int (Int32.ofNat i)), s6] []))
    refine own_go (fun _ k => XS.iload X0.here hx rfl (hb hby d3_3) rfl k) ?_
    show own_Ends _ _ _ _ _ _ _ (s₁.setTop (mkF m 5 #[.val (.ref a0), .val (.int p1), .val (.int p2), .val (.ref a3), .val (.int p4), .val (.int (Int32.ofNat i)), s6] [(.int (Int32.ofNat i))]))
    refine own_go (fun _ k => XS.iloadN X0.here hx rfl (hb hby d3_5) rfl k) ?_
    show own_Ends _ _ _ _ _ _ _ (s₁.setTop (mkF m 6 #[.val (.ref a0), .val (.int p1), .val (.int p2), .val (.ref a3), .val (.int p4), .val (.int (Int32.ofNat i)), s6] [(.int p2), (.int (Int32.ofNat i))]))
    refine own_go (fun _ k => XS.iload X0.here hx rfl (hb hby d3_6) rfl k) ?_
    show own_Ends _ _ _ _ _ _ _ (s₁.setTop (mkF m 8 #[.val (.ref a0), .val (.int p1), .val (.int p2), .val (.ref a3), .val (.int p4), .val (.int (Int32.ofNat i)), s6] [(.int p4), (.int p2), (.int (Int32.ofNat i))]))
    refine own_go (fun _ k => XS.isub X0.here hx rfl (hb hby d3_8) rfl k) ?_
    show own_Ends _ _ _ _ _ _ _ (s₁.setTop (mkF m 9 #[.val (.ref a0), .val (.int p1), .val (.int p2), .val (.ref a3), .val (.int p4), .val (.int (Int32.ofNat i)), s6] [(.int (p2 - p4)), (.int (Int32.ofNat i))]))
    refine own_go (fun _ k => XS.icmpYes X0.here hx rfl (pc0 := 9) (pc' := 58) rfl (hb hby d3_9) rfl (tlt (own_past9 e2 e4 m2 m4 (by omega))).2.2.1 (by decide) (by decide) k) ?_
    show own_Ends _ _ _ _ _ _ _ (s₁.setTop (mkF m 58 #[.val (.ref a0), .val (.int p1), .val (.int p2), .val (.ref a3), .val (.int p4), .val (.int (Int32.ofNat i)), s6] []))
    refine own_go (fun _ k => XS.iconst X0.here hx rfl (hb hby d3_58) k) ?_
    show own_Ends _ _ _ _ _ _ _ (s₁.setTop (mkF m 59 #[.val (.ref a0), .val (.int p1), .val (.int p2), .val (.ref a3), .val (.int p4), .val (.int (Int32.ofNat i)), s6] [(.int (-1 : Int32))]))
    exact own_retI X0 hx hlk Bd.returns (hb hby d3_59) (by decide) (by decide) ⟨_, rfl, Or.inr ⟨rfl, (fun j h1 h2 => hno j h1 (by omega))⟩, N0, e0⟩
  | succ k ih =>
    intro i s6 hs6 hk hi hno
    show own_Ends _ _ _ _ _ _ _ (s₁.setTop (mkF m 3 #[.val (.ref a0), .val (.int p1), .val (.int p2), .val (.ref a3), .val (.int p4), .val (.int (Int32.ofNat i)), s6] []))
    refine own_go (fun _ k => XS.iload X0.here hx rfl (hb hby d3_3) rfl k) ?_
    show own_Ends _ _ _ _ _ _ _ (s₁.setTop (mkF m 5 #[.val (.ref a0), .val (.int p1), .val (.int p2), .val (.ref a3), .val (.int p4), .val (.int (Int32.ofNat i)), s6] [(.int (Int32.ofNat i))]))
    refine own_go (fun _ k => XS.iloadN X0.here hx rfl (hb hby d3_5) rfl k) ?_
    show own_Ends _ _ _ _ _ _ _ (s₁.setTop (mkF m 6 #[.val (.ref a0), .val (.int p1), .val (.int p2), .val (.ref a3), .val (.int p4), .val (.int (Int32.ofNat i)), s6] [(.int p2), (.int (Int32.ofNat i))]))
    refine own_go (fun _ k => XS.iload X0.here hx rfl (hb hby d3_6) rfl k) ?_
    show own_Ends _ _ _ _ _ _ _ (s₁.setTop (mkF m 8 #[.val (.ref a0), .val (.int p1), .val (.int p2), .val (.ref a3), .val (.int p4), .val (.int (Int32.ofNat i)), s6] [(.int p4), (.int p2), (.int (Int32.ofNat i))]))
    refine own_go (fun _ k => XS.isub X0.here hx rfl (hb hby d3_8) rfl k) ?_
    show own_Ends _ _ _ _ _ _ _ (s₁.setTop (mkF m 9 #[.val (.ref a0), .val (.int p1), .val (.int p2), .val (.ref a3), .val (.int p4), .val (.int (Int32.ofNat i)), s6] [(.int (p2 - p4)), (.int (Int32.ofNat i))]))
    by_cases hc1 : (p2 - p4) < (Int32.ofNat i)
    · refine own_go (fun _ k => XS.icmpYes X0.here hx rfl (pc0 := 9) (pc' := 58) rfl (hb hby d3_9) rfl (tlt hc1).2.2.1 (by decide) (by decide) k) ?_
      show own_Ends _ _ _ _ _ _ _ (s₁.setTop (mkF m 58 #[.val (.ref a0), .val (.int p1), .val (.int p2), .val (.ref a3), .val (.int p4), .val (.int (Int32.ofNat i)), s6] []))
      refine own_go (fun _ k => XS.iconst X0.here hx rfl (hb hby d3_58) k) ?_
      show own_Ends _ _ _ _ _ _ _ (s₁.setTop (mkF m 59 #[.val (.ref a0), .val (.int p1), .val (.int p2), .val (.ref a3), .val (.int p4), .val (.int (Int32.ofNat i)), s6] [(.int (-1 : Int32))]))
      exact own_retI X0 hx hlk Bd.returns (hb hby d3_59) (by decide) (by decide) ⟨_, rfl, Or.inr ⟨rfl, (fun j h1 h2 => hno j h1 (own_end9 e2 e4 m2 m4 (by omega) hc1 h2))⟩, N0, e0⟩
    · refine own_go (fun _ k => XS.icmpNo X0.here hx rfl (hb hby d3_9) rfl (flt hc1).2.2.1 k) ?_
      show own_Ends _ _ _ _ _ _ _ (s₁.setTop (mkF m 12 #[.val (.ref a0), .val (.int p1), .val (.int p2), .val (.ref a3), .val (.int p4), .val (.int (Int32.ofNat i)), s6] []))
      refine own_go (fun _ k => XS.iconst X0.here hx rfl (hb hby d3_12) k) ?_
      show own_Ends _ _ _ _ _ _ _ (s₁.setTop (mkF m 13 #[.val (.ref a0), .val (.int p1), .val (.int p2), .val (.ref a3), .val (.int p4), .val (.int (Int32.ofNat i)), s6] [(.int (0 : Int32))]))
      refine own_go (fun _ k => XS.istoreS X0.here hx rfl (hb hby d3_13) rfl rfl hs6 k) ?_
      suffices hin : ∀ (kk mm : Nat), mm + kk = nl → (∀ q, q < mm → G_a0 (i + q) = G_a3 q) → own_Ends p e below s (Q3 Z a0 p1 p2 a3 p4 G_a0 G_a3 nf nt nl h0 n0) 0 0 (s₁.setTop (mkF m 15 #[.val (.ref a0), .val (.int p1), .val (.int p2), .val (.ref a3), .val (.int p4), .val (.int (Int32.ofNat i)), .val (.int (Int32.ofNat mm))] [])) by
        exact hin nl 0 (by omega) (fun q h => absurd h (by omega))
      have hi5 : i + nl ≤ 5 := own_in9 e2 e4 m2 m4 (by omega) hc1
      have hit : i + nl ≤ nt := own_in9' e2 e4 m2 m4 (by omega) hc1
      intro kk
      induction kk with
      | zero =>
        intro mm hmm hall
        show own_Ends _ _ _ _ _ _ _ (s₁.setTop (mkF m 15 #[.val (.ref a0), .val (.int p1), .val (.int p2), .val (.ref a3), .val (.int p4), .val (.int (Int32.ofNat i)), .val (.int (Int32.ofNat mm))] []))
        refine own_go (fun _ k => XS.iload X0.here hx rfl (hb hby d3_15) rfl k) ?_
        show own_Ends _ _ _ _ _ _ _ (s₁.setTop (mkF m 17 #[.val (.ref a0), .val (.int p1), .val (.int p2), .val (.ref a3), .val (.int p4), .val (.int (Int32.ofNat i)), .val (.int (Int32.ofNat mm))] [(.int (Int32.ofNat mm))]))
        refine own_go (fun _ k => XS.iload X0.here hx rfl (hb hby d3_17) rfl k) ?_
        show own_Ends _ _ _ _ _ _ _ (s₁.setTop (mkF m 19 #[.val (.ref a0), .val (.int p1), .val (.int p2), .val (.ref a3), .val (.int p4), .val (.int (Int32.ofNat i)), .val (.int (Int32.ofNat mm))] [(.int p4), (.int (Int32.ofNat mm))]))
        refine own_go (fun _ k => XS.icmpYes X0.here hx rfl (pc0 := 19) (pc' := 42) rfl (hb hby d3_19) rfl (flt (own_19z e4 m4 (by omega))).2.1 (by decide) (by decide) k) ?_
        show own_Ends _ _ _ _ _ _ _ (s₁.setTop (mkF m 42 #[.val (.ref a0), .val (.int p1), .val (.int p2), .val (.ref a3), .val (.int p4), .val (.int (Int32.ofNat i)), .val (.int (Int32.ofNat mm))] []))
        refine own_go (fun _ k => XS.iload X0.here hx rfl (hb hby d3_42) rfl k) ?_
        show own_Ends _ _ _ _ _ _ _ (s₁.setTop (mkF m 44 #[.val (.ref a0), .val (.int p1), .val (.int p2), .val (.ref a3), .val (.int p4), .val (.int (Int32.ofNat i)), .val (.int (Int32.ofNat mm))] [(.int (Int32.ofNat mm))]))
        refine own_go (fun _ k => XS.iload X0.here hx rfl (hb hby d3_44) rfl k) ?_
        show own_Ends _ _ _ _ _ _ _ (s₁.setTop (mkF m 46 #[.val (.ref a0), .val (.int p1), .val (.int p2), .val (.ref a3), .val (.int p4), .val (.int (Int32.ofNat i)), .val (.int (Int32.ofNat mm))] [(.int p4), (.int (Int32.ofNat mm))]))
        refine own_go (fun _ k => XS.icmpNo X0.here hx rfl (hb hby d3_46) rfl (teq (own_46z e4 (by omega))).2 k) ?_
        show own_Ends _ _ _ _ _ _ _ (s₁.setTop (mkF m 49 #[.val (.ref a0), .val (.int p1), .val (.int p2), .val (.ref a3), .val (.int p4), .val (.int (Int32.ofNat i)), .val (.int (Int32.ofNat mm))] []))
        refine own_go (fun _ k => XS.iload X0.here hx rfl (hb hby d3_49) rfl k) ?_
        show own_Ends _ _ _ _ _ _ _ (s₁.setTop (mkF m 51 #[.val (.ref a0), .val (.int p1), .val (.int p2), .val (.ref a3), .val (.int p4), .val (.int (Int32.ofNat i)), .val (.int (Int32.ofNat mm))] [(.int (Int32.ofNat i))]))
        exact own_retI X0 hx hlk Bd.returns (hb hby d3_51) (by decide) (by decide) ⟨_, rfl, Or.inl ⟨i, rfl, hi, hit, own_full hall (by omega), hno⟩, N0, e0⟩
      | succ kk ihk =>
        intro mm hmm hall
        have hmm2 : mm < nl := by omega
        show own_Ends _ _ _ _ _ _ _ (s₁.setTop (mkF m 15 #[.val (.ref a0), .val (.int p1), .val (.int p2), .val (.ref a3), .val (.int p4), .val (.int (Int32.ofNat i)), .val (.int (Int32.ofNat mm))] []))
        refine own_go (fun _ k => XS.iload X0.here hx rfl (hb hby d3_15) rfl k) ?_
        show own_Ends _ _ _ _ _ _ _ (s₁.setTop (mkF m 17 #[.val (.ref a0), .val (.int p1), .val (.int p2), .val (.ref a3), .val (.int p4), .val (.int (Int32.ofNat i)), .val (.int (Int32.ofNat mm))] [(.int (Int32.ofNat mm))]))
        refine own_go (fun _ k => XS.iload X0.here hx rfl (hb hby d3_17) rfl k) ?_
        show own_Ends _ _ _ _ _ _ _ (s₁.setTop (mkF m 19 #[.val (.ref a0), .val (.int p1), .val (.int p2), .val (.ref a3), .val (.int p4), .val (.int (Int32.ofNat i)), .val (.int (Int32.ofNat mm))] [(.int p4), (.int (Int32.ofNat mm))]))
        refine own_go (fun _ k => XS.icmpNo X0.here hx rfl (hb hby d3_19) rfl (tlt (own_19s e4 m4 (by omega))).2.1 k) ?_
        show own_Ends _ _ _ _ _ _ _ (s₁.setTop (mkF m 22 #[.val (.ref a0), .val (.int p1), .val (.int p2), .val (.ref a3), .val (.int p4), .val (.int (Int32.ofNat i)), .val (.int (Int32.ofNat mm))] []))
        refine own_go (fun _ k => XS.aloadN X0.here hx rfl (hb hby d3_22) rfl rfl k) ?_
        show own_Ends _ _ _ _ _ _ _ (s₁.setTop (mkF m 23 #[.val (.ref a0), .val (.int p1), .val (.int p2), .val (.ref a3), .val (.int p4), .val (.int (Int32.ofNat i)), .val (.int (Int32.ofNat mm))] [(.ref a0)]))
        refine own_go (fun _ k => XS.iload X0.here hx rfl (hb hby d3_23) rfl k) ?_
        show own_Ends _ _ _ _ _ _ _ (s₁.setTop (mkF m 25 #[.val (.ref a0), .val (.int p1), .val (.int p2), .val (.ref a3), .val (.int p4), .val (.int (Int32.ofNat i)), .val (.int (Int32.ofNat mm))] [(.int (Int32.ofNat i)), (.ref a0)]))
        refine own_go (fun _ k => XS.iload X0.here hx rfl (hb hby d3_25) rfl k) ?_
        show own_Ends _ _ _ _ _ _ _ (s₁.setTop (mkF m 27 #[.val (.ref a0), .val (.int p1), .val (.int p2), .val (.ref a3), .val (.int p4), .val (.int (Int32.ofNat i)), .val (.int (Int32.ofNat mm))] [(.int (Int32.ofNat mm)), (.int (Int32.ofNat i)), (.ref a0)]))
        refine own_go (fun _ k => XS.iadd X0.here hx rfl (hb hby d3_27) rfl k) ?_
        show own_Ends _ _ _ _ _ _ _ (s₁.setTop (mkF m 28 #[.val (.ref a0), .val (.int p1), .val (.int p2), .val (.ref a3), .val (.int p4), .val (.int (Int32.ofNat i)), .val (.int (Int32.ofNat mm))] [(.int ((Int32.ofNat i) + (Int32.ofNat mm))), (.ref a0)]))
        obtain ⟨c2, A2, i2, v2⟩ := own_Ar.at A_a0 ((Int32.ofNat i) + (Int32.ofNat mm)) (own_nn (by omega)) (own_lt5 (by omega))
        refine own_go (fun _ k => X0.baloadBytes hx (by rw [e0]; exact A2.1) (State.isArrayOf_alike hZ.alike A2.2.1) A2.2.2 i2 v2 (g := (mkF m 28 #[.val (.ref a0), .val (.int p1), .val (.int p2), .val (.ref a3), .val (.int p4), .val (.int (Int32.ofNat i)), .val (.int (Int32.ofNat mm))] [(.int ((Int32.ofNat i) + (Int32.ofNat mm))), (.ref a0)])) rfl rfl (hb hby d3_28) _ k) ?_
        show own_Ends _ _ _ _ _ _ _ (s₁.setTop (mkF m 29 #[.val (.ref a0), .val (.int p1), .val (.int p2), .val (.ref a3), .val (.int p4), .val (.int (Int32.ofNat i)), .val (.int (Int32.ofNat mm))] [(.int (G_a0 (((Int32.ofNat i) + (Int32.ofNat mm))).toNatClampNeg))]))
        refine own_go (fun _ k => XS.aloadN X0.here hx rfl (hb hby d3_29) rfl rfl k) ?_
        show own_Ends _ _ _ _ _ _ _ (s₁.setTop (mkF m 30 #[.val (.ref a0), .val (.int p1), .val (.int p2), .val (.ref a3), .val (.int p4), .val (.int (Int32.ofNat i)), .val (.int (Int32.ofNat mm))] [(.ref a3), (.int (G_a0 (((Int32.ofNat i) + (Int32.ofNat mm))).toNatClampNeg))]))
        refine own_go (fun _ k => XS.iload X0.here hx rfl (hb hby d3_30) rfl k) ?_
        show own_Ends _ _ _ _ _ _ _ (s₁.setTop (mkF m 32 #[.val (.ref a0), .val (.int p1), .val (.int p2), .val (.ref a3), .val (.int p4), .val (.int (Int32.ofNat i)), .val (.int (Int32.ofNat mm))] [(.int (Int32.ofNat mm)), (.ref a3), (.int (G_a0 (((Int32.ofNat i) + (Int32.ofNat mm))).toNatClampNeg))]))
        obtain ⟨c3, A3, i3, v3⟩ := own_Ar.at A_a3 (Int32.ofNat mm) (own_nn1 (by omega)) (own_lt3 (by omega) (by omega))
        refine own_go (fun _ k => X0.baloadBytes hx (by rw [e0]; exact A3.1) (State.isArrayOf_alike hZ.alike A3.2.1) A3.2.2 i3 v3 (g := (mkF m 32 #[.val (.ref a0), .val (.int p1), .val (.int p2), .val (.ref a3), .val (.int p4), .val (.int (Int32.ofNat i)), .val (.int (Int32.ofNat mm))] [(.int (Int32.ofNat mm)), (.ref a3), (.int (G_a0 (((Int32.ofNat i) + (Int32.ofNat mm))).toNatClampNeg))])) rfl rfl (hb hby d3_32) _ k) ?_
        show own_Ends _ _ _ _ _ _ _ (s₁.setTop (mkF m 33 #[.val (.ref a0), .val (.int p1), .val (.int p2), .val (.ref a3), .val (.int p4), .val (.int (Int32.ofNat i)), .val (.int (Int32.ofNat mm))] [(.int (G_a3 ((Int32.ofNat mm)).toNatClampNeg)), (.int (G_a0 (((Int32.ofNat i) + (Int32.ofNat mm))).toNatClampNeg))]))
        by_cases hc4 : (G_a0 (((Int32.ofNat i) + (Int32.ofNat mm))).toNatClampNeg) = (G_a3 ((Int32.ofNat mm)).toNatClampNeg)
        · refine own_go (fun _ k => XS.icmpNo X0.here hx rfl (hb hby d3_33) rfl (teq hc4).2 k) ?_
          show own_Ends _ _ _ _ _ _ _ (s₁.setTop (mkF m 36 #[.val (.ref a0), .val (.int p1), .val (.int p2), .val (.ref a3), .val (.int p4), .val (.int (Int32.ofNat i)), .val (.int (Int32.ofNat mm))] []))
          refine own_go (fun _ k => XS.iinc X0.here hx rfl (hb hby d3_36) rfl (l' := #[.val (.ref a0), .val (.int p1), .val (.int p2), .val (.ref a3), .val (.int p4), .val (.int (Int32.ofNat i)), .val (.int ((Int32.ofNat mm) + (1 : Int32)))]) rfl k) ?_
          show own_Ends _ _ _ _ _ _ _ (s₁.setTop (mkF m 39 #[.val (.ref a0), .val (.int p1), .val (.int p2), .val (.ref a3), .val (.int p4), .val (.int (Int32.ofNat i)), .val (.int ((Int32.ofNat mm) + (1 : Int32)))] []))
          refine own_go (fun _ k => XS.goto X0.here hx rfl (pc0 := 39) (pc' := 15) rfl (hb hby d3_39) (by decide) (by decide) k) ?_
          rw [own_succ]
          exact ihk (mm + 1) (by omega) (own_grow hall (own_eq33 (by omega) (by omega) hc4))
        · refine own_go (fun _ k => XS.icmpYes X0.here hx rfl (pc0 := 33) (pc' := 42) rfl (hb hby d3_33) rfl (feq hc4).2 (by decide) (by decide) k) ?_
          show own_Ends _ _ _ _ _ _ _ (s₁.setTop (mkF m 42 #[.val (.ref a0), .val (.int p1), .val (.int p2), .val (.ref a3), .val (.int p4), .val (.int (Int32.ofNat i)), .val (.int (Int32.ofNat mm))] []))
          refine own_go (fun _ k => XS.iload X0.here hx rfl (hb hby d3_42) rfl k) ?_
          show own_Ends _ _ _ _ _ _ _ (s₁.setTop (mkF m 44 #[.val (.ref a0), .val (.int p1), .val (.int p2), .val (.ref a3), .val (.int p4), .val (.int (Int32.ofNat i)), .val (.int (Int32.ofNat mm))] [(.int (Int32.ofNat mm))]))
          refine own_go (fun _ k => XS.iload X0.here hx rfl (hb hby d3_44) rfl k) ?_
          show own_Ends _ _ _ _ _ _ _ (s₁.setTop (mkF m 46 #[.val (.ref a0), .val (.int p1), .val (.int p2), .val (.ref a3), .val (.int p4), .val (.int (Int32.ofNat i)), .val (.int (Int32.ofNat mm))] [(.int p4), (.int (Int32.ofNat mm))]))
          refine own_go (fun _ k => XS.icmpYes X0.here hx rfl (pc0 := 46) (pc' := 52) rfl (hb hby d3_46) rfl (feq (own_46s e4 m4 (by omega))).2 (by decide) (by decide) k) ?_
          show own_Ends _ _ _ _ _ _ _ (s₁.setTop (mkF m 52 #[.val (.ref a0), .val (.int p1), .val (.int p2), .val (.ref a3), .val (.int p4), .val (.int (Int32.ofNat i)), .val (.int (Int32.ofNat mm))] []))
          refine own_go (fun _ k => XS.iinc X0.here hx rfl (hb hby d3_52) rfl (l' := #[.val (.ref a0), .val (.int p1), .val (.int p2), .val (.ref a3), .val (.int p4), .val (.int ((Int32.ofNat i) + (1 : Int32))), .val (.int (Int32.ofNat mm))]) rfl k) ?_
          show own_Ends _ _ _ _ _ _ _ (s₁.setTop (mkF m 55 #[.val (.ref a0), .val (.int p1), .val (.int p2), .val (.ref a3), .val (.int p4), .val (.int ((Int32.ofNat i) + (1 : Int32))), .val (.int (Int32.ofNat mm))] []))
          refine own_go (fun _ k => XS.goto X0.here hx rfl (pc0 := 55) (pc' := 3) rfl (hb hby d3_55) (by decide) (by decide) k) ?_
          rw [own_succ]
          exact ih (i + 1) _ (Or.inr ⟨_, rfl, rfl⟩) (by omega) (by omega) (own_more hno (own_bad m4 hmm2 hc4))
theorem own_rem {p z k : Int32} {K : Int} (hK : k.toInt = K) (h0 : 0 < K) (h : z = (p &&& 2147483647) % k) : 0 ≤ z.toInt ∧ z.toInt < K := by
  have e : (p &&& 2147483647).toInt = p.toInt % 2 ^ 31 := Jvm.Kit.i32_mask p 2147483647 (k := 31) (by decide) (by decide)
  have e0 : 0 ≤ (p &&& 2147483647).toInt := by rw [e]; exact Int.emod_nonneg _ (by decide)
  rw [h, Jvm.Kit.i32_rem_nonneg e0, hK]
  exact ⟨Int.emod_nonneg _ (by omega), Int.emod_lt_of_pos _ h0⟩
theorem own_rem6 {p z : Int32} (h : z = (p &&& 2147483647) % (6 : Int32)) : 0 ≤ z.toInt ∧ z.toInt ≤ 5 := by
  have := own_rem (K := 6) (by decide) (by decide) h; omega
theorem own_rem4 {p z : Int32} (h : z = (p &&& 2147483647) % (4 : Int32)) : 0 ≤ z.toInt ∧ z.toInt ≤ 3 := by
  have := own_rem (K := 4) (by decide) (by decide) h; omega
theorem own_nat {z : Int32} (h : 0 ≤ z.toInt) : z = Int32.ofNat z.toInt.toNat := by
  have := Int32.toInt_lt z
  apply Int32.toInt_inj.mp; rw [own_c32 (by omega)]; omega
theorem own_le5 {z : Int32} (h : 0 ≤ z.toInt ∧ z.toInt ≤ 5) : z.toInt.toNat ≤ 5 := by omega
theorem own_le3 {z : Int32} (h : 0 ≤ z.toInt ∧ z.toInt ≤ 3) : z.toInt.toNat ≤ 3 := by omega

def own_good (B M : Nat → Int32) (nf nt nl i : Nat) : Prop := nf ≤ i ∧ i + nl ≤ nt ∧ ∀ q, q < nl → B (i + q) = M q
theorem own_all0 {P : Nat → Prop} : (∀ q, q < 0 → P q) ↔ True := ⟨fun _ => trivial, fun _ q h => absurd h (by omega)⟩
theorem own_all1 {P : Nat → Prop} : (∀ q, q < 1 → P q) ↔ P 0 := ⟨fun h => h 0 (by omega), fun h q hq => by
  have hq0 : q = 0 := by omega
  subst hq0
  exact h⟩
theorem own_all2 {P : Nat → Prop} : (∀ q, q < 2 → P q) ↔ P 0 ∧ P 1 := ⟨fun h => ⟨h 0 (by omega), h 1 (by omega)⟩, fun h q hq => by
  rcases (by omega : q = 0 ∨ q = 1) with rfl | rfl
  · exact h.1
  · exact h.2⟩
theorem own_all3 {P : Nat → Prop} : (∀ q, q < 3 → P q) ↔ P 0 ∧ P 1 ∧ P 2 := ⟨fun h => ⟨h 0 (by omega), h 1 (by omega), h 2 (by omega)⟩, fun h q hq => by
  rcases (by omega : q = 0 ∨ q = 1 ∨ q = 2) with rfl | rfl | rfl
  · exact h.1
  · exact h.2.1
  · exact h.2.2⟩
theorem own_at_spec {a0 a4 : Addr} {f t l : Int32} {B M : Nat → Int32} (i : Nat) (hi : i ≤ 5) (pf : 0 ≤ f.toInt ∧ f.toInt ≤ 5) (pt : 0 ≤ t.toInt ∧ t.toInt ≤ 5) (pl : 0 ≤ l.toInt ∧ l.toInt ≤ 3) :
    f2 a0 (Int32.ofNat i) f t a4 l B M = 0 ↔ ¬ own_good B M f.toInt.toNat t.toInt.toNat l.toInt.toNat i := by
  have ei : (Int32.ofNat i).toInt = (i : Int) := own_c32 (by omega)
  have n1 : (Int32.ofNat i).toNatClampNeg = i := by rw [own_tn, ei]; omega
  have n2 : (Int32.ofNat i + (1 : Int32)).toNatClampNeg = i + 1 := by
    rw [own_succ, own_tn, own_c32 (by omega)]; omega
  have n3 : (Int32.ofNat i + (2 : Int32)).toNatClampNeg = i + 2 := by
    rw [own_tn, Jvm.Kit.i32_add (by rw [ei, show (2 : Int32).toInt = 2 by decide]; omega) (by rw [ei, show (2 : Int32).toInt = 2 by decide]; omega), ei, show (2 : Int32).toInt = 2 by decide]; omega
  have m0 : (0 : Int32).toNatClampNeg = 0 := by decide
  have m1 : (1 : Int32).toNatClampNeg = 1 := by decide
  have m2 : (2 : Int32).toNatClampNeg = 2 := by decide
  have c1 : Int32.ofNat i < f ↔ ¬ f.toInt.toNat ≤ i := by rw [Int32.lt_iff_toInt_lt, ei]; omega
  have el : (Int32.ofNat i + l).toInt = i + l.toInt := by rw [Jvm.Kit.i32_add (by rw [ei]; omega) (by rw [ei]; omega), ei]
  have c2 : t < Int32.ofNat i + l ↔ ¬ i + l.toInt.toNat ≤ t.toInt.toNat := by rw [Int32.lt_iff_toInt_lt, el]; omega
  have z1 : (1 : Int32) ≠ 0 := by decide
  unfold f2 own_good
  by_cases h1 : f.toInt.toNat ≤ i
  · rw [if_neg (by rw [c1]; exact fun q => q h1)]
    by_cases h2 : i + l.toInt.toNat ≤ t.toInt.toNat
    · rw [if_neg (by rw [c2]; exact fun q => q h2)]
      simp only [h1, h2, true_and, n1, n2, n3, m0, m1, m2]
      obtain hl | hl | hl | hl : l = 0 ∨ l = 1 ∨ l = 2 ∨ l = 3 := by
        rcases (by omega : l.toInt = 0 ∨ l.toInt = 1 ∨ l.toInt = 2 ∨ l.toInt = 3) with z | z | z | z
        · exact Or.inl (Int32.toInt_inj.mp (by rw [z]; decide))
        · exact Or.inr (Or.inl (Int32.toInt_inj.mp (by rw [z]; decide)))
        · exact Or.inr (Or.inr (Or.inl (Int32.toInt_inj.mp (by rw [z]; decide))))
        · exact Or.inr (Or.inr (Or.inr (Int32.toInt_inj.mp (by rw [z]; decide))))
      · subst hl
        rw [show (0 : Int32).toInt.toNat = 0 by decide, own_all0]
        simp only [if_pos (show (0 : Int32) < (1 : Int32) by decide), if_pos (show (0 : Int32) < (2 : Int32) by decide), if_pos (show (0 : Int32) < (3 : Int32) by decide), Nat.add_zero]
        simp
      · subst hl
        rw [show (1 : Int32).toInt.toNat = 1 by decide, own_all1]
        simp only [if_neg (show ¬ (1 : Int32) < (1 : Int32) by decide), if_pos (show (1 : Int32) < (2 : Int32) by decide), if_pos (show (1 : Int32) < (3 : Int32) by decide), Nat.add_zero]
        by_cases q0 : B i = M 0 <;> simp [q0]
      · subst hl
        rw [show (2 : Int32).toInt.toNat = 2 by decide, own_all2]
        simp only [if_neg (show ¬ (2 : Int32) < (1 : Int32) by decide), if_neg (show ¬ (2 : Int32) < (2 : Int32) by decide), if_pos (show (2 : Int32) < (3 : Int32) by decide), Nat.add_zero]
        by_cases q0 : B i = M 0 <;> by_cases q1 : B (i + 1) = M 1 <;> simp [q0, q1]
      · subst hl
        rw [show (3 : Int32).toInt.toNat = 3 by decide, own_all3]
        simp only [if_neg (show ¬ (3 : Int32) < (1 : Int32) by decide), if_neg (show ¬ (3 : Int32) < (2 : Int32) by decide), if_neg (show ¬ (3 : Int32) < (3 : Int32) by decide), Nat.add_zero]
        by_cases q0 : B i = M 0 <;> by_cases q1 : B (i + 1) = M 1 <;> by_cases q2 : B (i + 2) = M 2 <;> simp [q0, q1, q2]
    · rw [if_pos (by rw [c2]; exact h2)]
      exact ⟨fun _ q => h2 q.2.1, fun _ => rfl⟩
  · rw [if_pos (by rw [c1]; exact h1)]
    exact ⟨fun _ q => h1 q.1, fun _ => rfl⟩
theorem own_final {zf zt zl : Int32} {a5 a6 : Addr} {B M : Nat → Int32} {u5 u4 u3 u2 u1 u0 x5 x4 x3 x2 x1 x0 r : Int32} (Pzf : 0 ≤ zf.toInt ∧ zf.toInt ≤ 5) (Pzt : 0 ≤ zt.toInt ∧ zt.toInt ≤ 5) (Pzl : 0 ≤ zl.toInt ∧ zl.toInt ≤ 3)
    (hu5 : u5 = f2 a5 (5 : Int32) zf zt a6 zl B M) (hu4 : u4 = f2 a5 (4 : Int32) zf zt a6 zl B M) (hu3 : u3 = f2 a5 (3 : Int32) zf zt a6 zl B M) (hu2 : u2 = f2 a5 (2 : Int32) zf zt a6 zl B M) (hu1 : u1 = f2 a5 (1 : Int32) zf zt a6 zl B M) (hu0 : u0 = f2 a5 (0 : Int32) zf zt a6 zl B M)
    (h5 : x5 = (if u5 = (0 : Int32) then (-1 : Int32) else (5 : Int32))) (h4 : x4 = (if u4 = (0 : Int32) then x5 else (4 : Int32))) (h3 : x3 = (if u3 = (0 : Int32) then x4 else (3 : Int32))) (h2 : x2 = (if u2 = (0 : Int32) then x3 else (2 : Int32))) (h1 : x1 = (if u1 = (0 : Int32) then x2 else (1 : Int32))) (h0 : x0 = (if u0 = (0 : Int32) then x1 else (0 : Int32)))
    (hr : own_idx B M zf.toInt.toNat zt.toInt.toNat zl.toInt.toNat r) : r = x0 := by
  have g5 := own_at_spec (a0 := a5) (a4 := a6) (B := B) (M := M) 5 (by omega) Pzf Pzt Pzl
  have g4 := own_at_spec (a0 := a5) (a4 := a6) (B := B) (M := M) 4 (by omega) Pzf Pzt Pzl
  have g3 := own_at_spec (a0 := a5) (a4 := a6) (B := B) (M := M) 3 (by omega) Pzf Pzt Pzl
  have g2 := own_at_spec (a0 := a5) (a4 := a6) (B := B) (M := M) 2 (by omega) Pzf Pzt Pzl
  have g1 := own_at_spec (a0 := a5) (a4 := a6) (B := B) (M := M) 1 (by omega) Pzf Pzt Pzl
  have g0 := own_at_spec (a0 := a5) (a4 := a6) (B := B) (M := M) 0 (by omega) Pzf Pzt Pzl
  rw [show Int32.ofNat 5 = (5 : Int32) from rfl, ← hu5] at g5
  rw [show Int32.ofNat 4 = (4 : Int32) from rfl, ← hu4] at g4
  rw [show Int32.ofNat 3 = (3 : Int32) from rfl, ← hu3] at g3
  rw [show Int32.ofNat 2 = (2 : Int32) from rfl, ← hu2] at g2
  rw [show Int32.ofNat 1 = (1 : Int32) from rfl, ← hu1] at g1
  rw [show Int32.ofNat 0 = (0 : Int32) from rfl, ← hu0] at g0
  generalize zf.toInt.toNat = nf at *
  generalize hnt : zt.toInt.toNat = nt at *
  generalize zl.toInt.toNat = nl at *
  have ht : nt ≤ 5 := by omega
  rcases hr with ⟨i, rfl, a, b, c, d⟩ | ⟨rfl, d⟩
  · have gi : own_good B M nf nt nl i := ⟨a, b, c⟩
    have gj : ∀ j, j < i → ¬ own_good B M nf nt nl j := fun j hj q => d j q.1 hj q.2.2
    have i5 : i ≤ 5 := by omega
    rw [h0, h1, h2, h3, h4, h5]
    rcases (by omega : i = 0 ∨ i = 1 ∨ i = 2 ∨ i = 3 ∨ i = 4 ∨ i = 5) with rfl | rfl | rfl | rfl | rfl | rfl
    · rw [if_neg (fun q => g0.mp q gi)]; rfl
    · rw [if_pos (g0.mpr (gj 0 (by omega))), if_neg (fun q => g1.mp q gi)]; rfl
    · rw [if_pos (g0.mpr (gj 0 (by omega))), if_pos (g1.mpr (gj 1 (by omega))), if_neg (fun q => g2.mp q gi)]; rfl
    · rw [if_pos (g0.mpr (gj 0 (by omega))), if_pos (g1.mpr (gj 1 (by omega))), if_pos (g2.mpr (gj 2 (by omega))), if_neg (fun q => g3.mp q gi)]; rfl
    · rw [if_pos (g0.mpr (gj 0 (by omega))), if_pos (g1.mpr (gj 1 (by omega))), if_pos (g2.mpr (gj 2 (by omega))), if_pos (g3.mpr (gj 3 (by omega))), if_neg (fun q => g4.mp q gi)]; rfl
    · rw [if_pos (g0.mpr (gj 0 (by omega))), if_pos (g1.mpr (gj 1 (by omega))), if_pos (g2.mpr (gj 2 (by omega))), if_pos (g3.mpr (gj 3 (by omega))), if_pos (g4.mpr (gj 4 (by omega))), if_neg (fun q => g5.mp q gi)]; rfl
  · have gj : ∀ j, ¬ own_good B M nf nt nl j := fun j q => d j q.1 q.2.1 q.2.2
    rw [h0, h1, h2, h3, h4, h5, if_pos (g0.mpr (gj 0)), if_pos (g1.mpr (gj 1)), if_pos (g2.mpr (gj 2)), if_pos (g3.mpr (gj 3)), if_pos (g4.mpr (gj 4)), if_pos (g5.mpr (gj 5))]
theorem pn0 : plainName "com/example/octroi/octroi/bench/ConnectionIndexOfPinLaw" = true := by first | (simp [plainName, overriddenIn]; done) | decide +kernel
theorem pd0_0 : parseMethodDescriptor "(I)B" = some ⟨[.int], some .byte⟩ := by decide +kernel
theorem pd0_1 : parseMethodDescriptor "([BIII[BI)Z" = some ⟨[(.array .byte), .int, .int, .int, (.array .byte), .int], some .boolean⟩ := by decide +kernel
theorem pd0_2 : parseMethodDescriptor "([BII[BI)I" = some ⟨[(.array .byte), .int, .int, (.array .byte), .int], some .int⟩ := by decide +kernel
theorem ef0 (m : MethodId) (p0 : Int32) (p1 : Int32) (p2 : Int32) (p3 : Int32) (p4 : Int32) : entryFrame m #[(.int p0), (.int p1), (.int p2), (.int p3), (.int p4)] maxLocals = mkF m 0 #[.val (.int p0), .val (.int p1), .val (.int p2), .val (.int p3), .val (.int p4), .unset, .unset, .unset, .unset, .unset, .unset] [] := by first | (simp [entryFrame, mkF, argsToLocals, Value.category, maxLocals]; done) | rfl
def Q0 (Z : State) (p0 : Int32) (p1 : Int32) (p2 : Int32) (p3 : Int32) (p4 : Int32) (h0 : Heap) (n0 : Nat) (v : Option Value) (h : Heap) (L : List Loc) : Prop := v = some (.int 1) ∧ Fr n0 L
set_option maxRecDepth 65536 in
set_option maxHeartbeats 40000000 in
theorem rm0 (l : Launch) (Z : State) (ar : Array Value) (hw : ∀ d ∈ tables_1, d.before ar Z = true) (ws : List Jvm.Cond) (p0 : Int32) (p1 : Int32) (p2 : Int32) (p3 : Int32) (p4 : Int32) (h0 : Heap) (n0 : Nat) (O0 : Old Z n0 h0) :
    MetFree l x (head1 (Jvm.Cond.code x code maxLocals ret :: ws) room_1) (fun a U => a = #[(.int p0), (.int p1), (.int p2), (.int p3), (.int p4)] ∧ Z.Warmed39 U.vm ∧ U.heap = h0) (fun _ _ _ _ _ => True) (fun _ U o U' => ∃ v L, o = .returned v ∧ Q0 Z p0 p1 p2 p3 p4 h0 n0 v U'.heap L ∧ FrameEnd U o U' L room_1.cells room_1.slots) := by
  refine MetFree.of_bodySF (plainFor_of_name pn0) hisR ?_
  intro p e s m args below meth c s₁ Bd hml0 hP hK
  obtain ⟨rfl, hZ, hh⟩ := hP
  have hx := Bd.exec
  have hby := Bd.bytes
  have hml : c.maxLocals = 11 := hml0
  have hown : s.vm.findClass "com/example/octroi/octroi/bench/ConnectionIndexOfPinLaw" = some m.cls := findClass_of_methodNamed Bd.named
  have hnm := (name_of_methodNamed Bd.named Bd.method).1
  have hlk : meth.locks = false := BodyLoose.notSynchronized Bd
  have X0 : Stand p l e room_1 s m #[(.int p0), (.int p1), (.int p2), (.int p3), (.int p4)] below meth c s₁ [] 0 0 := Stand.of_body Bd
  have e0 : s₁.heap = h0 := by rw [← hh, Bd.state]; rfl
  have N0 := Fr.nil n0
  suffices hmain : own_Ends p e below s (Q0 Z p0 p1 p2 p3 p4 h0 n0) 16 128 (s₁.setTop (mkF m 0 #[.val (.int p0), .val (.int p1), .val (.int p2), .val (.int p3), .val (.int p4), .unset, .unset, .unset, .unset, .unset, .unset] [])) by
    obtain ⟨U, o, h1, r⟩ := hmain
    exact ⟨U, o, castTop (ef0 m p0 p1 p2 p3 p4) h1, r⟩
  show own_Ends _ _ _ _ _ _ _ (s₁.setTop (mkF m 0 #[.val (.int p0), .val (.int p1), .val (.int p2), .val (.int p3), .val (.int p4), .unset, .unset, .unset, .unset, .unset, .unset] []))
  refine own_go (fun _ k => XS.iconst X0.here hx rfl (hb hby at_0) k) ?_
  show own_Ends _ _ _ _ _ _ _ (s₁.setTop (mkF m 1 #[.val (.int p0), .val (.int p1), .val (.int p2), .val (.int p3), .val (.int p4), .unset, .unset, .unset, .unset, .unset, .unset] [(.int (5 : Int32))]))
  obtain ⟨T1, h1, k1, X1, e1, E1, A1, st1⟩ := newP X0 hx hZ (hw _ (List.mem_of_getElem? (i := 0) rfl)) e0 (g := (mkF m 1 #[.val (.int p0), .val (.int p1), .val (.int p2), .val (.int p3), .val (.int p4), .unset, .unset, .unset, .unset, .unset, .unset] [(.int (5 : Int32))])) rfl (hb hby at_1) rfl (by decide) (cap := 5) (by decide) (by decide) (by decide) (by decide)
  obtain ⟨b1, q_b1⟩ : ∃ z, z = h0.size := ⟨_, rfl⟩
  rw [← q_b1] at A1 st1
  have g_b1 : n0 ≤ b1 := Nat.le_trans (own_sz O0) (Nat.le_of_eq q_b1.symm)
  refine own_go (fun _ k => st1 _ k) ?_
  have F2 : Old Z n0 h1 := (O0.ext E1)
  have F3 : own_Ar Z h1 b1 .byte 5 (fun i => .int ((fun _ => (0 : Int32)) i)) := own_Ar.newI A1 (by decide) rfl
  show own_Ends _ _ _ _ _ _ _ (T1.setTop (mkF m 3 #[.val (.int p0), .val (.int p1), .val (.int p2), .val (.int p3), .val (.int p4), .unset, .unset, .unset, .unset, .unset, .unset] [(.ref b1)]))
  refine own_go (fun _ k => XS.astore X1.here hx rfl (hb hby at_3) rfl rfl (l' := #[.val (.int p0), .val (.int p1), .val (.int p2), .val (.int p3), .val (.int p4), .val (.ref b1), .unset, .unset, .unset, .unset, .unset]) rfl k) ?_
  show own_Ends _ _ _ _ _ _ _ (T1.setTop (mkF m 5 #[.val (.int p0), .val (.int p1), .val (.int p2), .val (.int p3), .val (.int p4), .val (.ref b1), .unset, .unset, .unset, .unset, .unset] []))
  refine own_go (fun _ k => XS.aload X1.here hx rfl (hb hby at_5) rfl rfl k) ?_
  show own_Ends _ _ _ _ _ _ _ (T1.setTop (mkF m 7 #[.val (.int p0), .val (.int p1), .val (.int p2), .val (.int p3), .val (.int p4), .val (.ref b1), .unset, .unset, .unset, .unset, .unset] [(.ref b1)]))
  refine own_go (fun _ k => XS.iconst X1.here hx rfl (hb hby at_7) k) ?_
  show own_Ends _ _ _ _ _ _ _ (T1.setTop (mkF m 8 #[.val (.int p0), .val (.int p1), .val (.int p2), .val (.int p3), .val (.int p4), .val (.ref b1), .unset, .unset, .unset, .unset, .unset] [(.int (0 : Int32)), (.ref b1)]))
  refine own_go (fun _ k => XS.iloadN X1.here hx rfl (hb hby at_8) rfl k) ?_
  show own_Ends _ _ _ _ _ _ _ (T1.setTop (mkF m 9 #[.val (.int p0), .val (.int p1), .val (.int p2), .val (.int p3), .val (.int p4), .val (.ref b1), .unset, .unset, .unset, .unset, .unset] [(.int p0), (.int (0 : Int32)), (.ref b1)]))
  obtain ⟨_, _, ⟨T4, L4, k4, n4⟩, -, X4, ⟨Lc4, hQ4, l4, y4, z4⟩, st4⟩ := Jvm.LawKit.callS X1 hx (y := (⟨"com/example/octroi/octroi/bench/ConnectionIndexOfPinLaw", "sym", "(I)B"⟩ : MethodName)) hown (mvT hZ (hw _ (List.mem_of_getElem? (i := 1) rfl))) (mvT hZ (hw _ (List.mem_of_getElem? (i := 2) rfl))) (mvT hZ (hw _ (List.mem_of_getElem? (i := 3) rfl))) (mvT hZ (hw _ (List.mem_of_getElem? (i := 4) rfl))) (by decide) (backOf (W := 2) (rm1 l Z ar hw [] p0 h1 n0 F2) hZ (hw _ (List.mem_of_getElem? (i := 4) rfl)) (hw _ (List.mem_of_getElem? (i := 3) rfl)) (by decide) (by decide)) (g := (mkF m 9 #[.val (.int p0), .val (.int p1), .val (.int p2), .val (.int p3), .val (.int p4), .val (.ref b1), .unset, .unset, .unset, .unset, .unset] [(.int p0), (.int (0 : Int32)), (.ref b1)])) rfl (by rw [hml]; rfl) (argsL := [(.int p0)]) (rest := [(.int (0 : Int32)), (.ref b1)]) (lenOf pd0_0 rfl) rfl (by show 2 * 0 + _ ≤ _; exact Nat.le_of_eq rfl) (hb hby at_9) (fun _ _ => ⟨rfl, e1, (by decide : 1 + 0 ≤ _), (by decide : 5 + 0 ≤ _)⟩)
  dsimp only [Pt.U, Pt.locs, Pt.cells, Pt.slots] at X4 l4 y4 z4 st4 hQ4
  subst l4 y4 z4
  obtain ⟨rfl, N4q, eq4⟩ := hQ4
  have e4 : T4.heap = h1 := eq4
  have N4 := Fr.app N0 N4q
  refine own_go (fun _ k => st4 _ k) ?_
  show own_Ends _ _ _ _ _ _ _ (T4.setTop (mkF m 12 #[.val (.int p0), .val (.int p1), .val (.int p2), .val (.int p3), .val (.int p4), .val (.ref b1), .unset, .unset, .unset, .unset, .unset] [(.int (f1 p0)), (.int (0 : Int32)), (.ref b1)]))
  obtain ⟨c5, A5, i5, -⟩ := own_Ar.at F3 (0 : Int32) (by decide) (by decide)
  obtain ⟨T5, h5, X5, e5, W5, st5⟩ := stB X4 hx hZ e4 A5 (j := (0 : Int32)) i5 (g := (mkF m 12 #[.val (.int p0), .val (.int p1), .val (.int p2), .val (.int p3), .val (.int p4), .val (.ref b1), .unset, .unset, .unset, .unset, .unset] [(.int (f1 p0)), (.int (0 : Int32)), (.ref b1)])) rfl rfl (hb hby at_12)
  refine own_go (fun _ k => st5 _ k) ?_
  have N5 := Fr.snoc X5 N4 g_b1
  have F6 : Old Z n0 h5 := (F2.wr W5 g_b1)
  have F7 : own_Ar Z h5 b1 .byte 5 (fun i => .int ((fun i => if i = ((0 : Int32)).toNatClampNeg then (nar .byte (f1 p0)) else (fun _ => (0 : Int32)) i) i)) := own_Ar.setI F3 W5
  show own_Ends _ _ _ _ _ _ _ (T5.setTop (mkF m 13 #[.val (.int p0), .val (.int p1), .val (.int p2), .val (.int p3), .val (.int p4), .val (.ref b1), .unset, .unset, .unset, .unset, .unset] []))
  refine own_go (fun _ k => XS.aload X5.here hx rfl (hb hby at_13) rfl rfl k) ?_
  show own_Ends _ _ _ _ _ _ _ (T5.setTop (mkF m 15 #[.val (.int p0), .val (.int p1), .val (.int p2), .val (.int p3), .val (.int p4), .val (.ref b1), .unset, .unset, .unset, .unset, .unset] [(.ref b1)]))
  refine own_go (fun _ k => XS.iconst X5.here hx rfl (hb hby at_15) k) ?_
  show own_Ends _ _ _ _ _ _ _ (T5.setTop (mkF m 16 #[.val (.int p0), .val (.int p1), .val (.int p2), .val (.int p3), .val (.int p4), .val (.ref b1), .unset, .unset, .unset, .unset, .unset] [(.int (1 : Int32)), (.ref b1)]))
  refine own_go (fun _ k => XS.iloadN X5.here hx rfl (hb hby at_16) rfl k) ?_
  show own_Ends _ _ _ _ _ _ _ (T5.setTop (mkF m 17 #[.val (.int p0), .val (.int p1), .val (.int p2), .val (.int p3), .val (.int p4), .val (.ref b1), .unset, .unset, .unset, .unset, .unset] [(.int p0), (.int (1 : Int32)), (.ref b1)]))
  refine own_go (fun _ k => XS.iconst X5.here hx rfl (hb hby at_17) k) ?_
  show own_Ends _ _ _ _ _ _ _ (T5.setTop (mkF m 18 #[.val (.int p0), .val (.int p1), .val (.int p2), .val (.int p3), .val (.int p4), .val (.ref b1), .unset, .unset, .unset, .unset, .unset] [(.int (2 : Int32)), (.int p0), (.int (1 : Int32)), (.ref b1)]))
  refine own_go (fun _ k => XS.iushr X5.here hx rfl (hb hby at_18) rfl k) ?_
  show own_Ends _ _ _ _ _ _ _ (T5.setTop (mkF m 19 #[.val (.int p0), .val (.int p1), .val (.int p2), .val (.int p3), .val (.int p4), .val (.ref b1), .unset, .unset, .unset, .unset, .unset] [(.int ((p0.toUInt32 >>> ((2 : Int32) &&& 31).toUInt32).toInt32)), (.int (1 : Int32)), (.ref b1)]))
  obtain ⟨_, _, ⟨T8, L8, k8, n8⟩, -, X8, ⟨Lc8, hQ8, l8, y8, z8⟩, st8⟩ := Jvm.LawKit.callS X5 hx (y := (⟨"com/example/octroi/octroi/bench/ConnectionIndexOfPinLaw", "sym", "(I)B"⟩ : MethodName)) hown (mvT hZ (hw _ (List.mem_of_getElem? (i := 1) rfl))) (mvT hZ (hw _ (List.mem_of_getElem? (i := 2) rfl))) (mvT hZ (hw _ (List.mem_of_getElem? (i := 3) rfl))) (mvT hZ (hw _ (List.mem_of_getElem? (i := 4) rfl))) (by decide) (backOf (W := 2) (rm1 l Z ar hw [] ((p0.toUInt32 >>> ((2 : Int32) &&& 31).toUInt32).toInt32) h5 n0 F6) hZ (hw _ (List.mem_of_getElem? (i := 4) rfl)) (hw _ (List.mem_of_getElem? (i := 3) rfl)) (by decide) (by decide)) (g := (mkF m 19 #[.val (.int p0), .val (.int p1), .val (.int p2), .val (.int p3), .val (.int p4), .val (.ref b1), .unset, .unset, .unset, .unset, .unset] [(.int ((p0.toUInt32 >>> ((2 : Int32) &&& 31).toUInt32).toInt32)), (.int (1 : Int32)), (.ref b1)])) rfl (by rw [hml]; rfl) (argsL := [(.int ((p0.toUInt32 >>> ((2 : Int32) &&& 31).toUInt32).toInt32))]) (rest := [(.int (1 : Int32)), (.ref b1)]) (lenOf pd0_0 rfl) rfl (by show 2 * 0 + _ ≤ _; exact Nat.le_of_eq rfl) (hb hby at_19) (fun _ _ => ⟨rfl, e5, (by decide : 1 + 0 ≤ _), (by decide : 5 + 0 ≤ _)⟩)
  dsimp only [Pt.U, Pt.locs, Pt.cells, Pt.slots] at X8 l8 y8 z8 st8 hQ8
  subst l8 y8 z8
  obtain ⟨rfl, N8q, eq8⟩ := hQ8
  have e8 : T8.heap = h5 := eq8
  have N8 := Fr.app N5 N8q
  refine own_go (fun _ k => st8 _ k) ?_
  show own_Ends _ _ _ _ _ _ _ (T8.setTop (mkF m 22 #[.val (.int p0), .val (.int p1), .val (.int p2), .val (.int p3), .val (.int p4), .val (.ref b1), .unset, .unset, .unset, .unset, .unset] [(.int (f1 ((p0.toUInt32 >>> ((2 : Int32) &&& 31).toUInt32).toInt32))), (.int (1 : Int32)), (.ref b1)]))
  obtain ⟨c9, A9, i9, -⟩ := own_Ar.at F7 (1 : Int32) (by decide) (by decide)
  obtain ⟨T9, h9, X9, e9, W9, st9⟩ := stB X8 hx hZ e8 A9 (j := (1 : Int32)) i9 (g := (mkF m 22 #[.val (.int p0), .val (.int p1), .val (.int p2), .val (.int p3), .val (.int p4), .val (.ref b1), .unset, .unset, .unset, .unset, .unset] [(.int (f1 ((p0.toUInt32 >>> ((2 : Int32) &&& 31).toUInt32).toInt32))), (.int (1 : Int32)), (.ref b1)])) rfl rfl (hb hby at_22)
  refine own_go (fun _ k => st9 _ k) ?_
  have N9 := Fr.snoc X9 N8 g_b1
  have F10 : Old Z n0 h9 := (F6.wr W9 g_b1)
  have F11 : own_Ar Z h9 b1 .byte 5 (fun i => .int ((fun i => if i = ((1 : Int32)).toNatClampNeg then (nar .byte (f1 ((p0.toUInt32 >>> ((2 : Int32) &&& 31).toUInt32).toInt32))) else (fun i => if i = ((0 : Int32)).toNatClampNeg then (nar .byte (f1 p0)) else (fun _ => (0 : Int32)) i) i) i)) := own_Ar.setI F7 W9
  show own_Ends _ _ _ _ _ _ _ (T9.setTop (mkF m 23 #[.val (.int p0), .val (.int p1), .val (.int p2), .val (.int p3), .val (.int p4), .val (.ref b1), .unset, .unset, .unset, .unset, .unset] []))
  refine own_go (fun _ k => XS.aload X9.here hx rfl (hb hby at_23) rfl rfl k) ?_
  show own_Ends _ _ _ _ _ _ _ (T9.setTop (mkF m 25 #[.val (.int p0), .val (.int p1), .val (.int p2), .val (.int p3), .val (.int p4), .val (.ref b1), .unset, .unset, .unset, .unset, .unset] [(.ref b1)]))
  refine own_go (fun _ k => XS.iconst X9.here hx rfl (hb hby at_25) k) ?_
  show own_Ends _ _ _ _ _ _ _ (T9.setTop (mkF m 26 #[.val (.int p0), .val (.int p1), .val (.int p2), .val (.int p3), .val (.int p4), .val (.ref b1), .unset, .unset, .unset, .unset, .unset] [(.int (2 : Int32)), (.ref b1)]))
  refine own_go (fun _ k => XS.iloadN X9.here hx rfl (hb hby at_26) rfl k) ?_
  show own_Ends _ _ _ _ _ _ _ (T9.setTop (mkF m 27 #[.val (.int p0), .val (.int p1), .val (.int p2), .val (.int p3), .val (.int p4), .val (.ref b1), .unset, .unset, .unset, .unset, .unset] [(.int p0), (.int (2 : Int32)), (.ref b1)]))
  refine own_go (fun _ k => XS.iconst X9.here hx rfl (hb hby at_27) k) ?_
  show own_Ends _ _ _ _ _ _ _ (T9.setTop (mkF m 28 #[.val (.int p0), .val (.int p1), .val (.int p2), .val (.int p3), .val (.int p4), .val (.ref b1), .unset, .unset, .unset, .unset, .unset] [(.int (4 : Int32)), (.int p0), (.int (2 : Int32)), (.ref b1)]))
  refine own_go (fun _ k => XS.iushr X9.here hx rfl (hb hby at_28) rfl k) ?_
  show own_Ends _ _ _ _ _ _ _ (T9.setTop (mkF m 29 #[.val (.int p0), .val (.int p1), .val (.int p2), .val (.int p3), .val (.int p4), .val (.ref b1), .unset, .unset, .unset, .unset, .unset] [(.int ((p0.toUInt32 >>> ((4 : Int32) &&& 31).toUInt32).toInt32)), (.int (2 : Int32)), (.ref b1)]))
  obtain ⟨_, _, ⟨T12, L12, k12, n12⟩, -, X12, ⟨Lc12, hQ12, l12, y12, z12⟩, st12⟩ := Jvm.LawKit.callS X9 hx (y := (⟨"com/example/octroi/octroi/bench/ConnectionIndexOfPinLaw", "sym", "(I)B"⟩ : MethodName)) hown (mvT hZ (hw _ (List.mem_of_getElem? (i := 1) rfl))) (mvT hZ (hw _ (List.mem_of_getElem? (i := 2) rfl))) (mvT hZ (hw _ (List.mem_of_getElem? (i := 3) rfl))) (mvT hZ (hw _ (List.mem_of_getElem? (i := 4) rfl))) (by decide) (backOf (W := 2) (rm1 l Z ar hw [] ((p0.toUInt32 >>> ((4 : Int32) &&& 31).toUInt32).toInt32) h9 n0 F10) hZ (hw _ (List.mem_of_getElem? (i := 4) rfl)) (hw _ (List.mem_of_getElem? (i := 3) rfl)) (by decide) (by decide)) (g := (mkF m 29 #[.val (.int p0), .val (.int p1), .val (.int p2), .val (.int p3), .val (.int p4), .val (.ref b1), .unset, .unset, .unset, .unset, .unset] [(.int ((p0.toUInt32 >>> ((4 : Int32) &&& 31).toUInt32).toInt32)), (.int (2 : Int32)), (.ref b1)])) rfl (by rw [hml]; rfl) (argsL := [(.int ((p0.toUInt32 >>> ((4 : Int32) &&& 31).toUInt32).toInt32))]) (rest := [(.int (2 : Int32)), (.ref b1)]) (lenOf pd0_0 rfl) rfl (by show 2 * 0 + _ ≤ _; exact Nat.le_of_eq rfl) (hb hby at_29) (fun _ _ => ⟨rfl, e9, (by decide : 1 + 0 ≤ _), (by decide : 5 + 0 ≤ _)⟩)
  dsimp only [Pt.U, Pt.locs, Pt.cells, Pt.slots] at X12 l12 y12 z12 st12 hQ12
  subst l12 y12 z12
  obtain ⟨rfl, N12q, eq12⟩ := hQ12
  have e12 : T12.heap = h9 := eq12
  have N12 := Fr.app N9 N12q
  refine own_go (fun _ k => st12 _ k) ?_
  show own_Ends _ _ _ _ _ _ _ (T12.setTop (mkF m 32 #[.val (.int p0), .val (.int p1), .val (.int p2), .val (.int p3), .val (.int p4), .val (.ref b1), .unset, .unset, .unset, .unset, .unset] [(.int (f1 ((p0.toUInt32 >>> ((4 : Int32) &&& 31).toUInt32).toInt32))), (.int (2 : Int32)), (.ref b1)]))
  obtain ⟨c13, A13, i13, -⟩ := own_Ar.at F11 (2 : Int32) (by decide) (by decide)
  obtain ⟨T13, h13, X13, e13, W13, st13⟩ := stB X12 hx hZ e12 A13 (j := (2 : Int32)) i13 (g := (mkF m 32 #[.val (.int p0), .val (.int p1), .val (.int p2), .val (.int p3), .val (.int p4), .val (.ref b1), .unset, .unset, .unset, .unset, .unset] [(.int (f1 ((p0.toUInt32 >>> ((4 : Int32) &&& 31).toUInt32).toInt32))), (.int (2 : Int32)), (.ref b1)])) rfl rfl (hb hby at_32)
  refine own_go (fun _ k => st13 _ k) ?_
  have N13 := Fr.snoc X13 N12 g_b1
  have F14 : Old Z n0 h13 := (F10.wr W13 g_b1)
  have F15 : own_Ar Z h13 b1 .byte 5 (fun i => .int ((fun i => if i = ((2 : Int32)).toNatClampNeg then (nar .byte (f1 ((p0.toUInt32 >>> ((4 : Int32) &&& 31).toUInt32).toInt32))) else (fun i => if i = ((1 : Int32)).toNatClampNeg then (nar .byte (f1 ((p0.toUInt32 >>> ((2 : Int32) &&& 31).toUInt32).toInt32))) else (fun i => if i = ((0 : Int32)).toNatClampNeg then (nar .byte (f1 p0)) else (fun _ => (0 : Int32)) i) i) i) i)) := own_Ar.setI F11 W13
  show own_Ends _ _ _ _ _ _ _ (T13.setTop (mkF m 33 #[.val (.int p0), .val (.int p1), .val (.int p2), .val (.int p3), .val (.int p4), .val (.ref b1), .unset, .unset, .unset, .unset, .unset] []))
  refine own_go (fun _ k => XS.aload X13.here hx rfl (hb hby at_33) rfl rfl k) ?_
  show own_Ends _ _ _ _ _ _ _ (T13.setTop (mkF m 35 #[.val (.int p0), .val (.int p1), .val (.int p2), .val (.int p3), .val (.int p4), .val (.ref b1), .unset, .unset, .unset, .unset, .unset] [(.ref b1)]))
  refine own_go (fun _ k => XS.iconst X13.here hx rfl (hb hby at_35) k) ?_
  show own_Ends _ _ _ _ _ _ _ (T13.setTop (mkF m 36 #[.val (.int p0), .val (.int p1), .val (.int p2), .val (.int p3), .val (.int p4), .val (.ref b1), .unset, .unset, .unset, .unset, .unset] [(.int (3 : Int32)), (.ref b1)]))
  refine own_go (fun _ k => XS.iloadN X13.here hx rfl (hb hby at_36) rfl k) ?_
  show own_Ends _ _ _ _ _ _ _ (T13.setTop (mkF m 37 #[.val (.int p0), .val (.int p1), .val (.int p2), .val (.int p3), .val (.int p4), .val (.ref b1), .unset, .unset, .unset, .unset, .unset] [(.int p0), (.int (3 : Int32)), (.ref b1)]))
  refine own_go (fun _ k => XS.bipush X13.here hx rfl (hb hby at_37) k) ?_
  show own_Ends _ _ _ _ _ _ _ (T13.setTop (mkF m 39 #[.val (.int p0), .val (.int p1), .val (.int p2), .val (.int p3), .val (.int p4), .val (.ref b1), .unset, .unset, .unset, .unset, .unset] [(.int (6 : Int32)), (.int p0), (.int (3 : Int32)), (.ref b1)]))
  refine own_go (fun _ k => XS.iushr X13.here hx rfl (hb hby at_39) rfl k) ?_
  show own_Ends _ _ _ _ _ _ _ (T13.setTop (mkF m 40 #[.val (.int p0), .val (.int p1), .val (.int p2), .val (.int p3), .val (.int p4), .val (.ref b1), .unset, .unset, .unset, .unset, .unset] [(.int ((p0.toUInt32 >>> ((6 : Int32) &&& 31).toUInt32).toInt32)), (.int (3 : Int32)), (.ref b1)]))
  obtain ⟨_, _, ⟨T16, L16, k16, n16⟩, -, X16, ⟨Lc16, hQ16, l16, y16, z16⟩, st16⟩ := Jvm.LawKit.callS X13 hx (y := (⟨"com/example/octroi/octroi/bench/ConnectionIndexOfPinLaw", "sym", "(I)B"⟩ : MethodName)) hown (mvT hZ (hw _ (List.mem_of_getElem? (i := 1) rfl))) (mvT hZ (hw _ (List.mem_of_getElem? (i := 2) rfl))) (mvT hZ (hw _ (List.mem_of_getElem? (i := 3) rfl))) (mvT hZ (hw _ (List.mem_of_getElem? (i := 4) rfl))) (by decide) (backOf (W := 2) (rm1 l Z ar hw [] ((p0.toUInt32 >>> ((6 : Int32) &&& 31).toUInt32).toInt32) h13 n0 F14) hZ (hw _ (List.mem_of_getElem? (i := 4) rfl)) (hw _ (List.mem_of_getElem? (i := 3) rfl)) (by decide) (by decide)) (g := (mkF m 40 #[.val (.int p0), .val (.int p1), .val (.int p2), .val (.int p3), .val (.int p4), .val (.ref b1), .unset, .unset, .unset, .unset, .unset] [(.int ((p0.toUInt32 >>> ((6 : Int32) &&& 31).toUInt32).toInt32)), (.int (3 : Int32)), (.ref b1)])) rfl (by rw [hml]; rfl) (argsL := [(.int ((p0.toUInt32 >>> ((6 : Int32) &&& 31).toUInt32).toInt32))]) (rest := [(.int (3 : Int32)), (.ref b1)]) (lenOf pd0_0 rfl) rfl (by show 2 * 0 + _ ≤ _; exact Nat.le_of_eq rfl) (hb hby at_40) (fun _ _ => ⟨rfl, e13, (by decide : 1 + 0 ≤ _), (by decide : 5 + 0 ≤ _)⟩)
  dsimp only [Pt.U, Pt.locs, Pt.cells, Pt.slots] at X16 l16 y16 z16 st16 hQ16
  subst l16 y16 z16
  obtain ⟨rfl, N16q, eq16⟩ := hQ16
  have e16 : T16.heap = h13 := eq16
  have N16 := Fr.app N13 N16q
  refine own_go (fun _ k => st16 _ k) ?_
  show own_Ends _ _ _ _ _ _ _ (T16.setTop (mkF m 43 #[.val (.int p0), .val (.int p1), .val (.int p2), .val (.int p3), .val (.int p4), .val (.ref b1), .unset, .unset, .unset, .unset, .unset] [(.int (f1 ((p0.toUInt32 >>> ((6 : Int32) &&& 31).toUInt32).toInt32))), (.int (3 : Int32)), (.ref b1)]))
  obtain ⟨c17, A17, i17, -⟩ := own_Ar.at F15 (3 : Int32) (by decide) (by decide)
  obtain ⟨T17, h17, X17, e17, W17, st17⟩ := stB X16 hx hZ e16 A17 (j := (3 : Int32)) i17 (g := (mkF m 43 #[.val (.int p0), .val (.int p1), .val (.int p2), .val (.int p3), .val (.int p4), .val (.ref b1), .unset, .unset, .unset, .unset, .unset] [(.int (f1 ((p0.toUInt32 >>> ((6 : Int32) &&& 31).toUInt32).toInt32))), (.int (3 : Int32)), (.ref b1)])) rfl rfl (hb hby at_43)
  refine own_go (fun _ k => st17 _ k) ?_
  have N17 := Fr.snoc X17 N16 g_b1
  have F18 : Old Z n0 h17 := (F14.wr W17 g_b1)
  have F19 : own_Ar Z h17 b1 .byte 5 (fun i => .int ((fun i => if i = ((3 : Int32)).toNatClampNeg then (nar .byte (f1 ((p0.toUInt32 >>> ((6 : Int32) &&& 31).toUInt32).toInt32))) else (fun i => if i = ((2 : Int32)).toNatClampNeg then (nar .byte (f1 ((p0.toUInt32 >>> ((4 : Int32) &&& 31).toUInt32).toInt32))) else (fun i => if i = ((1 : Int32)).toNatClampNeg then (nar .byte (f1 ((p0.toUInt32 >>> ((2 : Int32) &&& 31).toUInt32).toInt32))) else (fun i => if i = ((0 : Int32)).toNatClampNeg then (nar .byte (f1 p0)) else (fun _ => (0 : Int32)) i) i) i) i) i)) := own_Ar.setI F15 W17
  show own_Ends _ _ _ _ _ _ _ (T17.setTop (mkF m 44 #[.val (.int p0), .val (.int p1), .val (.int p2), .val (.int p3), .val (.int p4), .val (.ref b1), .unset, .unset, .unset, .unset, .unset] []))
  refine own_go (fun _ k => XS.aload X17.here hx rfl (hb hby at_44) rfl rfl k) ?_
  show own_Ends _ _ _ _ _ _ _ (T17.setTop (mkF m 46 #[.val (.int p0), .val (.int p1), .val (.int p2), .val (.int p3), .val (.int p4), .val (.ref b1), .unset, .unset, .unset, .unset, .unset] [(.ref b1)]))
  refine own_go (fun _ k => XS.iconst X17.here hx rfl (hb hby at_46) k) ?_
  show own_Ends _ _ _ _ _ _ _ (T17.setTop (mkF m 47 #[.val (.int p0), .val (.int p1), .val (.int p2), .val (.int p3), .val (.int p4), .val (.ref b1), .unset, .unset, .unset, .unset, .unset] [(.int (4 : Int32)), (.ref b1)]))
  refine own_go (fun _ k => XS.iloadN X17.here hx rfl (hb hby at_47) rfl k) ?_
  show own_Ends _ _ _ _ _ _ _ (T17.setTop (mkF m 48 #[.val (.int p0), .val (.int p1), .val (.int p2), .val (.int p3), .val (.int p4), .val (.ref b1), .unset, .unset, .unset, .unset, .unset] [(.int p0), (.int (4 : Int32)), (.ref b1)]))
  refine own_go (fun _ k => XS.bipush X17.here hx rfl (hb hby at_48) k) ?_
  show own_Ends _ _ _ _ _ _ _ (T17.setTop (mkF m 50 #[.val (.int p0), .val (.int p1), .val (.int p2), .val (.int p3), .val (.int p4), .val (.ref b1), .unset, .unset, .unset, .unset, .unset] [(.int (8 : Int32)), (.int p0), (.int (4 : Int32)), (.ref b1)]))
  refine own_go (fun _ k => XS.iushr X17.here hx rfl (hb hby at_50) rfl k) ?_
  show own_Ends _ _ _ _ _ _ _ (T17.setTop (mkF m 51 #[.val (.int p0), .val (.int p1), .val (.int p2), .val (.int p3), .val (.int p4), .val (.ref b1), .unset, .unset, .unset, .unset, .unset] [(.int ((p0.toUInt32 >>> ((8 : Int32) &&& 31).toUInt32).toInt32)), (.int (4 : Int32)), (.ref b1)]))
  obtain ⟨_, _, ⟨T20, L20, k20, n20⟩, -, X20, ⟨Lc20, hQ20, l20, y20, z20⟩, st20⟩ := Jvm.LawKit.callS X17 hx (y := (⟨"com/example/octroi/octroi/bench/ConnectionIndexOfPinLaw", "sym", "(I)B"⟩ : MethodName)) hown (mvT hZ (hw _ (List.mem_of_getElem? (i := 1) rfl))) (mvT hZ (hw _ (List.mem_of_getElem? (i := 2) rfl))) (mvT hZ (hw _ (List.mem_of_getElem? (i := 3) rfl))) (mvT hZ (hw _ (List.mem_of_getElem? (i := 4) rfl))) (by decide) (backOf (W := 2) (rm1 l Z ar hw [] ((p0.toUInt32 >>> ((8 : Int32) &&& 31).toUInt32).toInt32) h17 n0 F18) hZ (hw _ (List.mem_of_getElem? (i := 4) rfl)) (hw _ (List.mem_of_getElem? (i := 3) rfl)) (by decide) (by decide)) (g := (mkF m 51 #[.val (.int p0), .val (.int p1), .val (.int p2), .val (.int p3), .val (.int p4), .val (.ref b1), .unset, .unset, .unset, .unset, .unset] [(.int ((p0.toUInt32 >>> ((8 : Int32) &&& 31).toUInt32).toInt32)), (.int (4 : Int32)), (.ref b1)])) rfl (by rw [hml]; rfl) (argsL := [(.int ((p0.toUInt32 >>> ((8 : Int32) &&& 31).toUInt32).toInt32))]) (rest := [(.int (4 : Int32)), (.ref b1)]) (lenOf pd0_0 rfl) rfl (by show 2 * 0 + _ ≤ _; exact Nat.le_of_eq rfl) (hb hby at_51) (fun _ _ => ⟨rfl, e17, (by decide : 1 + 0 ≤ _), (by decide : 5 + 0 ≤ _)⟩)
  dsimp only [Pt.U, Pt.locs, Pt.cells, Pt.slots] at X20 l20 y20 z20 st20 hQ20
  subst l20 y20 z20
  obtain ⟨rfl, N20q, eq20⟩ := hQ20
  have e20 : T20.heap = h17 := eq20
  have N20 := Fr.app N17 N20q
  refine own_go (fun _ k => st20 _ k) ?_
  show own_Ends _ _ _ _ _ _ _ (T20.setTop (mkF m 54 #[.val (.int p0), .val (.int p1), .val (.int p2), .val (.int p3), .val (.int p4), .val (.ref b1), .unset, .unset, .unset, .unset, .unset] [(.int (f1 ((p0.toUInt32 >>> ((8 : Int32) &&& 31).toUInt32).toInt32))), (.int (4 : Int32)), (.ref b1)]))
  obtain ⟨c21, A21, i21, -⟩ := own_Ar.at F19 (4 : Int32) (by decide) (by decide)
  obtain ⟨T21, h21, X21, e21, W21, st21⟩ := stB X20 hx hZ e20 A21 (j := (4 : Int32)) i21 (g := (mkF m 54 #[.val (.int p0), .val (.int p1), .val (.int p2), .val (.int p3), .val (.int p4), .val (.ref b1), .unset, .unset, .unset, .unset, .unset] [(.int (f1 ((p0.toUInt32 >>> ((8 : Int32) &&& 31).toUInt32).toInt32))), (.int (4 : Int32)), (.ref b1)])) rfl rfl (hb hby at_54)
  refine own_go (fun _ k => st21 _ k) ?_
  have N21 := Fr.snoc X21 N20 g_b1
  have F22 : Old Z n0 h21 := (F18.wr W21 g_b1)
  have F23 : own_Ar Z h21 b1 .byte 5 (fun i => .int ((fun i => if i = ((4 : Int32)).toNatClampNeg then (nar .byte (f1 ((p0.toUInt32 >>> ((8 : Int32) &&& 31).toUInt32).toInt32))) else (fun i => if i = ((3 : Int32)).toNatClampNeg then (nar .byte (f1 ((p0.toUInt32 >>> ((6 : Int32) &&& 31).toUInt32).toInt32))) else (fun i => if i = ((2 : Int32)).toNatClampNeg then (nar .byte (f1 ((p0.toUInt32 >>> ((4 : Int32) &&& 31).toUInt32).toInt32))) else (fun i => if i = ((1 : Int32)).toNatClampNeg then (nar .byte (f1 ((p0.toUInt32 >>> ((2 : Int32) &&& 31).toUInt32).toInt32))) else (fun i => if i = ((0 : Int32)).toNatClampNeg then (nar .byte (f1 p0)) else (fun _ => (0 : Int32)) i) i) i) i) i) i)) := own_Ar.setI F19 W21
  obtain ⟨BB, FBB⟩ : ∃ B : Nat → Int32, own_Ar Z h21 b1 .byte 5 (fun i => .int (B i)) := ⟨_, F23⟩
  show own_Ends _ _ _ _ _ _ _ (T21.setTop (mkF m 55 #[.val (.int p0), .val (.int p1), .val (.int p2), .val (.int p3), .val (.int p4), .val (.ref b1), .unset, .unset, .unset, .unset, .unset] []))
  refine own_go (fun _ k => XS.iconst X21.here hx rfl (hb hby at_55) k) ?_
  show own_Ends _ _ _ _ _ _ _ (T21.setTop (mkF m 56 #[.val (.int p0), .val (.int p1), .val (.int p2), .val (.int p3), .val (.int p4), .val (.ref b1), .unset, .unset, .unset, .unset, .unset] [(.int (3 : Int32))]))
  obtain ⟨T24, h24, k24, X24, e24, E24, A24, st24⟩ := newP X21 hx hZ (hw _ (List.mem_of_getElem? (i := 0) rfl)) e21 (g := (mkF m 56 #[.val (.int p0), .val (.int p1), .val (.int p2), .val (.int p3), .val (.int p4), .val (.ref b1), .unset, .unset, .unset, .unset, .unset] [(.int (3 : Int32))])) rfl (hb hby at_56) rfl (by decide) (cap := 3) (by decide) (by decide) (by decide) (by decide)
  obtain ⟨b24, q_b24⟩ : ∃ z, z = h21.size := ⟨_, rfl⟩
  rw [← q_b24] at A24 st24
  have g_b24 : n0 ≤ b24 := Nat.le_trans (own_sz F22) (Nat.le_of_eq q_b24.symm)
  have ne_b1_b24 : b1 ≠ b24 := Nat.ne_of_lt (Nat.lt_of_lt_of_le FBB.lt (Nat.le_of_eq q_b24.symm))
  refine own_go (fun _ k => st24 _ k) ?_
  have F25 : Old Z n0 h24 := (F22.ext E24)
  have F26 : own_Ar Z h24 b1 .byte 5 (fun i => .int (BB i)) := (FBB.ext E24)
  have F27 : own_Ar Z h24 b24 .byte 3 (fun i => .int ((fun _ => (0 : Int32)) i)) := own_Ar.newI A24 (by decide) rfl
  show own_Ends _ _ _ _ _ _ _ (T24.setTop (mkF m 58 #[.val (.int p0), .val (.int p1), .val (.int p2), .val (.int p3), .val (.int p4), .val (.ref b1), .unset, .unset, .unset, .unset, .unset] [(.ref b24)]))
  refine own_go (fun _ k => XS.astore X24.here hx rfl (hb hby at_58) rfl rfl (l' := #[.val (.int p0), .val (.int p1), .val (.int p2), .val (.int p3), .val (.int p4), .val (.ref b1), .val (.ref b24), .unset, .unset, .unset, .unset]) rfl k) ?_
  show own_Ends _ _ _ _ _ _ _ (T24.setTop (mkF m 60 #[.val (.int p0), .val (.int p1), .val (.int p2), .val (.int p3), .val (.int p4), .val (.ref b1), .val (.ref b24), .unset, .unset, .unset, .unset] []))
  refine own_go (fun _ k => XS.aload X24.here hx rfl (hb hby at_60) rfl rfl k) ?_
  show own_Ends _ _ _ _ _ _ _ (T24.setTop (mkF m 62 #[.val (.int p0), .val (.int p1), .val (.int p2), .val (.int p3), .val (.int p4), .val (.ref b1), .val (.ref b24), .unset, .unset, .unset, .unset] [(.ref b24)]))
  refine own_go (fun _ k => XS.iconst X24.here hx rfl (hb hby at_62) k) ?_
  show own_Ends _ _ _ _ _ _ _ (T24.setTop (mkF m 63 #[.val (.int p0), .val (.int p1), .val (.int p2), .val (.int p3), .val (.int p4), .val (.ref b1), .val (.ref b24), .unset, .unset, .unset, .unset] [(.int (0 : Int32)), (.ref b24)]))
  refine own_go (fun _ k => XS.iloadN X24.here hx rfl (hb hby at_63) rfl k) ?_
  show own_Ends _ _ _ _ _ _ _ (T24.setTop (mkF m 64 #[.val (.int p0), .val (.int p1), .val (.int p2), .val (.int p3), .val (.int p4), .val (.ref b1), .val (.ref b24), .unset, .unset, .unset, .unset] [(.int p1), (.int (0 : Int32)), (.ref b24)]))
  obtain ⟨_, _, ⟨T28, L28, k28, n28⟩, -, X28, ⟨Lc28, hQ28, l28, y28, z28⟩, st28⟩ := Jvm.LawKit.callS X24 hx (y := (⟨"com/example/octroi/octroi/bench/ConnectionIndexOfPinLaw", "sym", "(I)B"⟩ : MethodName)) hown (mvT hZ (hw _ (List.mem_of_getElem? (i := 1) rfl))) (mvT hZ (hw _ (List.mem_of_getElem? (i := 2) rfl))) (mvT hZ (hw _ (List.mem_of_getElem? (i := 3) rfl))) (mvT hZ (hw _ (List.mem_of_getElem? (i := 4) rfl))) (by decide) (backOf (W := 2) (rm1 l Z ar hw [] p1 h24 n0 F25) hZ (hw _ (List.mem_of_getElem? (i := 4) rfl)) (hw _ (List.mem_of_getElem? (i := 3) rfl)) (by decide) (by decide)) (g := (mkF m 64 #[.val (.int p0), .val (.int p1), .val (.int p2), .val (.int p3), .val (.int p4), .val (.ref b1), .val (.ref b24), .unset, .unset, .unset, .unset] [(.int p1), (.int (0 : Int32)), (.ref b24)])) rfl (by rw [hml]; rfl) (argsL := [(.int p1)]) (rest := [(.int (0 : Int32)), (.ref b24)]) (lenOf pd0_0 rfl) rfl (by show 2 * 0 + _ ≤ _; exact Nat.le_of_eq rfl) (hb hby at_64) (fun _ _ => ⟨rfl, e24, (by decide : 2 + 0 ≤ _), (by decide : 8 + 0 ≤ _)⟩)
  dsimp only [Pt.U, Pt.locs, Pt.cells, Pt.slots] at X28 l28 y28 z28 st28 hQ28
  subst l28 y28 z28
  obtain ⟨rfl, N28q, eq28⟩ := hQ28
  have e28 : T28.heap = h24 := eq28
  have N28 := Fr.app N21 N28q
  refine own_go (fun _ k => st28 _ k) ?_
  show own_Ends _ _ _ _ _ _ _ (T28.setTop (mkF m 67 #[.val (.int p0), .val (.int p1), .val (.int p2), .val (.int p3), .val (.int p4), .val (.ref b1), .val (.ref b24), .unset, .unset, .unset, .unset] [(.int (f1 p1)), (.int (0 : Int32)), (.ref b24)]))
  obtain ⟨c29, A29, i29, -⟩ := own_Ar.at F27 (0 : Int32) (by decide) (by decide)
  obtain ⟨T29, h29, X29, e29, W29, st29⟩ := stB X28 hx hZ e28 A29 (j := (0 : Int32)) i29 (g := (mkF m 67 #[.val (.int p0), .val (.int p1), .val (.int p2), .val (.int p3), .val (.int p4), .val (.ref b1), .val (.ref b24), .unset, .unset, .unset, .unset] [(.int (f1 p1)), (.int (0 : Int32)), (.ref b24)])) rfl rfl (hb hby at_67)
  refine own_go (fun _ k => st29 _ k) ?_
  have N29 := Fr.snoc X29 N28 g_b24
  have F30 : Old Z n0 h29 := (F25.wr W29 g_b24)
  have F31 : own_Ar Z h29 b1 .byte 5 (fun i => .int (BB i)) := (F26.other W29 ne_b1_b24)
  have F32 : own_Ar Z h29 b24 .byte 3 (fun i => .int ((fun i => if i = ((0 : Int32)).toNatClampNeg then (nar .byte (f1 p1)) else (fun _ => (0 : Int32)) i) i)) := own_Ar.setI F27 W29
  show own_Ends _ _ _ _ _ _ _ (T29.setTop (mkF m 68 #[.val (.int p0), .val (.int p1), .val (.int p2), .val (.int p3), .val (.int p4), .val (.ref b1), .val (.ref b24), .unset, .unset, .unset, .unset] []))
  refine own_go (fun _ k => XS.aload X29.here hx rfl (hb hby at_68) rfl rfl k) ?_
  show own_Ends _ _ _ _ _ _ _ (T29.setTop (mkF m 70 #[.val (.int p0), .val (.int p1), .val (.int p2), .val (.int p3), .val (.int p4), .val (.ref b1), .val (.ref b24), .unset, .unset, .unset, .unset] [(.ref b24)]))
  refine own_go (fun _ k => XS.iconst X29.here hx rfl (hb hby at_70) k) ?_
  show own_Ends _ _ _ _ _ _ _ (T29.setTop (mkF m 71 #[.val (.int p0), .val (.int p1), .val (.int p2), .val (.int p3), .val (.int p4), .val (.ref b1), .val (.ref b24), .unset, .unset, .unset, .unset] [(.int (1 : Int32)), (.ref b24)]))
  refine own_go (fun _ k => XS.iloadN X29.here hx rfl (hb hby at_71) rfl k) ?_
  show own_Ends _ _ _ _ _ _ _ (T29.setTop (mkF m 72 #[.val (.int p0), .val (.int p1), .val (.int p2), .val (.int p3), .val (.int p4), .val (.ref b1), .val (.ref b24), .unset, .unset, .unset, .unset] [(.int p1), (.int (1 : Int32)), (.ref b24)]))
  refine own_go (fun _ k => XS.iconst X29.here hx rfl (hb hby at_72) k) ?_
  show own_Ends _ _ _ _ _ _ _ (T29.setTop (mkF m 73 #[.val (.int p0), .val (.int p1), .val (.int p2), .val (.int p3), .val (.int p4), .val (.ref b1), .val (.ref b24), .unset, .unset, .unset, .unset] [(.int (2 : Int32)), (.int p1), (.int (1 : Int32)), (.ref b24)]))
  refine own_go (fun _ k => XS.iushr X29.here hx rfl (hb hby at_73) rfl k) ?_
  show own_Ends _ _ _ _ _ _ _ (T29.setTop (mkF m 74 #[.val (.int p0), .val (.int p1), .val (.int p2), .val (.int p3), .val (.int p4), .val (.ref b1), .val (.ref b24), .unset, .unset, .unset, .unset] [(.int ((p1.toUInt32 >>> ((2 : Int32) &&& 31).toUInt32).toInt32)), (.int (1 : Int32)), (.ref b24)]))
  obtain ⟨_, _, ⟨T33, L33, k33, n33⟩, -, X33, ⟨Lc33, hQ33, l33, y33, z33⟩, st33⟩ := Jvm.LawKit.callS X29 hx (y := (⟨"com/example/octroi/octroi/bench/ConnectionIndexOfPinLaw", "sym", "(I)B"⟩ : MethodName)) hown (mvT hZ (hw _ (List.mem_of_getElem? (i := 1) rfl))) (mvT hZ (hw _ (List.mem_of_getElem? (i := 2) rfl))) (mvT hZ (hw _ (List.mem_of_getElem? (i := 3) rfl))) (mvT hZ (hw _ (List.mem_of_getElem? (i := 4) rfl))) (by decide) (backOf (W := 2) (rm1 l Z ar hw [] ((p1.toUInt32 >>> ((2 : Int32) &&& 31).toUInt32).toInt32) h29 n0 F30) hZ (hw _ (List.mem_of_getElem? (i := 4) rfl)) (hw _ (List.mem_of_getElem? (i := 3) rfl)) (by decide) (by decide)) (g := (mkF m 74 #[.val (.int p0), .val (.int p1), .val (.int p2), .val (.int p3), .val (.int p4), .val (.ref b1), .val (.ref b24), .unset, .unset, .unset, .unset] [(.int ((p1.toUInt32 >>> ((2 : Int32) &&& 31).toUInt32).toInt32)), (.int (1 : Int32)), (.ref b24)])) rfl (by rw [hml]; rfl) (argsL := [(.int ((p1.toUInt32 >>> ((2 : Int32) &&& 31).toUInt32).toInt32))]) (rest := [(.int (1 : Int32)), (.ref b24)]) (lenOf pd0_0 rfl) rfl (by show 2 * 0 + _ ≤ _; exact Nat.le_of_eq rfl) (hb hby at_74) (fun _ _ => ⟨rfl, e29, (by decide : 2 + 0 ≤ _), (by decide : 8 + 0 ≤ _)⟩)
  dsimp only [Pt.U, Pt.locs, Pt.cells, Pt.slots] at X33 l33 y33 z33 st33 hQ33
  subst l33 y33 z33
  obtain ⟨rfl, N33q, eq33⟩ := hQ33
  have e33 : T33.heap = h29 := eq33
  have N33 := Fr.app N29 N33q
  refine own_go (fun _ k => st33 _ k) ?_
  show own_Ends _ _ _ _ _ _ _ (T33.setTop (mkF m 77 #[.val (.int p0), .val (.int p1), .val (.int p2), .val (.int p3), .val (.int p4), .val (.ref b1), .val (.ref b24), .unset, .unset, .unset, .unset] [(.int (f1 ((p1.toUInt32 >>> ((2 : Int32) &&& 31).toUInt32).toInt32))), (.int (1 : Int32)), (.ref b24)]))
  obtain ⟨c34, A34, i34, -⟩ := own_Ar.at F32 (1 : Int32) (by decide) (by decide)
  obtain ⟨T34, h34, X34, e34, W34, st34⟩ := stB X33 hx hZ e33 A34 (j := (1 : Int32)) i34 (g := (mkF m 77 #[.val (.int p0), .val (.int p1), .val (.int p2), .val (.int p3), .val (.int p4), .val (.ref b1), .val (.ref b24), .unset, .unset, .unset, .unset] [(.int (f1 ((p1.toUInt32 >>> ((2 : Int32) &&& 31).toUInt32).toInt32))), (.int (1 : Int32)), (.ref b24)])) rfl rfl (hb hby at_77)
  refine own_go (fun _ k => st34 _ k) ?_
  have N34 := Fr.snoc X34 N33 g_b24
  have F35 : Old Z n0 h34 := (F30.wr W34 g_b24)
  have F36 : own_Ar Z h34 b1 .byte 5 (fun i => .int (BB i)) := (F31.other W34 ne_b1_b24)
  have F37 : own_Ar Z h34 b24 .byte 3 (fun i => .int ((fun i => if i = ((1 : Int32)).toNatClampNeg then (nar .byte (f1 ((p1.toUInt32 >>> ((2 : Int32) &&& 31).toUInt32).toInt32))) else (fun i => if i = ((0 : Int32)).toNatClampNeg then (nar .byte (f1 p1)) else (fun _ => (0 : Int32)) i) i) i)) := own_Ar.setI F32 W34
  show own_Ends _ _ _ _ _ _ _ (T34.setTop (mkF m 78 #[.val (.int p0), .val (.int p1), .val (.int p2), .val (.int p3), .val (.int p4), .val (.ref b1), .val (.ref b24), .unset, .unset, .unset, .unset] []))
  refine own_go (fun _ k => XS.aload X34.here hx rfl (hb hby at_78) rfl rfl k) ?_
  show own_Ends _ _ _ _ _ _ _ (T34.setTop (mkF m 80 #[.val (.int p0), .val (.int p1), .val (.int p2), .val (.int p3), .val (.int p4), .val (.ref b1), .val (.ref b24), .unset, .unset, .unset, .unset] [(.ref b24)]))
  refine own_go (fun _ k => XS.iconst X34.here hx rfl (hb hby at_80) k) ?_
  show own_Ends _ _ _ _ _ _ _ (T34.setTop (mkF m 81 #[.val (.int p0), .val (.int p1), .val (.int p2), .val (.int p3), .val (.int p4), .val (.ref b1), .val (.ref b24), .unset, .unset, .unset, .unset] [(.int (2 : Int32)), (.ref b24)]))
  refine own_go (fun _ k => XS.iloadN X34.here hx rfl (hb hby at_81) rfl k) ?_
  show own_Ends _ _ _ _ _ _ _ (T34.setTop (mkF m 82 #[.val (.int p0), .val (.int p1), .val (.int p2), .val (.int p3), .val (.int p4), .val (.ref b1), .val (.ref b24), .unset, .unset, .unset, .unset] [(.int p1), (.int (2 : Int32)), (.ref b24)]))
  refine own_go (fun _ k => XS.iconst X34.here hx rfl (hb hby at_82) k) ?_
  show own_Ends _ _ _ _ _ _ _ (T34.setTop (mkF m 83 #[.val (.int p0), .val (.int p1), .val (.int p2), .val (.int p3), .val (.int p4), .val (.ref b1), .val (.ref b24), .unset, .unset, .unset, .unset] [(.int (4 : Int32)), (.int p1), (.int (2 : Int32)), (.ref b24)]))
  refine own_go (fun _ k => XS.iushr X34.here hx rfl (hb hby at_83) rfl k) ?_
  show own_Ends _ _ _ _ _ _ _ (T34.setTop (mkF m 84 #[.val (.int p0), .val (.int p1), .val (.int p2), .val (.int p3), .val (.int p4), .val (.ref b1), .val (.ref b24), .unset, .unset, .unset, .unset] [(.int ((p1.toUInt32 >>> ((4 : Int32) &&& 31).toUInt32).toInt32)), (.int (2 : Int32)), (.ref b24)]))
  obtain ⟨_, _, ⟨T38, L38, k38, n38⟩, -, X38, ⟨Lc38, hQ38, l38, y38, z38⟩, st38⟩ := Jvm.LawKit.callS X34 hx (y := (⟨"com/example/octroi/octroi/bench/ConnectionIndexOfPinLaw", "sym", "(I)B"⟩ : MethodName)) hown (mvT hZ (hw _ (List.mem_of_getElem? (i := 1) rfl))) (mvT hZ (hw _ (List.mem_of_getElem? (i := 2) rfl))) (mvT hZ (hw _ (List.mem_of_getElem? (i := 3) rfl))) (mvT hZ (hw _ (List.mem_of_getElem? (i := 4) rfl))) (by decide) (backOf (W := 2) (rm1 l Z ar hw [] ((p1.toUInt32 >>> ((4 : Int32) &&& 31).toUInt32).toInt32) h34 n0 F35) hZ (hw _ (List.mem_of_getElem? (i := 4) rfl)) (hw _ (List.mem_of_getElem? (i := 3) rfl)) (by decide) (by decide)) (g := (mkF m 84 #[.val (.int p0), .val (.int p1), .val (.int p2), .val (.int p3), .val (.int p4), .val (.ref b1), .val (.ref b24), .unset, .unset, .unset, .unset] [(.int ((p1.toUInt32 >>> ((4 : Int32) &&& 31).toUInt32).toInt32)), (.int (2 : Int32)), (.ref b24)])) rfl (by rw [hml]; rfl) (argsL := [(.int ((p1.toUInt32 >>> ((4 : Int32) &&& 31).toUInt32).toInt32))]) (rest := [(.int (2 : Int32)), (.ref b24)]) (lenOf pd0_0 rfl) rfl (by show 2 * 0 + _ ≤ _; exact Nat.le_of_eq rfl) (hb hby at_84) (fun _ _ => ⟨rfl, e34, (by decide : 2 + 0 ≤ _), (by decide : 8 + 0 ≤ _)⟩)
  dsimp only [Pt.U, Pt.locs, Pt.cells, Pt.slots] at X38 l38 y38 z38 st38 hQ38
  subst l38 y38 z38
  obtain ⟨rfl, N38q, eq38⟩ := hQ38
  have e38 : T38.heap = h34 := eq38
  have N38 := Fr.app N34 N38q
  refine own_go (fun _ k => st38 _ k) ?_
  show own_Ends _ _ _ _ _ _ _ (T38.setTop (mkF m 87 #[.val (.int p0), .val (.int p1), .val (.int p2), .val (.int p3), .val (.int p4), .val (.ref b1), .val (.ref b24), .unset, .unset, .unset, .unset] [(.int (f1 ((p1.toUInt32 >>> ((4 : Int32) &&& 31).toUInt32).toInt32))), (.int (2 : Int32)), (.ref b24)]))
  obtain ⟨c39, A39, i39, -⟩ := own_Ar.at F37 (2 : Int32) (by decide) (by decide)
  obtain ⟨T39, h39, X39, e39, W39, st39⟩ := stB X38 hx hZ e38 A39 (j := (2 : Int32)) i39 (g := (mkF m 87 #[.val (.int p0), .val (.int p1), .val (.int p2), .val (.int p3), .val (.int p4), .val (.ref b1), .val (.ref b24), .unset, .unset, .unset, .unset] [(.int (f1 ((p1.toUInt32 >>> ((4 : Int32) &&& 31).toUInt32).toInt32))), (.int (2 : Int32)), (.ref b24)])) rfl rfl (hb hby at_87)
  refine own_go (fun _ k => st39 _ k) ?_
  have N39 := Fr.snoc X39 N38 g_b24
  have F40 : Old Z n0 h39 := (F35.wr W39 g_b24)
  have F41 : own_Ar Z h39 b1 .byte 5 (fun i => .int (BB i)) := (F36.other W39 ne_b1_b24)
  have F42 : own_Ar Z h39 b24 .byte 3 (fun i => .int ((fun i => if i = ((2 : Int32)).toNatClampNeg then (nar .byte (f1 ((p1.toUInt32 >>> ((4 : Int32) &&& 31).toUInt32).toInt32))) else (fun i => if i = ((1 : Int32)).toNatClampNeg then (nar .byte (f1 ((p1.toUInt32 >>> ((2 : Int32) &&& 31).toUInt32).toInt32))) else (fun i => if i = ((0 : Int32)).toNatClampNeg then (nar .byte (f1 p1)) else (fun _ => (0 : Int32)) i) i) i) i)) := own_Ar.setI F37 W39
  obtain ⟨MM, FMM⟩ : ∃ B : Nat → Int32, own_Ar Z h39 b24 .byte 3 (fun i => .int (B i)) := ⟨_, F42⟩
  show own_Ends _ _ _ _ _ _ _ (T39.setTop (mkF m 88 #[.val (.int p0), .val (.int p1), .val (.int p2), .val (.int p3), .val (.int p4), .val (.ref b1), .val (.ref b24), .unset, .unset, .unset, .unset] []))
  refine own_go (fun _ k => XS.iloadN X39.here hx rfl (hb hby at_88) rfl k) ?_
  show own_Ends _ _ _ _ _ _ _ (T39.setTop (mkF m 89 #[.val (.int p0), .val (.int p1), .val (.int p2), .val (.int p3), .val (.int p4), .val (.ref b1), .val (.ref b24), .unset, .unset, .unset, .unset] [(.int p2)]))
  refine own_go (fun _ k => X39.ldcInt hx hown (mvT hZ (hw _ (List.mem_of_getElem? (i := 5) rfl))) (g := (mkF m 89 #[.val (.int p0), .val (.int p1), .val (.int p2), .val (.int p3), .val (.int p4), .val (.ref b1), .val (.ref b24), .unset, .unset, .unset, .unset] [(.int p2)])) rfl (hb hby at_89) _ k) ?_
  show own_Ends _ _ _ _ _ _ _ (T39.setTop (mkF m 91 #[.val (.int p0), .val (.int p1), .val (.int p2), .val (.int p3), .val (.int p4), .val (.ref b1), .val (.ref b24), .unset, .unset, .unset, .unset] [(.int (2147483647 : Int32)), (.int p2)]))
  refine own_go (fun _ k => XS.iand X39.here hx rfl (hb hby at_91) rfl k) ?_
  show own_Ends _ _ _ _ _ _ _ (T39.setTop (mkF m 92 #[.val (.int p0), .val (.int p1), .val (.int p2), .val (.int p3), .val (.int p4), .val (.ref b1), .val (.ref b24), .unset, .unset, .unset, .unset] [(.int (p2 &&& (2147483647 : Int32)))]))
  refine own_go (fun _ k => XS.bipush X39.here hx rfl (hb hby at_92) k) ?_
  show own_Ends _ _ _ _ _ _ _ (T39.setTop (mkF m 94 #[.val (.int p0), .val (.int p1), .val (.int p2), .val (.int p3), .val (.int p4), .val (.ref b1), .val (.ref b24), .unset, .unset, .unset, .unset] [(.int (6 : Int32)), (.int (p2 &&& (2147483647 : Int32)))]))
  refine own_go (fun _ k => iremM X39 hx rfl (hb hby at_94) rfl (by decide) k) ?_
  show own_Ends _ _ _ _ _ _ _ (T39.setTop (mkF m 95 #[.val (.int p0), .val (.int p1), .val (.int p2), .val (.int p3), .val (.int p4), .val (.ref b1), .val (.ref b24), .unset, .unset, .unset, .unset] [(.int ((p2 &&& (2147483647 : Int32)) % (6 : Int32)))]))
  refine own_go (fun _ k => XS.istore X39.here hx rfl (hb hby at_95) rfl (l' := #[.val (.int p0), .val (.int p1), .val (.int p2), .val (.int p3), .val (.int p4), .val (.ref b1), .val (.ref b24), .val (.int ((p2 &&& (2147483647 : Int32)) % (6 : Int32))), .unset, .unset, .unset]) rfl k) ?_
  suffices hjzf : ∀ zf : Int32, zf = ((p2 &&& (2147483647 : Int32)) % (6 : Int32)) → own_Ends p e below s (Q0 Z p0 p1 p2 p3 p4 h0 n0) 16 128 (T39.setTop (mkF m 97 #[.val (.int p0), .val (.int p1), .val (.int p2), .val (.int p3), .val (.int p4), .val (.ref b1), .val (.ref b24), .val (.int zf), .unset, .unset, .unset] [])) by exact hjzf _ rfl
  intro zf hzf
  have Pzf := own_rem6 hzf
  show own_Ends _ _ _ _ _ _ _ (T39.setTop (mkF m 97 #[.val (.int p0), .val (.int p1), .val (.int p2), .val (.int p3), .val (.int p4), .val (.ref b1), .val (.ref b24), .val (.int zf), .unset, .unset, .unset] []))
  refine own_go (fun _ k => XS.iloadN X39.here hx rfl (hb hby at_97) rfl k) ?_
  show own_Ends _ _ _ _ _ _ _ (T39.setTop (mkF m 98 #[.val (.int p0), .val (.int p1), .val (.int p2), .val (.int p3), .val (.int p4), .val (.ref b1), .val (.ref b24), .val (.int zf), .unset, .unset, .unset] [(.int p3)]))
  refine own_go (fun _ k => X39.ldcInt hx hown (mvT hZ (hw _ (List.mem_of_getElem? (i := 5) rfl))) (g := (mkF m 98 #[.val (.int p0), .val (.int p1), .val (.int p2), .val (.int p3), .val (.int p4), .val (.ref b1), .val (.ref b24), .val (.int zf), .unset, .unset, .unset] [(.int p3)])) rfl (hb hby at_98) _ k) ?_
  show own_Ends _ _ _ _ _ _ _ (T39.setTop (mkF m 100 #[.val (.int p0), .val (.int p1), .val (.int p2), .val (.int p3), .val (.int p4), .val (.ref b1), .val (.ref b24), .val (.int zf), .unset, .unset, .unset] [(.int (2147483647 : Int32)), (.int p3)]))
  refine own_go (fun _ k => XS.iand X39.here hx rfl (hb hby at_100) rfl k) ?_
  show own_Ends _ _ _ _ _ _ _ (T39.setTop (mkF m 101 #[.val (.int p0), .val (.int p1), .val (.int p2), .val (.int p3), .val (.int p4), .val (.ref b1), .val (.ref b24), .val (.int zf), .unset, .unset, .unset] [(.int (p3 &&& (2147483647 : Int32)))]))
  refine own_go (fun _ k => XS.bipush X39.here hx rfl (hb hby at_101) k) ?_
  show own_Ends _ _ _ _ _ _ _ (T39.setTop (mkF m 103 #[.val (.int p0), .val (.int p1), .val (.int p2), .val (.int p3), .val (.int p4), .val (.ref b1), .val (.ref b24), .val (.int zf), .unset, .unset, .unset] [(.int (6 : Int32)), (.int (p3 &&& (2147483647 : Int32)))]))
  refine own_go (fun _ k => iremM X39 hx rfl (hb hby at_103) rfl (by decide) k) ?_
  show own_Ends _ _ _ _ _ _ _ (T39.setTop (mkF m 104 #[.val (.int p0), .val (.int p1), .val (.int p2), .val (.int p3), .val (.int p4), .val (.ref b1), .val (.ref b24), .val (.int zf), .unset, .unset, .unset] [(.int ((p3 &&& (2147483647 : Int32)) % (6 : Int32)))]))
  refine own_go (fun _ k => XS.istore X39.here hx rfl (hb hby at_104) rfl (l' := #[.val (.int p0), .val (.int p1), .val (.int p2), .val (.int p3), .val (.int p4), .val (.ref b1), .val (.ref b24), .val (.int zf), .val (.int ((p3 &&& (2147483647 : Int32)) % (6 : Int32))), .unset, .unset]) rfl k) ?_
  suffices hjzt : ∀ zt : Int32, zt = ((p3 &&& (2147483647 : Int32)) % (6 : Int32)) → own_Ends p e below s (Q0 Z p0 p1 p2 p3 p4 h0 n0) 16 128 (T39.setTop (mkF m 106 #[.val (.int p0), .val (.int p1), .val (.int p2), .val (.int p3), .val (.int p4), .val (.ref b1), .val (.ref b24), .val (.int zf), .val (.int zt), .unset, .unset] [])) by exact hjzt _ rfl
  intro zt hzt
  have Pzt := own_rem6 hzt
  show own_Ends _ _ _ _ _ _ _ (T39.setTop (mkF m 106 #[.val (.int p0), .val (.int p1), .val (.int p2), .val (.int p3), .val (.int p4), .val (.ref b1), .val (.ref b24), .val (.int zf), .val (.int zt), .unset, .unset] []))
  refine own_go (fun _ k => XS.iload X39.here hx rfl (hb hby at_106) rfl k) ?_
  show own_Ends _ _ _ _ _ _ _ (T39.setTop (mkF m 108 #[.val (.int p0), .val (.int p1), .val (.int p2), .val (.int p3), .val (.int p4), .val (.ref b1), .val (.ref b24), .val (.int zf), .val (.int zt), .unset, .unset] [(.int p4)]))
  refine own_go (fun _ k => X39.ldcInt hx hown (mvT hZ (hw _ (List.mem_of_getElem? (i := 5) rfl))) (g := (mkF m 108 #[.val (.int p0), .val (.int p1), .val (.int p2), .val (.int p3), .val (.int p4), .val (.ref b1), .val (.ref b24), .val (.int zf), .val (.int zt), .unset, .unset] [(.int p4)])) rfl (hb hby at_108) _ k) ?_
  show own_Ends _ _ _ _ _ _ _ (T39.setTop (mkF m 110 #[.val (.int p0), .val (.int p1), .val (.int p2), .val (.int p3), .val (.int p4), .val (.ref b1), .val (.ref b24), .val (.int zf), .val (.int zt), .unset, .unset] [(.int (2147483647 : Int32)), (.int p4)]))
  refine own_go (fun _ k => XS.iand X39.here hx rfl (hb hby at_110) rfl k) ?_
  show own_Ends _ _ _ _ _ _ _ (T39.setTop (mkF m 111 #[.val (.int p0), .val (.int p1), .val (.int p2), .val (.int p3), .val (.int p4), .val (.ref b1), .val (.ref b24), .val (.int zf), .val (.int zt), .unset, .unset] [(.int (p4 &&& (2147483647 : Int32)))]))
  refine own_go (fun _ k => XS.iconst X39.here hx rfl (hb hby at_111) k) ?_
  show own_Ends _ _ _ _ _ _ _ (T39.setTop (mkF m 112 #[.val (.int p0), .val (.int p1), .val (.int p2), .val (.int p3), .val (.int p4), .val (.ref b1), .val (.ref b24), .val (.int zf), .val (.int zt), .unset, .unset] [(.int (4 : Int32)), (.int (p4 &&& (2147483647 : Int32)))]))
  refine own_go (fun _ k => iremM X39 hx rfl (hb hby at_112) rfl (by decide) k) ?_
  show own_Ends _ _ _ _ _ _ _ (T39.setTop (mkF m 113 #[.val (.int p0), .val (.int p1), .val (.int p2), .val (.int p3), .val (.int p4), .val (.ref b1), .val (.ref b24), .val (.int zf), .val (.int zt), .unset, .unset] [(.int ((p4 &&& (2147483647 : Int32)) % (4 : Int32)))]))
  refine own_go (fun _ k => XS.istore X39.here hx rfl (hb hby at_113) rfl (l' := #[.val (.int p0), .val (.int p1), .val (.int p2), .val (.int p3), .val (.int p4), .val (.ref b1), .val (.ref b24), .val (.int zf), .val (.int zt), .val (.int ((p4 &&& (2147483647 : Int32)) % (4 : Int32))), .unset]) rfl k) ?_
  suffices hjzl : ∀ zl : Int32, zl = ((p4 &&& (2147483647 : Int32)) % (4 : Int32)) → own_Ends p e below s (Q0 Z p0 p1 p2 p3 p4 h0 n0) 16 128 (T39.setTop (mkF m 115 #[.val (.int p0), .val (.int p1), .val (.int p2), .val (.int p3), .val (.int p4), .val (.ref b1), .val (.ref b24), .val (.int zf), .val (.int zt), .val (.int zl), .unset] [])) by exact hjzl _ rfl
  intro zl hzl
  have Pzl := own_rem4 hzl
  show own_Ends _ _ _ _ _ _ _ (T39.setTop (mkF m 115 #[.val (.int p0), .val (.int p1), .val (.int p2), .val (.int p3), .val (.int p4), .val (.ref b1), .val (.ref b24), .val (.int zf), .val (.int zt), .val (.int zl), .unset] []))
  refine own_go (fun _ k => XS.iconst X39.here hx rfl (hb hby at_115) k) ?_
  show own_Ends _ _ _ _ _ _ _ (T39.setTop (mkF m 116 #[.val (.int p0), .val (.int p1), .val (.int p2), .val (.int p3), .val (.int p4), .val (.ref b1), .val (.ref b24), .val (.int zf), .val (.int zt), .val (.int zl), .unset] [(.int (-1 : Int32))]))
  refine own_go (fun _ k => XS.istore X39.here hx rfl (hb hby at_116) rfl (l' := #[.val (.int p0), .val (.int p1), .val (.int p2), .val (.int p3), .val (.int p4), .val (.ref b1), .val (.ref b24), .val (.int zf), .val (.int zt), .val (.int zl), .val (.int (-1 : Int32))]) rfl k) ?_
  show own_Ends _ _ _ _ _ _ _ (T39.setTop (mkF m 118 #[.val (.int p0), .val (.int p1), .val (.int p2), .val (.int p3), .val (.int p4), .val (.ref b1), .val (.ref b24), .val (.int zf), .val (.int zt), .val (.int zl), .val (.int (-1 : Int32))] []))
  refine own_go (fun _ k => XS.aload X39.here hx rfl (hb hby at_118) rfl rfl k) ?_
  show own_Ends _ _ _ _ _ _ _ (T39.setTop (mkF m 120 #[.val (.int p0), .val (.int p1), .val (.int p2), .val (.int p3), .val (.int p4), .val (.ref b1), .val (.ref b24), .val (.int zf), .val (.int zt), .val (.int zl), .val (.int (-1 : Int32))] [(.ref b1)]))
  refine own_go (fun _ k => XS.iconst X39.here hx rfl (hb hby at_120) k) ?_
  show own_Ends _ _ _ _ _ _ _ (T39.setTop (mkF m 121 #[.val (.int p0), .val (.int p1), .val (.int p2), .val (.int p3), .val (.int p4), .val (.ref b1), .val (.ref b24), .val (.int zf), .val (.int zt), .val (.int zl), .val (.int (-1 : Int32))] [(.int (5 : Int32)), (.ref b1)]))
  refine own_go (fun _ k => XS.iload X39.here hx rfl (hb hby at_121) rfl k) ?_
  show own_Ends _ _ _ _ _ _ _ (T39.setTop (mkF m 123 #[.val (.int p0), .val (.int p1), .val (.int p2), .val (.int p3), .val (.int p4), .val (.ref b1), .val (.ref b24), .val (.int zf), .val (.int zt), .val (.int zl), .val (.int (-1 : Int32))] [(.int zf), (.int (5 : Int32)), (.ref b1)]))
  refine own_go (fun _ k => XS.iload X39.here hx rfl (hb hby at_123) rfl k) ?_
  show own_Ends _ _ _ _ _ _ _ (T39.setTop (mkF m 125 #[.val (.int p0), .val (.int p1), .val (.int p2), .val (.int p3), .val (.int p4), .val (.ref b1), .val (.ref b24), .val (.int zf), .val (.int zt), .val (.int zl), .val (.int (-1 : Int32))] [(.int zt), (.int zf), (.int (5 : Int32)), (.ref b1)]))
  refine own_go (fun _ k => XS.aload X39.here hx rfl (hb hby at_125) rfl rfl k) ?_
  show own_Ends _ _ _ _ _ _ _ (T39.setTop (mkF m 127 #[.val (.int p0), .val (.int p1), .val (.int p2), .val (.int p3), .val (.int p4), .val (.ref b1), .val (.ref b24), .val (.int zf), .val (.int zt), .val (.int zl), .val (.int (-1 : Int32))] [(.ref b24), (.int zt), (.int zf), (.int (5 : Int32)), (.ref b1)]))
  refine own_go (fun _ k => XS.iload X39.here hx rfl (hb hby at_127) rfl k) ?_
  show own_Ends _ _ _ _ _ _ _ (T39.setTop (mkF m 129 #[.val (.int p0), .val (.int p1), .val (.int p2), .val (.int p3), .val (.int p4), .val (.ref b1), .val (.ref b24), .val (.int zf), .val (.int zt), .val (.int zl), .val (.int (-1 : Int32))] [(.int zl), (.ref b24), (.int zt), (.int zf), (.int (5 : Int32)), (.ref b1)]))
  obtain ⟨_, _, ⟨T43, L43, k43, n43⟩, -, X43, ⟨Lc43, hQ43, l43, y43, z43⟩, st43⟩ := Jvm.LawKit.callS X39 hx (y := (⟨"com/example/octroi/octroi/bench/ConnectionIndexOfPinLaw", "at", "([BIII[BI)Z"⟩ : MethodName)) hown (mvT hZ (hw _ (List.mem_of_getElem? (i := 6) rfl))) (mvT hZ (hw _ (List.mem_of_getElem? (i := 7) rfl))) (mvT hZ (hw _ (List.mem_of_getElem? (i := 3) rfl))) (mvT hZ (hw _ (List.mem_of_getElem? (i := 8) rfl))) (by decide) (backOf (W := 0) (rm2 l Z ar hw [] b1 (5 : Int32) zf zt b24 zl BB MM h39 n0 F40 F41 FMM (by decide) Pzt.2 Pzl) hZ (hw _ (List.mem_of_getElem? (i := 8) rfl)) (hw _ (List.mem_of_getElem? (i := 3) rfl)) (by decide) (by decide)) (g := (mkF m 129 #[.val (.int p0), .val (.int p1), .val (.int p2), .val (.int p3), .val (.int p4), .val (.ref b1), .val (.ref b24), .val (.int zf), .val (.int zt), .val (.int zl), .val (.int (-1 : Int32))] [(.int zl), (.ref b24), (.int zt), (.int zf), (.int (5 : Int32)), (.ref b1)])) rfl (by rw [hml]; rfl) (argsL := [(.ref b1), (.int (5 : Int32)), (.int zf), (.int zt), (.ref b24), (.int zl)]) (rest := []) (lenOf pd0_1 rfl) rfl (by show 2 * 0 + _ ≤ _; exact Nat.le_of_eq rfl) (hb hby at_129) (fun _ _ => ⟨rfl, e39, (by decide : 2 + 0 ≤ _), (by decide : 8 + 0 ≤ _)⟩)
  dsimp only [Pt.U, Pt.locs, Pt.cells, Pt.slots] at X43 l43 y43 z43 st43 hQ43
  subst l43 y43 z43
  obtain ⟨rfl, N43q, eq43⟩ := hQ43
  have e43 : T43.heap = h39 := eq43
  have N43 := Fr.app N39 N43q
  refine own_go (fun _ k => st43 _ k) ?_
  suffices hju5 : ∀ u5 : Int32, u5 = (f2 b1 (5 : Int32) zf zt b24 zl BB MM) → own_Ends p e below s (Q0 Z p0 p1 p2 p3 p4 h0 n0) 16 128 (T43.setTop (mkF m 132 #[.val (.int p0), .val (.int p1), .val (.int p2), .val (.int p3), .val (.int p4), .val (.ref b1), .val (.ref b24), .val (.int zf), .val (.int zt), .val (.int zl), .val (.int (-1 : Int32))] [(.int u5)])) by exact hju5 _ rfl
  intro u5 hu5
  show own_Ends _ _ _ _ _ _ _ (T43.setTop (mkF m 132 #[.val (.int p0), .val (.int p1), .val (.int p2), .val (.int p3), .val (.int p4), .val (.ref b1), .val (.ref b24), .val (.int zf), .val (.int zt), .val (.int zl), .val (.int (-1 : Int32))] [(.int u5)]))
  suffices hj45 : ∀ z44 : Int32, z44 = (if u5 = (0 : Int32) then (-1 : Int32) else (5 : Int32)) → own_Ends p e below s (Q0 Z p0 p1 p2 p3 p4 h0 n0) 16 128 (T43.setTop (mkF m 138 #[.val (.int p0), .val (.int p1), .val (.int p2), .val (.int p3), .val (.int p4), .val (.ref b1), .val (.ref b24), .val (.int zf), .val (.int zt), .val (.int zl), .val (.int z44)] [])) by
    show own_Ends _ _ _ _ _ _ _ (T43.setTop (mkF m 132 #[.val (.int p0), .val (.int p1), .val (.int p2), .val (.int p3), .val (.int p4), .val (.ref b1), .val (.ref b24), .val (.int zf), .val (.int zt), .val (.int zl), .val (.int (-1 : Int32))] [(.int u5)]))
    by_cases hc46 : u5 = (0 : Int32)
    · refine own_go (fun _ k => XS.ifYes X43.here hx rfl (pc0 := 132) (pc' := 138) rfl (hb hby at_132) rfl ((if0 _ _).trans (teq hc46).1) (by decide) (by decide) k) ?_
      exact hj45 _ ((if_pos hc46)).symm
    · refine own_go (fun _ k => XS.ifNo X43.here hx rfl (hb hby at_132) rfl ((if0 _ _).trans (feq hc46).1) k) ?_
      show own_Ends _ _ _ _ _ _ _ (T43.setTop (mkF m 135 #[.val (.int p0), .val (.int p1), .val (.int p2), .val (.int p3), .val (.int p4), .val (.ref b1), .val (.ref b24), .val (.int zf), .val (.int zt), .val (.int zl), .val (.int (-1 : Int32))] []))
      refine own_go (fun _ k => XS.iconst X43.here hx rfl (hb hby at_135) k) ?_
      show own_Ends _ _ _ _ _ _ _ (T43.setTop (mkF m 136 #[.val (.int p0), .val (.int p1), .val (.int p2), .val (.int p3), .val (.int p4), .val (.ref b1), .val (.ref b24), .val (.int zf), .val (.int zt), .val (.int zl), .val (.int (-1 : Int32))] [(.int (5 : Int32))]))
      refine own_go (fun _ k => XS.istore X43.here hx rfl (hb hby at_136) rfl (l' := #[.val (.int p0), .val (.int p1), .val (.int p2), .val (.int p3), .val (.int p4), .val (.ref b1), .val (.ref b24), .val (.int zf), .val (.int zt), .val (.int zl), .val (.int (5 : Int32))]) rfl k) ?_
      exact hj45 _ ((if_neg hc46)).symm
  intro z44 hz44
  show own_Ends _ _ _ _ _ _ _ (T43.setTop (mkF m 138 #[.val (.int p0), .val (.int p1), .val (.int p2), .val (.int p3), .val (.int p4), .val (.ref b1), .val (.ref b24), .val (.int zf), .val (.int zt), .val (.int zl), .val (.int z44)] []))
  refine own_go (fun _ k => XS.aload X43.here hx rfl (hb hby at_138) rfl rfl k) ?_
  show own_Ends _ _ _ _ _ _ _ (T43.setTop (mkF m 140 #[.val (.int p0), .val (.int p1), .val (.int p2), .val (.int p3), .val (.int p4), .val (.ref b1), .val (.ref b24), .val (.int zf), .val (.int zt), .val (.int zl), .val (.int z44)] [(.ref b1)]))
  refine own_go (fun _ k => XS.iconst X43.here hx rfl (hb hby at_140) k) ?_
  show own_Ends _ _ _ _ _ _ _ (T43.setTop (mkF m 141 #[.val (.int p0), .val (.int p1), .val (.int p2), .val (.int p3), .val (.int p4), .val (.ref b1), .val (.ref b24), .val (.int zf), .val (.int zt), .val (.int zl), .val (.int z44)] [(.int (4 : Int32)), (.ref b1)]))
  refine own_go (fun _ k => XS.iload X43.here hx rfl (hb hby at_141) rfl k) ?_
  show own_Ends _ _ _ _ _ _ _ (T43.setTop (mkF m 143 #[.val (.int p0), .val (.int p1), .val (.int p2), .val (.int p3), .val (.int p4), .val (.ref b1), .val (.ref b24), .val (.int zf), .val (.int zt), .val (.int zl), .val (.int z44)] [(.int zf), (.int (4 : Int32)), (.ref b1)]))
  refine own_go (fun _ k => XS.iload X43.here hx rfl (hb hby at_143) rfl k) ?_
  show own_Ends _ _ _ _ _ _ _ (T43.setTop (mkF m 145 #[.val (.int p0), .val (.int p1), .val (.int p2), .val (.int p3), .val (.int p4), .val (.ref b1), .val (.ref b24), .val (.int zf), .val (.int zt), .val (.int zl), .val (.int z44)] [(.int zt), (.int zf), (.int (4 : Int32)), (.ref b1)]))
  refine own_go (fun _ k => XS.aload X43.here hx rfl (hb hby at_145) rfl rfl k) ?_
  show own_Ends _ _ _ _ _ _ _ (T43.setTop (mkF m 147 #[.val (.int p0), .val (.int p1), .val (.int p2), .val (.int p3), .val (.int p4), .val (.ref b1), .val (.ref b24), .val (.int zf), .val (.int zt), .val (.int zl), .val (.int z44)] [(.ref b24), (.int zt), (.int zf), (.int (4 : Int32)), (.ref b1)]))
  refine own_go (fun _ k => XS.iload X43.here hx rfl (hb hby at_147) rfl k) ?_
  show own_Ends _ _ _ _ _ _ _ (T43.setTop (mkF m 149 #[.val (.int p0), .val (.int p1), .val (.int p2), .val (.int p3), .val (.int p4), .val (.ref b1), .val (.ref b24), .val (.int zf), .val (.int zt), .val (.int zl), .val (.int z44)] [(.int zl), (.ref b24), (.int zt), (.int zf), (.int (4 : Int32)), (.ref b1)]))
  obtain ⟨_, _, ⟨T47, L47, k47, n47⟩, -, X47, ⟨Lc47, hQ47, l47, y47, z47⟩, st47⟩ := Jvm.LawKit.callS X43 hx (y := (⟨"com/example/octroi/octroi/bench/ConnectionIndexOfPinLaw", "at", "([BIII[BI)Z"⟩ : MethodName)) hown (mvT hZ (hw _ (List.mem_of_getElem? (i := 6) rfl))) (mvT hZ (hw _ (List.mem_of_getElem? (i := 7) rfl))) (mvT hZ (hw _ (List.mem_of_getElem? (i := 3) rfl))) (mvT hZ (hw _ (List.mem_of_getElem? (i := 8) rfl))) (by decide) (backOf (W := 0) (rm2 l Z ar hw [] b1 (4 : Int32) zf zt b24 zl BB MM h39 n0 F40 F41 FMM (by decide) Pzt.2 Pzl) hZ (hw _ (List.mem_of_getElem? (i := 8) rfl)) (hw _ (List.mem_of_getElem? (i := 3) rfl)) (by decide) (by decide)) (g := (mkF m 149 #[.val (.int p0), .val (.int p1), .val (.int p2), .val (.int p3), .val (.int p4), .val (.ref b1), .val (.ref b24), .val (.int zf), .val (.int zt), .val (.int zl), .val (.int z44)] [(.int zl), (.ref b24), (.int zt), (.int zf), (.int (4 : Int32)), (.ref b1)])) rfl (by rw [hml]; rfl) (argsL := [(.ref b1), (.int (4 : Int32)), (.int zf), (.int zt), (.ref b24), (.int zl)]) (rest := []) (lenOf pd0_1 rfl) rfl (by show 2 * 0 + _ ≤ _; exact Nat.le_of_eq rfl) (hb hby at_149) (fun _ _ => ⟨rfl, e43, (by decide : 2 + 0 ≤ _), (by decide : 8 + 0 ≤ _)⟩)
  dsimp only [Pt.U, Pt.locs, Pt.cells, Pt.slots] at X47 l47 y47 z47 st47 hQ47
  subst l47 y47 z47
  obtain ⟨rfl, N47q, eq47⟩ := hQ47
  have e47 : T47.heap = h39 := eq47
  have N47 := Fr.app N43 N47q
  refine own_go (fun _ k => st47 _ k) ?_
  suffices hju4 : ∀ u4 : Int32, u4 = (f2 b1 (4 : Int32) zf zt b24 zl BB MM) → own_Ends p e below s (Q0 Z p0 p1 p2 p3 p4 h0 n0) 16 128 (T47.setTop (mkF m 152 #[.val (.int p0), .val (.int p1), .val (.int p2), .val (.int p3), .val (.int p4), .val (.ref b1), .val (.ref b24), .val (.int zf), .val (.int zt), .val (.int zl), .val (.int z44)] [(.int u4)])) by exact hju4 _ rfl
  intro u4 hu4
  show own_Ends _ _ _ _ _ _ _ (T47.setTop (mkF m 152 #[.val (.int p0), .val (.int p1), .val (.int p2), .val (.int p3), .val (.int p4), .val (.ref b1), .val (.ref b24), .val (.int zf), .val (.int zt), .val (.int zl), .val (.int z44)] [(.int u4)]))
  suffices hj49 : ∀ z48 : Int32, z48 = (if u4 = (0 : Int32) then z44 else (4 : Int32)) → own_Ends p e below s (Q0 Z p0 p1 p2 p3 p4 h0 n0) 16 128 (T47.setTop (mkF m 158 #[.val (.int p0), .val (.int p1), .val (.int p2), .val (.int p3), .val (.int p4), .val (.ref b1), .val (.ref b24), .val (.int zf), .val (.int zt), .val (.int zl), .val (.int z48)] [])) by
    show own_Ends _ _ _ _ _ _ _ (T47.setTop (mkF m 152 #[.val (.int p0), .val (.int p1), .val (.int p2), .val (.int p3), .val (.int p4), .val (.ref b1), .val (.ref b24), .val (.int zf), .val (.int zt), .val (.int zl), .val (.int z44)] [(.int u4)]))
    by_cases hc50 : u4 = (0 : Int32)
    · refine own_go (fun _ k => XS.ifYes X47.here hx rfl (pc0 := 152) (pc' := 158) rfl (hb hby at_152) rfl ((if0 _ _).trans (teq hc50).1) (by decide) (by decide) k) ?_
      exact hj49 _ ((if_pos hc50)).symm
    · refine own_go (fun _ k => XS.ifNo X47.here hx rfl (hb hby at_152) rfl ((if0 _ _).trans (feq hc50).1) k) ?_
      show own_Ends _ _ _ _ _ _ _ (T47.setTop (mkF m 155 #[.val (.int p0), .val (.int p1), .val (.int p2), .val (.int p3), .val (.int p4), .val (.ref b1), .val (.ref b24), .val (.int zf), .val (.int zt), .val (.int zl), .val (.int z44)] []))
      refine own_go (fun _ k => XS.iconst X47.here hx rfl (hb hby at_155) k) ?_
      show own_Ends _ _ _ _ _ _ _ (T47.setTop (mkF m 156 #[.val (.int p0), .val (.int p1), .val (.int p2), .val (.int p3), .val (.int p4), .val (.ref b1), .val (.ref b24), .val (.int zf), .val (.int zt), .val (.int zl), .val (.int z44)] [(.int (4 : Int32))]))
      refine own_go (fun _ k => XS.istore X47.here hx rfl (hb hby at_156) rfl (l' := #[.val (.int p0), .val (.int p1), .val (.int p2), .val (.int p3), .val (.int p4), .val (.ref b1), .val (.ref b24), .val (.int zf), .val (.int zt), .val (.int zl), .val (.int (4 : Int32))]) rfl k) ?_
      exact hj49 _ ((if_neg hc50)).symm
  intro z48 hz48
  show own_Ends _ _ _ _ _ _ _ (T47.setTop (mkF m 158 #[.val (.int p0), .val (.int p1), .val (.int p2), .val (.int p3), .val (.int p4), .val (.ref b1), .val (.ref b24), .val (.int zf), .val (.int zt), .val (.int zl), .val (.int z48)] []))
  refine own_go (fun _ k => XS.aload X47.here hx rfl (hb hby at_158) rfl rfl k) ?_
  show own_Ends _ _ _ _ _ _ _ (T47.setTop (mkF m 160 #[.val (.int p0), .val (.int p1), .val (.int p2), .val (.int p3), .val (.int p4), .val (.ref b1), .val (.ref b24), .val (.int zf), .val (.int zt), .val (.int zl), .val (.int z48)] [(.ref b1)]))
  refine own_go (fun _ k => XS.iconst X47.here hx rfl (hb hby at_160) k) ?_
  show own_Ends _ _ _ _ _ _ _ (T47.setTop (mkF m 161 #[.val (.int p0), .val (.int p1), .val (.int p2), .val (.int p3), .val (.int p4), .val (.ref b1), .val (.ref b24), .val (.int zf), .val (.int zt), .val (.int zl), .val (.int z48)] [(.int (3 : Int32)), (.ref b1)]))
  refine own_go (fun _ k => XS.iload X47.here hx rfl (hb hby at_161) rfl k) ?_
  show own_Ends _ _ _ _ _ _ _ (T47.setTop (mkF m 163 #[.val (.int p0), .val (.int p1), .val (.int p2), .val (.int p3), .val (.int p4), .val (.ref b1), .val (.ref b24), .val (.int zf), .val (.int zt), .val (.int zl), .val (.int z48)] [(.int zf), (.int (3 : Int32)), (.ref b1)]))
  refine own_go (fun _ k => XS.iload X47.here hx rfl (hb hby at_163) rfl k) ?_
  show own_Ends _ _ _ _ _ _ _ (T47.setTop (mkF m 165 #[.val (.int p0), .val (.int p1), .val (.int p2), .val (.int p3), .val (.int p4), .val (.ref b1), .val (.ref b24), .val (.int zf), .val (.int zt), .val (.int zl), .val (.int z48)] [(.int zt), (.int zf), (.int (3 : Int32)), (.ref b1)]))
  refine own_go (fun _ k => XS.aload X47.here hx rfl (hb hby at_165) rfl rfl k) ?_
  show own_Ends _ _ _ _ _ _ _ (T47.setTop (mkF m 167 #[.val (.int p0), .val (.int p1), .val (.int p2), .val (.int p3), .val (.int p4), .val (.ref b1), .val (.ref b24), .val (.int zf), .val (.int zt), .val (.int zl), .val (.int z48)] [(.ref b24), (.int zt), (.int zf), (.int (3 : Int32)), (.ref b1)]))
  refine own_go (fun _ k => XS.iload X47.here hx rfl (hb hby at_167) rfl k) ?_
  show own_Ends _ _ _ _ _ _ _ (T47.setTop (mkF m 169 #[.val (.int p0), .val (.int p1), .val (.int p2), .val (.int p3), .val (.int p4), .val (.ref b1), .val (.ref b24), .val (.int zf), .val (.int zt), .val (.int zl), .val (.int z48)] [(.int zl), (.ref b24), (.int zt), (.int zf), (.int (3 : Int32)), (.ref b1)]))
  obtain ⟨_, _, ⟨T51, L51, k51, n51⟩, -, X51, ⟨Lc51, hQ51, l51, y51, z51⟩, st51⟩ := Jvm.LawKit.callS X47 hx (y := (⟨"com/example/octroi/octroi/bench/ConnectionIndexOfPinLaw", "at", "([BIII[BI)Z"⟩ : MethodName)) hown (mvT hZ (hw _ (List.mem_of_getElem? (i := 6) rfl))) (mvT hZ (hw _ (List.mem_of_getElem? (i := 7) rfl))) (mvT hZ (hw _ (List.mem_of_getElem? (i := 3) rfl))) (mvT hZ (hw _ (List.mem_of_getElem? (i := 8) rfl))) (by decide) (backOf (W := 0) (rm2 l Z ar hw [] b1 (3 : Int32) zf zt b24 zl BB MM h39 n0 F40 F41 FMM (by decide) Pzt.2 Pzl) hZ (hw _ (List.mem_of_getElem? (i := 8) rfl)) (hw _ (List.mem_of_getElem? (i := 3) rfl)) (by decide) (by decide)) (g := (mkF m 169 #[.val (.int p0), .val (.int p1), .val (.int p2), .val (.int p3), .val (.int p4), .val (.ref b1), .val (.ref b24), .val (.int zf), .val (.int zt), .val (.int zl), .val (.int z48)] [(.int zl), (.ref b24), (.int zt), (.int zf), (.int (3 : Int32)), (.ref b1)])) rfl (by rw [hml]; rfl) (argsL := [(.ref b1), (.int (3 : Int32)), (.int zf), (.int zt), (.ref b24), (.int zl)]) (rest := []) (lenOf pd0_1 rfl) rfl (by show 2 * 0 + _ ≤ _; exact Nat.le_of_eq rfl) (hb hby at_169) (fun _ _ => ⟨rfl, e47, (by decide : 2 + 0 ≤ _), (by decide : 8 + 0 ≤ _)⟩)
  dsimp only [Pt.U, Pt.locs, Pt.cells, Pt.slots] at X51 l51 y51 z51 st51 hQ51
  subst l51 y51 z51
  obtain ⟨rfl, N51q, eq51⟩ := hQ51
  have e51 : T51.heap = h39 := eq51
  have N51 := Fr.app N47 N51q
  refine own_go (fun _ k => st51 _ k) ?_
  suffices hju3 : ∀ u3 : Int32, u3 = (f2 b1 (3 : Int32) zf zt b24 zl BB MM) → own_Ends p e below s (Q0 Z p0 p1 p2 p3 p4 h0 n0) 16 128 (T51.setTop (mkF m 172 #[.val (.int p0), .val (.int p1), .val (.int p2), .val (.int p3), .val (.int p4), .val (.ref b1), .val (.ref b24), .val (.int zf), .val (.int zt), .val (.int zl), .val (.int z48)] [(.int u3)])) by exact hju3 _ rfl
  intro u3 hu3
  show own_Ends _ _ _ _ _ _ _ (T51.setTop (mkF m 172 #[.val (.int p0), .val (.int p1), .val (.int p2), .val (.int p3), .val (.int p4), .val (.ref b1), .val (.ref b24), .val (.int zf), .val (.int zt), .val (.int zl), .val (.int z48)] [(.int u3)]))
  suffices hj53 : ∀ z52 : Int32, z52 = (if u3 = (0 : Int32) then z48 else (3 : Int32)) → own_Ends p e below s (Q0 Z p0 p1 p2 p3 p4 h0 n0) 16 128 (T51.setTop (mkF m 178 #[.val (.int p0), .val (.int p1), .val (.int p2), .val (.int p3), .val (.int p4), .val (.ref b1), .val (.ref b24), .val (.int zf), .val (.int zt), .val (.int zl), .val (.int z52)] [])) by
    show own_Ends _ _ _ _ _ _ _ (T51.setTop (mkF m 172 #[.val (.int p0), .val (.int p1), .val (.int p2), .val (.int p3), .val (.int p4), .val (.ref b1), .val (.ref b24), .val (.int zf), .val (.int zt), .val (.int zl), .val (.int z48)] [(.int u3)]))
    by_cases hc54 : u3 = (0 : Int32)
    · refine own_go (fun _ k => XS.ifYes X51.here hx rfl (pc0 := 172) (pc' := 178) rfl (hb hby at_172) rfl ((if0 _ _).trans (teq hc54).1) (by decide) (by decide) k) ?_
      exact hj53 _ ((if_pos hc54)).symm
    · refine own_go (fun _ k => XS.ifNo X51.here hx rfl (hb hby at_172) rfl ((if0 _ _).trans (feq hc54).1) k) ?_
      show own_Ends _ _ _ _ _ _ _ (T51.setTop (mkF m 175 #[.val (.int p0), .val (.int p1), .val (.int p2), .val (.int p3), .val (.int p4), .val (.ref b1), .val (.ref b24), .val (.int zf), .val (.int zt), .val (.int zl), .val (.int z48)] []))
      refine own_go (fun _ k => XS.iconst X51.here hx rfl (hb hby at_175) k) ?_
      show own_Ends _ _ _ _ _ _ _ (T51.setTop (mkF m 176 #[.val (.int p0), .val (.int p1), .val (.int p2), .val (.int p3), .val (.int p4), .val (.ref b1), .val (.ref b24), .val (.int zf), .val (.int zt), .val (.int zl), .val (.int z48)] [(.int (3 : Int32))]))
      refine own_go (fun _ k => XS.istore X51.here hx rfl (hb hby at_176) rfl (l' := #[.val (.int p0), .val (.int p1), .val (.int p2), .val (.int p3), .val (.int p4), .val (.ref b1), .val (.ref b24), .val (.int zf), .val (.int zt), .val (.int zl), .val (.int (3 : Int32))]) rfl k) ?_
      exact hj53 _ ((if_neg hc54)).symm
  intro z52 hz52
  show own_Ends _ _ _ _ _ _ _ (T51.setTop (mkF m 178 #[.val (.int p0), .val (.int p1), .val (.int p2), .val (.int p3), .val (.int p4), .val (.ref b1), .val (.ref b24), .val (.int zf), .val (.int zt), .val (.int zl), .val (.int z52)] []))
  refine own_go (fun _ k => XS.aload X51.here hx rfl (hb hby at_178) rfl rfl k) ?_
  show own_Ends _ _ _ _ _ _ _ (T51.setTop (mkF m 180 #[.val (.int p0), .val (.int p1), .val (.int p2), .val (.int p3), .val (.int p4), .val (.ref b1), .val (.ref b24), .val (.int zf), .val (.int zt), .val (.int zl), .val (.int z52)] [(.ref b1)]))
  refine own_go (fun _ k => XS.iconst X51.here hx rfl (hb hby at_180) k) ?_
  show own_Ends _ _ _ _ _ _ _ (T51.setTop (mkF m 181 #[.val (.int p0), .val (.int p1), .val (.int p2), .val (.int p3), .val (.int p4), .val (.ref b1), .val (.ref b24), .val (.int zf), .val (.int zt), .val (.int zl), .val (.int z52)] [(.int (2 : Int32)), (.ref b1)]))
  refine own_go (fun _ k => XS.iload X51.here hx rfl (hb hby at_181) rfl k) ?_
  show own_Ends _ _ _ _ _ _ _ (T51.setTop (mkF m 183 #[.val (.int p0), .val (.int p1), .val (.int p2), .val (.int p3), .val (.int p4), .val (.ref b1), .val (.ref b24), .val (.int zf), .val (.int zt), .val (.int zl), .val (.int z52)] [(.int zf), (.int (2 : Int32)), (.ref b1)]))
  refine own_go (fun _ k => XS.iload X51.here hx rfl (hb hby at_183) rfl k) ?_
  show own_Ends _ _ _ _ _ _ _ (T51.setTop (mkF m 185 #[.val (.int p0), .val (.int p1), .val (.int p2), .val (.int p3), .val (.int p4), .val (.ref b1), .val (.ref b24), .val (.int zf), .val (.int zt), .val (.int zl), .val (.int z52)] [(.int zt), (.int zf), (.int (2 : Int32)), (.ref b1)]))
  refine own_go (fun _ k => XS.aload X51.here hx rfl (hb hby at_185) rfl rfl k) ?_
  show own_Ends _ _ _ _ _ _ _ (T51.setTop (mkF m 187 #[.val (.int p0), .val (.int p1), .val (.int p2), .val (.int p3), .val (.int p4), .val (.ref b1), .val (.ref b24), .val (.int zf), .val (.int zt), .val (.int zl), .val (.int z52)] [(.ref b24), (.int zt), (.int zf), (.int (2 : Int32)), (.ref b1)]))
  refine own_go (fun _ k => XS.iload X51.here hx rfl (hb hby at_187) rfl k) ?_
  show own_Ends _ _ _ _ _ _ _ (T51.setTop (mkF m 189 #[.val (.int p0), .val (.int p1), .val (.int p2), .val (.int p3), .val (.int p4), .val (.ref b1), .val (.ref b24), .val (.int zf), .val (.int zt), .val (.int zl), .val (.int z52)] [(.int zl), (.ref b24), (.int zt), (.int zf), (.int (2 : Int32)), (.ref b1)]))
  obtain ⟨_, _, ⟨T55, L55, k55, n55⟩, -, X55, ⟨Lc55, hQ55, l55, y55, z55⟩, st55⟩ := Jvm.LawKit.callS X51 hx (y := (⟨"com/example/octroi/octroi/bench/ConnectionIndexOfPinLaw", "at", "([BIII[BI)Z"⟩ : MethodName)) hown (mvT hZ (hw _ (List.mem_of_getElem? (i := 6) rfl))) (mvT hZ (hw _ (List.mem_of_getElem? (i := 7) rfl))) (mvT hZ (hw _ (List.mem_of_getElem? (i := 3) rfl))) (mvT hZ (hw _ (List.mem_of_getElem? (i := 8) rfl))) (by decide) (backOf (W := 0) (rm2 l Z ar hw [] b1 (2 : Int32) zf zt b24 zl BB MM h39 n0 F40 F41 FMM (by decide) Pzt.2 Pzl) hZ (hw _ (List.mem_of_getElem? (i := 8) rfl)) (hw _ (List.mem_of_getElem? (i := 3) rfl)) (by decide) (by decide)) (g := (mkF m 189 #[.val (.int p0), .val (.int p1), .val (.int p2), .val (.int p3), .val (.int p4), .val (.ref b1), .val (.ref b24), .val (.int zf), .val (.int zt), .val (.int zl), .val (.int z52)] [(.int zl), (.ref b24), (.int zt), (.int zf), (.int (2 : Int32)), (.ref b1)])) rfl (by rw [hml]; rfl) (argsL := [(.ref b1), (.int (2 : Int32)), (.int zf), (.int zt), (.ref b24), (.int zl)]) (rest := []) (lenOf pd0_1 rfl) rfl (by show 2 * 0 + _ ≤ _; exact Nat.le_of_eq rfl) (hb hby at_189) (fun _ _ => ⟨rfl, e51, (by decide : 2 + 0 ≤ _), (by decide : 8 + 0 ≤ _)⟩)
  dsimp only [Pt.U, Pt.locs, Pt.cells, Pt.slots] at X55 l55 y55 z55 st55 hQ55
  subst l55 y55 z55
  obtain ⟨rfl, N55q, eq55⟩ := hQ55
  have e55 : T55.heap = h39 := eq55
  have N55 := Fr.app N51 N55q
  refine own_go (fun _ k => st55 _ k) ?_
  suffices hju2 : ∀ u2 : Int32, u2 = (f2 b1 (2 : Int32) zf zt b24 zl BB MM) → own_Ends p e below s (Q0 Z p0 p1 p2 p3 p4 h0 n0) 16 128 (T55.setTop (mkF m 192 #[.val (.int p0), .val (.int p1), .val (.int p2), .val (.int p3), .val (.int p4), .val (.ref b1), .val (.ref b24), .val (.int zf), .val (.int zt), .val (.int zl), .val (.int z52)] [(.int u2)])) by exact hju2 _ rfl
  intro u2 hu2
  show own_Ends _ _ _ _ _ _ _ (T55.setTop (mkF m 192 #[.val (.int p0), .val (.int p1), .val (.int p2), .val (.int p3), .val (.int p4), .val (.ref b1), .val (.ref b24), .val (.int zf), .val (.int zt), .val (.int zl), .val (.int z52)] [(.int u2)]))
  suffices hj57 : ∀ z56 : Int32, z56 = (if u2 = (0 : Int32) then z52 else (2 : Int32)) → own_Ends p e below s (Q0 Z p0 p1 p2 p3 p4 h0 n0) 16 128 (T55.setTop (mkF m 198 #[.val (.int p0), .val (.int p1), .val (.int p2), .val (.int p3), .val (.int p4), .val (.ref b1), .val (.ref b24), .val (.int zf), .val (.int zt), .val (.int zl), .val (.int z56)] [])) by
    show own_Ends _ _ _ _ _ _ _ (T55.setTop (mkF m 192 #[.val (.int p0), .val (.int p1), .val (.int p2), .val (.int p3), .val (.int p4), .val (.ref b1), .val (.ref b24), .val (.int zf), .val (.int zt), .val (.int zl), .val (.int z52)] [(.int u2)]))
    by_cases hc58 : u2 = (0 : Int32)
    · refine own_go (fun _ k => XS.ifYes X55.here hx rfl (pc0 := 192) (pc' := 198) rfl (hb hby at_192) rfl ((if0 _ _).trans (teq hc58).1) (by decide) (by decide) k) ?_
      exact hj57 _ ((if_pos hc58)).symm
    · refine own_go (fun _ k => XS.ifNo X55.here hx rfl (hb hby at_192) rfl ((if0 _ _).trans (feq hc58).1) k) ?_
      show own_Ends _ _ _ _ _ _ _ (T55.setTop (mkF m 195 #[.val (.int p0), .val (.int p1), .val (.int p2), .val (.int p3), .val (.int p4), .val (.ref b1), .val (.ref b24), .val (.int zf), .val (.int zt), .val (.int zl), .val (.int z52)] []))
      refine own_go (fun _ k => XS.iconst X55.here hx rfl (hb hby at_195) k) ?_
      show own_Ends _ _ _ _ _ _ _ (T55.setTop (mkF m 196 #[.val (.int p0), .val (.int p1), .val (.int p2), .val (.int p3), .val (.int p4), .val (.ref b1), .val (.ref b24), .val (.int zf), .val (.int zt), .val (.int zl), .val (.int z52)] [(.int (2 : Int32))]))
      refine own_go (fun _ k => XS.istore X55.here hx rfl (hb hby at_196) rfl (l' := #[.val (.int p0), .val (.int p1), .val (.int p2), .val (.int p3), .val (.int p4), .val (.ref b1), .val (.ref b24), .val (.int zf), .val (.int zt), .val (.int zl), .val (.int (2 : Int32))]) rfl k) ?_
      exact hj57 _ ((if_neg hc58)).symm
  intro z56 hz56
  show own_Ends _ _ _ _ _ _ _ (T55.setTop (mkF m 198 #[.val (.int p0), .val (.int p1), .val (.int p2), .val (.int p3), .val (.int p4), .val (.ref b1), .val (.ref b24), .val (.int zf), .val (.int zt), .val (.int zl), .val (.int z56)] []))
  refine own_go (fun _ k => XS.aload X55.here hx rfl (hb hby at_198) rfl rfl k) ?_
  show own_Ends _ _ _ _ _ _ _ (T55.setTop (mkF m 200 #[.val (.int p0), .val (.int p1), .val (.int p2), .val (.int p3), .val (.int p4), .val (.ref b1), .val (.ref b24), .val (.int zf), .val (.int zt), .val (.int zl), .val (.int z56)] [(.ref b1)]))
  refine own_go (fun _ k => XS.iconst X55.here hx rfl (hb hby at_200) k) ?_
  show own_Ends _ _ _ _ _ _ _ (T55.setTop (mkF m 201 #[.val (.int p0), .val (.int p1), .val (.int p2), .val (.int p3), .val (.int p4), .val (.ref b1), .val (.ref b24), .val (.int zf), .val (.int zt), .val (.int zl), .val (.int z56)] [(.int (1 : Int32)), (.ref b1)]))
  refine own_go (fun _ k => XS.iload X55.here hx rfl (hb hby at_201) rfl k) ?_
  show own_Ends _ _ _ _ _ _ _ (T55.setTop (mkF m 203 #[.val (.int p0), .val (.int p1), .val (.int p2), .val (.int p3), .val (.int p4), .val (.ref b1), .val (.ref b24), .val (.int zf), .val (.int zt), .val (.int zl), .val (.int z56)] [(.int zf), (.int (1 : Int32)), (.ref b1)]))
  refine own_go (fun _ k => XS.iload X55.here hx rfl (hb hby at_203) rfl k) ?_
  show own_Ends _ _ _ _ _ _ _ (T55.setTop (mkF m 205 #[.val (.int p0), .val (.int p1), .val (.int p2), .val (.int p3), .val (.int p4), .val (.ref b1), .val (.ref b24), .val (.int zf), .val (.int zt), .val (.int zl), .val (.int z56)] [(.int zt), (.int zf), (.int (1 : Int32)), (.ref b1)]))
  refine own_go (fun _ k => XS.aload X55.here hx rfl (hb hby at_205) rfl rfl k) ?_
  show own_Ends _ _ _ _ _ _ _ (T55.setTop (mkF m 207 #[.val (.int p0), .val (.int p1), .val (.int p2), .val (.int p3), .val (.int p4), .val (.ref b1), .val (.ref b24), .val (.int zf), .val (.int zt), .val (.int zl), .val (.int z56)] [(.ref b24), (.int zt), (.int zf), (.int (1 : Int32)), (.ref b1)]))
  refine own_go (fun _ k => XS.iload X55.here hx rfl (hb hby at_207) rfl k) ?_
  show own_Ends _ _ _ _ _ _ _ (T55.setTop (mkF m 209 #[.val (.int p0), .val (.int p1), .val (.int p2), .val (.int p3), .val (.int p4), .val (.ref b1), .val (.ref b24), .val (.int zf), .val (.int zt), .val (.int zl), .val (.int z56)] [(.int zl), (.ref b24), (.int zt), (.int zf), (.int (1 : Int32)), (.ref b1)]))
  obtain ⟨_, _, ⟨T59, L59, k59, n59⟩, -, X59, ⟨Lc59, hQ59, l59, y59, z59⟩, st59⟩ := Jvm.LawKit.callS X55 hx (y := (⟨"com/example/octroi/octroi/bench/ConnectionIndexOfPinLaw", "at", "([BIII[BI)Z"⟩ : MethodName)) hown (mvT hZ (hw _ (List.mem_of_getElem? (i := 6) rfl))) (mvT hZ (hw _ (List.mem_of_getElem? (i := 7) rfl))) (mvT hZ (hw _ (List.mem_of_getElem? (i := 3) rfl))) (mvT hZ (hw _ (List.mem_of_getElem? (i := 8) rfl))) (by decide) (backOf (W := 0) (rm2 l Z ar hw [] b1 (1 : Int32) zf zt b24 zl BB MM h39 n0 F40 F41 FMM (by decide) Pzt.2 Pzl) hZ (hw _ (List.mem_of_getElem? (i := 8) rfl)) (hw _ (List.mem_of_getElem? (i := 3) rfl)) (by decide) (by decide)) (g := (mkF m 209 #[.val (.int p0), .val (.int p1), .val (.int p2), .val (.int p3), .val (.int p4), .val (.ref b1), .val (.ref b24), .val (.int zf), .val (.int zt), .val (.int zl), .val (.int z56)] [(.int zl), (.ref b24), (.int zt), (.int zf), (.int (1 : Int32)), (.ref b1)])) rfl (by rw [hml]; rfl) (argsL := [(.ref b1), (.int (1 : Int32)), (.int zf), (.int zt), (.ref b24), (.int zl)]) (rest := []) (lenOf pd0_1 rfl) rfl (by show 2 * 0 + _ ≤ _; exact Nat.le_of_eq rfl) (hb hby at_209) (fun _ _ => ⟨rfl, e55, (by decide : 2 + 0 ≤ _), (by decide : 8 + 0 ≤ _)⟩)
  dsimp only [Pt.U, Pt.locs, Pt.cells, Pt.slots] at X59 l59 y59 z59 st59 hQ59
  subst l59 y59 z59
  obtain ⟨rfl, N59q, eq59⟩ := hQ59
  have e59 : T59.heap = h39 := eq59
  have N59 := Fr.app N55 N59q
  refine own_go (fun _ k => st59 _ k) ?_
  suffices hju1 : ∀ u1 : Int32, u1 = (f2 b1 (1 : Int32) zf zt b24 zl BB MM) → own_Ends p e below s (Q0 Z p0 p1 p2 p3 p4 h0 n0) 16 128 (T59.setTop (mkF m 212 #[.val (.int p0), .val (.int p1), .val (.int p2), .val (.int p3), .val (.int p4), .val (.ref b1), .val (.ref b24), .val (.int zf), .val (.int zt), .val (.int zl), .val (.int z56)] [(.int u1)])) by exact hju1 _ rfl
  intro u1 hu1
  show own_Ends _ _ _ _ _ _ _ (T59.setTop (mkF m 212 #[.val (.int p0), .val (.int p1), .val (.int p2), .val (.int p3), .val (.int p4), .val (.ref b1), .val (.ref b24), .val (.int zf), .val (.int zt), .val (.int zl), .val (.int z56)] [(.int u1)]))
  suffices hj61 : ∀ z60 : Int32, z60 = (if u1 = (0 : Int32) then z56 else (1 : Int32)) → own_Ends p e below s (Q0 Z p0 p1 p2 p3 p4 h0 n0) 16 128 (T59.setTop (mkF m 218 #[.val (.int p0), .val (.int p1), .val (.int p2), .val (.int p3), .val (.int p4), .val (.ref b1), .val (.ref b24), .val (.int zf), .val (.int zt), .val (.int zl), .val (.int z60)] [])) by
    show own_Ends _ _ _ _ _ _ _ (T59.setTop (mkF m 212 #[.val (.int p0), .val (.int p1), .val (.int p2), .val (.int p3), .val (.int p4), .val (.ref b1), .val (.ref b24), .val (.int zf), .val (.int zt), .val (.int zl), .val (.int z56)] [(.int u1)]))
    by_cases hc62 : u1 = (0 : Int32)
    · refine own_go (fun _ k => XS.ifYes X59.here hx rfl (pc0 := 212) (pc' := 218) rfl (hb hby at_212) rfl ((if0 _ _).trans (teq hc62).1) (by decide) (by decide) k) ?_
      exact hj61 _ ((if_pos hc62)).symm
    · refine own_go (fun _ k => XS.ifNo X59.here hx rfl (hb hby at_212) rfl ((if0 _ _).trans (feq hc62).1) k) ?_
      show own_Ends _ _ _ _ _ _ _ (T59.setTop (mkF m 215 #[.val (.int p0), .val (.int p1), .val (.int p2), .val (.int p3), .val (.int p4), .val (.ref b1), .val (.ref b24), .val (.int zf), .val (.int zt), .val (.int zl), .val (.int z56)] []))
      refine own_go (fun _ k => XS.iconst X59.here hx rfl (hb hby at_215) k) ?_
      show own_Ends _ _ _ _ _ _ _ (T59.setTop (mkF m 216 #[.val (.int p0), .val (.int p1), .val (.int p2), .val (.int p3), .val (.int p4), .val (.ref b1), .val (.ref b24), .val (.int zf), .val (.int zt), .val (.int zl), .val (.int z56)] [(.int (1 : Int32))]))
      refine own_go (fun _ k => XS.istore X59.here hx rfl (hb hby at_216) rfl (l' := #[.val (.int p0), .val (.int p1), .val (.int p2), .val (.int p3), .val (.int p4), .val (.ref b1), .val (.ref b24), .val (.int zf), .val (.int zt), .val (.int zl), .val (.int (1 : Int32))]) rfl k) ?_
      exact hj61 _ ((if_neg hc62)).symm
  intro z60 hz60
  show own_Ends _ _ _ _ _ _ _ (T59.setTop (mkF m 218 #[.val (.int p0), .val (.int p1), .val (.int p2), .val (.int p3), .val (.int p4), .val (.ref b1), .val (.ref b24), .val (.int zf), .val (.int zt), .val (.int zl), .val (.int z60)] []))
  refine own_go (fun _ k => XS.aload X59.here hx rfl (hb hby at_218) rfl rfl k) ?_
  show own_Ends _ _ _ _ _ _ _ (T59.setTop (mkF m 220 #[.val (.int p0), .val (.int p1), .val (.int p2), .val (.int p3), .val (.int p4), .val (.ref b1), .val (.ref b24), .val (.int zf), .val (.int zt), .val (.int zl), .val (.int z60)] [(.ref b1)]))
  refine own_go (fun _ k => XS.iconst X59.here hx rfl (hb hby at_220) k) ?_
  show own_Ends _ _ _ _ _ _ _ (T59.setTop (mkF m 221 #[.val (.int p0), .val (.int p1), .val (.int p2), .val (.int p3), .val (.int p4), .val (.ref b1), .val (.ref b24), .val (.int zf), .val (.int zt), .val (.int zl), .val (.int z60)] [(.int (0 : Int32)), (.ref b1)]))
  refine own_go (fun _ k => XS.iload X59.here hx rfl (hb hby at_221) rfl k) ?_
  show own_Ends _ _ _ _ _ _ _ (T59.setTop (mkF m 223 #[.val (.int p0), .val (.int p1), .val (.int p2), .val (.int p3), .val (.int p4), .val (.ref b1), .val (.ref b24), .val (.int zf), .val (.int zt), .val (.int zl), .val (.int z60)] [(.int zf), (.int (0 : Int32)), (.ref b1)]))
  refine own_go (fun _ k => XS.iload X59.here hx rfl (hb hby at_223) rfl k) ?_
  show own_Ends _ _ _ _ _ _ _ (T59.setTop (mkF m 225 #[.val (.int p0), .val (.int p1), .val (.int p2), .val (.int p3), .val (.int p4), .val (.ref b1), .val (.ref b24), .val (.int zf), .val (.int zt), .val (.int zl), .val (.int z60)] [(.int zt), (.int zf), (.int (0 : Int32)), (.ref b1)]))
  refine own_go (fun _ k => XS.aload X59.here hx rfl (hb hby at_225) rfl rfl k) ?_
  show own_Ends _ _ _ _ _ _ _ (T59.setTop (mkF m 227 #[.val (.int p0), .val (.int p1), .val (.int p2), .val (.int p3), .val (.int p4), .val (.ref b1), .val (.ref b24), .val (.int zf), .val (.int zt), .val (.int zl), .val (.int z60)] [(.ref b24), (.int zt), (.int zf), (.int (0 : Int32)), (.ref b1)]))
  refine own_go (fun _ k => XS.iload X59.here hx rfl (hb hby at_227) rfl k) ?_
  show own_Ends _ _ _ _ _ _ _ (T59.setTop (mkF m 229 #[.val (.int p0), .val (.int p1), .val (.int p2), .val (.int p3), .val (.int p4), .val (.ref b1), .val (.ref b24), .val (.int zf), .val (.int zt), .val (.int zl), .val (.int z60)] [(.int zl), (.ref b24), (.int zt), (.int zf), (.int (0 : Int32)), (.ref b1)]))
  obtain ⟨_, _, ⟨T63, L63, k63, n63⟩, -, X63, ⟨Lc63, hQ63, l63, y63, z63⟩, st63⟩ := Jvm.LawKit.callS X59 hx (y := (⟨"com/example/octroi/octroi/bench/ConnectionIndexOfPinLaw", "at", "([BIII[BI)Z"⟩ : MethodName)) hown (mvT hZ (hw _ (List.mem_of_getElem? (i := 6) rfl))) (mvT hZ (hw _ (List.mem_of_getElem? (i := 7) rfl))) (mvT hZ (hw _ (List.mem_of_getElem? (i := 3) rfl))) (mvT hZ (hw _ (List.mem_of_getElem? (i := 8) rfl))) (by decide) (backOf (W := 0) (rm2 l Z ar hw [] b1 (0 : Int32) zf zt b24 zl BB MM h39 n0 F40 F41 FMM (by decide) Pzt.2 Pzl) hZ (hw _ (List.mem_of_getElem? (i := 8) rfl)) (hw _ (List.mem_of_getElem? (i := 3) rfl)) (by decide) (by decide)) (g := (mkF m 229 #[.val (.int p0), .val (.int p1), .val (.int p2), .val (.int p3), .val (.int p4), .val (.ref b1), .val (.ref b24), .val (.int zf), .val (.int zt), .val (.int zl), .val (.int z60)] [(.int zl), (.ref b24), (.int zt), (.int zf), (.int (0 : Int32)), (.ref b1)])) rfl (by rw [hml]; rfl) (argsL := [(.ref b1), (.int (0 : Int32)), (.int zf), (.int zt), (.ref b24), (.int zl)]) (rest := []) (lenOf pd0_1 rfl) rfl (by show 2 * 0 + _ ≤ _; exact Nat.le_of_eq rfl) (hb hby at_229) (fun _ _ => ⟨rfl, e59, (by decide : 2 + 0 ≤ _), (by decide : 8 + 0 ≤ _)⟩)
  dsimp only [Pt.U, Pt.locs, Pt.cells, Pt.slots] at X63 l63 y63 z63 st63 hQ63
  subst l63 y63 z63
  obtain ⟨rfl, N63q, eq63⟩ := hQ63
  have e63 : T63.heap = h39 := eq63
  have N63 := Fr.app N59 N63q
  refine own_go (fun _ k => st63 _ k) ?_
  suffices hju0 : ∀ u0 : Int32, u0 = (f2 b1 (0 : Int32) zf zt b24 zl BB MM) → own_Ends p e below s (Q0 Z p0 p1 p2 p3 p4 h0 n0) 16 128 (T63.setTop (mkF m 232 #[.val (.int p0), .val (.int p1), .val (.int p2), .val (.int p3), .val (.int p4), .val (.ref b1), .val (.ref b24), .val (.int zf), .val (.int zt), .val (.int zl), .val (.int z60)] [(.int u0)])) by exact hju0 _ rfl
  intro u0 hu0
  show own_Ends _ _ _ _ _ _ _ (T63.setTop (mkF m 232 #[.val (.int p0), .val (.int p1), .val (.int p2), .val (.int p3), .val (.int p4), .val (.ref b1), .val (.ref b24), .val (.int zf), .val (.int zt), .val (.int zl), .val (.int z60)] [(.int u0)]))
  suffices hj65 : ∀ z64 : Int32, z64 = (if u0 = (0 : Int32) then z60 else (0 : Int32)) → own_Ends p e below s (Q0 Z p0 p1 p2 p3 p4 h0 n0) 16 128 (T63.setTop (mkF m 238 #[.val (.int p0), .val (.int p1), .val (.int p2), .val (.int p3), .val (.int p4), .val (.ref b1), .val (.ref b24), .val (.int zf), .val (.int zt), .val (.int zl), .val (.int z64)] [])) by
    show own_Ends _ _ _ _ _ _ _ (T63.setTop (mkF m 232 #[.val (.int p0), .val (.int p1), .val (.int p2), .val (.int p3), .val (.int p4), .val (.ref b1), .val (.ref b24), .val (.int zf), .val (.int zt), .val (.int zl), .val (.int z60)] [(.int u0)]))
    by_cases hc66 : u0 = (0 : Int32)
    · refine own_go (fun _ k => XS.ifYes X63.here hx rfl (pc0 := 232) (pc' := 238) rfl (hb hby at_232) rfl ((if0 _ _).trans (teq hc66).1) (by decide) (by decide) k) ?_
      exact hj65 _ ((if_pos hc66)).symm
    · refine own_go (fun _ k => XS.ifNo X63.here hx rfl (hb hby at_232) rfl ((if0 _ _).trans (feq hc66).1) k) ?_
      show own_Ends _ _ _ _ _ _ _ (T63.setTop (mkF m 235 #[.val (.int p0), .val (.int p1), .val (.int p2), .val (.int p3), .val (.int p4), .val (.ref b1), .val (.ref b24), .val (.int zf), .val (.int zt), .val (.int zl), .val (.int z60)] []))
      refine own_go (fun _ k => XS.iconst X63.here hx rfl (hb hby at_235) k) ?_
      show own_Ends _ _ _ _ _ _ _ (T63.setTop (mkF m 236 #[.val (.int p0), .val (.int p1), .val (.int p2), .val (.int p3), .val (.int p4), .val (.ref b1), .val (.ref b24), .val (.int zf), .val (.int zt), .val (.int zl), .val (.int z60)] [(.int (0 : Int32))]))
      refine own_go (fun _ k => XS.istore X63.here hx rfl (hb hby at_236) rfl (l' := #[.val (.int p0), .val (.int p1), .val (.int p2), .val (.int p3), .val (.int p4), .val (.ref b1), .val (.ref b24), .val (.int zf), .val (.int zt), .val (.int zl), .val (.int (0 : Int32))]) rfl k) ?_
      exact hj65 _ ((if_neg hc66)).symm
  intro z64 hz64
  show own_Ends _ _ _ _ _ _ _ (T63.setTop (mkF m 238 #[.val (.int p0), .val (.int p1), .val (.int p2), .val (.int p3), .val (.int p4), .val (.ref b1), .val (.ref b24), .val (.int zf), .val (.int zt), .val (.int zl), .val (.int z64)] []))
  refine own_go (fun _ k => XS.aload X63.here hx rfl (hb hby at_238) rfl rfl k) ?_
  show own_Ends _ _ _ _ _ _ _ (T63.setTop (mkF m 240 #[.val (.int p0), .val (.int p1), .val (.int p2), .val (.int p3), .val (.int p4), .val (.ref b1), .val (.ref b24), .val (.int zf), .val (.int zt), .val (.int zl), .val (.int z64)] [(.ref b1)]))
  refine own_go (fun _ k => XS.iload X63.here hx rfl (hb hby at_240) rfl k) ?_
  show own_Ends _ _ _ _ _ _ _ (T63.setTop (mkF m 242 #[.val (.int p0), .val (.int p1), .val (.int p2), .val (.int p3), .val (.int p4), .val (.ref b1), .val (.ref b24), .val (.int zf), .val (.int zt), .val (.int zl), .val (.int z64)] [(.int zf), (.ref b1)]))
  refine own_go (fun _ k => XS.iload X63.here hx rfl (hb hby at_242) rfl k) ?_
  show own_Ends _ _ _ _ _ _ _ (T63.setTop (mkF m 244 #[.val (.int p0), .val (.int p1), .val (.int p2), .val (.int p3), .val (.int p4), .val (.ref b1), .val (.ref b24), .val (.int zf), .val (.int zt), .val (.int zl), .val (.int z64)] [(.int zt), (.int zf), (.ref b1)]))
  refine own_go (fun _ k => XS.aload X63.here hx rfl (hb hby at_244) rfl rfl k) ?_
  show own_Ends _ _ _ _ _ _ _ (T63.setTop (mkF m 246 #[.val (.int p0), .val (.int p1), .val (.int p2), .val (.int p3), .val (.int p4), .val (.ref b1), .val (.ref b24), .val (.int zf), .val (.int zt), .val (.int zl), .val (.int z64)] [(.ref b24), (.int zt), (.int zf), (.ref b1)]))
  refine own_go (fun _ k => XS.iload X63.here hx rfl (hb hby at_246) rfl k) ?_
  show own_Ends _ _ _ _ _ _ _ (T63.setTop (mkF m 248 #[.val (.int p0), .val (.int p1), .val (.int p2), .val (.int p3), .val (.int p4), .val (.ref b1), .val (.ref b24), .val (.int zf), .val (.int zt), .val (.int zl), .val (.int z64)] [(.int zl), (.ref b24), (.int zt), (.int zf), (.ref b1)]))
  obtain ⟨_, _, ⟨T67, L67, k67, n67⟩, -, X67, ⟨Lc67, hQ67, l67, y67, z67⟩, st67⟩ := Jvm.LawKit.callS X63 hx (y := (⟨"com/example/octroi/octroi/bench/Connection", "indexOf", "([BII[BI)I"⟩ : MethodName)) hown (mvT hZ (hw _ (List.mem_of_getElem? (i := 9) rfl))) (mvT hZ (hw _ (List.mem_of_getElem? (i := 10) rfl))) (mvT hZ (hw _ (List.mem_of_getElem? (i := 11) rfl))) (mvT hZ (hw _ (List.mem_of_getElem? (i := 12) rfl))) (by decide) (backOf (W := 0) (rm3 l Z ar hw [] b1 zf zt b24 zl BB MM (zf.toInt.toNat) (zt.toInt.toNat) (zl.toInt.toNat) h39 n0 F40 F41 FMM (own_nat Pzf.1) (own_nat Pzt.1) (own_nat Pzl.1) (own_le5 Pzf) (own_le5 Pzt) (own_le3 Pzl)) hZ (hw _ (List.mem_of_getElem? (i := 12) rfl)) (hw _ (List.mem_of_getElem? (i := 11) rfl)) (by decide) (by decide)) (g := (mkF m 248 #[.val (.int p0), .val (.int p1), .val (.int p2), .val (.int p3), .val (.int p4), .val (.ref b1), .val (.ref b24), .val (.int zf), .val (.int zt), .val (.int zl), .val (.int z64)] [(.int zl), (.ref b24), (.int zt), (.int zf), (.ref b1)])) rfl (by rw [hml]; rfl) (argsL := [(.ref b1), (.int zf), (.int zt), (.ref b24), (.int zl)]) (rest := []) (lenOf pd0_2 rfl) rfl (by show 2 * 0 + _ ≤ _; exact Nat.le_of_eq rfl) (hb hby at_248) (fun _ _ => ⟨rfl, e63, (by decide : 2 + 0 ≤ _), (by decide : 8 + 0 ≤ _)⟩)
  dsimp only [Pt.U, Pt.locs, Pt.cells, Pt.slots] at X67 l67 y67 z67 st67 hQ67
  subst l67 y67 z67
  obtain ⟨r67, rfl, hr67, N67q, eq67⟩ := hQ67
  have e67 : T67.heap = h39 := eq67
  have N67 := Fr.app N63 N67q
  refine own_go (fun _ k => st67 _ k) ?_
  show own_Ends _ _ _ _ _ _ _ (T67.setTop (mkF m 251 #[.val (.int p0), .val (.int p1), .val (.int p2), .val (.int p3), .val (.int p4), .val (.ref b1), .val (.ref b24), .val (.int zf), .val (.int zt), .val (.int zl), .val (.int z64)] [(.int r67)]))
  refine own_go (fun _ k => XS.iload X67.here hx rfl (hb hby at_251) rfl k) ?_
  show own_Ends _ _ _ _ _ _ _ (T67.setTop (mkF m 253 #[.val (.int p0), .val (.int p1), .val (.int p2), .val (.int p3), .val (.int p4), .val (.ref b1), .val (.ref b24), .val (.int zf), .val (.int zt), .val (.int zl), .val (.int z64)] [(.int z64), (.int r67)]))
  refine own_go (fun _ k => XS.icmpNo X67.here hx rfl (hb hby at_253) rfl (teq (own_final Pzf Pzt Pzl hu5 hu4 hu3 hu2 hu1 hu0 hz44 hz48 hz52 hz56 hz60 hz64 hr67)).2 k) ?_
  show own_Ends _ _ _ _ _ _ _ (T67.setTop (mkF m 256 #[.val (.int p0), .val (.int p1), .val (.int p2), .val (.int p3), .val (.int p4), .val (.ref b1), .val (.ref b24), .val (.int zf), .val (.int zt), .val (.int zl), .val (.int z64)] []))
  refine own_go (fun _ k => XS.iconst X67.here hx rfl (hb hby at_256) k) ?_
  show own_Ends _ _ _ _ _ _ _ (T67.setTop (mkF m 257 #[.val (.int p0), .val (.int p1), .val (.int p2), .val (.int p3), .val (.int p4), .val (.ref b1), .val (.ref b24), .val (.int zf), .val (.int zt), .val (.int zl), .val (.int z64)] [(.int (1 : Int32))]))
  refine own_go (fun _ k => XS.goto X67.here hx rfl (pc0 := 257) (pc' := 261) rfl (hb hby at_257) (by decide) (by decide) k) ?_
  show own_Ends _ _ _ _ _ _ _ (T67.setTop (mkF m 261 #[.val (.int p0), .val (.int p1), .val (.int p2), .val (.int p3), .val (.int p4), .val (.ref b1), .val (.ref b24), .val (.int zf), .val (.int zt), .val (.int zl), .val (.int z64)] [(.int (1 : Int32))]))
  exact own_retN X67 hx hlk (t := .boolean) Bd.returns (by simp) (hb hby at_261) (by decide) (by decide) ⟨rfl, N67⟩
set_option maxRecDepth 65536 in
set_option maxHeartbeats 40000000 in
theorem comes_1 {Post : Tables → Env → Array Value → State → Outcome → State → Prop} (hpost : ∀ tb e args s v u, (limb_1_1.after args s (.returned v) u = true ∧ limb_1_2.after args s (.returned v) u = true ∧ True) → FrameEnd s (.returned v) u (Jvm.fieldLocs frame_1_writes args s ++ Jvm.arrayLocs frame_1_arrays args s ++ Jvm.staticLocs frame_1_statics s) 16 128 → Post tb e args s (.returned v) u) :
    ArmFor flags0 classFile x code maxLocals ret World_1 tables_1 room_1 Calls_1 rest_1 Pre_1 Post := by
  intro l hfl _ _ p e ha hc hk s m args below hf hA hF happ hP
  obtain ⟨hcalls, hrest, hpre⟩ := hP
  obtain ⟨-, -, -, hnamed, -, -, -, hat⟩ := (Spec.applies_iff hf).mp happ
  obtain ⟨hg, hn⟩ := and_e (Cond.before_iff.mp (show (Jvm.Cond.and given_1 narrow_1).before args s = true from hpre))
  obtain ⟨hcount, hg0⟩ := and_e hg
  obtain ⟨ga0, hg1⟩ := and_e hg0
  obtain ⟨ga1, hg2⟩ := and_e hg1
  obtain ⟨ga2, hg3⟩ := and_e hg2
  obtain ⟨ga3, hg4⟩ := and_e hg3
  obtain ⟨w0, w1, w2, w3, w4, rfl⟩ : ∃ w0 w1 w2 w3 w4 : Value, args = #[w0, w1, w2, w3, w4] := by
    have hs : args.size = 5 := by simpa [Cond.value, given_1] using hcount
    obtain ⟨L⟩ := args
    match L, hs with
    | [w0, w1, w2, w3, w4], _ => exact ⟨w0, w1, w2, w3, w4, rfl⟩
  have hw := fun d (hd : d ∈ tables_1) => atoms_spec (ws := Jvm.Cond.code x code maxLocals ret :: tables_1) hat d (List.mem_cons_of_mem _ hd)
  have hfit : Fit s := fun {y c} hc i hi => by
    obtain ⟨ha, rfl⟩ := Array.getElem?_eq_some_iff.mp hc
    have q := List.all_eq_true.mp ((Array.all_eq_true_iff_forall_mem.mp hF) _ (Array.getElem_mem ha)) i (List.mem_range.mpr hi)
    simpa [Array.getElem?_eq_getElem hi] using q
  obtain ⟨p0, ei0⟩ := is_v ga0
  obtain rfl : w0 = (.int p0) := Option.some.inj ei0
  obtain ⟨p1, ei1⟩ := is_v ga1
  obtain rfl : w1 = (.int p1) := Option.some.inj ei1
  obtain ⟨p2, ei2⟩ := is_v ga2
  obtain rfl : w2 = (.int p2) := Option.some.inj ei2
  obtain ⟨p3, ei3⟩ := is_v ga3
  obtain rfl : w3 = (.int p3) := Option.some.inj ei3
  obtain ⟨p4, ei4⟩ := is_v hg4
  obtain rfl : w4 = (.int p4) := Option.some.inj ei4
  obtain ⟨n, o, h1, h2, h3, _, L, rfl, ⟨rfl, N⟩, hq⟩ := rm0 l s _ hw tables_1 p0 p1 p2 p3 p4 s.heap s.heap.size (Old.start s) p e ha hc hk s m _ below hf ((Spec.applies_iff_loose hf).mp happ).1 ⟨rfl, State.Warmed39.refl s, rfl⟩ trivial
  refine ⟨n, _, h1, h2, h3, hpost _ _ _ _ _ _ ⟨Cond.after_iff.mpr rfl, Cond.after_iff.mpr (eq_i res_at (Term.int_eval (1)) rfl), trivial⟩ ⟨hq.1, hq.2.1, (hq.2.2.sift fun y hy => Or.inr (N y hy)).mono (by decide) (by decide)⟩⟩
theorem main_1_1 : Claimed_1_1 := comes_1 fun _ _ _ _ _ _ h hF => ⟨h.1, hF⟩
theorem main_1_2 : Claimed_1_2 := comes_1 fun _ _ _ _ _ _ h hF => ⟨h.2.1, hF⟩
end Jvm.Pilot.@@N@@
namespace Jvm.Pilot.@@N@@
open Jvm Jvm.ClassFile Sem Op Lib Jvm.Free Jvm.Stand Jvm.Pilot.@@N@@.Jvm.D
/-! MADE BY PROGRAM (witnessworld.py) out of the Statement's table words and the real class files: 10 classes; the members and pool entries that the words name. The judged class is class 1, her method 3. -/
namespace start1
open Jvm.ClassFile
def u (s : String) : CpInfo := .utf8 (stringToUtf16 s)
/-- a pool by its gaps: so many unusable entries, then the entry; so many at the end -/
def gap : Nat → List CpInfo → List CpInfo
  | 0, r => r
  | n + 1, r => .unusable :: gap n r
def poolList (es : List (Nat × CpInfo)) (last : Nat) : List CpInfo := es.foldr (fun e r => gap e.1 (e.2 :: r)) (gap last [])
def pool (es : List (Nat × CpInfo)) (last : Nat) : Array CpInfo := ⟨poolList es last⟩
def fileOf (pool : Array CpInfo) (this : Nat) (attrs : Array Attribute := #[]) (ms : Array MethodInfo := #[]) (fl : Nat := 33) (sup : Nat := 0) (ifs : Array Nat := #[]) (fds : Array FieldInfo := #[]) : ClassFile where
  minorVersion := 0
  majorVersion := 65
  constantPool := pool
  accessFlags := fl
  thisClass := this
  superClass := sup
  interfaces := ifs
  fields := fds
  methods := ms
  attributes := attrs
def plain (name : String) (sup : Option ClassId) : Class where
  name := name
  kind := .ordinary
  loader := none
  accessFlags := 33
  super := sup
  interfaces := #[]
  cf := none
  fields := #[]
  methods := #[]
  instanceTypes := #[]
  staticTypes := #[]
  resolved := #[]
  callSites := []
  init := .initialized
  statics := none
  mirror := none

def pool0 : Array CpInfo := pool [(5, u "<init>"), (0, u "()V"), (1, .class_ 10), (1, u "java/lang/Object")] 113

def k0m0 : Method := { name := "<init>", desc := "()V", sig := { parameters := [], returnType := none }, accessFlags := 1, code := none }
/-- java/lang/Object -/
def k0 : Class := { plain "java/lang/Object" none with
  accessFlags := 33
  interfaces := #[]
  cf := some (fileOf pool0 8 #[] #[{ accessFlags := 1, nameIndex := 5, descriptorIndex := 6, attributes := #[] }] 33 0 #[] #[])
  fields := #[]
  methods := #[k0m0]
  instanceTypes := #[]
  staticTypes := #[]
  resolved := Array.replicate 124 none
  statics := none }

def pool1 : Array CpInfo := pool [(2, .class_ 4), (1, u "java/lang/Object"), (0, u "<init>"), (0, u "()V"), (0, .methodref 8 9), (0, .class_ 10), (0, .nameAndType 11 12), (0, u "com/example/octroi/octroi/bench/ConnectionIndexOfPinLaw"), (0, u "sym"), (0, u "(I)B"), (0, .integer 2147483647), (0, .methodref 8 15), (0, .nameAndType 16 17), (0, u "at"), (0, u "([BIII[BI)Z"), (0, .methodref 19 20), (0, .class_ 21), (0, .nameAndType 22 23), (0, u "com/example/octroi/octroi/bench/Connection"), (0, u "indexOf"), (0, u "([BII[BI)I"), (3, u "law"), (0, u "(IIIII)Z")] 4

def k1m0 : Method := { name := "<init>", desc := "()V", sig := { parameters := [], returnType := none }, accessFlags := 1, code := none }
def k1c1 : Code := { maxStack := 2, maxLocals := 2, code := method_2_code, exceptionTable := #[], attributes := #[] }
def k1m1 : Method := { name := "sym", desc := "(I)B", sig := { parameters := [.int], returnType := some .byte }, accessFlags := 10, code := some k1c1 }
def k1c2 : Code := { maxStack := 3, maxLocals := 6, code := method_3_code, exceptionTable := #[], attributes := #[] }
def k1m2 : Method := { name := "at", desc := "([BIII[BI)Z", sig := { parameters := [(.array .byte), .int, .int, .int, (.array .byte), .int], returnType := some .boolean }, accessFlags := 10, code := some k1c2 }
def k1c3 : Code := { maxStack := 6, maxLocals := 11, code := code, exceptionTable := #[], attributes := #[] }
def k1m3 : Method := { name := "law", desc := "(IIIII)Z", sig := { parameters := [.int, .int, .int, .int, .int], returnType := some .boolean }, accessFlags := 9, code := some k1c3 }
/-- com/example/octroi/octroi/bench/ConnectionIndexOfPinLaw -/
def k1 : Class := { plain "com/example/octroi/octroi/bench/ConnectionIndexOfPinLaw" (some 0) with
  accessFlags := 49
  interfaces := #[]
  cf := some (fileOf pool1 8 #[] #[{ accessFlags := 1, nameIndex := 5, descriptorIndex := 6, attributes := #[] }, { accessFlags := 10, nameIndex := 11, descriptorIndex := 12, attributes := #[] }, { accessFlags := 10, nameIndex := 16, descriptorIndex := 17, attributes := #[] }, { accessFlags := 9, nameIndex := 27, descriptorIndex := 28, attributes := #[] }] 49 2 #[] #[])
  fields := #[]
  methods := #[k1m0, k1m1, k1m2, k1m3]
  instanceTypes := #[]
  staticTypes := #[]
  resolved := Array.replicate 33 none
  statics := none }

def pool2 : Array CpInfo := pool [(1, .class_ 2), (0, u "java/lang/AutoCloseable"), (0, .class_ 4), (0, u "java/lang/Object")] 7

/-- java/lang/AutoCloseable -/
def k2 : Class := { plain "java/lang/AutoCloseable" (some 0) with
  accessFlags := 1537
  interfaces := #[]
  cf := some (fileOf pool2 1 #[] #[] 1537 3 #[] #[])
  fields := #[]
  methods := #[]
  instanceTypes := #[]
  staticTypes := #[]
  resolved := Array.replicate 12 none
  statics := none }

def pool3 : Array CpInfo := pool [(2, .class_ 4), (1, u "java/lang/Object"), (3, .class_ 10), (1, u "com/example/octroi/octroi/bench/Connection"), (0, u "buffer"), (0, u "[B"), (2, u "socket"), (0, u "Ljava/net/Socket;"), (8, u "out"), (0, u "Ljava/io/OutputStream;"), (6, u "in"), (0, u "Ljava/io/InputStream;"), (31, u "END_OF_HEAD"), (2, u "indexOf"), (8, u "start"), (0, u "I"), (103, .class_ 184), (0, u "com/example/octroi/octroi/bench/Connection$Answer"), (11, u "end"), (52, u "([BII[BI)I"), (6, .class_ 257), (0, u "java/lang/AutoCloseable"), (0, u "READ_TIMEOUT_MILLIS")] 33

def k3c0 : Code := { maxStack := 3, maxLocals := 7, code := prog_13_method_13_code, exceptionTable := #[], attributes := #[] }
def k3m0 : Method := { name := "indexOf", desc := "([BII[BI)I", sig := { parameters := [(.array .byte), .int, .int, (.array .byte), .int], returnType := some .int }, accessFlags := 8, code := some k3c0 }
/-- com/example/octroi/octroi/bench/Connection -/
def k3 : Class := { plain "com/example/octroi/octroi/bench/Connection" (some 0) with
  accessFlags := 48
  interfaces := #[2]
  cf := some (fileOf pool3 8 #[.nestMembers #[183]] #[{ accessFlags := 8, nameIndex := 69, descriptorIndex := 249, attributes := #[] }] 48 2 #[256] #[{ accessFlags := 26, nameIndex := 258, descriptorIndex := 79, attributes := #[] }, { accessFlags := 26, nameIndex := 66, descriptorIndex := 12, attributes := #[] }, { accessFlags := 18, nameIndex := 15, descriptorIndex := 16, attributes := #[] }, { accessFlags := 18, nameIndex := 25, descriptorIndex := 26, attributes := #[] }, { accessFlags := 18, nameIndex := 33, descriptorIndex := 34, attributes := #[] }, { accessFlags := 2, nameIndex := 11, descriptorIndex := 12, attributes := #[] }, { accessFlags := 2, nameIndex := 78, descriptorIndex := 79, attributes := #[] }, { accessFlags := 2, nameIndex := 196, descriptorIndex := 79, attributes := #[] }])
  fields := #[{ name := "READ_TIMEOUT_MILLIS", type := .int, accessFlags := 26, slot := 0, constantValue := 0 }, { name := "END_OF_HEAD", type := (.array .byte), accessFlags := 26, slot := 1, constantValue := 0 }, { name := "socket", type := (.object "java/net/Socket"), accessFlags := 18, slot := 0, constantValue := 0 }, { name := "out", type := (.object "java/io/OutputStream"), accessFlags := 18, slot := 1, constantValue := 0 }, { name := "in", type := (.object "java/io/InputStream"), accessFlags := 18, slot := 2, constantValue := 0 }, { name := "buffer", type := (.array .byte), accessFlags := 2, slot := 3, constantValue := 0 }, { name := "start", type := .int, accessFlags := 2, slot := 4, constantValue := 0 }, { name := "end", type := .int, accessFlags := 2, slot := 5, constantValue := 0 }]
  methods := #[k3m0]
  instanceTypes := #[(.object "java/net/Socket"), (.object "java/io/OutputStream"), (.object "java/io/InputStream"), (.array .byte), .int, .int]
  staticTypes := #[.int, (.array .byte)]
  resolved := Array.replicate 292 none
  statics := none }

def pool4 : Array CpInfo := pool [(1, u "java/lang/Cloneable"), (0, .class_ 1), (0, u "java/lang/Object"), (0, .class_ 3)] 3

/-- java/lang/Cloneable -/
def k4 : Class := { plain "java/lang/Cloneable" (some 0) with
  accessFlags := 1537
  interfaces := #[]
  cf := some (fileOf pool4 2 #[] #[] 1537 4 #[] #[])
  fields := #[]
  methods := #[]
  instanceTypes := #[]
  staticTypes := #[]
  resolved := Array.replicate 8 none
  statics := none }

def pool5 : Array CpInfo := pool [(1, u "java/io/Serializable"), (0, .class_ 1), (0, u "java/lang/Object"), (0, .class_ 3)] 3

/-- java/io/Serializable -/
def k5 : Class := { plain "java/io/Serializable" (some 0) with
  accessFlags := 1537
  interfaces := #[]
  cf := some (fileOf pool5 2 #[] #[] 1537 4 #[] #[])
  fields := #[]
  methods := #[]
  instanceTypes := #[]
  staticTypes := #[]
  resolved := Array.replicate 8 none
  statics := none }

/-- the primitive byte -/
def k6 : Class := { plain "byte" none with kind := .primitive 'B', accessFlags := 0x411 }
/-- [B -/
def k7 : Class := { plain "[B" (some 0) with kind := .array 6 .byte, interfaces := #[4, 5], accessFlags := 1041 }

/-- the primitive int -/
def k8 : Class := { plain "int" none with kind := .primitive 'I', accessFlags := 0x411 }
/-- [I -/
def k9 : Class := { plain "[I" (some 0) with kind := .array 8 .int, interfaces := #[4, 5], accessFlags := 1041 }

def heap : Heap := #[]
def classes : Array Class := #[k0, k1, k2, k3, k4, k5, k6, k7, k8, k9]
def interned : List (Array UInt16 × Addr) := []
def slotsUsed : Nat := 0
def theMethod : MethodId := ⟨1, 3⟩
def args0 : Array Value := #[.int 5, .int 3, .int 1, .int 4, .int 2]
def aboutOver (below : List Frame) : State where
  vm := { classes := classes, interned := interned.toArray }
  heap := heap
  slotsUsed := slotsUsed
  threads := #[{ frames := .invoking theMethod args0 :: below }]
def below0 : List Frame := [.native { method := ⟨0, 0⟩, args := #[] }]
def about1 : State := aboutOver below0
def p0 : Program := .bare "" "" ""
def e0 : Env := launch0.env 0 0 0
theorem w_frames : about1.frames = Frame.invoking theMethod args0 :: below0 := rfl
set_option maxRecDepth 65536 in
theorem w_args : argsFit about1.vm theMethod args0 = true := by decide +kernel
set_option maxRecDepth 65536 in
theorem w_heap : heapFits about1 = true := by decide +kernel
set_option maxRecDepth 65536 in
theorem w_runnable : about1.curStatus? = some .runnable := by decide +kernel
set_option maxRecDepth 65536 in
theorem w_alone : about1.alone = true := by decide +kernel
set_option maxRecDepth 65536 in
theorem w_named : about1.methodNamed? x = some theMethod := by decide +kernel
set_option maxRecDepth 65536 in
theorem w_hears : about1.hears theMethod below0 = true := by decide +kernel
set_option maxRecDepth 65536 in
theorem w_ripe : about1.ripe theMethod args0 below0 = true := by decide +kernel
theorem w_running : about1.status = .running := rfl
set_option maxRecDepth 65536 in
theorem w_room : about1.hasRoom e0.platform room_1 = true :=
  launch0.hasRoom_least _ room_1 (by decide +kernel) (by decide +kernel) (by decide +kernel) (by decide +kernel) (by decide +kernel) (by decide +kernel)
theorem allAtoms_all (ts : List Jvm.Cond) (a : Array Jvm.Value) (st : Jvm.State) : (allAtoms ts).before a st = ts.all (fun c => c.before a st) := by
  induction ts with
  | nil => rfl
  | cons c t ih =>
    show (Jvm.Cond.and c (allAtoms t)).before a st = _
    rw [Jvm.Cond.before_and, ih, List.all_cons]
def words1 : List Jvm.Cond := Jvm.Cond.code x code maxLocals ret :: tables_1
/-- a 'code' word, met by the world's own term for the bytes: nothing is compared byte by byte -/
theorem code_word {y : MethodName} {bytes : ByteArray} {mx : Nat} {rt : Option FieldType} {a : Array Value} {s : State} {m : MethodId} {meth : Method} {c : Code} (h1 : s.methodNamed? y = some m) (h2 : s.vm.method? m = some meth) (h3 : meth.code = some c) (h4 : c.code = bytes)
    (h5 : (c.maxLocals == mx && c.exceptionTable.isEmpty && decide (c.maxStack ≤ mostOperands) && decide (meth.sig.returnType = rt) && !meth.locks && decide (parseMethodDescriptor y.desc = some meth.sig)) = true) : (Jvm.Cond.code y bytes mx rt).before a s = true := by
  simp only [Bool.and_eq_true, beq_iff_eq, Bool.not_eq_true', decide_eq_true_eq] at h5
  obtain ⟨⟨⟨⟨⟨g1, g2⟩, g3⟩, g4⟩, g5⟩, g6⟩ := h5
  simp [Cond.before, Cond.holds, Cond.value, h1, h2, h3, h4, g1, g2, g3, g4, g5, g6]
def isCode : Jvm.Cond → Bool
  | .code _ _ _ _ => true
  | _ => false
theorem all_split {L : List Jvm.Cond} {P : Jvm.Cond → Bool} (h1 : L.all (fun c => isCode c || P c) = true) (h2 : ∀ c ∈ L.filter isCode, P c = true) : L.all P = true := by
  refine List.all_eq_true.mpr fun c hc => ?_
  have h := List.all_eq_true.mp h1 c hc
  rcases Bool.eq_false_or_eq_true (isCode c) with hi | hi
  · exact h2 c (List.mem_filter.mpr ⟨hc, hi⟩)
  · simpa [hi] using h
set_option maxRecDepth 65536 in
theorem w_c0 : (Jvm.Cond.code x code maxLocals ret).before args0 about1 = true := code_word (m := ⟨1, 3⟩) (meth := k1m3) (c := k1c3) (by decide +kernel) rfl rfl rfl (by decide +kernel)
set_option maxRecDepth 65536 in
theorem w_c1 : (Jvm.Cond.code ({ cls := "com/example/octroi/octroi/bench/ConnectionIndexOfPinLaw", name := "sym", desc := "(I)B" } : Jvm.MethodName) method_2_code (2 : Nat) (Option.some Jvm.ClassFile.FieldType.byte)).before args0 about1 = true := code_word (m := ⟨1, 1⟩) (meth := k1m1) (c := k1c1) (by decide +kernel) rfl rfl rfl (by decide +kernel)
set_option maxRecDepth 65536 in
theorem w_c2 : (Jvm.Cond.code ({ cls := "com/example/octroi/octroi/bench/ConnectionIndexOfPinLaw", name := "at", desc := "([BIII[BI)Z" } : Jvm.MethodName) method_3_code (6 : Nat) (Option.some Jvm.ClassFile.FieldType.boolean)).before args0 about1 = true := code_word (m := ⟨1, 2⟩) (meth := k1m2) (c := k1c2) (by decide +kernel) rfl rfl rfl (by decide +kernel)
set_option maxRecDepth 65536 in
theorem w_c3 : (Jvm.Cond.code ({ cls := "com/example/octroi/octroi/bench/Connection", name := "indexOf", desc := "([BII[BI)I" } : Jvm.MethodName) prog_13_method_13_code (7 : Nat) (Option.some Jvm.ClassFile.FieldType.int)).before args0 about1 = true := code_word (m := ⟨3, 0⟩) (meth := k3m0) (c := k3c0) (by decide +kernel) rfl rfl rfl (by decide +kernel)
def codes1 : List Jvm.Cond := [Jvm.Cond.code x code maxLocals ret, Jvm.Cond.code ({ cls := "com/example/octroi/octroi/bench/ConnectionIndexOfPinLaw", name := "sym", desc := "(I)B" } : Jvm.MethodName) method_2_code (2 : Nat) (Option.some Jvm.ClassFile.FieldType.byte), Jvm.Cond.code ({ cls := "com/example/octroi/octroi/bench/ConnectionIndexOfPinLaw", name := "at", desc := "([BIII[BI)Z" } : Jvm.MethodName) method_3_code (6 : Nat) (Option.some Jvm.ClassFile.FieldType.boolean), Jvm.Cond.code ({ cls := "com/example/octroi/octroi/bench/Connection", name := "indexOf", desc := "([BII[BI)I" } : Jvm.MethodName) prog_13_method_13_code (7 : Nat) (Option.some Jvm.ClassFile.FieldType.int)]
set_option maxRecDepth 65536 in
theorem codes_eq : words1.filter isCode = codes1 := rfl
theorem w_codes : ∀ c ∈ words1.filter isCode, c.before args0 about1 = true := by
  rw [codes_eq]
  intro c hc
  simp only [codes1, List.mem_cons, List.not_mem_nil, or_false] at hc
  rcases hc with rfl | rfl | rfl | rfl
  · exact w_c0
  · exact w_c1
  · exact w_c2
  · exact w_c3
set_option maxRecDepth 65536 in
theorem w_t1 : words1.all (fun c => isCode c || c.before args0 about1) = true := by decide +kernel
theorem w_tables : (allAtoms (Jvm.Cond.code x code maxLocals ret :: tables_1)).before args0 about1 = true := by
  rw [allAtoms_all]
  show words1.all (fun c => c.before args0 about1) = true
  refine all_split ?_ w_codes
  rw [w_t1]
set_option maxRecDepth 65536 in
theorem w_case : (Jvm.Cond.and given_1 narrow_1).before args0 about1 = true := by decide +kernel
theorem w_applies : (headSpec (Jvm.Cond.code x code maxLocals ret :: tables_1) room_1).applies x e0.platform about1 = true :=
  (Spec.applies_iff w_frames).mpr ⟨w_running, w_runnable, w_alone, w_named, w_hears, w_ripe, w_room, w_tables⟩
theorem atStart : AtStart classFile x code maxLocals ret World_1 tables_1 room_1 Calls_1 rest_1 Pre_1 launch0 p0 e0 about1 theMethod args0 below0 :=
  ⟨lists_1, trivial, launch0.admits_env _ _ _, launch0.least_env, fairChoices_fair.cas, fairChoices_fair.clock, w_frames, w_args, w_heap, w_applies, trivial, trivial, w_case⟩
end start1
theorem witness_1 : WitnessClaimed_1 := ⟨start1.p0, start1.e0, start1.about1, start1.theMethod, start1.args0, start1.below0, start1.atStart⟩
end Jvm.Pilot.@@N@@
