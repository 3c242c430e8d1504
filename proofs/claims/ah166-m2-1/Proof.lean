import JvmDerived
import JvmDerived.Pilot.@@N@@Statement
import JvmDerived.Pilot.@@N@@Code
set_option linter.unusedVariables false
set_option linter.unusedSimpArgs false
@@BLOCK:NumsL.lean.txt@@
namespace Jvm.Pilot.@@N@@
open Jvm Jvm.ClassFile Sem Op Lib Jvm.Free Jvm.Stand Jvm.LawKit Jvm.RoadKit Bundle Jvm.Pilot.@@N@@.Jvm.D
theorem own_ne {k : Int32} {n : Int} (z : Int32) (hl : z.toInt = n) (h : ¬ k = z) : n ≠ k.toInt := fun e => h (Int32.toInt_inj.mp (by rw [hl]; exact e.symm))
theorem own_ext {Z : State} {n0 : Nat} {h : Heap} (O : Old Z n0 h) : Ext Z.heap h := O.2
theorem own_sz {Z : State} {n0 : Nat} {h : Heap} (O : Old Z n0 h) : n0 ≤ h.size := by have := O.2.1; rw [O.1] at this; exact this
def own_Ends (p : Program) (e : Env) (below : List Frame) (s : State) (Q : Option Value → Heap → List Loc → Prop) (k n : Nat) (A : State) : Prop :=
  ∃ (U : State) (o : Outcome), Steps p.tables e below A U ∧ U.status = .running ∧ Ended U below o ∧ ∃ v L, o = .returned v ∧ Q v U.heap L ∧ FrameEnd s o U L k n
section OwnKit
variable {p : Program} {l : Launch} {e : Env} {R : Room} {s : State} {m : MethodId} {args : Array Value} {below : List Frame} {meth : Method} {c : Code} {T : State} {locs : List Loc} {cells slots k n : Nat} {Q : Option Value → Heap → List Loc → Prop} {A B : State}
theorem own_go (h : ∀ t, Steps p.tables e below B t → Steps p.tables e below A t) (K : own_Ends p e below s Q k n B) : own_Ends p e below s Q k n A := by
  obtain ⟨U, o, h1, r⟩ := K
  exact ⟨U, o, h U h1, r⟩
theorem own_ret (X : Stand p l e R s m args below meth c T locs cells slots) (hx : p.tables.exec = Jvm.exec) (hlk : meth.locks = false) {pc : Nat} {Ls : Array Slot} {w : Value} {t : FieldType} {i : Instr} {rest : List Value} (hret : meth.sig.returnType = some t) (hn : narrow t w = w)
    (hi : (i = .ireturn ∧ (t = .int ∨ t = .boolean ∨ t = .byte ∨ t = .char ∨ t = .short) ∧ ∃ z, w = .int z) ∨ (i = .lreturn ∧ t = .long ∧ ∃ z, w = .long z) ∨ (i = .dreturn ∧ t = .double ∧ ∃ z, w = .double z) ∨ (i = .freturn ∧ t = .float ∧ ∃ z, w = .float z) ∨ (i = .areturn ∧ t.isReference = true ∧ w.isRef = true))
    (hd : decode c.code pc = .ok (i, 1)) (hk : cells ≤ k) (hs : slots ≤ n) (hQ : Q (some w) T.heap locs) : own_Ends p e below s Q k n (T.setTop (mkF m pc Ls (w :: rest))) := by
  obtain ⟨fs, hr, hrun, hended, hW, hsame⟩ := X.leave (v := some w) (fun h => by rw [hret] at h; cases h) hlk
  exact ⟨_, _, retOut X hx hret hn hi hd hr, hrun, hended, _, _, rfl, hQ, ⟨_, rfl⟩, hW, hsame.mono hk hs⟩
theorem own_retI (X : Stand p l e R s m args below meth c T locs cells slots) (hx : p.tables.exec = Jvm.exec) (hlk : meth.locks = false) {pc : Nat} {Ls : Array Slot} {z : Int32} {rest : List Value} (hret : meth.sig.returnType = some .int) (hd : decode c.code pc = .ok (.ireturn, 1)) (hk : cells ≤ k) (hs : slots ≤ n) (hQ : Q (some (.int z)) T.heap locs) : own_Ends p e below s Q k n (T.setTop (mkF m pc Ls (.int z :: rest))) :=
  own_ret X hx hlk hret rfl (Or.inl ⟨rfl, Or.inl rfl, _, rfl⟩) hd hk hs hQ
theorem own_retJ (X : Stand p l e R s m args below meth c T locs cells slots) (hx : p.tables.exec = Jvm.exec) (hlk : meth.locks = false) {pc : Nat} {Ls : Array Slot} {z : Int64} {rest : List Value} (hret : meth.sig.returnType = some .long) (hd : decode c.code pc = .ok (.lreturn, 1)) (hk : cells ≤ k) (hs : slots ≤ n) (hQ : Q (some (.long z)) T.heap locs) : own_Ends p e below s Q k n (T.setTop (mkF m pc Ls (.long z :: rest))) :=
  own_ret X hx hlk hret rfl (Or.inr (Or.inl ⟨rfl, rfl, _, rfl⟩)) hd hk hs hQ
theorem own_retD (X : Stand p l e R s m args below meth c T locs cells slots) (hx : p.tables.exec = Jvm.exec) (hlk : meth.locks = false) {pc : Nat} {Ls : Array Slot} {z : UInt64} {rest : List Value} (hret : meth.sig.returnType = some .double) (hd : decode c.code pc = .ok (.dreturn, 1)) (hk : cells ≤ k) (hs : slots ≤ n) (hQ : Q (some (.double z)) T.heap locs) : own_Ends p e below s Q k n (T.setTop (mkF m pc Ls (.double z :: rest))) :=
  own_ret X hx hlk hret rfl (Or.inr (Or.inr (Or.inl ⟨rfl, rfl, _, rfl⟩))) hd hk hs hQ
theorem own_retA (X : Stand p l e R s m args below meth c T locs cells slots) (hx : p.tables.exec = Jvm.exec) (hlk : meth.locks = false) {pc : Nat} {Ls : Array Slot} {w : Value} {t : FieldType} {rest : List Value} (hret : meth.sig.returnType = some t) (ht : t.isReference = true) (hw : w.isRef = true) (hn : narrow t w = w) (hd : decode c.code pc = .ok (.areturn, 1)) (hk : cells ≤ k) (hs : slots ≤ n) (hQ : Q (some w) T.heap locs) : own_Ends p e below s Q k n (T.setTop (mkF m pc Ls (w :: rest))) :=
  own_ret X hx hlk hret hn (Or.inr (Or.inr (Or.inr (Or.inr ⟨rfl, ht, hw⟩)))) hd hk hs hQ
theorem own_retN (X : Stand p l e R s m args below meth c T locs cells slots) (hx : p.tables.exec = Jvm.exec) (hlk : meth.locks = false) {pc : Nat} {Ls : Array Slot} {z : Int32} {t : FieldType} {rest : List Value} (hret : meth.sig.returnType = some t) (ht : t = .boolean ∨ t = .byte ∨ t = .char ∨ t = .short) (hd : decode c.code pc = .ok (.ireturn, 1)) (hk : cells ≤ k) (hs : slots ≤ n) (hQ : Q (some (.int (nar t z))) T.heap locs) : own_Ends p e below s Q k n (T.setTop (mkF m pc Ls (.int z :: rest))) := by
  obtain ⟨fs, hr, hrun, hended, hW, hsame⟩ := X.leave (v := some (.int (nar t z))) (fun h => by rw [hret] at h; cases h) hlk
  exact ⟨_, _, retN X hx hret ht hd hr, hrun, hended, _, _, rfl, hQ, ⟨_, rfl⟩, hW, hsame.mono hk hs⟩
theorem own_retV (X : Stand p l e R s m args below meth c T locs cells slots) (hx : p.tables.exec = Jvm.exec) (hlk : meth.locks = false) {pc : Nat} {Ls : Array Slot} (hret : meth.sig.returnType = none) (hd : decode c.code pc = .ok (.return_, 1)) (hk : cells ≤ k) (hs : slots ≤ n) (hQ : Q none T.heap locs) : own_Ends p e below s Q k n (T.setTop (mkF m pc Ls [])) := by
  obtain ⟨fs, hr, hrun, hended, hW, hsame⟩ := X.leave (v := none) (fun _ => rfl) hlk
  exact ⟨_, _, X.returnOut hx hret hd hr, hrun, hended, _, _, rfl, hQ, ⟨_, rfl⟩, hW, hsame.mono hk hs⟩
end OwnKit

def own_Ar (Z : State) (h : Heap) (a : Addr) (ty : FieldType) (n : Nat) (f : Nat → Value) : Prop := ∃ c : Cell, Arr Z h a c ty ∧ c.slots.size = n ∧ ∀ i, i < n → c.slots[i]? = some (f i)
section OwnArr
variable {Z : State} {h h' : Heap} {a b : Addr} {ty : FieldType} {n sl : Nat} {f : Nat → Value} {v : Value} {ws : List Addr}
theorem own_Ar.lt (F : own_Ar Z h a ty n f) : a < h.size := by obtain ⟨c, A, -⟩ := F; exact A.lt
theorem own_Ar.ext (F : own_Ar Z h a ty n f) (E : Ext h h') : own_Ar Z h' a ty n f := by obtain ⟨c, A, r⟩ := F; exact ⟨c, A.ext E, r⟩
theorem own_Ar.other (F : own_Ar Z h b ty n f) (W : Wr h h' a sl v) (q : b ≠ a) : own_Ar Z h' b ty n f := by obtain ⟨c, A, r⟩ := F; exact ⟨c, A.other W q, r⟩
theorem own_Ar.keep (F : own_Ar Z h a ty n f) (K : Keep h h' ws) (q : a ∉ ws) : own_Ar Z h' a ty n f := by obtain ⟨c, A, r⟩ := F; exact ⟨c, ⟨K.2.1 a c A.1 q, A.2⟩, r⟩
theorem own_Ar.at (F : own_Ar Z h a ty n f) (j : Int32) (h0 : ¬ j < 0) (h1 : j.toNatClampNeg < n) : ∃ c : Cell, Arr Z h a c ty ∧ ¬ (j < 0 ∨ c.slots.size ≤ j.toNatClampNeg) ∧ c.slots[j.toNatClampNeg]? = some (f j.toNatClampNeg) := by
  obtain ⟨c, A, e, r⟩ := F
  exact ⟨c, A, fun q => q.elim h0 (fun z => by omega), r _ h1⟩
theorem own_Ar.len (F : own_Ar Z h a ty n f) : ∃ c : Cell, Arr Z h a c ty ∧ c.slots.size.toInt32 = Int32.ofNat n := by
  obtain ⟨c, A, e, r⟩ := F
  exact ⟨c, A, by rw [e]⟩
theorem own_Ar.newI {k : ClassId} {z : Int32} (A : Arr Z h a (newA k ty z) ty) (hz : z.toNatClampNeg = n) (hd : defaultValue ty = .int 0) : own_Ar Z h a ty n (fun _ => .int 0) :=
  ⟨_, A, by rw [sz_new]; exact hz, fun i hi => by simp [newA, hz, hi, hd]⟩
theorem own_Ar.newJ {k : ClassId} {z : Int32} (A : Arr Z h a (newA k .long z) .long) (hz : z.toNatClampNeg = n) : own_Ar Z h a .long n (fun _ => .long 0) :=
  ⟨_, A, by rw [sz_new]; exact hz, fun i hi => by simp [newA, hz, hi, defaultValue]⟩
theorem own_Ar.set (F : own_Ar Z h a ty n f) (W : Wr h h' a sl v) {f' : Nat → Value} (hf : ∀ i, i < n → f' i = if i = sl then v else f i) : own_Ar Z h' a ty n f' := by
  obtain ⟨c, A, e, r⟩ := F
  refine ⟨_, A.same W, by simp [Cell.setSlot, e], fun i hi => ?_⟩
  obtain ⟨c', w1, -, w3, w4⟩ := W
  cases A.1.symm.trans w1
  rw [hf i hi]
  by_cases q : i = sl
  · subst q; simp [Cell.setSlot, w3]
  · rw [if_neg q, ← r i hi]; exact Array.getElem?_setIfInBounds_ne (Ne.symm q)
theorem own_Ar.setI {G : Nat → Int32} {x : Int32} (F : own_Ar Z h a ty n (fun i => .int (G i))) (W : Wr h h' a sl (.int x)) : own_Ar Z h' a ty n (fun i => .int (if i = sl then x else G i)) :=
  F.set W fun i _ => by by_cases q : i = sl <;> simp [q]
theorem own_Ar.setJ {G : Nat → Int64} {x : Int64} (F : own_Ar Z h a ty n (fun i => .long (G i))) (W : Wr h h' a sl (.long x)) : own_Ar Z h' a ty n (fun i => .long (if i = sl then x else G i)) :=
  F.set W fun i _ => by by_cases q : i = sl <;> simp [q]
theorem own_Ar.cong (F : own_Ar Z h a ty n f) {f' : Nat → Value} (hf : ∀ i, i < n → f' i = f i) : own_Ar Z h a ty n f' := by
  obtain ⟨c, A, e, r⟩ := F
  exact ⟨c, A, e, fun i hi => by rw [hf i hi]; exact r i hi⟩
end OwnArr
/-- as own_Ends, for a body that may load String constants cold -/
def own_EndsW (p : Program) (e : Env) (below : List Frame) (s Z : State) (EL : List (String × Nat)) (Q : Option Value → Heap → List Loc → Prop) (k n : Nat) (A : State) : Prop :=
  ∃ (U : State) (o : Outcome), Steps p.tables e below A U ∧ U.status = .running ∧ Ended U below o ∧ ∃ v L, o = .returned v ∧ Q v U.heap L ∧ CHr Z EL s.vm s.heap U.vm U.heap ∧ ReturnedEndW s o U L k n
/-- what such a walk bears: the tables vm0 at hand come from the start, and the held constants say their texts -/
def own_Wd (s Z : State) (EL : List (String × Nat)) (vm0 : Vm) (h : Heap) : Prop := (∃ k0, s.Since vm0 k0 ∧ k0 ≤ h.size) ∧ CHr Z EL s.vm s.heap vm0 h
section OwnWide
variable {p : Program} {l : Launch} {e : Env} {R : Room} {s : State} {m : MethodId} {args : Array Value} {below : List Frame} {meth : Method} {c : Code} {T : State} {locs : List Loc} {cells slots k n : Nat} {Q : Option Value → Heap → List Loc → Prop} {A B : State}
variable {Z : State} {EL : List (String × Nat)} {vm0 : Vm} {h h' : Heap} {ws : List Addr} {a0 : Array Value}
theorem own_goW (q : ∀ t, Steps p.tables e below B t → Steps p.tables e below A t) (K : own_EndsW p e below s Z EL Q k n B) : own_EndsW p e below s Z EL Q k n A := by
  obtain ⟨U, o, h1, r⟩ := K
  exact ⟨U, o, q U h1, r⟩
theorem own_Wd.start (hh : s.heap = h) (H : CHv Z EL s.vm h) : own_Wd s Z EL s.vm h := by
  subst hh
  exact ⟨⟨s.heap.size, (State.WarmedH.refl s).since _, Nat.le_refl _⟩, CHr.refl H⟩
theorem own_Wd.ch (W : own_Wd s Z EL vm0 h) : CHv Z EL vm0 h := W.2.1
theorem own_Wd.step (W : own_Wd s Z EL vm0 h) (C : CHr Z EL vm0 h vm0 h') : own_Wd s Z EL vm0 h' := by
  obtain ⟨⟨k0, h1, h2⟩, h3⟩ := W
  exact ⟨⟨k0, h1, Nat.le_trans h2 C.2.1⟩, h3.trans C⟩
theorem own_Wd.ext (W : own_Wd s Z EL vm0 h) (E : Ext h h') : own_Wd s Z EL vm0 h' := W.step (CHr.ext E W.ch)
theorem own_Wd.wr {a : Addr} {sl : Nat} {v : Value} (W : own_Wd s Z EL vm0 h) (w : Wr h h' a sl v) (S : Safe Z EL vm0 h a) : own_Wd s Z EL vm0 h' := W.step (CHr.wr w S W.ch)
theorem own_Wd.keep (W : own_Wd s Z EL vm0 h) (K : Keep h h' ws) (hs : ∀ x ∈ ws, Safe Z EL vm0 h x) : own_Wd s Z EL vm0 h' := W.step (CHr.keep K hs W.ch)
theorem own_retW (X : Stand p l e R (s.setVm vm0) m args below meth c T locs cells slots) (hx : p.tables.exec = Jvm.exec) (hlk : meth.locks = false) (eT : T.heap = h) (W : own_Wd s Z EL vm0 h) (hZ : Z.Warmed39 (s.setVm vm0).vm) (hEL : EW Z a0 EL) {pc : Nat} {Ls : Array Slot} {w : Value} {t : FieldType} {i : Instr} {rest : List Value} (hret : meth.sig.returnType = some t) (hn : narrow t w = w)
    (hi : (i = .ireturn ∧ (t = .int ∨ t = .boolean ∨ t = .byte ∨ t = .char ∨ t = .short) ∧ ∃ z, w = .int z) ∨ (i = .lreturn ∧ t = .long ∧ ∃ z, w = .long z) ∨ (i = .dreturn ∧ t = .double ∧ ∃ z, w = .double z) ∨ (i = .freturn ∧ t = .float ∧ ∃ z, w = .float z) ∨ (i = .areturn ∧ t.isReference = true ∧ w.isRef = true))
    (hd : decode c.code pc = .ok (i, 1)) (hk : cells ≤ k) (hs : slots ≤ n) (hQ : Q (some w) T.heap locs) : own_EndsW p e below s Z EL Q k n (T.setTop (mkF m pc Ls (w :: rest))) := by
  subst eT
  obtain ⟨⟨k0, h1, h2⟩, h3⟩ := W
  have hA : CHr Z EL s.vm s.heap T.vm T.heap := h3.trans (CHv.at X hZ hEL h3.1)
  obtain ⟨fs, hr, hrun, hended, q1, q2, q3, q4⟩ := X.leaveW h1 h2 (v := some w) (fun h => by rw [hret] at h; cases h) hlk
  exact ⟨_, _, retOut X hx hret hn hi hd hr, hrun, hended, _, _, rfl, hQ, hA, q1, q2, q3, q4.mono hk hs⟩
theorem own_retAW (X : Stand p l e R (s.setVm vm0) m args below meth c T locs cells slots) (hx : p.tables.exec = Jvm.exec) (hlk : meth.locks = false) (eT : T.heap = h) (W : own_Wd s Z EL vm0 h) (hZ : Z.Warmed39 (s.setVm vm0).vm) (hEL : EW Z a0 EL) {pc : Nat} {Ls : Array Slot} {w : Value} {t : FieldType} {rest : List Value} (hret : meth.sig.returnType = some t) (ht : t.isReference = true) (hw : w.isRef = true) (hn : narrow t w = w) (hd : decode c.code pc = .ok (.areturn, 1)) (hk : cells ≤ k) (hs : slots ≤ n) (hQ : Q (some w) T.heap locs) : own_EndsW p e below s Z EL Q k n (T.setTop (mkF m pc Ls (w :: rest))) :=
  own_retW X hx hlk eT W hZ hEL hret hn (Or.inr (Or.inr (Or.inr (Or.inr ⟨rfl, ht, hw⟩)))) hd hk hs hQ
theorem own_retNW (X : Stand p l e R (s.setVm vm0) m args below meth c T locs cells slots) (hx : p.tables.exec = Jvm.exec) (hlk : meth.locks = false) (eT : T.heap = h) (W : own_Wd s Z EL vm0 h) (hZ : Z.Warmed39 (s.setVm vm0).vm) (hEL : EW Z a0 EL) {pc : Nat} {Ls : Array Slot} {z : Int32} {t : FieldType} {rest : List Value} (hret : meth.sig.returnType = some t) (ht : t = .boolean ∨ t = .byte ∨ t = .char ∨ t = .short) (hd : decode c.code pc = .ok (.ireturn, 1)) (hk : cells ≤ k) (hs : slots ≤ n) (hQ : Q (some (.int (nar t z))) T.heap locs) : own_EndsW p e below s Z EL Q k n (T.setTop (mkF m pc Ls (.int z :: rest))) := by
  subst eT
  obtain ⟨⟨k0, h1, h2⟩, h3⟩ := W
  have hA : CHr Z EL s.vm s.heap T.vm T.heap := h3.trans (CHv.at X hZ hEL h3.1)
  obtain ⟨fs, hr, hrun, hended, q1, q2, q3, q4⟩ := X.leaveW h1 h2 (v := some (.int (nar t z))) (fun h => by rw [hret] at h; cases h) hlk
  exact ⟨_, _, retN X hx hret ht hd hr, hrun, hended, _, _, rfl, hQ, hA, q1, q2, q3, q4.mono hk hs⟩
theorem own_retVW (X : Stand p l e R (s.setVm vm0) m args below meth c T locs cells slots) (hx : p.tables.exec = Jvm.exec) (hlk : meth.locks = false) (eT : T.heap = h) (W : own_Wd s Z EL vm0 h) (hZ : Z.Warmed39 (s.setVm vm0).vm) (hEL : EW Z a0 EL) {pc : Nat} {Ls : Array Slot} (hret : meth.sig.returnType = none) (hd : decode c.code pc = .ok (.return_, 1)) (hk : cells ≤ k) (hs : slots ≤ n) (hQ : Q none T.heap locs) : own_EndsW p e below s Z EL Q k n (T.setTop (mkF m pc Ls [])) := by
  subst eT
  obtain ⟨⟨k0, h1, h2⟩, h3⟩ := W
  have hA : CHr Z EL s.vm s.heap T.vm T.heap := h3.trans (CHv.at X hZ hEL h3.1)
  obtain ⟨fs, hr, hrun, hended, q1, q2, q3, q4⟩ := X.leaveW h1 h2 (v := none) (fun _ => rfl) hlk
  exact ⟨_, _, X.returnOut hx hret hd hr, hrun, hended, _, _, rfl, hQ, hA, q1, q2, q3, q4.mono hk hs⟩
theorem own_ldcO (X : Stand p l e R (s.setVm vm0) m args below meth c T locs cells slots) (hx : p.tables.exec = Jvm.exec) (hZ : Z.Warmed39 (s.setVm vm0).vm) {own text : String} {index : Nat} (hown : (s.setVm vm0).vm.findClass own = some m.cls) (w : (Cond.stringLink own index text).before a0 Z = true) (wS : ∀ a ∈ Bundle.stringAtoms, a.before a0 Z = true) (eT : T.heap = h) (W : own_Wd s Z EL vm0 h) (hEL : EW Z a0 EL)
    {g : JFrame} (hg : g.method = m) (hd : decode c.code g.pc = .ok (.ldc index, 2)) {n : Nat} (hn : 4 * text.toList.length ≤ n) (hbig : n ≤ 536870912) (hc : cells + 2 ≤ R.cells) (hl' : slots + (n + 4) ≤ R.slots) :
    ∃ (a : Addr) (T' : State) (h' : Heap), Stand p l e R (s.setVm T'.vm) m args below meth c T' locs (cells + 2) (slots + (n + 4)) ∧ T'.heap = h' ∧ Ext h h' ∧ own_Wd s Z EL T'.vm h' ∧ Z.Warmed39 (s.setVm T'.vm).vm ∧ (s.setVm T'.vm).vm.findClass own = some m.cls ∧
      ∀ target, Steps p.tables e below (T'.setTop { g with pc := g.pc + 2, stack := .ref a :: g.stack }) target → Steps p.tables e below (T.setTop g) target := by
  obtain ⟨⟨k0, h1, h2⟩, h3⟩ := W
  obtain ⟨a, T', h', k1, X', e', E, hS, hk, hZ', hf, C, -, st⟩ := ldcOH X hx hZ hown w wS eT h1 h2 hEL h3.1 hg hd hn hbig hc hl'
  exact ⟨a, T', h', X', e', E, ⟨⟨k1, hS, hk⟩, h3.trans C⟩, hZ', hf, st⟩
/-- ldc of the empty text, read; x: an object that stays safe -/
theorem own_ldcE (X : Stand p l e R (s.setVm vm0) m args below meth c T locs cells slots) (hx : p.tables.exec = Jvm.exec) (hZ : Z.Warmed39 (s.setVm vm0).vm) {own : String} {index : Nat} (hown : (s.setVm vm0).vm.findClass own = some m.cls) (w : (Cond.stringLink own index "").before a0 Z = true) (wS : ∀ a ∈ Bundle.stringAtoms, a.before a0 Z = true) (eT : T.heap = h) (W : own_Wd s Z EL vm0 h) (hEL : EW Z a0 EL) (hmem : (own, index) ∈ EL) {x : Addr} (hlt : x < h.size) (S : Safe Z EL vm0 h x)
    {g : JFrame} (hg : g.method = m) (hd : decode c.code g.pc = .ok (.ldc index, 2)) (hc : cells + 2 ≤ R.cells) (hl' : slots + (0 + 4) ≤ R.slots) :
    ∃ (a : Addr) (T' : State) (h' : Heap) (b : Addr), Stand p l e R (s.setVm T'.vm) m args below meth c T' locs (cells + 2) (slots + (0 + 4)) ∧ T'.heap = h' ∧ Ext h h' ∧ own_Wd s Z EL T'.vm h' ∧ Z.Warmed39 (s.setVm T'.vm).vm ∧ (s.setVm T'.vm).vm.findClass own = some m.cls ∧
      Fld Z h' a "java/lang/String" "coder" "B" (.int 0) ∧ Fld Z h' a "java/lang/String" "value" "[B" (.ref b) ∧ own_Ar Z h' b .byte 0 (fun _ => .int (0 : Int32)) ∧ Safe Z EL T'.vm h' x ∧ x ≠ a ∧ x ≠ b ∧
      ∀ target, Steps p.tables e below (T'.setTop { g with pc := g.pc + 2, stack := .ref a :: g.stack }) target → Steps p.tables e below (T.setTop g) target := by
  obtain ⟨⟨k0, h1, h2⟩, h3⟩ := W
  obtain ⟨a, T', h', k1, b, kk, X', e', E, hS, hk, hZ', hf, Ea, Fc, Fv, Ab, -, -, C, -, ne, st⟩ := ldcCH (vs := []) (z := 0) (n := 0) X hx hZ hown w wS eT h1 h2 hEL hmem h3.1 ⟨fun c hc => by simp at hc, by simp⟩ (by decide) rfl hg hd (by simp) (by decide) hc hl'
  have S' : Safe Z EL T'.vm h' x := C.safe hlt S
  obtain ⟨n1, n2⟩ := ne x S'
  obtain ⟨cb, A1, -, A2, -⟩ := Ab
  exact ⟨a, T', h', b, X', e', E, ⟨⟨k1, hS, hk⟩, h3.trans C⟩, hZ', hf, Fc, Fv, ⟨cb, A1, A2, fun i hi => absurd hi (Nat.not_lt_zero _)⟩, S', n1, n2, st⟩
theorem own_fold {own : String} {T' : State} {locs' : List Loc} {cells' slots' : Nat} (W : own_Wd s Z EL vm0 h) (eT : T.heap = h) (X : Stand p l e R ((s.setVm vm0).setVm T'.vm) m args below meth c T' locs' cells' slots') (h2 : (s.setVm vm0).Since T'.vm T'.heap.size) (g : T.heap.size ≤ T'.heap.size) (C : CHr Z EL vm0 h T'.vm T'.heap) (hZ : Z.Warmed39 (s.setVm vm0).vm) (hown : (s.setVm vm0).vm.findClass own = some m.cls) :
    Stand p l e R (s.setVm T'.vm) m args below meth c T' locs' cells' slots' ∧ own_Wd s Z EL T'.vm T'.heap ∧ Z.Warmed39 (s.setVm T'.vm).vm ∧ (s.setVm T'.vm).vm.findClass own = some m.cls := by
  subst eT
  obtain ⟨⟨k0, h1, h3⟩, h4⟩ := W
  obtain ⟨a, b, c', d⟩ := rebS h1 h3 X h2 g hZ hown
  exact ⟨a, ⟨⟨_, b, Nat.le_refl _⟩, h4.trans C⟩, c', d⟩
end OwnWide
section OwnStr
variable {Z : State} {EL : List (String × Nat)} {vm : Vm} {h h' : Heap} {a0 : Array Value} {x r b : Addr} {C : String} {ty : FieldType} {n k : Nat} {f : Nat → Value} {G : Nat → Int32}
theorem own_safeAr (hal : Z.vm.Alike vm) (F : own_Ar Z h x ty n f) (ht : ty ≠ .byte) : Safe Z EL vm h x := by obtain ⟨c, A, -⟩ := F; exact Safe.arr hal A ht
theorem own_neAr (E : Exa Z h x C) (F : own_Ar Z h b ty n f) (w : (Cond.instantiable C k).before a0 Z = true) : x ≠ b := fun q => by
  subst q
  obtain ⟨c1, k1, e1, f1, g1, -⟩ := E
  obtain ⟨c2, ⟨e2, ⟨-, kk, hk, comp, hkind⟩, -⟩, -⟩ := F
  cases e1.symm.trans e2
  obtain ⟨c3, k3, f3, g3, ho, -⟩ := Cond.instantiable_spec w
  cases f1.symm.trans f3
  cases g1.symm.trans g3
  cases g1.symm.trans hk
  rw [ho] at hkind; cases hkind
theorem own_safeStr (hal : Z.vm.Alike vm) (E : Exa Z h x "java/lang/String") (V : Fld Z h x "java/lang/String" "value" "[B" .null) : Safe Z EL vm h x := fun B => by
  obtain ⟨p, -, u, a, -, q, hq, F, e⟩ := B
  rcases e with rfl | rfl
  · obtain ⟨cS, ⟨⟨s1, s2, s3, ⟨cv, kv, iv, s4, s4'⟩, -, s6, s7, s8, -⟩, -⟩, -⟩ := F
    obtain ⟨cell, cf, kf, i, fl, v1, v2, v3, v4, v5, v6, v7⟩ := V
    cases (show h[q.sa]? = some q.sC from s1).symm.trans v1
    obtain ⟨kv', z4⟩ := ff_back (U := Wst Z vm h) hal s4
    have e1 := v2.symm.trans z4
    simp only [Option.some.injEq, Prod.mk.injEq] at e1
    rw [e1.2.2.2, s8] at v7
    cases v7
  · obtain ⟨cell, kE, e1, e2, e3, -, -⟩ := E
    cases (show h[q.sd]? = some q.SA from F.hd).symm.trans e1
    obtain ⟨cS, -, -, fB, -⟩ := F
    have fB : vm.findClass "[B" = some q.SA.cls := fB
    rw [hal.findClass] at fB
    obtain ⟨k1, q1, q2⟩ := Vm.findClass_spec fB
    obtain ⟨k2, q3, q4⟩ := Vm.findClass_spec e2
    cases q1.symm.trans q3
    exact absurd (q2.symm.trans q4) (by decide)
/-- r is a Latin-1 String of n bytes G -/
def own_Str (Z : State) (h : Heap) (r : Addr) (n : Nat) (G : Nat → Int32) : Prop := Exa Z h r "java/lang/String" ∧ Fld Z h r "java/lang/String" "coder" "B" (.int (0 : Int32)) ∧ ∃ b, Fld Z h r "java/lang/String" "value" "[B" (.ref b) ∧ own_Ar Z h b .byte n (fun i => .int (G i))
theorem own_Str.lt (F : own_Str Z h r n G) : r < h.size := F.1.lt
theorem own_Str.ext (F : own_Str Z h r n G) (E : Ext h h') : own_Str Z h' r n G := by
  obtain ⟨E1, F1, b, F2, A⟩ := F
  exact ⟨Exa.ext E E1, Fld.ext E F1, b, Fld.ext E F2, A.ext E⟩
theorem own_Str.keep0 (F : own_Str Z h r n G) (K : Keep h h' []) : own_Str Z h' r n G := by
  obtain ⟨E1, F1, b, F2, A⟩ := F
  exact ⟨E1.keep K, F1.keep K nin0, b, F2.keep K nin0, A.keep K nin0⟩
theorem own_Str.keep1 (F : own_Str Z h r n G) (K : Keep h h' [x]) (E : Exa Z h x C) (hC : C ≠ "java/lang/String") (w : (Cond.instantiable C k).before a0 Z = true) : own_Str Z h' r n G := by
  obtain ⟨E1, F1, b, F2, A⟩ := F
  have n1 : r ≠ x := (Exa.ne E E1 hC).symm
  have n2 : b ≠ x := (own_neAr E A w).symm
  exact ⟨E1.keep K, F1.keep K (ninS n1 nin0), b, F2.keep K (ninS n1 nin0), A.keep K (ninS n2 nin0)⟩
theorem own_Str.cong (F : own_Str Z h r n G) {n' : Nat} {G' : Nat → Int32} (hn : n' = n) (hG : ∀ i, i < n → G' i = G i) : own_Str Z h r n' G' := by
  subst hn
  obtain ⟨E1, F1, b, F2, A⟩ := F
  exact ⟨E1, F1, b, F2, A.cong fun i hi => by rw [hG i hi]⟩
theorem own_Ar.same {m : Nat} {g : Nat → Value} (F : own_Ar Z h b ty n f) (F' : own_Ar Z h b ty m g) : n = m ∧ ∀ i, i < n → f i = g i := by
  obtain ⟨c, A, e, q⟩ := F
  obtain ⟨c', A', e', q'⟩ := F'
  cases A.1.symm.trans A'.1
  exact ⟨e.symm.trans e', fun i hi => Option.some.inj ((q i hi).symm.trans (q' i (by omega)))⟩
theorem own_Fld.same {O d nm : String} {v v' : Value} (F : Fld Z h x O nm d v) (F' : Fld Z h x O nm d v') : v = v' := by
  obtain ⟨c, cf, kf, i, fl, h1, h2, -, -, -, -, h7⟩ := F
  obtain ⟨c', cf', kf', i', fl', h1', h2', -, -, -, -, h7'⟩ := F'
  cases h1.symm.trans h1'
  cases h2.symm.trans h2'
  exact Option.some.inj (h7.symm.trans h7')
theorem own_Str.same {m : Nat} {H : Nat → Int32} (F : own_Str Z h r n G) (F' : own_Str Z h r m H) : n = m ∧ ∀ i, i < n → G i = H i := by
  obtain ⟨-, -, b, F2, A⟩ := F
  obtain ⟨-, -, b', F2', A'⟩ := F'
  have e := Value.ref.inj (own_Fld.same F2 F2')
  subst e
  obtain ⟨q1, q2⟩ := own_Ar.same A A'
  exact ⟨q1, fun i hi => Value.int.inj (q2 i hi)⟩
/-- an exact object of class C isn't one of class K, C being a child of the root -/
theorem own_notInst {O K : String} {k : Nat} (w : (Cond.superclass C O).before a0 Z = true) (wo : (Cond.noSuperclass O).before a0 Z = true) (wc : (Cond.instantiable C n).before a0 Z = true) (wk : (Cond.instantiable K k).before a0 Z = true) (n1 : C ≠ K) (n2 : O ≠ K) : ∃ c t, Z.vm.findClass C = some c ∧ Z.vm.findClass K = some t ∧ Z.vm.assignable c t = false := by
  obtain ⟨c, kc, f1, g1, o1, -⟩ := Cond.instantiable_spec wc
  obtain ⟨t, kt, f2, g2, o2, i2, -⟩ := Cond.instantiable_spec wk
  obtain ⟨po, kp, kpo, f3, g3, g4, u3, -, -, -⟩ := Cond.superclass_spec f1 w
  obtain ⟨po', kr, f5, g5, u5, -, -⟩ := Cond.noSuperclass_spec wo
  cases f3.symm.trans f5
  cases g4.symm.trans g5
  cases g1.symm.trans g3
  have e1 : c ≠ t := ids_ne f1 f2 n1
  have e2 : po ≠ t := ids_ne f3 f2 n2
  refine ⟨c, t, f1, f2, ?_⟩
  have i2' : kt.isInterface = false := by cases hq : kt.isInterface with
    | false => rfl
    | true => rw [hq] at i2; cases i2
  have s0 : ∀ fuel, Z.vm.isSubclassAux fuel po t = false := fun fuel => by
    cases fuel with
    | zero => rfl
    | succ q => simp [Vm.isSubclassAux, e2, g4, u5]
  have s1 : ∀ fuel, Z.vm.isSubclassAux fuel c t = false := fun fuel => by
    cases fuel with
    | zero => rfl
    | succ q => simp [Vm.isSubclassAux, e1, g1, u3, s0]
  show Z.vm.assignableAux (255 + 1) c t = false
  simp [Vm.assignableAux, e1, g1, g2, o1, o2, i2', Vm.isSubclass, s1]
end OwnStr
theorem own_SA {Z : State} {ar : Array Value} (hw : ∀ d ∈ tables_1, d.before ar Z = true) : ∀ a ∈ Bundle.stringAtoms, a.before ar Z = true := fun a ha => by
  simp only [Bundle.stringAtoms, List.mem_cons, List.not_mem_nil, or_false] at ha
  rcases ha with rfl | rfl | rfl | rfl | rfl | rfl | rfl
  · exact (hw _ (List.mem_of_getElem? (i := 9) rfl))
  · exact (hw _ (List.mem_of_getElem? (i := 8) rfl))
  · exact (hw _ (List.mem_of_getElem? (i := 22) rfl))
  · exact (hw _ (List.mem_of_getElem? (i := 23) rfl))
  · exact (hw _ (List.mem_of_getElem? (i := 24) rfl))
  · exact (hw _ (List.mem_of_getElem? (i := 25) rfl))
  · exact (hw _ (List.mem_of_getElem? (i := 26) rfl))
theorem own_EW {Z : State} {ar : Array Value} (hw : ∀ d ∈ tables_1, d.before ar Z = true) : EW Z ar consts_1 := (EW.cons (hw _ (List.mem_of_getElem? (i := 44) rfl)) (by first | decide | decide +kernel) (EW.cons (hw _ (List.mem_of_getElem? (i := 52) rfl)) (by first | decide | decide +kernel) (EW.cons (hw _ (List.mem_of_getElem? (i := 55) rfl)) (by first | decide | decide +kernel) (EW.cons (hw _ (List.mem_of_getElem? (i := 21) rfl)) (by first | decide | decide +kernel) EW.nil))))
abbrev own_by (x : Int32) : Int32 := nar .byte (x.toInt8.toInt32)
def own_eq (n m : Nat) (G H : Nat → Int32) : Prop := n = m ∧ ∀ i, i < n → G i = H i
theorem own_eq.refl (n : Nat) (G : Nat → Int32) : own_eq n n G G := ⟨rfl, fun _ _ => rfl⟩
theorem own_eq.symm {n m : Nat} {G H : Nat → Int32} (h : own_eq n m G H) : own_eq m n H G := ⟨h.1.symm, fun i hi => (h.2 i (by have := h.1; omega)).symm⟩
def own_ans (z : Int32) (P : Prop) : Prop := (z = 1 ∧ P) ∨ (z = 0 ∧ ¬ P)
theorem own_ans.pos {z : Int32} {P : Prop} (h : own_ans z P) (q : ¬ z = (0 : Int32)) : P := by
  rcases h with ⟨-, p⟩ | ⟨p, -⟩
  · exact p
  · exact absurd p q
theorem own_ans.neg {z : Int32} {P : Prop} (h : own_ans z P) (q : z = (0 : Int32)) : ¬ P := by
  rcases h with ⟨p, -⟩ | ⟨-, p⟩
  · rw [q] at p; exact absurd p (by decide)
  · exact p
theorem own_ans.yes {z : Int32} {P : Prop} (h : own_ans z P) (p : P) : z = (1 : Int32) := by
  rcases h with ⟨q, -⟩ | ⟨-, q⟩
  · exact q
  · exact absurd p q
theorem own_ans.no {z : Int32} {P : Prop} (h : own_ans z P) (p : ¬ P) : z = (0 : Int32) := by
  rcases h with ⟨-, q⟩ | ⟨q, -⟩
  · exact absurd q p
  · exact q
theorem own_c32 {i : Nat} (h : i < 2147483648) : (Int32.ofNat i).toInt = (i : Int) := Int32.toInt_ofNat_of_lt h
theorem own_tn {x : Int32} : x.toNatClampNeg = x.toInt.toNat := rfl
theorem own_cn {i : Nat} (h : i < 2147483648) : (Int32.ofNat i).toNatClampNeg = i := by rw [own_tn, own_c32 h]; rfl
theorem own_succ {i : Nat} : Int32.ofNat i + (1 : Int32) = Int32.ofNat (i + 1) := (Int32.ofNat_add i 1).symm
theorem own_nn0 {i : Nat} (h : i < 2147483648) : ¬ Int32.ofNat i < 0 := by
  rw [Int32.lt_iff_toInt_lt, own_c32 h, show (0 : Int32).toInt = 0 by decide]; omega
theorem own_ltn {i n : Nat} (h : i < n) (hn : n < 1000) : (Int32.ofNat i).toNatClampNeg < n := by rw [own_cn (by omega)]; exact h
theorem own_ilt {i n : Nat} (h : i < n) (hn : n < 1000) : Int32.ofNat i < Int32.ofNat n := by
  rw [Int32.lt_iff_toInt_lt, own_c32 (by omega), own_c32 (by omega)]; omega
theorem own_ige {i n : Nat} (h : i = n) : ¬ Int32.ofNat i < Int32.ofNat n := by rw [h]; exact Int32.lt_irrefl
theorem own_of32 {n m : Nat} (hn : n < 1000) (hm : m < 1000) (h : Int32.ofNat n = Int32.ofNat m) : n = m := by
  have := congrArg Int32.toInt h
  rw [own_c32 (by omega), own_c32 (by omega)] at this; omega
theorem own_grow {i : Nat} {G H : Nat → Int32} (hi : i < 1000) (hno : ∀ j, j < i → G j = H j) (h : G (Int32.ofNat i).toNatClampNeg = H (Int32.ofNat i).toNatClampNeg) : ∀ j, j < i + 1 → G j = H j := fun j hj => by
  rw [own_cn (by omega)] at h
  rcases Nat.lt_or_ge j i with q | q
  · exact hno j q
  · have : j = i := by omega
    subst this; exact h
theorem own_bad {i n m : Nat} {G H : Nat → Int32} (hi : i < n) (hn : n < 1000) (h : ¬ G (Int32.ofNat i).toNatClampNeg = H (Int32.ofNat i).toNatClampNeg) : ¬ own_eq n m G H := fun q => by
  rw [own_cn (by omega)] at h
  exact h (q.2 i hi)
theorem dsiB0_0 : decode jdk_42_method_149_code 0 = .ok (.aload_n 0, 1) := by decide +kernel
theorem dsiB0_1 : decode jdk_42_method_149_code 1 = .ok (.invokespecial 1, 3) := by decide +kernel
theorem dsiB0_4 : decode jdk_42_method_149_code 4 = .ok (.iload_n 3, 1) := by decide +kernel
theorem dsiB0_5 : decode jdk_42_method_149_code 5 = .ok (.ifCond .ne 22, 3) := by decide +kernel
theorem dsiB0_8 : decode jdk_42_method_149_code 8 = .ok (.aload_n 0, 1) := by decide +kernel
theorem dsiB0_9 : decode jdk_42_method_149_code 9 = .ok (.ldc 7, 2) := by decide +kernel
theorem dsiB0_11 : decode jdk_42_method_149_code 11 = .ok (.getfield 9, 3) := by decide +kernel
theorem dsiB0_14 : decode jdk_42_method_149_code 14 = .ok (.putfield 9, 3) := by decide +kernel
theorem dsiB0_17 : decode jdk_42_method_149_code 17 = .ok (.aload_n 0, 1) := by decide +kernel
theorem dsiB0_18 : decode jdk_42_method_149_code 18 = .ok (.ldc 7, 2) := by decide +kernel
theorem dsiB0_20 : decode jdk_42_method_149_code 20 = .ok (.getfield 15, 3) := by decide +kernel
theorem dsiB0_23 : decode jdk_42_method_149_code 23 = .ok (.putfield 15, 3) := by decide +kernel
theorem dsiB0_26 : decode jdk_42_method_149_code 26 = .ok (.return_, 1) := by decide +kernel
theorem pnsiB0 : plainName "java/lang/String" = true := by first | (simp [plainName, overriddenIn]; done) | decide +kernel
theorem efsiB0 (m : MethodId) (a0 : Addr) (a1 : Addr) : entryFrame m #[(.ref a0), (.ref a1), (.int (0 : Int32)), (.int (0 : Int32)), .null] 6 = mkF m 0 #[.val (.ref a0), .val (.ref a1), .val (.int (0 : Int32)), .val (.int (0 : Int32)), .val .null, .unset] [] := by first | (simp [entryFrame, mkF, argsToLocals, Value.category]; done) | rfl
def QsiB0 (Z : State) (a0 : Addr) (a1 : Addr) (h0 : Heap) (n0 : Nat) (v : Option Value) (h : Heap) (L : List Loc) : Prop := v = none ∧ Fr n0 L ∧ Keep h0 h [a0] ∧ own_Str Z h a0 0 (fun _ => (0 : Int32))
set_option maxRecDepth 65536 in
set_option maxHeartbeats 40000000 in
theorem rmsiB0 (l : Launch) (Z : State) (ar : Array Value) (hw : ∀ d ∈ tables_1, d.before ar Z = true) (ws : List Jvm.Cond) (a0 : Addr) (a1 : Addr) (h0 : Heap) (n0 : Nat) (O0 : Old Z n0 h0) (E_a0 : Exa Z h0 a0 "java/lang/String") (g_a0 : n0 ≤ a0) (F_value_a0 : Fld Z h0 a0 "java/lang/String" "value" "[B" .null) (F_coder_a0 : Fld Z h0 a0 "java/lang/String" "coder" "B" (.int (0 : Int32))) :
    MetFree l (⟨"java/lang/String", "<init>", "([CIILjava/lang/Void;)V"⟩ : MethodName) (head1 (Jvm.Cond.code (⟨"java/lang/String", "<init>", "([CIILjava/lang/Void;)V"⟩ : MethodName) jdk_42_method_149_code 6 none :: ws) ({ frames := 1, cells := 4, slots := 8, locals := 12 } : Room)) (fun a U => a = #[(.ref a0), (.ref a1), (.int (0 : Int32)), (.int (0 : Int32)), .null] ∧ Z.Warmed39 U.vm ∧ U.heap = h0 ∧ CHv Z consts_1 U.vm h0) (fun _ _ _ _ _ => True) (fun _ U o U' => ∃ v L, o = .returned v ∧ QsiB0 Z a0 a1 h0 n0 v U'.heap L ∧ CHr Z consts_1 U.vm U.heap U'.vm U'.heap ∧ ReturnedEndW U o U' L ({ frames := 1, cells := 4, slots := 8, locals := 12 } : Room).cells ({ frames := 1, cells := 4, slots := 8, locals := 12 } : Room).slots) := by
  refine MetFree.of_bodySF (plainFor_of_name pnsiB0) hisR ?_
  intro p e s m args below meth c s₁ Bd hml0 hP hK
  obtain ⟨rfl, hZ, hh, hCH⟩ := hP
  have hx := Bd.exec
  have hby := Bd.bytes
  have hml : c.maxLocals = 6 := hml0
  have hown : s.vm.findClass "java/lang/String" = some m.cls := findClass_of_methodNamed Bd.named
  have hnm := (name_of_methodNamed Bd.named Bd.method).1
  have hlk : meth.locks = false := BodyLoose.notSynchronized Bd
  have X0 : Stand p l e ({ frames := 1, cells := 4, slots := 8, locals := 12 } : Room) (s.setVm s.vm) m #[(.ref a0), (.ref a1), (.int (0 : Int32)), (.int (0 : Int32)), .null] below meth c s₁ [] 0 0 := Stand.of_body Bd
  have e0 : s₁.heap = h0 := by rw [← hh, Bd.state]; rfl
  have N0 := Fr.nil n0
  have Wd0 : own_Wd s Z consts_1 s.vm h0 := own_Wd.start hh hCH
  suffices hmain : own_EndsW p e below s Z consts_1 (QsiB0 Z a0 a1 h0 n0) 4 8 (s₁.setTop (mkF m 0 #[.val (.ref a0), .val (.ref a1), .val (.int (0 : Int32)), .val (.int (0 : Int32)), .val .null, .unset] [])) by
    obtain ⟨U, o, h1, r⟩ := hmain
    exact ⟨U, o, castTop (efsiB0 m a0 a1) h1, r⟩
  show own_EndsW _ _ _ _ _ _ _ _ _ (s₁.setTop (mkF m 0 #[.val (.ref a0), .val (.ref a1), .val (.int (0 : Int32)), .val (.int (0 : Int32)), .val .null, .unset] []))
  refine own_goW (fun _ k => XS.aloadN X0.here hx rfl (hb hby dsiB0_0) rfl rfl k) ?_
  show own_EndsW _ _ _ _ _ _ _ _ _ (s₁.setTop (mkF m 1 #[.val (.ref a0), .val (.ref a1), .val (.int (0 : Int32)), .val (.int (0 : Int32)), .val .null, .unset] [(.ref a0)]))
  obtain ⟨T1, X1, e1, st1⟩ := initO X0 hx hZ hown (hw _ (List.mem_of_getElem? (i := 18) rfl)) (hw _ (List.mem_of_getElem? (i := 19) rfl)) (hw _ (List.mem_of_getElem? (i := 20) rfl)) e0 (g := (mkF m 1 #[.val (.ref a0), .val (.ref a1), .val (.int (0 : Int32)), .val (.int (0 : Int32)), .val .null, .unset] [(.ref a0)])) rfl (by rw [hml]; rfl) rfl (hb hby dsiB0_1) (by decide) (W := 0) (by show 2 * 0 + _ ≤ _; exact Nat.le_of_eq rfl) (by decide)
  refine own_goW (fun _ k => st1 _ k) ?_
  show own_EndsW _ _ _ _ _ _ _ _ _ (T1.setTop (mkF m 4 #[.val (.ref a0), .val (.ref a1), .val (.int (0 : Int32)), .val (.int (0 : Int32)), .val .null, .unset] []))
  refine own_goW (fun _ k => XS.iloadN X1.here hx rfl (hb hby dsiB0_4) rfl k) ?_
  show own_EndsW _ _ _ _ _ _ _ _ _ (T1.setTop (mkF m 5 #[.val (.ref a0), .val (.ref a1), .val (.int (0 : Int32)), .val (.int (0 : Int32)), .val .null, .unset] [(.int (0 : Int32))]))
  refine own_goW (fun _ k => XS.ifNo X1.here hx rfl (hb hby dsiB0_5) rfl ((if0 _ _).trans (teq (by decide)).2) k) ?_
  have Sf0 : Safe Z consts_1 s.vm h0 a0 := own_safeStr hZ.alike E_a0 F_value_a0
  show own_EndsW _ _ _ _ _ _ _ _ _ (T1.setTop (mkF m 8 #[.val (.ref a0), .val (.ref a1), .val (.int (0 : Int32)), .val (.int (0 : Int32)), .val .null, .unset] []))
  refine own_goW (fun _ k => XS.aloadN X1.here hx rfl (hb hby dsiB0_8) rfl rfl k) ?_
  show own_EndsW _ _ _ _ _ _ _ _ _ (T1.setTop (mkF m 9 #[.val (.ref a0), .val (.ref a1), .val (.int (0 : Int32)), .val (.int (0 : Int32)), .val .null, .unset] [(.ref a0)]))
  obtain ⟨b2, T2, h2, vb2, X2, e2, E2, Wd2, hZ, hown, Fc2, Fv2, Av2, Sf2, nx2, ny2, st2⟩ := own_ldcE X1 hx hZ hown (hw _ (List.mem_of_getElem? (i := 21) rfl)) (own_SA hw) e1 Wd0 (own_EW hw) (List.mem_of_getElem? (i := 3) rfl) E_a0.lt Sf0 (g := (mkF m 9 #[.val (.ref a0), .val (.ref a1), .val (.int (0 : Int32)), .val (.int (0 : Int32)), .val .null, .unset] [(.ref a0)])) rfl (hb hby dsiB0_9) (by decide) (by decide)
  refine own_goW (fun _ k => st2 _ k) ?_
  have F3 : Exa Z h2 a0 "java/lang/String" := (Exa.ext E2 E_a0)
  have F4 : Fld Z h2 a0 "java/lang/String" "value" "[B" .null := (Fld.ext E2 F_value_a0)
  have F5 : Fld Z h2 a0 "java/lang/String" "coder" "B" (.int (0 : Int32)) := (Fld.ext E2 F_coder_a0)
  have F6 : Old Z n0 h2 := (O0.ext E2)
  have K7 : Keep h0 h2 [a0] := (Keep.refl h0 [a0]).ext E2
  show own_EndsW _ _ _ _ _ _ _ _ _ (T2.setTop (mkF m 11 #[.val (.ref a0), .val (.ref a1), .val (.int (0 : Int32)), .val (.int (0 : Int32)), .val .null, .unset] [(.ref b2), (.ref a0)]))
  obtain ⟨T8, X8, e8, st8⟩ := getF X2 hx hZ hown (host := "") (Or.inl (hw _ (List.mem_of_getElem? (i := 27) rfl))) Via.refl e2 Fv2 (g := (mkF m 11 #[.val (.ref a0), .val (.ref a1), .val (.int (0 : Int32)), .val (.int (0 : Int32)), .val .null, .unset] [(.ref b2), (.ref a0)])) rfl rfl (hb hby dsiB0_11)
  refine own_goW (fun _ k => st8 _ k) ?_
  show own_EndsW _ _ _ _ _ _ _ _ _ (T8.setTop (mkF m 14 #[.val (.ref a0), .val (.ref a1), .val (.int (0 : Int32)), .val (.int (0 : Int32)), .val .null, .unset] [(.ref vb2), (.ref a0)]))
  obtain ⟨T9, h9, X9, e9, W9, st9⟩ := putF X8 hx hZ hown (host := "") (Or.inl (hw _ (List.mem_of_getElem? (i := 27) rfl))) Via.refl e8 F4 F3 (Or.inr ⟨(hw _ (List.mem_of_getElem? (i := 23) rfl)), rfl, hnm⟩) (hw _ (List.mem_of_getElem? (i := 8) rfl)) (ty := (.array .byte)) (by decide) rfl rfl (g := (mkF m 14 #[.val (.ref a0), .val (.ref a1), .val (.int (0 : Int32)), .val (.int (0 : Int32)), .val .null, .unset] [(.ref vb2), (.ref a0)])) rfl rfl (hb hby dsiB0_14)
  refine own_goW (fun _ k => st9 _ k) ?_
  have N9 := Fr.snoc X9 N0 g_a0
  have Sf10 : Safe Z consts_1 T2.vm h9 a0 := Safe.wr W9 Sf2 Wd2.ch Sf2
  have Wd9 : own_Wd s Z consts_1 T2.vm h9 := Wd2.wr W9 Sf2
  have F11 : Exa Z h9 a0 "java/lang/String" := (Exa.wr W9 F3)
  have F12 : Fld Z h9 a0 "java/lang/String" "coder" "B" (.int (0 : Int32)) := (Fld.other W9 F5 (Or.inr (slot_ne (Or.inr (hw _ (List.mem_of_getElem? (i := 24) rfl))) (Or.inr (hw _ (List.mem_of_getElem? (i := 23) rfl))) (by decide) (t := .byte) (t' := (.array .byte)) (by decide) (by decide))))
  have F13 : Old Z n0 h9 := (F6.wr W9 g_a0)
  have F14 : Fld Z h9 b2 "java/lang/String" "coder" "B" (.int 0) := (Fld.other W9 Fc2 (Or.inl (Ne.symm nx2)))
  have F15 : Fld Z h9 b2 "java/lang/String" "value" "[B" (.ref vb2) := (Fld.other W9 Fv2 (Or.inl (Ne.symm nx2)))
  have F16 : own_Ar Z h9 vb2 .byte 0 (fun i => .int ((fun _ => (0 : Int32)) i)) := (Av2.other W9 (Ne.symm ny2))
  have F17 : Fld Z h9 a0 "java/lang/String" "value" "[B" (.ref vb2) := Fld.same W9 F4
  have K18 : Keep h0 h9 [a0] := K7.wr W9 (Or.inl (List.mem_of_getElem? (i := 0) rfl))
  show own_EndsW _ _ _ _ _ _ _ _ _ (T9.setTop (mkF m 17 #[.val (.ref a0), .val (.ref a1), .val (.int (0 : Int32)), .val (.int (0 : Int32)), .val .null, .unset] []))
  refine own_goW (fun _ k => XS.aloadN X9.here hx rfl (hb hby dsiB0_17) rfl rfl k) ?_
  show own_EndsW _ _ _ _ _ _ _ _ _ (T9.setTop (mkF m 18 #[.val (.ref a0), .val (.ref a1), .val (.int (0 : Int32)), .val (.int (0 : Int32)), .val .null, .unset] [(.ref a0)]))
  obtain ⟨b19, T19, h19, vb19, X19, e19, E19, Wd19, hZ, hown, Fc19, Fv19, Av19, Sf19, nx19, ny19, st19⟩ := own_ldcE X9 hx hZ hown (hw _ (List.mem_of_getElem? (i := 21) rfl)) (own_SA hw) e9 Wd9 (own_EW hw) (List.mem_of_getElem? (i := 3) rfl) F11.lt Sf10 (g := (mkF m 18 #[.val (.ref a0), .val (.ref a1), .val (.int (0 : Int32)), .val (.int (0 : Int32)), .val .null, .unset] [(.ref a0)])) rfl (hb hby dsiB0_18) (by decide) (by decide)
  refine own_goW (fun _ k => st19 _ k) ?_
  have F20 : Exa Z h19 a0 "java/lang/String" := (Exa.ext E19 F11)
  have F21 : Fld Z h19 a0 "java/lang/String" "value" "[B" (.ref vb2) := (Fld.ext E19 F17)
  have F22 : Fld Z h19 a0 "java/lang/String" "coder" "B" (.int (0 : Int32)) := (Fld.ext E19 F12)
  have F23 : Old Z n0 h19 := (F13.ext E19)
  have F24 : Fld Z h19 b2 "java/lang/String" "coder" "B" (.int 0) := (Fld.ext E19 F14)
  have F25 : Fld Z h19 b2 "java/lang/String" "value" "[B" (.ref vb2) := (Fld.ext E19 F15)
  have F26 : own_Ar Z h19 vb2 .byte 0 (fun i => .int ((fun _ => (0 : Int32)) i)) := (F16.ext E19)
  have K27 : Keep h0 h19 [a0] := K18.ext E19
  show own_EndsW _ _ _ _ _ _ _ _ _ (T19.setTop (mkF m 20 #[.val (.ref a0), .val (.ref a1), .val (.int (0 : Int32)), .val (.int (0 : Int32)), .val .null, .unset] [(.ref b19), (.ref a0)]))
  obtain ⟨T28, X28, e28, st28⟩ := getF X19 hx hZ hown (host := "") (Or.inl (hw _ (List.mem_of_getElem? (i := 28) rfl))) Via.refl e19 Fc19 (g := (mkF m 20 #[.val (.ref a0), .val (.ref a1), .val (.int (0 : Int32)), .val (.int (0 : Int32)), .val .null, .unset] [(.ref b19), (.ref a0)])) rfl rfl (hb hby dsiB0_20)
  refine own_goW (fun _ k => st28 _ k) ?_
  show own_EndsW _ _ _ _ _ _ _ _ _ (T28.setTop (mkF m 23 #[.val (.ref a0), .val (.ref a1), .val (.int (0 : Int32)), .val (.int (0 : Int32)), .val .null, .unset] [(.int (0 : Int32)), (.ref a0)]))
  obtain ⟨T29, h29, X29, e29, W29, st29⟩ := putFN X28 hx hZ hown (hw _ (List.mem_of_getElem? (i := 28) rfl)) Via.refl e28 F22 F20 (Or.inr ⟨(hw _ (List.mem_of_getElem? (i := 24) rfl)), rfl, hnm⟩) (hw _ (List.mem_of_getElem? (i := 8) rfl)) (ty := .byte) (v' := (.int (0 : Int32))) (by decide) rfl rfl (g := (mkF m 23 #[.val (.ref a0), .val (.ref a1), .val (.int (0 : Int32)), .val (.int (0 : Int32)), .val .null, .unset] [(.int (0 : Int32)), (.ref a0)])) rfl rfl (hb hby dsiB0_23)
  refine own_goW (fun _ k => st29 _ k) ?_
  have N29 := Fr.snoc X29 N9 g_a0
  have Sf30 : Safe Z consts_1 T19.vm h29 a0 := Safe.wr W29 Sf19 Wd19.ch Sf19
  have Wd29 : own_Wd s Z consts_1 T19.vm h29 := Wd19.wr W29 Sf19
  have F31 : Exa Z h29 a0 "java/lang/String" := (Exa.wr W29 F20)
  have F32 : Fld Z h29 a0 "java/lang/String" "value" "[B" (.ref vb2) := (Fld.other W29 F21 (Or.inr (slot_ne (Or.inr (hw _ (List.mem_of_getElem? (i := 23) rfl))) (Or.inr (hw _ (List.mem_of_getElem? (i := 24) rfl))) (by decide) (t := (.array .byte)) (t' := .byte) (by decide) (by decide))))
  have F33 : Old Z n0 h29 := (F23.wr W29 g_a0)
  have F34 : Fld Z h29 b2 "java/lang/String" "coder" "B" (.int 0) := (Fld.other W29 F24 (Or.inl (Ne.symm nx2)))
  have F35 : Fld Z h29 b2 "java/lang/String" "value" "[B" (.ref vb2) := (Fld.other W29 F25 (Or.inl (Ne.symm nx2)))
  have F36 : own_Ar Z h29 vb2 .byte 0 (fun i => .int ((fun _ => (0 : Int32)) i)) := (F26.other W29 (Ne.symm ny2))
  have F37 : Fld Z h29 b19 "java/lang/String" "coder" "B" (.int 0) := (Fld.other W29 Fc19 (Or.inl (Ne.symm nx19)))
  have F38 : Fld Z h29 b19 "java/lang/String" "value" "[B" (.ref vb19) := (Fld.other W29 Fv19 (Or.inl (Ne.symm nx19)))
  have F39 : own_Ar Z h29 vb19 .byte 0 (fun i => .int ((fun _ => (0 : Int32)) i)) := (Av19.other W29 (Ne.symm ny19))
  have F40 : Fld Z h29 a0 "java/lang/String" "coder" "B" (.int (0 : Int32)) := Fld.same W29 F22
  have K41 : Keep h0 h29 [a0] := K27.wr W29 (Or.inl (List.mem_of_getElem? (i := 0) rfl))
  show own_EndsW _ _ _ _ _ _ _ _ _ (T29.setTop (mkF m 26 #[.val (.ref a0), .val (.ref a1), .val (.int (0 : Int32)), .val (.int (0 : Int32)), .val .null, .unset] []))
  exact own_retVW X29 hx hlk e29 Wd29 hZ (own_EW hw) Bd.returns (hb hby dsiB0_26) (by decide) (by decide) (by rw [e29]; exact ⟨rfl, N29, K41, ⟨F31, F40, vb2, F32, F36⟩⟩)
theorem dsiA0_0 : decode jdk_42_method_3_code 0 = .ok (.aload_n 0, 1) := by decide +kernel
theorem dsiA0_1 : decode jdk_42_method_3_code 1 = .ok (.aload_n 1, 1) := by decide +kernel
theorem dsiA0_2 : decode jdk_42_method_3_code 2 = .ok (.iconst 0, 1) := by decide +kernel
theorem dsiA0_3 : decode jdk_42_method_3_code 3 = .ok (.aload_n 1, 1) := by decide +kernel
theorem dsiA0_4 : decode jdk_42_method_3_code 4 = .ok (.arraylength, 1) := by decide +kernel
theorem dsiA0_5 : decode jdk_42_method_3_code 5 = .ok (.aconst_null, 1) := by decide +kernel
theorem dsiA0_6 : decode jdk_42_method_3_code 6 = .ok (.invokespecial 27, 3) := by decide +kernel
theorem dsiA0_9 : decode jdk_42_method_3_code 9 = .ok (.return_, 1) := by decide +kernel
theorem pnsiA0 : plainName "java/lang/String" = true := by first | (simp [plainName, overriddenIn]; done) | decide +kernel
theorem pdsiA0_0 : parseMethodDescriptor "([CIILjava/lang/Void;)V" = some ⟨[(.array .char), .int, .int, (.object "java/lang/Void")], none⟩ := by decide +kernel
theorem efsiA0 (m : MethodId) (a0 : Addr) (a1 : Addr) : entryFrame m #[(.ref a0), (.ref a1)] 2 = mkF m 0 #[.val (.ref a0), .val (.ref a1)] [] := by first | (simp [entryFrame, mkF, argsToLocals, Value.category]; done) | rfl
def QsiA0 (Z : State) (a0 : Addr) (a1 : Addr) (h0 : Heap) (n0 : Nat) (v : Option Value) (h : Heap) (L : List Loc) : Prop := v = none ∧ Fr n0 L ∧ Keep h0 h [a0] ∧ own_Str Z h a0 0 (fun _ => (0 : Int32))
set_option maxRecDepth 65536 in
set_option maxHeartbeats 40000000 in
theorem rmsiA0 (l : Launch) (Z : State) (ar : Array Value) (hw : ∀ d ∈ tables_1, d.before ar Z = true) (ws : List Jvm.Cond) (a0 : Addr) (a1 : Addr) (h0 : Heap) (n0 : Nat) (O0 : Old Z n0 h0) (E_a0 : Exa Z h0 a0 "java/lang/String") (g_a0 : n0 ≤ a0) (F_value_a0 : Fld Z h0 a0 "java/lang/String" "value" "[B" .null) (F_coder_a0 : Fld Z h0 a0 "java/lang/String" "coder" "B" (.int (0 : Int32))) (A_a1 : own_Ar Z h0 a1 .char 0 (fun _ => .int (0 : Int32))) :
    MetFree l (⟨"java/lang/String", "<init>", "([C)V"⟩ : MethodName) (head1 (Jvm.Cond.code (⟨"java/lang/String", "<init>", "([C)V"⟩ : MethodName) jdk_42_method_3_code 2 none :: ws) ({ frames := 2, cells := 4, slots := 8, locals := 29 } : Room)) (fun a U => a = #[(.ref a0), (.ref a1)] ∧ Z.Warmed39 U.vm ∧ U.heap = h0 ∧ CHv Z consts_1 U.vm h0) (fun _ _ _ _ _ => True) (fun _ U o U' => ∃ v L, o = .returned v ∧ QsiA0 Z a0 a1 h0 n0 v U'.heap L ∧ CHr Z consts_1 U.vm U.heap U'.vm U'.heap ∧ ReturnedEndW U o U' L ({ frames := 2, cells := 4, slots := 8, locals := 29 } : Room).cells ({ frames := 2, cells := 4, slots := 8, locals := 29 } : Room).slots) := by
  refine MetFree.of_bodySF (plainFor_of_name pnsiA0) hisR ?_
  intro p e s m args below meth c s₁ Bd hml0 hP hK
  obtain ⟨rfl, hZ, hh, hCH⟩ := hP
  have hx := Bd.exec
  have hby := Bd.bytes
  have hml : c.maxLocals = 2 := hml0
  have hown : s.vm.findClass "java/lang/String" = some m.cls := findClass_of_methodNamed Bd.named
  have hnm := (name_of_methodNamed Bd.named Bd.method).1
  have hlk : meth.locks = false := BodyLoose.notSynchronized Bd
  have X0 : Stand p l e ({ frames := 2, cells := 4, slots := 8, locals := 29 } : Room) (s.setVm s.vm) m #[(.ref a0), (.ref a1)] below meth c s₁ [] 0 0 := Stand.of_body Bd
  have e0 : s₁.heap = h0 := by rw [← hh, Bd.state]; rfl
  have N0 := Fr.nil n0
  have Wd0 : own_Wd s Z consts_1 s.vm h0 := own_Wd.start hh hCH
  suffices hmain : own_EndsW p e below s Z consts_1 (QsiA0 Z a0 a1 h0 n0) 4 8 (s₁.setTop (mkF m 0 #[.val (.ref a0), .val (.ref a1)] [])) by
    obtain ⟨U, o, h1, r⟩ := hmain
    exact ⟨U, o, castTop (efsiA0 m a0 a1) h1, r⟩
  show own_EndsW _ _ _ _ _ _ _ _ _ (s₁.setTop (mkF m 0 #[.val (.ref a0), .val (.ref a1)] []))
  refine own_goW (fun _ k => XS.aloadN X0.here hx rfl (hb hby dsiA0_0) rfl rfl k) ?_
  show own_EndsW _ _ _ _ _ _ _ _ _ (s₁.setTop (mkF m 1 #[.val (.ref a0), .val (.ref a1)] [(.ref a0)]))
  refine own_goW (fun _ k => XS.aloadN X0.here hx rfl (hb hby dsiA0_1) rfl rfl k) ?_
  show own_EndsW _ _ _ _ _ _ _ _ _ (s₁.setTop (mkF m 2 #[.val (.ref a0), .val (.ref a1)] [(.ref a1), (.ref a0)]))
  refine own_goW (fun _ k => XS.iconst X0.here hx rfl (hb hby dsiA0_2) k) ?_
  show own_EndsW _ _ _ _ _ _ _ _ _ (s₁.setTop (mkF m 3 #[.val (.ref a0), .val (.ref a1)] [(.int (0 : Int32)), (.ref a1), (.ref a0)]))
  refine own_goW (fun _ k => XS.aloadN X0.here hx rfl (hb hby dsiA0_3) rfl rfl k) ?_
  show own_EndsW _ _ _ _ _ _ _ _ _ (s₁.setTop (mkF m 4 #[.val (.ref a0), .val (.ref a1)] [(.ref a1), (.int (0 : Int32)), (.ref a1), (.ref a0)]))
  obtain ⟨c1, A1, l1⟩ := own_Ar.len A_a1
  refine own_goW (fun _ k => X0.arraylength hx (by rw [e0]; exact A1.1) (State.isArrayOf_alike hZ.alike A1.2.1) (g := (mkF m 4 #[.val (.ref a0), .val (.ref a1)] [(.ref a1), (.int (0 : Int32)), (.ref a1), (.ref a0)])) rfl rfl (hb hby dsiA0_4) _ k) ?_
  rw [l1]
  show own_EndsW _ _ _ _ _ _ _ _ _ (s₁.setTop (mkF m 5 #[.val (.ref a0), .val (.ref a1)] [(.int (0 : Int32)), (.int (0 : Int32)), (.ref a1), (.ref a0)]))
  refine own_goW (fun _ k => XS.aconstNull X0.here hx rfl (hb hby dsiA0_5) k) ?_
  show own_EndsW _ _ _ _ _ _ _ _ _ (s₁.setTop (mkF m 6 #[.val (.ref a0), .val (.ref a1)] [.null, (.int (0 : Int32)), (.int (0 : Int32)), (.ref a1), (.ref a0)]))
  obtain ⟨_, _, ⟨T2, L2, k2, n2⟩, -, X2', hS2, gg2, ⟨Lc2, hQ2, l2, y2, z2, C2⟩, st2⟩ := X0.specialBackS hx (y := (⟨"java/lang/String", "<init>", "([CIILjava/lang/Void;)V"⟩ : MethodName)) rfl hown (mvT hZ (hw _ (List.mem_of_getElem? (i := 14) rfl))) (mvT hZ (hw _ (List.mem_of_getElem? (i := 15) rfl))) (mvT hZ (hw _ (List.mem_of_getElem? (i := 17) rfl))) (by decide) (backOfSH (W := 0) (rmsiB0 l Z ar hw [] a0 a1 h0 n0 O0 E_a0 g_a0 F_value_a0 F_coder_a0) hZ (hw _ (List.mem_of_getElem? (i := 17) rfl)) (hw _ (List.mem_of_getElem? (i := 9) rfl)) (by decide) (by decide) (own_EW hw) Wd0.ch) (g := (mkF m 6 #[.val (.ref a0), .val (.ref a1)] [.null, (.int (0 : Int32)), (.int (0 : Int32)), (.ref a1), (.ref a0)])) rfl (by rw [hml]; rfl) (Steps.refl _) (a := a0) (argsL := [(.ref a1), (.int (0 : Int32)), (.int (0 : Int32)), .null]) (rest := []) (lenOf pdsiA0_0 rfl) rfl (by show 2 * 0 + _ ≤ _; exact Nat.le_of_eq rfl) (hb hby dsiA0_6) (fun _ _ => ⟨rfl, e0, (by decide : 0 + 4 ≤ _), (by decide : 0 + 8 ≤ _)⟩)
  dsimp only [Pt.U, Pt.locs, Pt.cells, Pt.slots] at X2' hS2 gg2 l2 y2 z2 st2 hQ2 C2
  subst l2 y2 z2
  obtain ⟨X2, Wd2, hZ, hown⟩ := own_fold Wd0 e0 X2' hS2 gg2 C2 hZ hown
  obtain ⟨rfl, N2q, K2, T2_0⟩ := hQ2
  have N2 := Fr.app N0 N2q
  have F3 : Exa Z T2.heap a0 "java/lang/String" := (E_a0.keep K2)
  have F4 : Old Z n0 T2.heap := (O0.keep K2 (allS g_a0 all0))
  have K5 : Keep h0 T2.heap [a0] := (Keep.refl h0 [a0]).trans K2 (allS (Or.inl (List.mem_of_getElem? (i := 0) rfl)) all0)
  refine own_goW (fun _ k => st2.trans k) ?_
  show own_EndsW _ _ _ _ _ _ _ _ _ (T2.setTop (mkF m 9 #[.val (.ref a0), .val (.ref a1)] []))
  exact own_retVW X2 hx hlk rfl Wd2 hZ (own_EW hw) Bd.returns (hb hby dsiA0_9) (by decide) (by decide) (by rw [show T2.heap = T2.heap from rfl]; exact ⟨rfl, N2, K5, T2_0⟩)
theorem dcmA1_0 : decode jdk_52_method_21_code 0 = .ok (.iconst 0, 1) := by decide +kernel
theorem dcmA1_1 : decode jdk_52_method_21_code 1 = .ok (.istore 5, 2) := by decide +kernel
theorem dcmA1_3 : decode jdk_52_method_21_code 3 = .ok (.iload 5, 2) := by decide +kernel
theorem dcmA1_5 : decode jdk_52_method_21_code 5 = .ok (.iload 4, 2) := by decide +kernel
theorem dcmA1_7 : decode jdk_52_method_21_code 7 = .ok (.if_icmp .ge 37, 3) := by decide +kernel
theorem dcmA1_10 : decode jdk_52_method_21_code 10 = .ok (.aload_n 0, 1) := by decide +kernel
theorem dcmA1_11 : decode jdk_52_method_21_code 11 = .ok (.iload_n 1, 1) := by decide +kernel
theorem dcmA1_12 : decode jdk_52_method_21_code 12 = .ok (.caload, 1) := by decide +kernel
theorem dcmA1_13 : decode jdk_52_method_21_code 13 = .ok (.istore 6, 2) := by decide +kernel
theorem dcmA1_15 : decode jdk_52_method_21_code 15 = .ok (.iload 6, 2) := by decide +kernel
theorem dcmA1_17 : decode jdk_52_method_21_code 17 = .ok (.sipush 255, 3) := by decide +kernel
theorem dcmA1_20 : decode jdk_52_method_21_code 20 = .ok (.if_icmp .le 6, 3) := by decide +kernel
theorem dcmA1_26 : decode jdk_52_method_21_code 26 = .ok (.aload_n 2, 1) := by decide +kernel
theorem dcmA1_27 : decode jdk_52_method_21_code 27 = .ok (.iload_n 3, 1) := by decide +kernel
theorem dcmA1_28 : decode jdk_52_method_21_code 28 = .ok (.iload 6, 2) := by decide +kernel
theorem dcmA1_30 : decode jdk_52_method_21_code 30 = .ok (.i2b, 1) := by decide +kernel
theorem dcmA1_31 : decode jdk_52_method_21_code 31 = .ok (.bastore, 1) := by decide +kernel
theorem dcmA1_32 : decode jdk_52_method_21_code 32 = .ok (.iinc 1 1, 3) := by decide +kernel
theorem dcmA1_35 : decode jdk_52_method_21_code 35 = .ok (.iinc 3 1, 3) := by decide +kernel
theorem dcmA1_38 : decode jdk_52_method_21_code 38 = .ok (.iinc 5 1, 3) := by decide +kernel
theorem dcmA1_41 : decode jdk_52_method_21_code 41 = .ok (.goto (-38), 3) := by decide +kernel
theorem dcmA1_44 : decode jdk_52_method_21_code 44 = .ok (.iload 4, 2) := by decide +kernel
theorem dcmA1_46 : decode jdk_52_method_21_code 46 = .ok (.ireturn, 1) := by decide +kernel
theorem pncmA1 : plainName "java/lang/StringUTF16" = true := by first | (simp [plainName, overriddenIn]; done) | decide +kernel
theorem efcmA1 (m : MethodId) (a0 : Addr) (a2 : Addr) : entryFrame m #[(.ref a0), (.int (0 : Int32)), (.ref a2), (.int (0 : Int32)), (.int (1 : Int32))] 7 = mkF m 0 #[.val (.ref a0), .val (.int (0 : Int32)), .val (.ref a2), .val (.int (0 : Int32)), .val (.int (1 : Int32)), .unset, .unset] [] := by first | (simp [entryFrame, mkF, argsToLocals, Value.category]; done) | rfl
def QcmA1 (Z : State) (a0 : Addr) (a2 : Addr) (GG : Nat → Int32) (HH : Nat → Int32) (h0 : Heap) (n0 : Nat) (v : Option Value) (h : Heap) (L : List Loc) : Prop := v = some (.int (1 : Int32)) ∧ Fr n0 L ∧ Keep h0 h [a2] ∧ own_Ar Z h a2 .byte 1 (fun i => .int ((fun i => own_by (GG i)) i))
set_option maxRecDepth 65536 in
set_option maxHeartbeats 40000000 in
theorem rmcmA1 (l : Launch) (Z : State) (ar : Array Value) (hw : ∀ d ∈ tables_1, d.before ar Z = true) (ws : List Jvm.Cond) (a0 : Addr) (a2 : Addr) (GG : Nat → Int32) (HH : Nat → Int32) (h0 : Heap) (n0 : Nat) (O0 : Old Z n0 h0) (A_a0 : own_Ar Z h0 a0 .char 1 (fun i => .int (GG i))) (A_a2 : own_Ar Z h0 a2 .byte 1 (fun i => .int (HH i))) (g_a2 : n0 ≤ a2) (ne02 : a0 ≠ a2) (hr : ∀ i, i < 1 → ¬ (255 : Int32) < GG i) :
    MetFree l (⟨"java/lang/StringUTF16", "compress", "([CI[BII)I"⟩ : MethodName) (head1 (Jvm.Cond.code (⟨"java/lang/StringUTF16", "compress", "([CI[BII)I"⟩ : MethodName) jdk_52_method_21_code 7 (some .int) :: ws) ({ frames := 0, cells := 0, slots := 0, locals := 0 } : Room)) (fun a U => a = #[(.ref a0), (.int (0 : Int32)), (.ref a2), (.int (0 : Int32)), (.int (1 : Int32))] ∧ Z.Warmed39 U.vm ∧ U.heap = h0) (fun _ _ _ _ _ => True) (fun _ U o U' => ∃ v L, o = .returned v ∧ QcmA1 Z a0 a2 GG HH h0 n0 v U'.heap L ∧ FrameEnd U o U' L ({ frames := 0, cells := 0, slots := 0, locals := 0 } : Room).cells ({ frames := 0, cells := 0, slots := 0, locals := 0 } : Room).slots) := by
  refine MetFree.of_bodySF (plainFor_of_name pncmA1) hisR ?_
  intro p e s m args below meth c s₁ Bd hml0 hP hK
  obtain ⟨rfl, hZ, hh⟩ := hP
  have hx := Bd.exec
  have hby := Bd.bytes
  have hml : c.maxLocals = 7 := hml0
  have hown : s.vm.findClass "java/lang/StringUTF16" = some m.cls := findClass_of_methodNamed Bd.named
  have hnm := (name_of_methodNamed Bd.named Bd.method).1
  have hlk : meth.locks = false := BodyLoose.notSynchronized Bd
  have X0 : Stand p l e ({ frames := 0, cells := 0, slots := 0, locals := 0 } : Room) s m #[(.ref a0), (.int (0 : Int32)), (.ref a2), (.int (0 : Int32)), (.int (1 : Int32))] below meth c s₁ [] 0 0 := Stand.of_body Bd
  have e0 : s₁.heap = h0 := by rw [← hh, Bd.state]; rfl
  have N0 := Fr.nil n0
  suffices hmain : own_Ends p e below s (QcmA1 Z a0 a2 GG HH h0 n0) 0 0 (s₁.setTop (mkF m 0 #[.val (.ref a0), .val (.int (0 : Int32)), .val (.ref a2), .val (.int (0 : Int32)), .val (.int (1 : Int32)), .unset, .unset] [])) by
    obtain ⟨U, o, h1, r⟩ := hmain
    exact ⟨U, o, castTop (efcmA1 m a0 a2) h1, r⟩
  show own_Ends _ _ _ _ _ _ _ (s₁.setTop (mkF m 0 #[.val (.ref a0), .val (.int (0 : Int32)), .val (.ref a2), .val (.int (0 : Int32)), .val (.int (1 : Int32)), .unset, .unset] []))
  refine own_go (fun _ k => XS.iconst X0.here hx rfl (hb hby dcmA1_0) k) ?_
  show own_Ends _ _ _ _ _ _ _ (s₁.setTop (mkF m 1 #[.val (.ref a0), .val (.int (0 : Int32)), .val (.ref a2), .val (.int (0 : Int32)), .val (.int (1 : Int32)), .unset, .unset] [(.int (0 : Int32))]))
  refine own_go (fun _ k => XS.istore X0.here hx rfl (hb hby dcmA1_1) rfl (l' := #[.val (.ref a0), .val (.int (0 : Int32)), .val (.ref a2), .val (.int (0 : Int32)), .val (.int (1 : Int32)), .val (.int (0 : Int32)), .unset]) rfl k) ?_
  show own_Ends _ _ _ _ _ _ _ (s₁.setTop (mkF m 3 #[.val (.ref a0), .val (.int (0 : Int32)), .val (.ref a2), .val (.int (0 : Int32)), .val (.int (1 : Int32)), .val (.int (0 : Int32)), .unset] []))
  refine own_go (fun _ k => XS.iload X0.here hx rfl (hb hby dcmA1_3) rfl k) ?_
  show own_Ends _ _ _ _ _ _ _ (s₁.setTop (mkF m 5 #[.val (.ref a0), .val (.int (0 : Int32)), .val (.ref a2), .val (.int (0 : Int32)), .val (.int (1 : Int32)), .val (.int (0 : Int32)), .unset] [(.int (0 : Int32))]))
  refine own_go (fun _ k => XS.iload X0.here hx rfl (hb hby dcmA1_5) rfl k) ?_
  show own_Ends _ _ _ _ _ _ _ (s₁.setTop (mkF m 7 #[.val (.ref a0), .val (.int (0 : Int32)), .val (.ref a2), .val (.int (0 : Int32)), .val (.int (1 : Int32)), .val (.int (0 : Int32)), .unset] [(.int (1 : Int32)), (.int (0 : Int32))]))
  refine own_go (fun _ k => XS.icmpNo X0.here hx rfl (hb hby dcmA1_7) rfl (tlt (by decide)).2.1 k) ?_
  show own_Ends _ _ _ _ _ _ _ (s₁.setTop (mkF m 10 #[.val (.ref a0), .val (.int (0 : Int32)), .val (.ref a2), .val (.int (0 : Int32)), .val (.int (1 : Int32)), .val (.int (0 : Int32)), .unset] []))
  refine own_go (fun _ k => XS.aloadN X0.here hx rfl (hb hby dcmA1_10) rfl rfl k) ?_
  show own_Ends _ _ _ _ _ _ _ (s₁.setTop (mkF m 11 #[.val (.ref a0), .val (.int (0 : Int32)), .val (.ref a2), .val (.int (0 : Int32)), .val (.int (1 : Int32)), .val (.int (0 : Int32)), .unset] [(.ref a0)]))
  refine own_go (fun _ k => XS.iloadN X0.here hx rfl (hb hby dcmA1_11) rfl k) ?_
  show own_Ends _ _ _ _ _ _ _ (s₁.setTop (mkF m 12 #[.val (.ref a0), .val (.int (0 : Int32)), .val (.ref a2), .val (.int (0 : Int32)), .val (.int (1 : Int32)), .val (.int (0 : Int32)), .unset] [(.int (0 : Int32)), (.ref a0)]))
  obtain ⟨c1, A1, i1, v1⟩ := own_Ar.at A_a0 (0 : Int32) (by decide) (by decide)
  refine own_go (fun _ k => X0.caload hx (by rw [e0]; exact A1.1) (State.isArrayOf_alike hZ.alike A1.2.1) A1.2.2 i1 v1 (g := (mkF m 12 #[.val (.ref a0), .val (.int (0 : Int32)), .val (.ref a2), .val (.int (0 : Int32)), .val (.int (1 : Int32)), .val (.int (0 : Int32)), .unset] [(.int (0 : Int32)), (.ref a0)])) rfl rfl (hb hby dcmA1_12) _ k) ?_
  show own_Ends _ _ _ _ _ _ _ (s₁.setTop (mkF m 13 #[.val (.ref a0), .val (.int (0 : Int32)), .val (.ref a2), .val (.int (0 : Int32)), .val (.int (1 : Int32)), .val (.int (0 : Int32)), .unset] [(.int (GG ((0 : Int32)).toNatClampNeg))]))
  refine own_go (fun _ k => XS.istore X0.here hx rfl (hb hby dcmA1_13) rfl (l' := #[.val (.ref a0), .val (.int (0 : Int32)), .val (.ref a2), .val (.int (0 : Int32)), .val (.int (1 : Int32)), .val (.int (0 : Int32)), .val (.int (GG ((0 : Int32)).toNatClampNeg))]) rfl k) ?_
  show own_Ends _ _ _ _ _ _ _ (s₁.setTop (mkF m 15 #[.val (.ref a0), .val (.int (0 : Int32)), .val (.ref a2), .val (.int (0 : Int32)), .val (.int (1 : Int32)), .val (.int (0 : Int32)), .val (.int (GG ((0 : Int32)).toNatClampNeg))] []))
  refine own_go (fun _ k => XS.iload X0.here hx rfl (hb hby dcmA1_15) rfl k) ?_
  show own_Ends _ _ _ _ _ _ _ (s₁.setTop (mkF m 17 #[.val (.ref a0), .val (.int (0 : Int32)), .val (.ref a2), .val (.int (0 : Int32)), .val (.int (1 : Int32)), .val (.int (0 : Int32)), .val (.int (GG ((0 : Int32)).toNatClampNeg))] [(.int (GG ((0 : Int32)).toNatClampNeg))]))
  refine own_go (fun _ k => XS.sipush X0.here hx rfl (hb hby dcmA1_17) k) ?_
  show own_Ends _ _ _ _ _ _ _ (s₁.setTop (mkF m 20 #[.val (.ref a0), .val (.int (0 : Int32)), .val (.ref a2), .val (.int (0 : Int32)), .val (.int (1 : Int32)), .val (.int (0 : Int32)), .val (.int (GG ((0 : Int32)).toNatClampNeg))] [(.int (255 : Int32)), (.int (GG ((0 : Int32)).toNatClampNeg))]))
  refine own_go (fun _ k => XS.icmpYes X0.here hx rfl (pc0 := 20) (pc' := 26) rfl (hb hby dcmA1_20) rfl (flt (hr _ (by decide))).2.2.2 (by decide) (by decide) k) ?_
  show own_Ends _ _ _ _ _ _ _ (s₁.setTop (mkF m 26 #[.val (.ref a0), .val (.int (0 : Int32)), .val (.ref a2), .val (.int (0 : Int32)), .val (.int (1 : Int32)), .val (.int (0 : Int32)), .val (.int (GG ((0 : Int32)).toNatClampNeg))] []))
  refine own_go (fun _ k => XS.aloadN X0.here hx rfl (hb hby dcmA1_26) rfl rfl k) ?_
  show own_Ends _ _ _ _ _ _ _ (s₁.setTop (mkF m 27 #[.val (.ref a0), .val (.int (0 : Int32)), .val (.ref a2), .val (.int (0 : Int32)), .val (.int (1 : Int32)), .val (.int (0 : Int32)), .val (.int (GG ((0 : Int32)).toNatClampNeg))] [(.ref a2)]))
  refine own_go (fun _ k => XS.iloadN X0.here hx rfl (hb hby dcmA1_27) rfl k) ?_
  show own_Ends _ _ _ _ _ _ _ (s₁.setTop (mkF m 28 #[.val (.ref a0), .val (.int (0 : Int32)), .val (.ref a2), .val (.int (0 : Int32)), .val (.int (1 : Int32)), .val (.int (0 : Int32)), .val (.int (GG ((0 : Int32)).toNatClampNeg))] [(.int (0 : Int32)), (.ref a2)]))
  refine own_go (fun _ k => XS.iload X0.here hx rfl (hb hby dcmA1_28) rfl k) ?_
  show own_Ends _ _ _ _ _ _ _ (s₁.setTop (mkF m 30 #[.val (.ref a0), .val (.int (0 : Int32)), .val (.ref a2), .val (.int (0 : Int32)), .val (.int (1 : Int32)), .val (.int (0 : Int32)), .val (.int (GG ((0 : Int32)).toNatClampNeg))] [(.int (GG ((0 : Int32)).toNatClampNeg)), (.int (0 : Int32)), (.ref a2)]))
  refine own_go (fun _ k => XS.i2b X0.here hx rfl (hb hby dcmA1_30) rfl k) ?_
  show own_Ends _ _ _ _ _ _ _ (s₁.setTop (mkF m 31 #[.val (.ref a0), .val (.int (0 : Int32)), .val (.ref a2), .val (.int (0 : Int32)), .val (.int (1 : Int32)), .val (.int (0 : Int32)), .val (.int (GG ((0 : Int32)).toNatClampNeg))] [(.int ((GG ((0 : Int32)).toNatClampNeg).toInt8.toInt32)), (.int (0 : Int32)), (.ref a2)]))
  obtain ⟨c2, A2, i2, -⟩ := own_Ar.at A_a2 (0 : Int32) (by decide) (by decide)
  obtain ⟨T2, h2, X2, e2, W2, st2⟩ := stB X0 hx hZ e0 A2 (j := (0 : Int32)) i2 (g := (mkF m 31 #[.val (.ref a0), .val (.int (0 : Int32)), .val (.ref a2), .val (.int (0 : Int32)), .val (.int (1 : Int32)), .val (.int (0 : Int32)), .val (.int (GG ((0 : Int32)).toNatClampNeg))] [(.int ((GG ((0 : Int32)).toNatClampNeg).toInt8.toInt32)), (.int (0 : Int32)), (.ref a2)])) rfl rfl (hb hby dcmA1_31)
  refine own_go (fun _ k => st2 _ k) ?_
  have N2 := Fr.snoc X2 N0 g_a2
  have F3 : own_Ar Z h2 a0 .char 1 (fun i => .int (GG i)) := (A_a0.other W2 ne02)
  have F4 : Old Z n0 h2 := (O0.wr W2 g_a2)
  have F5 : own_Ar Z h2 a2 .byte 1 (fun i => .int ((fun i => if i = ((0 : Int32)).toNatClampNeg then (nar .byte ((GG ((0 : Int32)).toNatClampNeg).toInt8.toInt32)) else HH i) i)) := own_Ar.setI A_a2 W2
  have K6 : Keep h0 h2 [a2] := (Keep.refl h0 [a2]).wr W2 (Or.inl (List.mem_of_getElem? (i := 0) rfl))
  show own_Ends _ _ _ _ _ _ _ (T2.setTop (mkF m 32 #[.val (.ref a0), .val (.int (0 : Int32)), .val (.ref a2), .val (.int (0 : Int32)), .val (.int (1 : Int32)), .val (.int (0 : Int32)), .val (.int (GG ((0 : Int32)).toNatClampNeg))] []))
  refine own_go (fun _ k => XS.iinc X2.here hx rfl (hb hby dcmA1_32) rfl (l' := #[.val (.ref a0), .val (.int (1 : Int32)), .val (.ref a2), .val (.int (0 : Int32)), .val (.int (1 : Int32)), .val (.int (0 : Int32)), .val (.int (GG ((0 : Int32)).toNatClampNeg))]) rfl k) ?_
  show own_Ends _ _ _ _ _ _ _ (T2.setTop (mkF m 35 #[.val (.ref a0), .val (.int (1 : Int32)), .val (.ref a2), .val (.int (0 : Int32)), .val (.int (1 : Int32)), .val (.int (0 : Int32)), .val (.int (GG ((0 : Int32)).toNatClampNeg))] []))
  refine own_go (fun _ k => XS.iinc X2.here hx rfl (hb hby dcmA1_35) rfl (l' := #[.val (.ref a0), .val (.int (1 : Int32)), .val (.ref a2), .val (.int (1 : Int32)), .val (.int (1 : Int32)), .val (.int (0 : Int32)), .val (.int (GG ((0 : Int32)).toNatClampNeg))]) rfl k) ?_
  show own_Ends _ _ _ _ _ _ _ (T2.setTop (mkF m 38 #[.val (.ref a0), .val (.int (1 : Int32)), .val (.ref a2), .val (.int (1 : Int32)), .val (.int (1 : Int32)), .val (.int (0 : Int32)), .val (.int (GG ((0 : Int32)).toNatClampNeg))] []))
  refine own_go (fun _ k => XS.iinc X2.here hx rfl (hb hby dcmA1_38) rfl (l' := #[.val (.ref a0), .val (.int (1 : Int32)), .val (.ref a2), .val (.int (1 : Int32)), .val (.int (1 : Int32)), .val (.int (1 : Int32)), .val (.int (GG ((0 : Int32)).toNatClampNeg))]) rfl k) ?_
  show own_Ends _ _ _ _ _ _ _ (T2.setTop (mkF m 41 #[.val (.ref a0), .val (.int (1 : Int32)), .val (.ref a2), .val (.int (1 : Int32)), .val (.int (1 : Int32)), .val (.int (1 : Int32)), .val (.int (GG ((0 : Int32)).toNatClampNeg))] []))
  refine own_go (fun _ k => XS.goto X2.here hx rfl (pc0 := 41) (pc' := 3) rfl (hb hby dcmA1_41) (by decide) (by decide) k) ?_
  show own_Ends _ _ _ _ _ _ _ (T2.setTop (mkF m 3 #[.val (.ref a0), .val (.int (1 : Int32)), .val (.ref a2), .val (.int (1 : Int32)), .val (.int (1 : Int32)), .val (.int (1 : Int32)), .val (.int (GG ((0 : Int32)).toNatClampNeg))] []))
  refine own_go (fun _ k => XS.iload X2.here hx rfl (hb hby dcmA1_3) rfl k) ?_
  show own_Ends _ _ _ _ _ _ _ (T2.setTop (mkF m 5 #[.val (.ref a0), .val (.int (1 : Int32)), .val (.ref a2), .val (.int (1 : Int32)), .val (.int (1 : Int32)), .val (.int (1 : Int32)), .val (.int (GG ((0 : Int32)).toNatClampNeg))] [(.int (1 : Int32))]))
  refine own_go (fun _ k => XS.iload X2.here hx rfl (hb hby dcmA1_5) rfl k) ?_
  show own_Ends _ _ _ _ _ _ _ (T2.setTop (mkF m 7 #[.val (.ref a0), .val (.int (1 : Int32)), .val (.ref a2), .val (.int (1 : Int32)), .val (.int (1 : Int32)), .val (.int (1 : Int32)), .val (.int (GG ((0 : Int32)).toNatClampNeg))] [(.int (1 : Int32)), (.int (1 : Int32))]))
  refine own_go (fun _ k => XS.icmpYes X2.here hx rfl (pc0 := 7) (pc' := 44) rfl (hb hby dcmA1_7) rfl (flt (by decide)).2.1 (by decide) (by decide) k) ?_
  show own_Ends _ _ _ _ _ _ _ (T2.setTop (mkF m 44 #[.val (.ref a0), .val (.int (1 : Int32)), .val (.ref a2), .val (.int (1 : Int32)), .val (.int (1 : Int32)), .val (.int (1 : Int32)), .val (.int (GG ((0 : Int32)).toNatClampNeg))] []))
  refine own_go (fun _ k => XS.iload X2.here hx rfl (hb hby dcmA1_44) rfl k) ?_
  show own_Ends _ _ _ _ _ _ _ (T2.setTop (mkF m 46 #[.val (.ref a0), .val (.int (1 : Int32)), .val (.ref a2), .val (.int (1 : Int32)), .val (.int (1 : Int32)), .val (.int (1 : Int32)), .val (.int (GG ((0 : Int32)).toNatClampNeg))] [(.int (1 : Int32))]))
  exact own_retI X2 hx hlk Bd.returns (hb hby dcmA1_46) (by decide) (by decide) (by rw [e2]; exact ⟨rfl, N2, K6, F5.cong (fun i hi => by match i, hi with | 0, _ => rfl)⟩)
theorem dcmB1_0 : decode jdk_52_method_16_code 0 = .ok (.iload_n 2, 1) := by decide +kernel
theorem dcmB1_1 : decode jdk_52_method_16_code 1 = .ok (.newarray .byte, 2) := by decide +kernel
theorem dcmB1_3 : decode jdk_52_method_16_code 3 = .ok (.astore_n 3, 1) := by decide +kernel
theorem dcmB1_4 : decode jdk_52_method_16_code 4 = .ok (.aload_n 0, 1) := by decide +kernel
theorem dcmB1_5 : decode jdk_52_method_16_code 5 = .ok (.iload_n 1, 1) := by decide +kernel
theorem dcmB1_6 : decode jdk_52_method_16_code 6 = .ok (.aload_n 3, 1) := by decide +kernel
theorem dcmB1_7 : decode jdk_52_method_16_code 7 = .ok (.iconst 0, 1) := by decide +kernel
theorem dcmB1_8 : decode jdk_52_method_16_code 8 = .ok (.iload_n 2, 1) := by decide +kernel
theorem dcmB1_9 : decode jdk_52_method_16_code 9 = .ok (.invokestatic 115, 3) := by decide +kernel
theorem dcmB1_12 : decode jdk_52_method_16_code 12 = .ok (.istore 4, 2) := by decide +kernel
theorem dcmB1_14 : decode jdk_52_method_16_code 14 = .ok (.iload 4, 2) := by decide +kernel
theorem dcmB1_16 : decode jdk_52_method_16_code 16 = .ok (.iload_n 2, 1) := by decide +kernel
theorem dcmB1_17 : decode jdk_52_method_16_code 17 = .ok (.if_icmp .eq 40, 3) := by decide +kernel
theorem dcmB1_57 : decode jdk_52_method_16_code 57 = .ok (.aload_n 3, 1) := by decide +kernel
theorem dcmB1_58 : decode jdk_52_method_16_code 58 = .ok (.areturn, 1) := by decide +kernel
theorem pncmB1 : plainName "java/lang/StringUTF16" = true := by first | (simp [plainName, overriddenIn]; done) | decide +kernel
theorem pdcmB1_0 : parseMethodDescriptor "([CI[BII)I" = some ⟨[(.array .char), .int, (.array .byte), .int, .int], some .int⟩ := by decide +kernel
theorem efcmB1 (m : MethodId) (a0 : Addr) : entryFrame m #[(.ref a0), (.int (0 : Int32)), (.int (1 : Int32))] 6 = mkF m 0 #[.val (.ref a0), .val (.int (0 : Int32)), .val (.int (1 : Int32)), .unset, .unset, .unset] [] := by first | (simp [entryFrame, mkF, argsToLocals, Value.category]; done) | rfl
def QcmB1 (Z : State) (a0 : Addr) (GG : Nat → Int32) (h0 : Heap) (n0 : Nat) (v : Option Value) (h : Heap) (L : List Loc) : Prop := ∃ y, v = some (.ref y) ∧ Fr n0 L ∧ Keep h0 h [] ∧ h0.size ≤ y ∧ own_Ar Z h y .byte 1 (fun i => .int ((fun i => own_by (GG i)) i))
set_option maxRecDepth 65536 in
set_option maxHeartbeats 40000000 in
theorem rmcmB1 (l : Launch) (Z : State) (ar : Array Value) (hw : ∀ d ∈ tables_1, d.before ar Z = true) (ws : List Jvm.Cond) (a0 : Addr) (GG : Nat → Int32) (h0 : Heap) (n0 : Nat) (O0 : Old Z n0 h0) (A_a0 : own_Ar Z h0 a0 .char 1 (fun i => .int (GG i))) (hr : ∀ i, i < 1 → ¬ (255 : Int32) < GG i) :
    MetFree l (⟨"java/lang/StringUTF16", "compress", "([CII)[B"⟩ : MethodName) (head1 (Jvm.Cond.code (⟨"java/lang/StringUTF16", "compress", "([CII)[B"⟩ : MethodName) jdk_52_method_16_code 6 (some (.array .byte)) :: ws) ({ frames := 1, cells := 1, slots := 1, locals := 18 } : Room)) (fun a U => a = #[(.ref a0), (.int (0 : Int32)), (.int (1 : Int32))] ∧ Z.Warmed39 U.vm ∧ U.heap = h0) (fun _ _ _ _ _ => True) (fun _ U o U' => ∃ v L, o = .returned v ∧ QcmB1 Z a0 GG h0 n0 v U'.heap L ∧ FrameEnd U o U' L ({ frames := 1, cells := 1, slots := 1, locals := 18 } : Room).cells ({ frames := 1, cells := 1, slots := 1, locals := 18 } : Room).slots) := by
  refine MetFree.of_bodySF (plainFor_of_name pncmB1) hisR ?_
  intro p e s m args below meth c s₁ Bd hml0 hP hK
  obtain ⟨rfl, hZ, hh⟩ := hP
  have hx := Bd.exec
  have hby := Bd.bytes
  have hml : c.maxLocals = 6 := hml0
  have hown : s.vm.findClass "java/lang/StringUTF16" = some m.cls := findClass_of_methodNamed Bd.named
  have hnm := (name_of_methodNamed Bd.named Bd.method).1
  have hlk : meth.locks = false := BodyLoose.notSynchronized Bd
  have X0 : Stand p l e ({ frames := 1, cells := 1, slots := 1, locals := 18 } : Room) s m #[(.ref a0), (.int (0 : Int32)), (.int (1 : Int32))] below meth c s₁ [] 0 0 := Stand.of_body Bd
  have e0 : s₁.heap = h0 := by rw [← hh, Bd.state]; rfl
  have N0 := Fr.nil n0
  suffices hmain : own_Ends p e below s (QcmB1 Z a0 GG h0 n0) 1 1 (s₁.setTop (mkF m 0 #[.val (.ref a0), .val (.int (0 : Int32)), .val (.int (1 : Int32)), .unset, .unset, .unset] [])) by
    obtain ⟨U, o, h1, r⟩ := hmain
    exact ⟨U, o, castTop (efcmB1 m a0) h1, r⟩
  show own_Ends _ _ _ _ _ _ _ (s₁.setTop (mkF m 0 #[.val (.ref a0), .val (.int (0 : Int32)), .val (.int (1 : Int32)), .unset, .unset, .unset] []))
  refine own_go (fun _ k => XS.iloadN X0.here hx rfl (hb hby dcmB1_0) rfl k) ?_
  show own_Ends _ _ _ _ _ _ _ (s₁.setTop (mkF m 1 #[.val (.ref a0), .val (.int (0 : Int32)), .val (.int (1 : Int32)), .unset, .unset, .unset] [(.int (1 : Int32))]))
  obtain ⟨T1, h1, k1, X1, e1, E1, A1, st1⟩ := newP X0 hx hZ (hw _ (List.mem_of_getElem? (i := 22) rfl)) e0 (g := (mkF m 1 #[.val (.ref a0), .val (.int (0 : Int32)), .val (.int (1 : Int32)), .unset, .unset, .unset] [(.int (1 : Int32))])) rfl (hb hby dcmB1_1) rfl (by decide) (cap := 1) (by decide) (by decide) (by decide) (by decide)
  obtain ⟨b1, q_b1⟩ : ∃ z, z = h0.size := ⟨_, rfl⟩
  rw [← q_b1] at A1 st1
  have g_b1 : n0 ≤ b1 := Nat.le_trans (own_sz O0) (Nat.le_of_eq q_b1.symm)
  have ne_a0_b1 : a0 ≠ b1 := Nat.ne_of_lt (Nat.lt_of_lt_of_le A_a0.lt (Nat.le_of_eq q_b1.symm))
  refine own_go (fun _ k => st1 _ k) ?_
  have F2 : own_Ar Z h1 a0 .char 1 (fun i => .int (GG i)) := (A_a0.ext E1)
  have F3 : Old Z n0 h1 := (O0.ext E1)
  have gh_b1 : h0.size ≤ b1 := Nat.le_trans (Keep.refl h0 []).1 (Nat.le_of_eq q_b1.symm)
  have K4 : Keep h0 h1 [] := (Keep.refl h0 []).ext E1
  have F5 : own_Ar Z h1 b1 .byte 1 (fun i => .int ((fun _ => (0 : Int32)) i)) := own_Ar.newI A1 (by decide) rfl
  show own_Ends _ _ _ _ _ _ _ (T1.setTop (mkF m 3 #[.val (.ref a0), .val (.int (0 : Int32)), .val (.int (1 : Int32)), .unset, .unset, .unset] [(.ref b1)]))
  refine own_go (fun _ k => XS.astoreN X1.here hx rfl (hb hby dcmB1_3) rfl rfl (l' := #[.val (.ref a0), .val (.int (0 : Int32)), .val (.int (1 : Int32)), .val (.ref b1), .unset, .unset]) rfl k) ?_
  show own_Ends _ _ _ _ _ _ _ (T1.setTop (mkF m 4 #[.val (.ref a0), .val (.int (0 : Int32)), .val (.int (1 : Int32)), .val (.ref b1), .unset, .unset] []))
  refine own_go (fun _ k => XS.aloadN X1.here hx rfl (hb hby dcmB1_4) rfl rfl k) ?_
  show own_Ends _ _ _ _ _ _ _ (T1.setTop (mkF m 5 #[.val (.ref a0), .val (.int (0 : Int32)), .val (.int (1 : Int32)), .val (.ref b1), .unset, .unset] [(.ref a0)]))
  refine own_go (fun _ k => XS.iloadN X1.here hx rfl (hb hby dcmB1_5) rfl k) ?_
  show own_Ends _ _ _ _ _ _ _ (T1.setTop (mkF m 6 #[.val (.ref a0), .val (.int (0 : Int32)), .val (.int (1 : Int32)), .val (.ref b1), .unset, .unset] [(.int (0 : Int32)), (.ref a0)]))
  refine own_go (fun _ k => XS.aloadN X1.here hx rfl (hb hby dcmB1_6) rfl rfl k) ?_
  show own_Ends _ _ _ _ _ _ _ (T1.setTop (mkF m 7 #[.val (.ref a0), .val (.int (0 : Int32)), .val (.int (1 : Int32)), .val (.ref b1), .unset, .unset] [(.ref b1), (.int (0 : Int32)), (.ref a0)]))
  refine own_go (fun _ k => XS.iconst X1.here hx rfl (hb hby dcmB1_7) k) ?_
  show own_Ends _ _ _ _ _ _ _ (T1.setTop (mkF m 8 #[.val (.ref a0), .val (.int (0 : Int32)), .val (.int (1 : Int32)), .val (.ref b1), .unset, .unset] [(.int (0 : Int32)), (.ref b1), (.int (0 : Int32)), (.ref a0)]))
  refine own_go (fun _ k => XS.iloadN X1.here hx rfl (hb hby dcmB1_8) rfl k) ?_
  show own_Ends _ _ _ _ _ _ _ (T1.setTop (mkF m 9 #[.val (.ref a0), .val (.int (0 : Int32)), .val (.int (1 : Int32)), .val (.ref b1), .unset, .unset] [(.int (1 : Int32)), (.int (0 : Int32)), (.ref b1), (.int (0 : Int32)), (.ref a0)]))
  obtain ⟨_, _, ⟨T6, L6, k6, n6⟩, -, X6, ⟨Lc6, hQ6, l6, y6, z6⟩, st6⟩ := Jvm.LawKit.callS X1 hx (y := (⟨"java/lang/StringUTF16", "compress", "([CI[BII)I"⟩ : MethodName)) hown (mvT hZ (hw _ (List.mem_of_getElem? (i := 34) rfl))) (mvT hZ (hw _ (List.mem_of_getElem? (i := 35) rfl))) (mvT hZ (hw _ (List.mem_of_getElem? (i := 32) rfl))) (mvT hZ (hw _ (List.mem_of_getElem? (i := 36) rfl))) (by decide) (backOf (W := 0) (rmcmA1 l Z ar hw [] a0 b1 GG (fun _ => (0 : Int32)) h1 n0 F3 F2 F5 g_b1 ne_a0_b1 hr) hZ (hw _ (List.mem_of_getElem? (i := 36) rfl)) (hw _ (List.mem_of_getElem? (i := 32) rfl)) (by decide) (by decide)) (g := (mkF m 9 #[.val (.ref a0), .val (.int (0 : Int32)), .val (.int (1 : Int32)), .val (.ref b1), .unset, .unset] [(.int (1 : Int32)), (.int (0 : Int32)), (.ref b1), (.int (0 : Int32)), (.ref a0)])) rfl (by rw [hml]; rfl) (argsL := [(.ref a0), (.int (0 : Int32)), (.ref b1), (.int (0 : Int32)), (.int (1 : Int32))]) (rest := []) (lenOf pdcmB1_0 rfl) rfl (by show 2 * 0 + _ ≤ _; exact Nat.le_of_eq rfl) (hb hby dcmB1_9) (fun _ _ => ⟨rfl, e1, (by decide : 1 + 0 ≤ _), (by decide : 1 + 0 ≤ _)⟩)
  dsimp only [Pt.U, Pt.locs, Pt.cells, Pt.slots] at X6 l6 y6 z6 st6 hQ6
  subst l6 y6 z6
  obtain ⟨rfl, N6q, K6, A6_0⟩ := hQ6
  have N6 := Fr.app N0 N6q
  have F7 : own_Ar Z T6.heap a0 .char 1 (fun i => .int (GG i)) := (F2.keep K6 (ninS ne_a0_b1 nin0))
  have F8 : Old Z n0 T6.heap := (F3.keep K6 (allS g_b1 all0))
  have K9 : Keep h0 T6.heap [] := K4.trans K6 (allS (Or.inr gh_b1) all0)
  refine own_go (fun _ k => st6 _ k) ?_
  show own_Ends _ _ _ _ _ _ _ (T6.setTop (mkF m 12 #[.val (.ref a0), .val (.int (0 : Int32)), .val (.int (1 : Int32)), .val (.ref b1), .unset, .unset] [(.int (1 : Int32))]))
  refine own_go (fun _ k => XS.istore X6.here hx rfl (hb hby dcmB1_12) rfl (l' := #[.val (.ref a0), .val (.int (0 : Int32)), .val (.int (1 : Int32)), .val (.ref b1), .val (.int (1 : Int32)), .unset]) rfl k) ?_
  show own_Ends _ _ _ _ _ _ _ (T6.setTop (mkF m 14 #[.val (.ref a0), .val (.int (0 : Int32)), .val (.int (1 : Int32)), .val (.ref b1), .val (.int (1 : Int32)), .unset] []))
  refine own_go (fun _ k => XS.iload X6.here hx rfl (hb hby dcmB1_14) rfl k) ?_
  show own_Ends _ _ _ _ _ _ _ (T6.setTop (mkF m 16 #[.val (.ref a0), .val (.int (0 : Int32)), .val (.int (1 : Int32)), .val (.ref b1), .val (.int (1 : Int32)), .unset] [(.int (1 : Int32))]))
  refine own_go (fun _ k => XS.iloadN X6.here hx rfl (hb hby dcmB1_16) rfl k) ?_
  show own_Ends _ _ _ _ _ _ _ (T6.setTop (mkF m 17 #[.val (.ref a0), .val (.int (0 : Int32)), .val (.int (1 : Int32)), .val (.ref b1), .val (.int (1 : Int32)), .unset] [(.int (1 : Int32)), (.int (1 : Int32))]))
  refine own_go (fun _ k => XS.icmpYes X6.here hx rfl (pc0 := 17) (pc' := 57) rfl (hb hby dcmB1_17) rfl (teq (by decide)).1 (by decide) (by decide) k) ?_
  show own_Ends _ _ _ _ _ _ _ (T6.setTop (mkF m 57 #[.val (.ref a0), .val (.int (0 : Int32)), .val (.int (1 : Int32)), .val (.ref b1), .val (.int (1 : Int32)), .unset] []))
  refine own_go (fun _ k => XS.aloadN X6.here hx rfl (hb hby dcmB1_57) rfl rfl k) ?_
  show own_Ends _ _ _ _ _ _ _ (T6.setTop (mkF m 58 #[.val (.ref a0), .val (.int (0 : Int32)), .val (.int (1 : Int32)), .val (.ref b1), .val (.int (1 : Int32)), .unset] [(.ref b1)]))
  exact own_retA X6 hx hlk Bd.returns rfl rfl rfl (hb hby dcmB1_58) (by decide) (by decide) (by rw [show T6.heap = T6.heap from rfl]; exact ⟨b1, rfl, N6, K9, gh_b1, A6_0⟩)
theorem dcfa1_0 : decode jdk_52_method_15_code 0 = .ok (.iload_n 1, 1) := by decide +kernel
theorem dcfa1_1 : decode jdk_52_method_15_code 1 = .ok (.aload_n 0, 1) := by decide +kernel
theorem dcfa1_2 : decode jdk_52_method_15_code 2 = .ok (.arraylength, 1) := by decide +kernel
theorem dcfa1_3 : decode jdk_52_method_15_code 3 = .ok (.isub, 1) := by decide +kernel
theorem dcfa1_4 : decode jdk_52_method_15_code 4 = .ok (.bipush 31, 2) := by decide +kernel
theorem dcfa1_6 : decode jdk_52_method_15_code 6 = .ok (.iushr, 1) := by decide +kernel
theorem dcfa1_7 : decode jdk_52_method_15_code 7 = .ok (.i2b, 1) := by decide +kernel
theorem dcfa1_8 : decode jdk_52_method_15_code 8 = .ok (.ireturn, 1) := by decide +kernel
theorem pncfa1 : plainName "java/lang/StringUTF16" = true := by first | (simp [plainName, overriddenIn]; done) | decide +kernel
theorem efcfa1 (m : MethodId) (a0 : Addr) : entryFrame m #[(.ref a0), (.int (1 : Int32))] 2 = mkF m 0 #[.val (.ref a0), .val (.int (1 : Int32))] [] := by first | (simp [entryFrame, mkF, argsToLocals, Value.category]; done) | rfl
def Qcfa1 (Z : State) (a0 : Addr) (GG : Nat → Int32) (h0 : Heap) (n0 : Nat) (v : Option Value) (h : Heap) (L : List Loc) : Prop := v = some (.int (0 : Int32)) ∧ Fr n0 L ∧ h = h0
set_option maxRecDepth 65536 in
set_option maxHeartbeats 40000000 in
theorem rmcfa1 (l : Launch) (Z : State) (ar : Array Value) (hw : ∀ d ∈ tables_1, d.before ar Z = true) (ws : List Jvm.Cond) (a0 : Addr) (GG : Nat → Int32) (h0 : Heap) (n0 : Nat) (O0 : Old Z n0 h0) (A_a0 : own_Ar Z h0 a0 .byte 1 (fun i => .int (GG i))) :
    MetFree l (⟨"java/lang/StringUTF16", "coderFromArrayLen", "([BI)B"⟩ : MethodName) (head1 (Jvm.Cond.code (⟨"java/lang/StringUTF16", "coderFromArrayLen", "([BI)B"⟩ : MethodName) jdk_52_method_15_code 2 (some .byte) :: ws) ({ frames := 0, cells := 0, slots := 0, locals := 0 } : Room)) (fun a U => a = #[(.ref a0), (.int (1 : Int32))] ∧ Z.Warmed39 U.vm ∧ U.heap = h0) (fun _ _ _ _ _ => True) (fun _ U o U' => ∃ v L, o = .returned v ∧ Qcfa1 Z a0 GG h0 n0 v U'.heap L ∧ FrameEnd U o U' L ({ frames := 0, cells := 0, slots := 0, locals := 0 } : Room).cells ({ frames := 0, cells := 0, slots := 0, locals := 0 } : Room).slots) := by
  refine MetFree.of_bodySF (plainFor_of_name pncfa1) hisR ?_
  intro p e s m args below meth c s₁ Bd hml0 hP hK
  obtain ⟨rfl, hZ, hh⟩ := hP
  have hx := Bd.exec
  have hby := Bd.bytes
  have hml : c.maxLocals = 2 := hml0
  have hown : s.vm.findClass "java/lang/StringUTF16" = some m.cls := findClass_of_methodNamed Bd.named
  have hnm := (name_of_methodNamed Bd.named Bd.method).1
  have hlk : meth.locks = false := BodyLoose.notSynchronized Bd
  have X0 : Stand p l e ({ frames := 0, cells := 0, slots := 0, locals := 0 } : Room) s m #[(.ref a0), (.int (1 : Int32))] below meth c s₁ [] 0 0 := Stand.of_body Bd
  have e0 : s₁.heap = h0 := by rw [← hh, Bd.state]; rfl
  have N0 := Fr.nil n0
  suffices hmain : own_Ends p e below s (Qcfa1 Z a0 GG h0 n0) 0 0 (s₁.setTop (mkF m 0 #[.val (.ref a0), .val (.int (1 : Int32))] [])) by
    obtain ⟨U, o, h1, r⟩ := hmain
    exact ⟨U, o, castTop (efcfa1 m a0) h1, r⟩
  show own_Ends _ _ _ _ _ _ _ (s₁.setTop (mkF m 0 #[.val (.ref a0), .val (.int (1 : Int32))] []))
  refine own_go (fun _ k => XS.iloadN X0.here hx rfl (hb hby dcfa1_0) rfl k) ?_
  show own_Ends _ _ _ _ _ _ _ (s₁.setTop (mkF m 1 #[.val (.ref a0), .val (.int (1 : Int32))] [(.int (1 : Int32))]))
  refine own_go (fun _ k => XS.aloadN X0.here hx rfl (hb hby dcfa1_1) rfl rfl k) ?_
  show own_Ends _ _ _ _ _ _ _ (s₁.setTop (mkF m 2 #[.val (.ref a0), .val (.int (1 : Int32))] [(.ref a0), (.int (1 : Int32))]))
  obtain ⟨c1, A1, l1⟩ := own_Ar.len A_a0
  refine own_go (fun _ k => X0.arraylength hx (by rw [e0]; exact A1.1) (State.isArrayOf_alike hZ.alike A1.2.1) (g := (mkF m 2 #[.val (.ref a0), .val (.int (1 : Int32))] [(.ref a0), (.int (1 : Int32))])) rfl rfl (hb hby dcfa1_2) _ k) ?_
  rw [l1]
  show own_Ends _ _ _ _ _ _ _ (s₁.setTop (mkF m 3 #[.val (.ref a0), .val (.int (1 : Int32))] [(.int (1 : Int32)), (.int (1 : Int32))]))
  refine own_go (fun _ k => XS.isub X0.here hx rfl (hb hby dcfa1_3) rfl k) ?_
  show own_Ends _ _ _ _ _ _ _ (s₁.setTop (mkF m 4 #[.val (.ref a0), .val (.int (1 : Int32))] [(.int ((1 : Int32) - (1 : Int32)))]))
  refine own_go (fun _ k => XS.bipush X0.here hx rfl (hb hby dcfa1_4) k) ?_
  show own_Ends _ _ _ _ _ _ _ (s₁.setTop (mkF m 6 #[.val (.ref a0), .val (.int (1 : Int32))] [(.int (31 : Int32)), (.int ((1 : Int32) - (1 : Int32)))]))
  refine own_go (fun _ k => XS.iushr X0.here hx rfl (hb hby dcfa1_6) rfl k) ?_
  show own_Ends _ _ _ _ _ _ _ (s₁.setTop (mkF m 7 #[.val (.ref a0), .val (.int (1 : Int32))] [(.int ((((1 : Int32) - (1 : Int32)).toUInt32 >>> ((31 : Int32) &&& 31).toUInt32).toInt32))]))
  refine own_go (fun _ k => XS.i2b X0.here hx rfl (hb hby dcfa1_7) rfl k) ?_
  show own_Ends _ _ _ _ _ _ _ (s₁.setTop (mkF m 8 #[.val (.ref a0), .val (.int (1 : Int32))] [(.int (((((1 : Int32) - (1 : Int32)).toUInt32 >>> ((31 : Int32) &&& 31).toUInt32).toInt32).toInt8.toInt32))]))
  exact own_retN X0 hx hlk (t := .byte) Bd.returns (by simp) (hb hby dcfa1_8) (by decide) (by decide) ⟨by decide, N0, e0⟩
theorem dsiB1_0 : decode jdk_42_method_149_code 0 = .ok (.aload_n 0, 1) := by decide +kernel
theorem dsiB1_1 : decode jdk_42_method_149_code 1 = .ok (.invokespecial 1, 3) := by decide +kernel
theorem dsiB1_4 : decode jdk_42_method_149_code 4 = .ok (.iload_n 3, 1) := by decide +kernel
theorem dsiB1_5 : decode jdk_42_method_149_code 5 = .ok (.ifCond .ne 22, 3) := by decide +kernel
theorem dsiB1_27 : decode jdk_42_method_149_code 27 = .ok (.getstatic 38, 3) := by decide +kernel
theorem dsiB1_30 : decode jdk_42_method_149_code 30 = .ok (.ifCond .eq 28, 3) := by decide +kernel
theorem dsiB1_33 : decode jdk_42_method_149_code 33 = .ok (.aload_n 1, 1) := by decide +kernel
theorem dsiB1_34 : decode jdk_42_method_149_code 34 = .ok (.iload_n 2, 1) := by decide +kernel
theorem dsiB1_35 : decode jdk_42_method_149_code 35 = .ok (.iload_n 3, 1) := by decide +kernel
theorem dsiB1_36 : decode jdk_42_method_149_code 36 = .ok (.invokestatic 177, 3) := by decide +kernel
theorem dsiB1_39 : decode jdk_42_method_149_code 39 = .ok (.astore 5, 2) := by decide +kernel
theorem dsiB1_41 : decode jdk_42_method_149_code 41 = .ok (.aload_n 0, 1) := by decide +kernel
theorem dsiB1_42 : decode jdk_42_method_149_code 42 = .ok (.aload 5, 2) := by decide +kernel
theorem dsiB1_44 : decode jdk_42_method_149_code 44 = .ok (.iload_n 3, 1) := by decide +kernel
theorem dsiB1_45 : decode jdk_42_method_149_code 45 = .ok (.invokestatic 47, 3) := by decide +kernel
theorem dsiB1_48 : decode jdk_42_method_149_code 48 = .ok (.putfield 15, 3) := by decide +kernel
theorem dsiB1_51 : decode jdk_42_method_149_code 51 = .ok (.aload_n 0, 1) := by decide +kernel
theorem dsiB1_52 : decode jdk_42_method_149_code 52 = .ok (.aload 5, 2) := by decide +kernel
theorem dsiB1_54 : decode jdk_42_method_149_code 54 = .ok (.putfield 9, 3) := by decide +kernel
theorem dsiB1_57 : decode jdk_42_method_149_code 57 = .ok (.return_, 1) := by decide +kernel
theorem pnsiB1 : plainName "java/lang/String" = true := by first | (simp [plainName, overriddenIn]; done) | decide +kernel
theorem pdsiB1_0 : parseMethodDescriptor "([CII)[B" = some ⟨[(.array .char), .int, .int], some (.array .byte)⟩ := by decide +kernel
theorem pdsiB1_1 : parseMethodDescriptor "([BI)B" = some ⟨[(.array .byte), .int], some .byte⟩ := by decide +kernel
theorem efsiB1 (m : MethodId) (a0 : Addr) (a1 : Addr) : entryFrame m #[(.ref a0), (.ref a1), (.int (0 : Int32)), (.int (1 : Int32)), .null] 6 = mkF m 0 #[.val (.ref a0), .val (.ref a1), .val (.int (0 : Int32)), .val (.int (1 : Int32)), .val .null, .unset] [] := by first | (simp [entryFrame, mkF, argsToLocals, Value.category]; done) | rfl
def QsiB1 (Z : State) (a0 : Addr) (a1 : Addr) (GG : Nat → Int32) (w_COMPACT_STRINGS : Int32) (h0 : Heap) (n0 : Nat) (v : Option Value) (h : Heap) (L : List Loc) : Prop := v = none ∧ Fr n0 L ∧ Keep h0 h [a0] ∧ own_Str Z h a0 1 (fun i => own_by (GG i))
set_option maxRecDepth 65536 in
set_option maxHeartbeats 40000000 in
theorem rmsiB1 (l : Launch) (Z : State) (ar : Array Value) (hw : ∀ d ∈ tables_1, d.before ar Z = true) (ws : List Jvm.Cond) (a0 : Addr) (a1 : Addr) (GG : Nat → Int32) (w_COMPACT_STRINGS : Int32) (h0 : Heap) (n0 : Nat) (O0 : Old Z n0 h0) (E_a0 : Exa Z h0 a0 "java/lang/String") (g_a0 : n0 ≤ a0) (F_value_a0 : Fld Z h0 a0 "java/lang/String" "value" "[B" .null) (F_coder_a0 : Fld Z h0 a0 "java/lang/String" "coder" "B" (.int (0 : Int32))) (A_a1 : own_Ar Z h0 a1 .char 1 (fun i => .int (GG i))) (hr : ∀ i, i < 1 → ¬ (255 : Int32) < GG i) (ne01 : a0 ≠ a1) (hCS : ¬ w_COMPACT_STRINGS = (0 : Int32)) (S_COMPACT_STRINGS : Sta Z Z.heap "java/lang/String" "COMPACT_STRINGS" "Z" (.int w_COMPACT_STRINGS)) :
    MetFree l (⟨"java/lang/String", "<init>", "([CIILjava/lang/Void;)V"⟩ : MethodName) (head1 (Jvm.Cond.code (⟨"java/lang/String", "<init>", "([CIILjava/lang/Void;)V"⟩ : MethodName) jdk_42_method_149_code 6 none :: ws) ({ frames := 2, cells := 1, slots := 1, locals := 35 } : Room)) (fun a U => a = #[(.ref a0), (.ref a1), (.int (0 : Int32)), (.int (1 : Int32)), .null] ∧ Z.Warmed39 U.vm ∧ U.heap = h0) (fun _ _ _ _ _ => True) (fun _ U o U' => ∃ v L, o = .returned v ∧ QsiB1 Z a0 a1 GG w_COMPACT_STRINGS h0 n0 v U'.heap L ∧ FrameEnd U o U' L ({ frames := 2, cells := 1, slots := 1, locals := 35 } : Room).cells ({ frames := 2, cells := 1, slots := 1, locals := 35 } : Room).slots) := by
  refine MetFree.of_bodySF (plainFor_of_name pnsiB1) hisR ?_
  intro p e s m args below meth c s₁ Bd hml0 hP hK
  obtain ⟨rfl, hZ, hh⟩ := hP
  have hx := Bd.exec
  have hby := Bd.bytes
  have hml : c.maxLocals = 6 := hml0
  have hown : s.vm.findClass "java/lang/String" = some m.cls := findClass_of_methodNamed Bd.named
  have hnm := (name_of_methodNamed Bd.named Bd.method).1
  have hlk : meth.locks = false := BodyLoose.notSynchronized Bd
  have X0 : Stand p l e ({ frames := 2, cells := 1, slots := 1, locals := 35 } : Room) s m #[(.ref a0), (.ref a1), (.int (0 : Int32)), (.int (1 : Int32)), .null] below meth c s₁ [] 0 0 := Stand.of_body Bd
  have e0 : s₁.heap = h0 := by rw [← hh, Bd.state]; rfl
  have N0 := Fr.nil n0
  suffices hmain : own_Ends p e below s (QsiB1 Z a0 a1 GG w_COMPACT_STRINGS h0 n0) 1 1 (s₁.setTop (mkF m 0 #[.val (.ref a0), .val (.ref a1), .val (.int (0 : Int32)), .val (.int (1 : Int32)), .val .null, .unset] [])) by
    obtain ⟨U, o, h1, r⟩ := hmain
    exact ⟨U, o, castTop (efsiB1 m a0 a1) h1, r⟩
  show own_Ends _ _ _ _ _ _ _ (s₁.setTop (mkF m 0 #[.val (.ref a0), .val (.ref a1), .val (.int (0 : Int32)), .val (.int (1 : Int32)), .val .null, .unset] []))
  refine own_go (fun _ k => XS.aloadN X0.here hx rfl (hb hby dsiB1_0) rfl rfl k) ?_
  show own_Ends _ _ _ _ _ _ _ (s₁.setTop (mkF m 1 #[.val (.ref a0), .val (.ref a1), .val (.int (0 : Int32)), .val (.int (1 : Int32)), .val .null, .unset] [(.ref a0)]))
  obtain ⟨T1, X1, e1, st1⟩ := initO X0 hx hZ hown (hw _ (List.mem_of_getElem? (i := 18) rfl)) (hw _ (List.mem_of_getElem? (i := 19) rfl)) (hw _ (List.mem_of_getElem? (i := 20) rfl)) e0 (g := (mkF m 1 #[.val (.ref a0), .val (.ref a1), .val (.int (0 : Int32)), .val (.int (1 : Int32)), .val .null, .unset] [(.ref a0)])) rfl (by rw [hml]; rfl) rfl (hb hby dsiB1_1) (by decide) (W := 0) (by show 2 * 0 + _ ≤ _; exact Nat.le_of_eq rfl) (by decide)
  refine own_go (fun _ k => st1 _ k) ?_
  show own_Ends _ _ _ _ _ _ _ (T1.setTop (mkF m 4 #[.val (.ref a0), .val (.ref a1), .val (.int (0 : Int32)), .val (.int (1 : Int32)), .val .null, .unset] []))
  refine own_go (fun _ k => XS.iloadN X1.here hx rfl (hb hby dsiB1_4) rfl k) ?_
  show own_Ends _ _ _ _ _ _ _ (T1.setTop (mkF m 5 #[.val (.ref a0), .val (.ref a1), .val (.int (0 : Int32)), .val (.int (1 : Int32)), .val .null, .unset] [(.int (1 : Int32))]))
  refine own_go (fun _ k => XS.ifYes X1.here hx rfl (pc0 := 5) (pc' := 27) rfl (hb hby dsiB1_5) rfl ((if0 _ _).trans (feq (by decide)).2) (by decide) (by decide) k) ?_
  show own_Ends _ _ _ _ _ _ _ (T1.setTop (mkF m 27 #[.val (.ref a0), .val (.ref a1), .val (.int (0 : Int32)), .val (.int (1 : Int32)), .val .null, .unset] []))
  obtain ⟨T2, X2, e2, st2⟩ := getS2 X1 hx hZ hown (host := "") (Or.inl (hw _ (List.mem_of_getElem? (i := 29) rfl))) Via.refl e1 (Sta.ext (own_ext O0) S_COMPACT_STRINGS) (g := (mkF m 27 #[.val (.ref a0), .val (.ref a1), .val (.int (0 : Int32)), .val (.int (1 : Int32)), .val .null, .unset] [])) rfl (hb hby dsiB1_27)
  refine own_go (fun _ k => st2 _ k) ?_
  show own_Ends _ _ _ _ _ _ _ (T2.setTop (mkF m 30 #[.val (.ref a0), .val (.ref a1), .val (.int (0 : Int32)), .val (.int (1 : Int32)), .val .null, .unset] [(.int w_COMPACT_STRINGS)]))
  refine own_go (fun _ k => XS.ifNo X2.here hx rfl (hb hby dsiB1_30) rfl ((if0 _ _).trans (feq hCS).1) k) ?_
  show own_Ends _ _ _ _ _ _ _ (T2.setTop (mkF m 33 #[.val (.ref a0), .val (.ref a1), .val (.int (0 : Int32)), .val (.int (1 : Int32)), .val .null, .unset] []))
  refine own_go (fun _ k => XS.aloadN X2.here hx rfl (hb hby dsiB1_33) rfl rfl k) ?_
  show own_Ends _ _ _ _ _ _ _ (T2.setTop (mkF m 34 #[.val (.ref a0), .val (.ref a1), .val (.int (0 : Int32)), .val (.int (1 : Int32)), .val .null, .unset] [(.ref a1)]))
  refine own_go (fun _ k => XS.iloadN X2.here hx rfl (hb hby dsiB1_34) rfl k) ?_
  show own_Ends _ _ _ _ _ _ _ (T2.setTop (mkF m 35 #[.val (.ref a0), .val (.ref a1), .val (.int (0 : Int32)), .val (.int (1 : Int32)), .val .null, .unset] [(.int (0 : Int32)), (.ref a1)]))
  refine own_go (fun _ k => XS.iloadN X2.here hx rfl (hb hby dsiB1_35) rfl k) ?_
  show own_Ends _ _ _ _ _ _ _ (T2.setTop (mkF m 36 #[.val (.ref a0), .val (.ref a1), .val (.int (0 : Int32)), .val (.int (1 : Int32)), .val .null, .unset] [(.int (1 : Int32)), (.int (0 : Int32)), (.ref a1)]))
  obtain ⟨_, _, ⟨T3, L3, k3, n3⟩, -, X3, ⟨Lc3, hQ3, l3, y3, z3⟩, st3⟩ := Jvm.LawKit.callS X2 hx (y := (⟨"java/lang/StringUTF16", "compress", "([CII)[B"⟩ : MethodName)) hown (mvT hZ (hw _ (List.mem_of_getElem? (i := 30) rfl))) (mvT hZ (hw _ (List.mem_of_getElem? (i := 31) rfl))) (mvT hZ (hw _ (List.mem_of_getElem? (i := 32) rfl))) (mvT hZ (hw _ (List.mem_of_getElem? (i := 33) rfl))) (by decide) (backOf (W := 0) (rmcmB1 l Z ar hw [] a1 GG h0 n0 O0 A_a1 hr) hZ (hw _ (List.mem_of_getElem? (i := 33) rfl)) (hw _ (List.mem_of_getElem? (i := 32) rfl)) (by decide) (by decide)) (g := (mkF m 36 #[.val (.ref a0), .val (.ref a1), .val (.int (0 : Int32)), .val (.int (1 : Int32)), .val .null, .unset] [(.int (1 : Int32)), (.int (0 : Int32)), (.ref a1)])) rfl (by rw [hml]; rfl) (argsL := [(.ref a1), (.int (0 : Int32)), (.int (1 : Int32))]) (rest := []) (lenOf pdsiB1_0 rfl) rfl (by show 2 * 0 + _ ≤ _; exact Nat.le_of_eq rfl) (hb hby dsiB1_36) (fun _ _ => ⟨rfl, e2, (by decide : 0 + 1 ≤ _), (by decide : 0 + 1 ≤ _)⟩)
  dsimp only [Pt.U, Pt.locs, Pt.cells, Pt.slots] at X3 l3 y3 z3 st3 hQ3
  subst l3 y3 z3
  obtain ⟨y3, rfl, N3q, K3, gh_y3, A3_0⟩ := hQ3
  have N3 := Fr.app N0 N3q
  have ne_a0_y3 : a0 ≠ y3 := Nat.ne_of_lt (Nat.lt_of_lt_of_le E_a0.lt gh_y3)
  have ne_a1_y3 : a1 ≠ y3 := Nat.ne_of_lt (Nat.lt_of_lt_of_le A_a1.lt gh_y3)
  have F4 : Exa Z T3.heap a0 "java/lang/String" := (E_a0.keep K3)
  have F5 : Fld Z T3.heap a0 "java/lang/String" "value" "[B" .null := (F_value_a0.keep K3 nin0)
  have F6 : Fld Z T3.heap a0 "java/lang/String" "coder" "B" (.int (0 : Int32)) := (F_coder_a0.keep K3 nin0)
  have F7 : Old Z n0 T3.heap := (O0.keep K3 all0)
  have K8 : Keep h0 T3.heap [a0] := (Keep.refl h0 [a0]).trans K3 all0
  refine own_go (fun _ k => st3 _ k) ?_
  show own_Ends _ _ _ _ _ _ _ (T3.setTop (mkF m 39 #[.val (.ref a0), .val (.ref a1), .val (.int (0 : Int32)), .val (.int (1 : Int32)), .val .null, .unset] [(.ref y3)]))
  refine own_go (fun _ k => XS.astore X3.here hx rfl (hb hby dsiB1_39) rfl rfl (l' := #[.val (.ref a0), .val (.ref a1), .val (.int (0 : Int32)), .val (.int (1 : Int32)), .val .null, .val (.ref y3)]) rfl k) ?_
  show own_Ends _ _ _ _ _ _ _ (T3.setTop (mkF m 41 #[.val (.ref a0), .val (.ref a1), .val (.int (0 : Int32)), .val (.int (1 : Int32)), .val .null, .val (.ref y3)] []))
  refine own_go (fun _ k => XS.aloadN X3.here hx rfl (hb hby dsiB1_41) rfl rfl k) ?_
  show own_Ends _ _ _ _ _ _ _ (T3.setTop (mkF m 42 #[.val (.ref a0), .val (.ref a1), .val (.int (0 : Int32)), .val (.int (1 : Int32)), .val .null, .val (.ref y3)] [(.ref a0)]))
  refine own_go (fun _ k => XS.aload X3.here hx rfl (hb hby dsiB1_42) rfl rfl k) ?_
  show own_Ends _ _ _ _ _ _ _ (T3.setTop (mkF m 44 #[.val (.ref a0), .val (.ref a1), .val (.int (0 : Int32)), .val (.int (1 : Int32)), .val .null, .val (.ref y3)] [(.ref y3), (.ref a0)]))
  refine own_go (fun _ k => XS.iloadN X3.here hx rfl (hb hby dsiB1_44) rfl k) ?_
  show own_Ends _ _ _ _ _ _ _ (T3.setTop (mkF m 45 #[.val (.ref a0), .val (.ref a1), .val (.int (0 : Int32)), .val (.int (1 : Int32)), .val .null, .val (.ref y3)] [(.int (1 : Int32)), (.ref y3), (.ref a0)]))
  obtain ⟨_, _, ⟨T9, L9, k9, n9⟩, -, X9, ⟨Lc9, hQ9, l9, y9, z9⟩, st9⟩ := Jvm.LawKit.callS X3 hx (y := (⟨"java/lang/StringUTF16", "coderFromArrayLen", "([BI)B"⟩ : MethodName)) hown (mvT hZ (hw _ (List.mem_of_getElem? (i := 37) rfl))) (mvT hZ (hw _ (List.mem_of_getElem? (i := 38) rfl))) (mvT hZ (hw _ (List.mem_of_getElem? (i := 32) rfl))) (mvT hZ (hw _ (List.mem_of_getElem? (i := 39) rfl))) (by decide) (backOf (W := 1) (rmcfa1 l Z ar hw [] y3 (fun i => own_by (GG i)) T3.heap n0 F7 A3_0) hZ (hw _ (List.mem_of_getElem? (i := 39) rfl)) (hw _ (List.mem_of_getElem? (i := 32) rfl)) (by decide) (by decide)) (g := (mkF m 45 #[.val (.ref a0), .val (.ref a1), .val (.int (0 : Int32)), .val (.int (1 : Int32)), .val .null, .val (.ref y3)] [(.int (1 : Int32)), (.ref y3), (.ref a0)])) rfl (by rw [hml]; rfl) (argsL := [(.ref y3), (.int (1 : Int32))]) (rest := [(.ref a0)]) (lenOf pdsiB1_1 rfl) rfl (by show 2 * 0 + _ ≤ _; exact Nat.le_of_eq rfl) (hb hby dsiB1_45) (fun _ _ => ⟨rfl, rfl, (by decide : 1 + 0 ≤ _), (by decide : 1 + 0 ≤ _)⟩)
  dsimp only [Pt.U, Pt.locs, Pt.cells, Pt.slots] at X9 l9 y9 z9 st9 hQ9
  subst l9 y9 z9
  obtain ⟨rfl, N9q, eq9⟩ := hQ9
  have e9 : T9.heap = T3.heap := eq9
  have N9 := Fr.app N3 N9q
  refine own_go (fun _ k => st9 _ k) ?_
  show own_Ends _ _ _ _ _ _ _ (T9.setTop (mkF m 48 #[.val (.ref a0), .val (.ref a1), .val (.int (0 : Int32)), .val (.int (1 : Int32)), .val .null, .val (.ref y3)] [(.int (0 : Int32)), (.ref a0)]))
  obtain ⟨T10, h10, X10, e10, W10, st10⟩ := putFN X9 hx hZ hown (hw _ (List.mem_of_getElem? (i := 28) rfl)) Via.refl e9 F6 F4 (Or.inr ⟨(hw _ (List.mem_of_getElem? (i := 24) rfl)), rfl, hnm⟩) (hw _ (List.mem_of_getElem? (i := 8) rfl)) (ty := .byte) (v' := (.int (0 : Int32))) (by decide) rfl rfl (g := (mkF m 48 #[.val (.ref a0), .val (.ref a1), .val (.int (0 : Int32)), .val (.int (1 : Int32)), .val .null, .val (.ref y3)] [(.int (0 : Int32)), (.ref a0)])) rfl rfl (hb hby dsiB1_48)
  refine own_go (fun _ k => st10 _ k) ?_
  have N10 := Fr.snoc X10 N9 g_a0
  have F11 : Exa Z h10 a0 "java/lang/String" := (Exa.wr W10 F4)
  have F12 : Fld Z h10 a0 "java/lang/String" "value" "[B" .null := (Fld.other W10 F5 (Or.inr (slot_ne (Or.inr (hw _ (List.mem_of_getElem? (i := 23) rfl))) (Or.inr (hw _ (List.mem_of_getElem? (i := 24) rfl))) (by decide) (t := (.array .byte)) (t' := .byte) (by decide) (by decide))))
  have F13 : Old Z n0 h10 := (F7.wr W10 g_a0)
  have F14 : own_Ar Z h10 y3 .byte 1 (fun i => .int ((fun i => own_by (GG i)) i)) := (A3_0.other W10 (Ne.symm ne_a0_y3))
  have F15 : Fld Z h10 a0 "java/lang/String" "coder" "B" (.int (0 : Int32)) := Fld.same W10 F6
  have K16 : Keep h0 h10 [a0] := K8.wr W10 (Or.inl (List.mem_of_getElem? (i := 0) rfl))
  show own_Ends _ _ _ _ _ _ _ (T10.setTop (mkF m 51 #[.val (.ref a0), .val (.ref a1), .val (.int (0 : Int32)), .val (.int (1 : Int32)), .val .null, .val (.ref y3)] []))
  refine own_go (fun _ k => XS.aloadN X10.here hx rfl (hb hby dsiB1_51) rfl rfl k) ?_
  show own_Ends _ _ _ _ _ _ _ (T10.setTop (mkF m 52 #[.val (.ref a0), .val (.ref a1), .val (.int (0 : Int32)), .val (.int (1 : Int32)), .val .null, .val (.ref y3)] [(.ref a0)]))
  refine own_go (fun _ k => XS.aload X10.here hx rfl (hb hby dsiB1_52) rfl rfl k) ?_
  show own_Ends _ _ _ _ _ _ _ (T10.setTop (mkF m 54 #[.val (.ref a0), .val (.ref a1), .val (.int (0 : Int32)), .val (.int (1 : Int32)), .val .null, .val (.ref y3)] [(.ref y3), (.ref a0)]))
  obtain ⟨T17, h17, X17, e17, W17, st17⟩ := putF X10 hx hZ hown (host := "") (Or.inl (hw _ (List.mem_of_getElem? (i := 27) rfl))) Via.refl e10 F12 F11 (Or.inr ⟨(hw _ (List.mem_of_getElem? (i := 23) rfl)), rfl, hnm⟩) (hw _ (List.mem_of_getElem? (i := 8) rfl)) (ty := (.array .byte)) (by decide) rfl rfl (g := (mkF m 54 #[.val (.ref a0), .val (.ref a1), .val (.int (0 : Int32)), .val (.int (1 : Int32)), .val .null, .val (.ref y3)] [(.ref y3), (.ref a0)])) rfl rfl (hb hby dsiB1_54)
  refine own_go (fun _ k => st17 _ k) ?_
  have N17 := Fr.snoc X17 N10 g_a0
  have F18 : Exa Z h17 a0 "java/lang/String" := (Exa.wr W17 F11)
  have F19 : Fld Z h17 a0 "java/lang/String" "coder" "B" (.int (0 : Int32)) := (Fld.other W17 F15 (Or.inr (slot_ne (Or.inr (hw _ (List.mem_of_getElem? (i := 24) rfl))) (Or.inr (hw _ (List.mem_of_getElem? (i := 23) rfl))) (by decide) (t := .byte) (t' := (.array .byte)) (by decide) (by decide))))
  have F20 : Old Z n0 h17 := (F13.wr W17 g_a0)
  have F21 : own_Ar Z h17 y3 .byte 1 (fun i => .int ((fun i => own_by (GG i)) i)) := (F14.other W17 (Ne.symm ne_a0_y3))
  have F22 : Fld Z h17 a0 "java/lang/String" "value" "[B" (.ref y3) := Fld.same W17 F12
  have K23 : Keep h0 h17 [a0] := K16.wr W17 (Or.inl (List.mem_of_getElem? (i := 0) rfl))
  show own_Ends _ _ _ _ _ _ _ (T17.setTop (mkF m 57 #[.val (.ref a0), .val (.ref a1), .val (.int (0 : Int32)), .val (.int (1 : Int32)), .val .null, .val (.ref y3)] []))
  exact own_retV X17 hx hlk Bd.returns (hb hby dsiB1_57) (by decide) (by decide) (by rw [e17]; exact ⟨rfl, N17, K23, ⟨F18, F19, y3, F22, F21⟩⟩)
theorem dsiA1_0 : decode jdk_42_method_3_code 0 = .ok (.aload_n 0, 1) := by decide +kernel
theorem dsiA1_1 : decode jdk_42_method_3_code 1 = .ok (.aload_n 1, 1) := by decide +kernel
theorem dsiA1_2 : decode jdk_42_method_3_code 2 = .ok (.iconst 0, 1) := by decide +kernel
theorem dsiA1_3 : decode jdk_42_method_3_code 3 = .ok (.aload_n 1, 1) := by decide +kernel
theorem dsiA1_4 : decode jdk_42_method_3_code 4 = .ok (.arraylength, 1) := by decide +kernel
theorem dsiA1_5 : decode jdk_42_method_3_code 5 = .ok (.aconst_null, 1) := by decide +kernel
theorem dsiA1_6 : decode jdk_42_method_3_code 6 = .ok (.invokespecial 27, 3) := by decide +kernel
theorem dsiA1_9 : decode jdk_42_method_3_code 9 = .ok (.return_, 1) := by decide +kernel
theorem pnsiA1 : plainName "java/lang/String" = true := by first | (simp [plainName, overriddenIn]; done) | decide +kernel
theorem pdsiA1_0 : parseMethodDescriptor "([CIILjava/lang/Void;)V" = some ⟨[(.array .char), .int, .int, (.object "java/lang/Void")], none⟩ := by decide +kernel
theorem efsiA1 (m : MethodId) (a0 : Addr) (a1 : Addr) : entryFrame m #[(.ref a0), (.ref a1)] 2 = mkF m 0 #[.val (.ref a0), .val (.ref a1)] [] := by first | (simp [entryFrame, mkF, argsToLocals, Value.category]; done) | rfl
def QsiA1 (Z : State) (a0 : Addr) (a1 : Addr) (GG : Nat → Int32) (w_COMPACT_STRINGS : Int32) (h0 : Heap) (n0 : Nat) (v : Option Value) (h : Heap) (L : List Loc) : Prop := v = none ∧ Fr n0 L ∧ Keep h0 h [a0] ∧ own_Str Z h a0 1 (fun i => own_by (GG i))
set_option maxRecDepth 65536 in
set_option maxHeartbeats 40000000 in
theorem rmsiA1 (l : Launch) (Z : State) (ar : Array Value) (hw : ∀ d ∈ tables_1, d.before ar Z = true) (ws : List Jvm.Cond) (a0 : Addr) (a1 : Addr) (GG : Nat → Int32) (w_COMPACT_STRINGS : Int32) (h0 : Heap) (n0 : Nat) (O0 : Old Z n0 h0) (E_a0 : Exa Z h0 a0 "java/lang/String") (g_a0 : n0 ≤ a0) (F_value_a0 : Fld Z h0 a0 "java/lang/String" "value" "[B" .null) (F_coder_a0 : Fld Z h0 a0 "java/lang/String" "coder" "B" (.int (0 : Int32))) (A_a1 : own_Ar Z h0 a1 .char 1 (fun i => .int (GG i))) (hr : ∀ i, i < 1 → ¬ (255 : Int32) < GG i) (ne01 : a0 ≠ a1) (hCS : ¬ w_COMPACT_STRINGS = (0 : Int32)) (S_COMPACT_STRINGS : Sta Z Z.heap "java/lang/String" "COMPACT_STRINGS" "Z" (.int w_COMPACT_STRINGS)) :
    MetFree l (⟨"java/lang/String", "<init>", "([C)V"⟩ : MethodName) (head1 (Jvm.Cond.code (⟨"java/lang/String", "<init>", "([C)V"⟩ : MethodName) jdk_42_method_3_code 2 none :: ws) ({ frames := 3, cells := 1, slots := 1, locals := 52 } : Room)) (fun a U => a = #[(.ref a0), (.ref a1)] ∧ Z.Warmed39 U.vm ∧ U.heap = h0) (fun _ _ _ _ _ => True) (fun _ U o U' => ∃ v L, o = .returned v ∧ QsiA1 Z a0 a1 GG w_COMPACT_STRINGS h0 n0 v U'.heap L ∧ FrameEnd U o U' L ({ frames := 3, cells := 1, slots := 1, locals := 52 } : Room).cells ({ frames := 3, cells := 1, slots := 1, locals := 52 } : Room).slots) := by
  refine MetFree.of_bodySF (plainFor_of_name pnsiA1) hisR ?_
  intro p e s m args below meth c s₁ Bd hml0 hP hK
  obtain ⟨rfl, hZ, hh⟩ := hP
  have hx := Bd.exec
  have hby := Bd.bytes
  have hml : c.maxLocals = 2 := hml0
  have hown : s.vm.findClass "java/lang/String" = some m.cls := findClass_of_methodNamed Bd.named
  have hnm := (name_of_methodNamed Bd.named Bd.method).1
  have hlk : meth.locks = false := BodyLoose.notSynchronized Bd
  have X0 : Stand p l e ({ frames := 3, cells := 1, slots := 1, locals := 52 } : Room) s m #[(.ref a0), (.ref a1)] below meth c s₁ [] 0 0 := Stand.of_body Bd
  have e0 : s₁.heap = h0 := by rw [← hh, Bd.state]; rfl
  have N0 := Fr.nil n0
  suffices hmain : own_Ends p e below s (QsiA1 Z a0 a1 GG w_COMPACT_STRINGS h0 n0) 1 1 (s₁.setTop (mkF m 0 #[.val (.ref a0), .val (.ref a1)] [])) by
    obtain ⟨U, o, h1, r⟩ := hmain
    exact ⟨U, o, castTop (efsiA1 m a0 a1) h1, r⟩
  show own_Ends _ _ _ _ _ _ _ (s₁.setTop (mkF m 0 #[.val (.ref a0), .val (.ref a1)] []))
  refine own_go (fun _ k => XS.aloadN X0.here hx rfl (hb hby dsiA1_0) rfl rfl k) ?_
  show own_Ends _ _ _ _ _ _ _ (s₁.setTop (mkF m 1 #[.val (.ref a0), .val (.ref a1)] [(.ref a0)]))
  refine own_go (fun _ k => XS.aloadN X0.here hx rfl (hb hby dsiA1_1) rfl rfl k) ?_
  show own_Ends _ _ _ _ _ _ _ (s₁.setTop (mkF m 2 #[.val (.ref a0), .val (.ref a1)] [(.ref a1), (.ref a0)]))
  refine own_go (fun _ k => XS.iconst X0.here hx rfl (hb hby dsiA1_2) k) ?_
  show own_Ends _ _ _ _ _ _ _ (s₁.setTop (mkF m 3 #[.val (.ref a0), .val (.ref a1)] [(.int (0 : Int32)), (.ref a1), (.ref a0)]))
  refine own_go (fun _ k => XS.aloadN X0.here hx rfl (hb hby dsiA1_3) rfl rfl k) ?_
  show own_Ends _ _ _ _ _ _ _ (s₁.setTop (mkF m 4 #[.val (.ref a0), .val (.ref a1)] [(.ref a1), (.int (0 : Int32)), (.ref a1), (.ref a0)]))
  obtain ⟨c1, A1, l1⟩ := own_Ar.len A_a1
  refine own_go (fun _ k => X0.arraylength hx (by rw [e0]; exact A1.1) (State.isArrayOf_alike hZ.alike A1.2.1) (g := (mkF m 4 #[.val (.ref a0), .val (.ref a1)] [(.ref a1), (.int (0 : Int32)), (.ref a1), (.ref a0)])) rfl rfl (hb hby dsiA1_4) _ k) ?_
  rw [l1]
  show own_Ends _ _ _ _ _ _ _ (s₁.setTop (mkF m 5 #[.val (.ref a0), .val (.ref a1)] [(.int (1 : Int32)), (.int (0 : Int32)), (.ref a1), (.ref a0)]))
  refine own_go (fun _ k => XS.aconstNull X0.here hx rfl (hb hby dsiA1_5) k) ?_
  show own_Ends _ _ _ _ _ _ _ (s₁.setTop (mkF m 6 #[.val (.ref a0), .val (.ref a1)] [.null, (.int (1 : Int32)), (.int (0 : Int32)), (.ref a1), (.ref a0)]))
  obtain ⟨_, _, ⟨T2, L2, k2, n2⟩, -, X2, ⟨Lc2, hQ2, l2, y2, z2⟩, st2⟩ := X0.specialBack hx (y := (⟨"java/lang/String", "<init>", "([CIILjava/lang/Void;)V"⟩ : MethodName)) rfl hown (mvT hZ (hw _ (List.mem_of_getElem? (i := 14) rfl))) (mvT hZ (hw _ (List.mem_of_getElem? (i := 15) rfl))) (mvT hZ (hw _ (List.mem_of_getElem? (i := 17) rfl))) (by decide) (backOf (W := 0) (rmsiB1 l Z ar hw [] a0 a1 GG w_COMPACT_STRINGS h0 n0 O0 E_a0 g_a0 F_value_a0 F_coder_a0 A_a1 hr ne01 hCS S_COMPACT_STRINGS) hZ (hw _ (List.mem_of_getElem? (i := 17) rfl)) (hw _ (List.mem_of_getElem? (i := 9) rfl)) (by decide) (by decide)) (g := (mkF m 6 #[.val (.ref a0), .val (.ref a1)] [.null, (.int (1 : Int32)), (.int (0 : Int32)), (.ref a1), (.ref a0)])) rfl (by rw [hml]; rfl) (Steps.refl _) (a := a0) (argsL := [(.ref a1), (.int (0 : Int32)), (.int (1 : Int32)), .null]) (rest := []) (lenOf pdsiA1_0 rfl) rfl (by show 2 * 0 + _ ≤ _; exact Nat.le_of_eq rfl) (hb hby dsiA1_6) (fun _ _ => ⟨rfl, e0, (by decide : 0 + 1 ≤ _), (by decide : 0 + 1 ≤ _)⟩)
  dsimp only [Pt.U, Pt.locs, Pt.cells, Pt.slots] at X2 l2 y2 z2 st2 hQ2
  subst l2 y2 z2
  obtain ⟨rfl, N2q, K2, T2_0⟩ := hQ2
  have N2 := Fr.app N0 N2q
  have F3 : Exa Z T2.heap a0 "java/lang/String" := (E_a0.keep K2)
  have F4 : Old Z n0 T2.heap := (O0.keep K2 (allS g_a0 all0))
  have K5 : Keep h0 T2.heap [a0] := (Keep.refl h0 [a0]).trans K2 (allS (Or.inl (List.mem_of_getElem? (i := 0) rfl)) all0)
  refine own_go (fun _ k => st2.trans k) ?_
  show own_Ends _ _ _ _ _ _ _ (T2.setTop (mkF m 9 #[.val (.ref a0), .val (.ref a1)] []))
  exact own_retV X2 hx hlk Bd.returns (hb hby dsiA1_9) (by decide) (by decide) (by rw [show T2.heap = T2.heap from rfl]; exact ⟨rfl, N2, K5, T2_0⟩)
theorem dcmA2_0 : decode jdk_52_method_21_code 0 = .ok (.iconst 0, 1) := by decide +kernel
theorem dcmA2_1 : decode jdk_52_method_21_code 1 = .ok (.istore 5, 2) := by decide +kernel
theorem dcmA2_3 : decode jdk_52_method_21_code 3 = .ok (.iload 5, 2) := by decide +kernel
theorem dcmA2_5 : decode jdk_52_method_21_code 5 = .ok (.iload 4, 2) := by decide +kernel
theorem dcmA2_7 : decode jdk_52_method_21_code 7 = .ok (.if_icmp .ge 37, 3) := by decide +kernel
theorem dcmA2_10 : decode jdk_52_method_21_code 10 = .ok (.aload_n 0, 1) := by decide +kernel
theorem dcmA2_11 : decode jdk_52_method_21_code 11 = .ok (.iload_n 1, 1) := by decide +kernel
theorem dcmA2_12 : decode jdk_52_method_21_code 12 = .ok (.caload, 1) := by decide +kernel
theorem dcmA2_13 : decode jdk_52_method_21_code 13 = .ok (.istore 6, 2) := by decide +kernel
theorem dcmA2_15 : decode jdk_52_method_21_code 15 = .ok (.iload 6, 2) := by decide +kernel
theorem dcmA2_17 : decode jdk_52_method_21_code 17 = .ok (.sipush 255, 3) := by decide +kernel
theorem dcmA2_20 : decode jdk_52_method_21_code 20 = .ok (.if_icmp .le 6, 3) := by decide +kernel
theorem dcmA2_26 : decode jdk_52_method_21_code 26 = .ok (.aload_n 2, 1) := by decide +kernel
theorem dcmA2_27 : decode jdk_52_method_21_code 27 = .ok (.iload_n 3, 1) := by decide +kernel
theorem dcmA2_28 : decode jdk_52_method_21_code 28 = .ok (.iload 6, 2) := by decide +kernel
theorem dcmA2_30 : decode jdk_52_method_21_code 30 = .ok (.i2b, 1) := by decide +kernel
theorem dcmA2_31 : decode jdk_52_method_21_code 31 = .ok (.bastore, 1) := by decide +kernel
theorem dcmA2_32 : decode jdk_52_method_21_code 32 = .ok (.iinc 1 1, 3) := by decide +kernel
theorem dcmA2_35 : decode jdk_52_method_21_code 35 = .ok (.iinc 3 1, 3) := by decide +kernel
theorem dcmA2_38 : decode jdk_52_method_21_code 38 = .ok (.iinc 5 1, 3) := by decide +kernel
theorem dcmA2_41 : decode jdk_52_method_21_code 41 = .ok (.goto (-38), 3) := by decide +kernel
theorem dcmA2_44 : decode jdk_52_method_21_code 44 = .ok (.iload 4, 2) := by decide +kernel
theorem dcmA2_46 : decode jdk_52_method_21_code 46 = .ok (.ireturn, 1) := by decide +kernel
theorem pncmA2 : plainName "java/lang/StringUTF16" = true := by first | (simp [plainName, overriddenIn]; done) | decide +kernel
theorem efcmA2 (m : MethodId) (a0 : Addr) (a2 : Addr) : entryFrame m #[(.ref a0), (.int (0 : Int32)), (.ref a2), (.int (0 : Int32)), (.int (2 : Int32))] 7 = mkF m 0 #[.val (.ref a0), .val (.int (0 : Int32)), .val (.ref a2), .val (.int (0 : Int32)), .val (.int (2 : Int32)), .unset, .unset] [] := by first | (simp [entryFrame, mkF, argsToLocals, Value.category]; done) | rfl
def QcmA2 (Z : State) (a0 : Addr) (a2 : Addr) (GG : Nat → Int32) (HH : Nat → Int32) (h0 : Heap) (n0 : Nat) (v : Option Value) (h : Heap) (L : List Loc) : Prop := v = some (.int (2 : Int32)) ∧ Fr n0 L ∧ Keep h0 h [a2] ∧ own_Ar Z h a2 .byte 2 (fun i => .int ((fun i => own_by (GG i)) i))
set_option maxRecDepth 65536 in
set_option maxHeartbeats 40000000 in
theorem rmcmA2 (l : Launch) (Z : State) (ar : Array Value) (hw : ∀ d ∈ tables_1, d.before ar Z = true) (ws : List Jvm.Cond) (a0 : Addr) (a2 : Addr) (GG : Nat → Int32) (HH : Nat → Int32) (h0 : Heap) (n0 : Nat) (O0 : Old Z n0 h0) (A_a0 : own_Ar Z h0 a0 .char 2 (fun i => .int (GG i))) (A_a2 : own_Ar Z h0 a2 .byte 2 (fun i => .int (HH i))) (g_a2 : n0 ≤ a2) (ne02 : a0 ≠ a2) (hr : ∀ i, i < 2 → ¬ (255 : Int32) < GG i) :
    MetFree l (⟨"java/lang/StringUTF16", "compress", "([CI[BII)I"⟩ : MethodName) (head1 (Jvm.Cond.code (⟨"java/lang/StringUTF16", "compress", "([CI[BII)I"⟩ : MethodName) jdk_52_method_21_code 7 (some .int) :: ws) ({ frames := 0, cells := 0, slots := 0, locals := 0 } : Room)) (fun a U => a = #[(.ref a0), (.int (0 : Int32)), (.ref a2), (.int (0 : Int32)), (.int (2 : Int32))] ∧ Z.Warmed39 U.vm ∧ U.heap = h0) (fun _ _ _ _ _ => True) (fun _ U o U' => ∃ v L, o = .returned v ∧ QcmA2 Z a0 a2 GG HH h0 n0 v U'.heap L ∧ FrameEnd U o U' L ({ frames := 0, cells := 0, slots := 0, locals := 0 } : Room).cells ({ frames := 0, cells := 0, slots := 0, locals := 0 } : Room).slots) := by
  refine MetFree.of_bodySF (plainFor_of_name pncmA2) hisR ?_
  intro p e s m args below meth c s₁ Bd hml0 hP hK
  obtain ⟨rfl, hZ, hh⟩ := hP
  have hx := Bd.exec
  have hby := Bd.bytes
  have hml : c.maxLocals = 7 := hml0
  have hown : s.vm.findClass "java/lang/StringUTF16" = some m.cls := findClass_of_methodNamed Bd.named
  have hnm := (name_of_methodNamed Bd.named Bd.method).1
  have hlk : meth.locks = false := BodyLoose.notSynchronized Bd
  have X0 : Stand p l e ({ frames := 0, cells := 0, slots := 0, locals := 0 } : Room) s m #[(.ref a0), (.int (0 : Int32)), (.ref a2), (.int (0 : Int32)), (.int (2 : Int32))] below meth c s₁ [] 0 0 := Stand.of_body Bd
  have e0 : s₁.heap = h0 := by rw [← hh, Bd.state]; rfl
  have N0 := Fr.nil n0
  suffices hmain : own_Ends p e below s (QcmA2 Z a0 a2 GG HH h0 n0) 0 0 (s₁.setTop (mkF m 0 #[.val (.ref a0), .val (.int (0 : Int32)), .val (.ref a2), .val (.int (0 : Int32)), .val (.int (2 : Int32)), .unset, .unset] [])) by
    obtain ⟨U, o, h1, r⟩ := hmain
    exact ⟨U, o, castTop (efcmA2 m a0 a2) h1, r⟩
  show own_Ends _ _ _ _ _ _ _ (s₁.setTop (mkF m 0 #[.val (.ref a0), .val (.int (0 : Int32)), .val (.ref a2), .val (.int (0 : Int32)), .val (.int (2 : Int32)), .unset, .unset] []))
  refine own_go (fun _ k => XS.iconst X0.here hx rfl (hb hby dcmA2_0) k) ?_
  show own_Ends _ _ _ _ _ _ _ (s₁.setTop (mkF m 1 #[.val (.ref a0), .val (.int (0 : Int32)), .val (.ref a2), .val (.int (0 : Int32)), .val (.int (2 : Int32)), .unset, .unset] [(.int (0 : Int32))]))
  refine own_go (fun _ k => XS.istore X0.here hx rfl (hb hby dcmA2_1) rfl (l' := #[.val (.ref a0), .val (.int (0 : Int32)), .val (.ref a2), .val (.int (0 : Int32)), .val (.int (2 : Int32)), .val (.int (0 : Int32)), .unset]) rfl k) ?_
  show own_Ends _ _ _ _ _ _ _ (s₁.setTop (mkF m 3 #[.val (.ref a0), .val (.int (0 : Int32)), .val (.ref a2), .val (.int (0 : Int32)), .val (.int (2 : Int32)), .val (.int (0 : Int32)), .unset] []))
  refine own_go (fun _ k => XS.iload X0.here hx rfl (hb hby dcmA2_3) rfl k) ?_
  show own_Ends _ _ _ _ _ _ _ (s₁.setTop (mkF m 5 #[.val (.ref a0), .val (.int (0 : Int32)), .val (.ref a2), .val (.int (0 : Int32)), .val (.int (2 : Int32)), .val (.int (0 : Int32)), .unset] [(.int (0 : Int32))]))
  refine own_go (fun _ k => XS.iload X0.here hx rfl (hb hby dcmA2_5) rfl k) ?_
  show own_Ends _ _ _ _ _ _ _ (s₁.setTop (mkF m 7 #[.val (.ref a0), .val (.int (0 : Int32)), .val (.ref a2), .val (.int (0 : Int32)), .val (.int (2 : Int32)), .val (.int (0 : Int32)), .unset] [(.int (2 : Int32)), (.int (0 : Int32))]))
  refine own_go (fun _ k => XS.icmpNo X0.here hx rfl (hb hby dcmA2_7) rfl (tlt (by decide)).2.1 k) ?_
  show own_Ends _ _ _ _ _ _ _ (s₁.setTop (mkF m 10 #[.val (.ref a0), .val (.int (0 : Int32)), .val (.ref a2), .val (.int (0 : Int32)), .val (.int (2 : Int32)), .val (.int (0 : Int32)), .unset] []))
  refine own_go (fun _ k => XS.aloadN X0.here hx rfl (hb hby dcmA2_10) rfl rfl k) ?_
  show own_Ends _ _ _ _ _ _ _ (s₁.setTop (mkF m 11 #[.val (.ref a0), .val (.int (0 : Int32)), .val (.ref a2), .val (.int (0 : Int32)), .val (.int (2 : Int32)), .val (.int (0 : Int32)), .unset] [(.ref a0)]))
  refine own_go (fun _ k => XS.iloadN X0.here hx rfl (hb hby dcmA2_11) rfl k) ?_
  show own_Ends _ _ _ _ _ _ _ (s₁.setTop (mkF m 12 #[.val (.ref a0), .val (.int (0 : Int32)), .val (.ref a2), .val (.int (0 : Int32)), .val (.int (2 : Int32)), .val (.int (0 : Int32)), .unset] [(.int (0 : Int32)), (.ref a0)]))
  obtain ⟨c1, A1, i1, v1⟩ := own_Ar.at A_a0 (0 : Int32) (by decide) (by decide)
  refine own_go (fun _ k => X0.caload hx (by rw [e0]; exact A1.1) (State.isArrayOf_alike hZ.alike A1.2.1) A1.2.2 i1 v1 (g := (mkF m 12 #[.val (.ref a0), .val (.int (0 : Int32)), .val (.ref a2), .val (.int (0 : Int32)), .val (.int (2 : Int32)), .val (.int (0 : Int32)), .unset] [(.int (0 : Int32)), (.ref a0)])) rfl rfl (hb hby dcmA2_12) _ k) ?_
  show own_Ends _ _ _ _ _ _ _ (s₁.setTop (mkF m 13 #[.val (.ref a0), .val (.int (0 : Int32)), .val (.ref a2), .val (.int (0 : Int32)), .val (.int (2 : Int32)), .val (.int (0 : Int32)), .unset] [(.int (GG ((0 : Int32)).toNatClampNeg))]))
  refine own_go (fun _ k => XS.istore X0.here hx rfl (hb hby dcmA2_13) rfl (l' := #[.val (.ref a0), .val (.int (0 : Int32)), .val (.ref a2), .val (.int (0 : Int32)), .val (.int (2 : Int32)), .val (.int (0 : Int32)), .val (.int (GG ((0 : Int32)).toNatClampNeg))]) rfl k) ?_
  show own_Ends _ _ _ _ _ _ _ (s₁.setTop (mkF m 15 #[.val (.ref a0), .val (.int (0 : Int32)), .val (.ref a2), .val (.int (0 : Int32)), .val (.int (2 : Int32)), .val (.int (0 : Int32)), .val (.int (GG ((0 : Int32)).toNatClampNeg))] []))
  refine own_go (fun _ k => XS.iload X0.here hx rfl (hb hby dcmA2_15) rfl k) ?_
  show own_Ends _ _ _ _ _ _ _ (s₁.setTop (mkF m 17 #[.val (.ref a0), .val (.int (0 : Int32)), .val (.ref a2), .val (.int (0 : Int32)), .val (.int (2 : Int32)), .val (.int (0 : Int32)), .val (.int (GG ((0 : Int32)).toNatClampNeg))] [(.int (GG ((0 : Int32)).toNatClampNeg))]))
  refine own_go (fun _ k => XS.sipush X0.here hx rfl (hb hby dcmA2_17) k) ?_
  show own_Ends _ _ _ _ _ _ _ (s₁.setTop (mkF m 20 #[.val (.ref a0), .val (.int (0 : Int32)), .val (.ref a2), .val (.int (0 : Int32)), .val (.int (2 : Int32)), .val (.int (0 : Int32)), .val (.int (GG ((0 : Int32)).toNatClampNeg))] [(.int (255 : Int32)), (.int (GG ((0 : Int32)).toNatClampNeg))]))
  refine own_go (fun _ k => XS.icmpYes X0.here hx rfl (pc0 := 20) (pc' := 26) rfl (hb hby dcmA2_20) rfl (flt (hr _ (by decide))).2.2.2 (by decide) (by decide) k) ?_
  show own_Ends _ _ _ _ _ _ _ (s₁.setTop (mkF m 26 #[.val (.ref a0), .val (.int (0 : Int32)), .val (.ref a2), .val (.int (0 : Int32)), .val (.int (2 : Int32)), .val (.int (0 : Int32)), .val (.int (GG ((0 : Int32)).toNatClampNeg))] []))
  refine own_go (fun _ k => XS.aloadN X0.here hx rfl (hb hby dcmA2_26) rfl rfl k) ?_
  show own_Ends _ _ _ _ _ _ _ (s₁.setTop (mkF m 27 #[.val (.ref a0), .val (.int (0 : Int32)), .val (.ref a2), .val (.int (0 : Int32)), .val (.int (2 : Int32)), .val (.int (0 : Int32)), .val (.int (GG ((0 : Int32)).toNatClampNeg))] [(.ref a2)]))
  refine own_go (fun _ k => XS.iloadN X0.here hx rfl (hb hby dcmA2_27) rfl k) ?_
  show own_Ends _ _ _ _ _ _ _ (s₁.setTop (mkF m 28 #[.val (.ref a0), .val (.int (0 : Int32)), .val (.ref a2), .val (.int (0 : Int32)), .val (.int (2 : Int32)), .val (.int (0 : Int32)), .val (.int (GG ((0 : Int32)).toNatClampNeg))] [(.int (0 : Int32)), (.ref a2)]))
  refine own_go (fun _ k => XS.iload X0.here hx rfl (hb hby dcmA2_28) rfl k) ?_
  show own_Ends _ _ _ _ _ _ _ (s₁.setTop (mkF m 30 #[.val (.ref a0), .val (.int (0 : Int32)), .val (.ref a2), .val (.int (0 : Int32)), .val (.int (2 : Int32)), .val (.int (0 : Int32)), .val (.int (GG ((0 : Int32)).toNatClampNeg))] [(.int (GG ((0 : Int32)).toNatClampNeg)), (.int (0 : Int32)), (.ref a2)]))
  refine own_go (fun _ k => XS.i2b X0.here hx rfl (hb hby dcmA2_30) rfl k) ?_
  show own_Ends _ _ _ _ _ _ _ (s₁.setTop (mkF m 31 #[.val (.ref a0), .val (.int (0 : Int32)), .val (.ref a2), .val (.int (0 : Int32)), .val (.int (2 : Int32)), .val (.int (0 : Int32)), .val (.int (GG ((0 : Int32)).toNatClampNeg))] [(.int ((GG ((0 : Int32)).toNatClampNeg).toInt8.toInt32)), (.int (0 : Int32)), (.ref a2)]))
  obtain ⟨c2, A2, i2, -⟩ := own_Ar.at A_a2 (0 : Int32) (by decide) (by decide)
  obtain ⟨T2, h2, X2, e2, W2, st2⟩ := stB X0 hx hZ e0 A2 (j := (0 : Int32)) i2 (g := (mkF m 31 #[.val (.ref a0), .val (.int (0 : Int32)), .val (.ref a2), .val (.int (0 : Int32)), .val (.int (2 : Int32)), .val (.int (0 : Int32)), .val (.int (GG ((0 : Int32)).toNatClampNeg))] [(.int ((GG ((0 : Int32)).toNatClampNeg).toInt8.toInt32)), (.int (0 : Int32)), (.ref a2)])) rfl rfl (hb hby dcmA2_31)
  refine own_go (fun _ k => st2 _ k) ?_
  have N2 := Fr.snoc X2 N0 g_a2
  have F3 : own_Ar Z h2 a0 .char 2 (fun i => .int (GG i)) := (A_a0.other W2 ne02)
  have F4 : Old Z n0 h2 := (O0.wr W2 g_a2)
  have F5 : own_Ar Z h2 a2 .byte 2 (fun i => .int ((fun i => if i = ((0 : Int32)).toNatClampNeg then (nar .byte ((GG ((0 : Int32)).toNatClampNeg).toInt8.toInt32)) else HH i) i)) := own_Ar.setI A_a2 W2
  have K6 : Keep h0 h2 [a2] := (Keep.refl h0 [a2]).wr W2 (Or.inl (List.mem_of_getElem? (i := 0) rfl))
  show own_Ends _ _ _ _ _ _ _ (T2.setTop (mkF m 32 #[.val (.ref a0), .val (.int (0 : Int32)), .val (.ref a2), .val (.int (0 : Int32)), .val (.int (2 : Int32)), .val (.int (0 : Int32)), .val (.int (GG ((0 : Int32)).toNatClampNeg))] []))
  refine own_go (fun _ k => XS.iinc X2.here hx rfl (hb hby dcmA2_32) rfl (l' := #[.val (.ref a0), .val (.int (1 : Int32)), .val (.ref a2), .val (.int (0 : Int32)), .val (.int (2 : Int32)), .val (.int (0 : Int32)), .val (.int (GG ((0 : Int32)).toNatClampNeg))]) rfl k) ?_
  show own_Ends _ _ _ _ _ _ _ (T2.setTop (mkF m 35 #[.val (.ref a0), .val (.int (1 : Int32)), .val (.ref a2), .val (.int (0 : Int32)), .val (.int (2 : Int32)), .val (.int (0 : Int32)), .val (.int (GG ((0 : Int32)).toNatClampNeg))] []))
  refine own_go (fun _ k => XS.iinc X2.here hx rfl (hb hby dcmA2_35) rfl (l' := #[.val (.ref a0), .val (.int (1 : Int32)), .val (.ref a2), .val (.int (1 : Int32)), .val (.int (2 : Int32)), .val (.int (0 : Int32)), .val (.int (GG ((0 : Int32)).toNatClampNeg))]) rfl k) ?_
  show own_Ends _ _ _ _ _ _ _ (T2.setTop (mkF m 38 #[.val (.ref a0), .val (.int (1 : Int32)), .val (.ref a2), .val (.int (1 : Int32)), .val (.int (2 : Int32)), .val (.int (0 : Int32)), .val (.int (GG ((0 : Int32)).toNatClampNeg))] []))
  refine own_go (fun _ k => XS.iinc X2.here hx rfl (hb hby dcmA2_38) rfl (l' := #[.val (.ref a0), .val (.int (1 : Int32)), .val (.ref a2), .val (.int (1 : Int32)), .val (.int (2 : Int32)), .val (.int (1 : Int32)), .val (.int (GG ((0 : Int32)).toNatClampNeg))]) rfl k) ?_
  show own_Ends _ _ _ _ _ _ _ (T2.setTop (mkF m 41 #[.val (.ref a0), .val (.int (1 : Int32)), .val (.ref a2), .val (.int (1 : Int32)), .val (.int (2 : Int32)), .val (.int (1 : Int32)), .val (.int (GG ((0 : Int32)).toNatClampNeg))] []))
  refine own_go (fun _ k => XS.goto X2.here hx rfl (pc0 := 41) (pc' := 3) rfl (hb hby dcmA2_41) (by decide) (by decide) k) ?_
  show own_Ends _ _ _ _ _ _ _ (T2.setTop (mkF m 3 #[.val (.ref a0), .val (.int (1 : Int32)), .val (.ref a2), .val (.int (1 : Int32)), .val (.int (2 : Int32)), .val (.int (1 : Int32)), .val (.int (GG ((0 : Int32)).toNatClampNeg))] []))
  refine own_go (fun _ k => XS.iload X2.here hx rfl (hb hby dcmA2_3) rfl k) ?_
  show own_Ends _ _ _ _ _ _ _ (T2.setTop (mkF m 5 #[.val (.ref a0), .val (.int (1 : Int32)), .val (.ref a2), .val (.int (1 : Int32)), .val (.int (2 : Int32)), .val (.int (1 : Int32)), .val (.int (GG ((0 : Int32)).toNatClampNeg))] [(.int (1 : Int32))]))
  refine own_go (fun _ k => XS.iload X2.here hx rfl (hb hby dcmA2_5) rfl k) ?_
  show own_Ends _ _ _ _ _ _ _ (T2.setTop (mkF m 7 #[.val (.ref a0), .val (.int (1 : Int32)), .val (.ref a2), .val (.int (1 : Int32)), .val (.int (2 : Int32)), .val (.int (1 : Int32)), .val (.int (GG ((0 : Int32)).toNatClampNeg))] [(.int (2 : Int32)), (.int (1 : Int32))]))
  refine own_go (fun _ k => XS.icmpNo X2.here hx rfl (hb hby dcmA2_7) rfl (tlt (by decide)).2.1 k) ?_
  show own_Ends _ _ _ _ _ _ _ (T2.setTop (mkF m 10 #[.val (.ref a0), .val (.int (1 : Int32)), .val (.ref a2), .val (.int (1 : Int32)), .val (.int (2 : Int32)), .val (.int (1 : Int32)), .val (.int (GG ((0 : Int32)).toNatClampNeg))] []))
  refine own_go (fun _ k => XS.aloadN X2.here hx rfl (hb hby dcmA2_10) rfl rfl k) ?_
  show own_Ends _ _ _ _ _ _ _ (T2.setTop (mkF m 11 #[.val (.ref a0), .val (.int (1 : Int32)), .val (.ref a2), .val (.int (1 : Int32)), .val (.int (2 : Int32)), .val (.int (1 : Int32)), .val (.int (GG ((0 : Int32)).toNatClampNeg))] [(.ref a0)]))
  refine own_go (fun _ k => XS.iloadN X2.here hx rfl (hb hby dcmA2_11) rfl k) ?_
  show own_Ends _ _ _ _ _ _ _ (T2.setTop (mkF m 12 #[.val (.ref a0), .val (.int (1 : Int32)), .val (.ref a2), .val (.int (1 : Int32)), .val (.int (2 : Int32)), .val (.int (1 : Int32)), .val (.int (GG ((0 : Int32)).toNatClampNeg))] [(.int (1 : Int32)), (.ref a0)]))
  obtain ⟨c7, A7, i7, v7⟩ := own_Ar.at F3 (1 : Int32) (by decide) (by decide)
  refine own_go (fun _ k => X2.caload hx (by rw [e2]; exact A7.1) (State.isArrayOf_alike hZ.alike A7.2.1) A7.2.2 i7 v7 (g := (mkF m 12 #[.val (.ref a0), .val (.int (1 : Int32)), .val (.ref a2), .val (.int (1 : Int32)), .val (.int (2 : Int32)), .val (.int (1 : Int32)), .val (.int (GG ((0 : Int32)).toNatClampNeg))] [(.int (1 : Int32)), (.ref a0)])) rfl rfl (hb hby dcmA2_12) _ k) ?_
  show own_Ends _ _ _ _ _ _ _ (T2.setTop (mkF m 13 #[.val (.ref a0), .val (.int (1 : Int32)), .val (.ref a2), .val (.int (1 : Int32)), .val (.int (2 : Int32)), .val (.int (1 : Int32)), .val (.int (GG ((0 : Int32)).toNatClampNeg))] [(.int (GG ((1 : Int32)).toNatClampNeg))]))
  refine own_go (fun _ k => XS.istore X2.here hx rfl (hb hby dcmA2_13) rfl (l' := #[.val (.ref a0), .val (.int (1 : Int32)), .val (.ref a2), .val (.int (1 : Int32)), .val (.int (2 : Int32)), .val (.int (1 : Int32)), .val (.int (GG ((1 : Int32)).toNatClampNeg))]) rfl k) ?_
  show own_Ends _ _ _ _ _ _ _ (T2.setTop (mkF m 15 #[.val (.ref a0), .val (.int (1 : Int32)), .val (.ref a2), .val (.int (1 : Int32)), .val (.int (2 : Int32)), .val (.int (1 : Int32)), .val (.int (GG ((1 : Int32)).toNatClampNeg))] []))
  refine own_go (fun _ k => XS.iload X2.here hx rfl (hb hby dcmA2_15) rfl k) ?_
  show own_Ends _ _ _ _ _ _ _ (T2.setTop (mkF m 17 #[.val (.ref a0), .val (.int (1 : Int32)), .val (.ref a2), .val (.int (1 : Int32)), .val (.int (2 : Int32)), .val (.int (1 : Int32)), .val (.int (GG ((1 : Int32)).toNatClampNeg))] [(.int (GG ((1 : Int32)).toNatClampNeg))]))
  refine own_go (fun _ k => XS.sipush X2.here hx rfl (hb hby dcmA2_17) k) ?_
  show own_Ends _ _ _ _ _ _ _ (T2.setTop (mkF m 20 #[.val (.ref a0), .val (.int (1 : Int32)), .val (.ref a2), .val (.int (1 : Int32)), .val (.int (2 : Int32)), .val (.int (1 : Int32)), .val (.int (GG ((1 : Int32)).toNatClampNeg))] [(.int (255 : Int32)), (.int (GG ((1 : Int32)).toNatClampNeg))]))
  refine own_go (fun _ k => XS.icmpYes X2.here hx rfl (pc0 := 20) (pc' := 26) rfl (hb hby dcmA2_20) rfl (flt (hr _ (by decide))).2.2.2 (by decide) (by decide) k) ?_
  show own_Ends _ _ _ _ _ _ _ (T2.setTop (mkF m 26 #[.val (.ref a0), .val (.int (1 : Int32)), .val (.ref a2), .val (.int (1 : Int32)), .val (.int (2 : Int32)), .val (.int (1 : Int32)), .val (.int (GG ((1 : Int32)).toNatClampNeg))] []))
  refine own_go (fun _ k => XS.aloadN X2.here hx rfl (hb hby dcmA2_26) rfl rfl k) ?_
  show own_Ends _ _ _ _ _ _ _ (T2.setTop (mkF m 27 #[.val (.ref a0), .val (.int (1 : Int32)), .val (.ref a2), .val (.int (1 : Int32)), .val (.int (2 : Int32)), .val (.int (1 : Int32)), .val (.int (GG ((1 : Int32)).toNatClampNeg))] [(.ref a2)]))
  refine own_go (fun _ k => XS.iloadN X2.here hx rfl (hb hby dcmA2_27) rfl k) ?_
  show own_Ends _ _ _ _ _ _ _ (T2.setTop (mkF m 28 #[.val (.ref a0), .val (.int (1 : Int32)), .val (.ref a2), .val (.int (1 : Int32)), .val (.int (2 : Int32)), .val (.int (1 : Int32)), .val (.int (GG ((1 : Int32)).toNatClampNeg))] [(.int (1 : Int32)), (.ref a2)]))
  refine own_go (fun _ k => XS.iload X2.here hx rfl (hb hby dcmA2_28) rfl k) ?_
  show own_Ends _ _ _ _ _ _ _ (T2.setTop (mkF m 30 #[.val (.ref a0), .val (.int (1 : Int32)), .val (.ref a2), .val (.int (1 : Int32)), .val (.int (2 : Int32)), .val (.int (1 : Int32)), .val (.int (GG ((1 : Int32)).toNatClampNeg))] [(.int (GG ((1 : Int32)).toNatClampNeg)), (.int (1 : Int32)), (.ref a2)]))
  refine own_go (fun _ k => XS.i2b X2.here hx rfl (hb hby dcmA2_30) rfl k) ?_
  show own_Ends _ _ _ _ _ _ _ (T2.setTop (mkF m 31 #[.val (.ref a0), .val (.int (1 : Int32)), .val (.ref a2), .val (.int (1 : Int32)), .val (.int (2 : Int32)), .val (.int (1 : Int32)), .val (.int (GG ((1 : Int32)).toNatClampNeg))] [(.int ((GG ((1 : Int32)).toNatClampNeg).toInt8.toInt32)), (.int (1 : Int32)), (.ref a2)]))
  obtain ⟨c8, A8, i8, -⟩ := own_Ar.at F5 (1 : Int32) (by decide) (by decide)
  obtain ⟨T8, h8, X8, e8, W8, st8⟩ := stB X2 hx hZ e2 A8 (j := (1 : Int32)) i8 (g := (mkF m 31 #[.val (.ref a0), .val (.int (1 : Int32)), .val (.ref a2), .val (.int (1 : Int32)), .val (.int (2 : Int32)), .val (.int (1 : Int32)), .val (.int (GG ((1 : Int32)).toNatClampNeg))] [(.int ((GG ((1 : Int32)).toNatClampNeg).toInt8.toInt32)), (.int (1 : Int32)), (.ref a2)])) rfl rfl (hb hby dcmA2_31)
  refine own_go (fun _ k => st8 _ k) ?_
  have N8 := Fr.snoc X8 N2 g_a2
  have F9 : own_Ar Z h8 a0 .char 2 (fun i => .int (GG i)) := (F3.other W8 ne02)
  have F10 : Old Z n0 h8 := (F4.wr W8 g_a2)
  have F11 : own_Ar Z h8 a2 .byte 2 (fun i => .int ((fun i => if i = ((1 : Int32)).toNatClampNeg then (nar .byte ((GG ((1 : Int32)).toNatClampNeg).toInt8.toInt32)) else (fun i => if i = ((0 : Int32)).toNatClampNeg then (nar .byte ((GG ((0 : Int32)).toNatClampNeg).toInt8.toInt32)) else HH i) i) i)) := own_Ar.setI F5 W8
  have K12 : Keep h0 h8 [a2] := K6.wr W8 (Or.inl (List.mem_of_getElem? (i := 0) rfl))
  show own_Ends _ _ _ _ _ _ _ (T8.setTop (mkF m 32 #[.val (.ref a0), .val (.int (1 : Int32)), .val (.ref a2), .val (.int (1 : Int32)), .val (.int (2 : Int32)), .val (.int (1 : Int32)), .val (.int (GG ((1 : Int32)).toNatClampNeg))] []))
  refine own_go (fun _ k => XS.iinc X8.here hx rfl (hb hby dcmA2_32) rfl (l' := #[.val (.ref a0), .val (.int (2 : Int32)), .val (.ref a2), .val (.int (1 : Int32)), .val (.int (2 : Int32)), .val (.int (1 : Int32)), .val (.int (GG ((1 : Int32)).toNatClampNeg))]) rfl k) ?_
  show own_Ends _ _ _ _ _ _ _ (T8.setTop (mkF m 35 #[.val (.ref a0), .val (.int (2 : Int32)), .val (.ref a2), .val (.int (1 : Int32)), .val (.int (2 : Int32)), .val (.int (1 : Int32)), .val (.int (GG ((1 : Int32)).toNatClampNeg))] []))
  refine own_go (fun _ k => XS.iinc X8.here hx rfl (hb hby dcmA2_35) rfl (l' := #[.val (.ref a0), .val (.int (2 : Int32)), .val (.ref a2), .val (.int (2 : Int32)), .val (.int (2 : Int32)), .val (.int (1 : Int32)), .val (.int (GG ((1 : Int32)).toNatClampNeg))]) rfl k) ?_
  show own_Ends _ _ _ _ _ _ _ (T8.setTop (mkF m 38 #[.val (.ref a0), .val (.int (2 : Int32)), .val (.ref a2), .val (.int (2 : Int32)), .val (.int (2 : Int32)), .val (.int (1 : Int32)), .val (.int (GG ((1 : Int32)).toNatClampNeg))] []))
  refine own_go (fun _ k => XS.iinc X8.here hx rfl (hb hby dcmA2_38) rfl (l' := #[.val (.ref a0), .val (.int (2 : Int32)), .val (.ref a2), .val (.int (2 : Int32)), .val (.int (2 : Int32)), .val (.int (2 : Int32)), .val (.int (GG ((1 : Int32)).toNatClampNeg))]) rfl k) ?_
  show own_Ends _ _ _ _ _ _ _ (T8.setTop (mkF m 41 #[.val (.ref a0), .val (.int (2 : Int32)), .val (.ref a2), .val (.int (2 : Int32)), .val (.int (2 : Int32)), .val (.int (2 : Int32)), .val (.int (GG ((1 : Int32)).toNatClampNeg))] []))
  refine own_go (fun _ k => XS.goto X8.here hx rfl (pc0 := 41) (pc' := 3) rfl (hb hby dcmA2_41) (by decide) (by decide) k) ?_
  show own_Ends _ _ _ _ _ _ _ (T8.setTop (mkF m 3 #[.val (.ref a0), .val (.int (2 : Int32)), .val (.ref a2), .val (.int (2 : Int32)), .val (.int (2 : Int32)), .val (.int (2 : Int32)), .val (.int (GG ((1 : Int32)).toNatClampNeg))] []))
  refine own_go (fun _ k => XS.iload X8.here hx rfl (hb hby dcmA2_3) rfl k) ?_
  show own_Ends _ _ _ _ _ _ _ (T8.setTop (mkF m 5 #[.val (.ref a0), .val (.int (2 : Int32)), .val (.ref a2), .val (.int (2 : Int32)), .val (.int (2 : Int32)), .val (.int (2 : Int32)), .val (.int (GG ((1 : Int32)).toNatClampNeg))] [(.int (2 : Int32))]))
  refine own_go (fun _ k => XS.iload X8.here hx rfl (hb hby dcmA2_5) rfl k) ?_
  show own_Ends _ _ _ _ _ _ _ (T8.setTop (mkF m 7 #[.val (.ref a0), .val (.int (2 : Int32)), .val (.ref a2), .val (.int (2 : Int32)), .val (.int (2 : Int32)), .val (.int (2 : Int32)), .val (.int (GG ((1 : Int32)).toNatClampNeg))] [(.int (2 : Int32)), (.int (2 : Int32))]))
  refine own_go (fun _ k => XS.icmpYes X8.here hx rfl (pc0 := 7) (pc' := 44) rfl (hb hby dcmA2_7) rfl (flt (by decide)).2.1 (by decide) (by decide) k) ?_
  show own_Ends _ _ _ _ _ _ _ (T8.setTop (mkF m 44 #[.val (.ref a0), .val (.int (2 : Int32)), .val (.ref a2), .val (.int (2 : Int32)), .val (.int (2 : Int32)), .val (.int (2 : Int32)), .val (.int (GG ((1 : Int32)).toNatClampNeg))] []))
  refine own_go (fun _ k => XS.iload X8.here hx rfl (hb hby dcmA2_44) rfl k) ?_
  show own_Ends _ _ _ _ _ _ _ (T8.setTop (mkF m 46 #[.val (.ref a0), .val (.int (2 : Int32)), .val (.ref a2), .val (.int (2 : Int32)), .val (.int (2 : Int32)), .val (.int (2 : Int32)), .val (.int (GG ((1 : Int32)).toNatClampNeg))] [(.int (2 : Int32))]))
  exact own_retI X8 hx hlk Bd.returns (hb hby dcmA2_46) (by decide) (by decide) (by rw [e8]; exact ⟨rfl, N8, K12, F11.cong (fun i hi => by match i, hi with | 0, _ => rfl | 1, _ => rfl)⟩)
theorem dcmB2_0 : decode jdk_52_method_16_code 0 = .ok (.iload_n 2, 1) := by decide +kernel
theorem dcmB2_1 : decode jdk_52_method_16_code 1 = .ok (.newarray .byte, 2) := by decide +kernel
theorem dcmB2_3 : decode jdk_52_method_16_code 3 = .ok (.astore_n 3, 1) := by decide +kernel
theorem dcmB2_4 : decode jdk_52_method_16_code 4 = .ok (.aload_n 0, 1) := by decide +kernel
theorem dcmB2_5 : decode jdk_52_method_16_code 5 = .ok (.iload_n 1, 1) := by decide +kernel
theorem dcmB2_6 : decode jdk_52_method_16_code 6 = .ok (.aload_n 3, 1) := by decide +kernel
theorem dcmB2_7 : decode jdk_52_method_16_code 7 = .ok (.iconst 0, 1) := by decide +kernel
theorem dcmB2_8 : decode jdk_52_method_16_code 8 = .ok (.iload_n 2, 1) := by decide +kernel
theorem dcmB2_9 : decode jdk_52_method_16_code 9 = .ok (.invokestatic 115, 3) := by decide +kernel
theorem dcmB2_12 : decode jdk_52_method_16_code 12 = .ok (.istore 4, 2) := by decide +kernel
theorem dcmB2_14 : decode jdk_52_method_16_code 14 = .ok (.iload 4, 2) := by decide +kernel
theorem dcmB2_16 : decode jdk_52_method_16_code 16 = .ok (.iload_n 2, 1) := by decide +kernel
theorem dcmB2_17 : decode jdk_52_method_16_code 17 = .ok (.if_icmp .eq 40, 3) := by decide +kernel
theorem dcmB2_57 : decode jdk_52_method_16_code 57 = .ok (.aload_n 3, 1) := by decide +kernel
theorem dcmB2_58 : decode jdk_52_method_16_code 58 = .ok (.areturn, 1) := by decide +kernel
theorem pncmB2 : plainName "java/lang/StringUTF16" = true := by first | (simp [plainName, overriddenIn]; done) | decide +kernel
theorem pdcmB2_0 : parseMethodDescriptor "([CI[BII)I" = some ⟨[(.array .char), .int, (.array .byte), .int, .int], some .int⟩ := by decide +kernel
theorem efcmB2 (m : MethodId) (a0 : Addr) : entryFrame m #[(.ref a0), (.int (0 : Int32)), (.int (2 : Int32))] 6 = mkF m 0 #[.val (.ref a0), .val (.int (0 : Int32)), .val (.int (2 : Int32)), .unset, .unset, .unset] [] := by first | (simp [entryFrame, mkF, argsToLocals, Value.category]; done) | rfl
def QcmB2 (Z : State) (a0 : Addr) (GG : Nat → Int32) (h0 : Heap) (n0 : Nat) (v : Option Value) (h : Heap) (L : List Loc) : Prop := ∃ y, v = some (.ref y) ∧ Fr n0 L ∧ Keep h0 h [] ∧ h0.size ≤ y ∧ own_Ar Z h y .byte 2 (fun i => .int ((fun i => own_by (GG i)) i))
set_option maxRecDepth 65536 in
set_option maxHeartbeats 40000000 in
theorem rmcmB2 (l : Launch) (Z : State) (ar : Array Value) (hw : ∀ d ∈ tables_1, d.before ar Z = true) (ws : List Jvm.Cond) (a0 : Addr) (GG : Nat → Int32) (h0 : Heap) (n0 : Nat) (O0 : Old Z n0 h0) (A_a0 : own_Ar Z h0 a0 .char 2 (fun i => .int (GG i))) (hr : ∀ i, i < 2 → ¬ (255 : Int32) < GG i) :
    MetFree l (⟨"java/lang/StringUTF16", "compress", "([CII)[B"⟩ : MethodName) (head1 (Jvm.Cond.code (⟨"java/lang/StringUTF16", "compress", "([CII)[B"⟩ : MethodName) jdk_52_method_16_code 6 (some (.array .byte)) :: ws) ({ frames := 1, cells := 1, slots := 2, locals := 18 } : Room)) (fun a U => a = #[(.ref a0), (.int (0 : Int32)), (.int (2 : Int32))] ∧ Z.Warmed39 U.vm ∧ U.heap = h0) (fun _ _ _ _ _ => True) (fun _ U o U' => ∃ v L, o = .returned v ∧ QcmB2 Z a0 GG h0 n0 v U'.heap L ∧ FrameEnd U o U' L ({ frames := 1, cells := 1, slots := 2, locals := 18 } : Room).cells ({ frames := 1, cells := 1, slots := 2, locals := 18 } : Room).slots) := by
  refine MetFree.of_bodySF (plainFor_of_name pncmB2) hisR ?_
  intro p e s m args below meth c s₁ Bd hml0 hP hK
  obtain ⟨rfl, hZ, hh⟩ := hP
  have hx := Bd.exec
  have hby := Bd.bytes
  have hml : c.maxLocals = 6 := hml0
  have hown : s.vm.findClass "java/lang/StringUTF16" = some m.cls := findClass_of_methodNamed Bd.named
  have hnm := (name_of_methodNamed Bd.named Bd.method).1
  have hlk : meth.locks = false := BodyLoose.notSynchronized Bd
  have X0 : Stand p l e ({ frames := 1, cells := 1, slots := 2, locals := 18 } : Room) s m #[(.ref a0), (.int (0 : Int32)), (.int (2 : Int32))] below meth c s₁ [] 0 0 := Stand.of_body Bd
  have e0 : s₁.heap = h0 := by rw [← hh, Bd.state]; rfl
  have N0 := Fr.nil n0
  suffices hmain : own_Ends p e below s (QcmB2 Z a0 GG h0 n0) 1 2 (s₁.setTop (mkF m 0 #[.val (.ref a0), .val (.int (0 : Int32)), .val (.int (2 : Int32)), .unset, .unset, .unset] [])) by
    obtain ⟨U, o, h1, r⟩ := hmain
    exact ⟨U, o, castTop (efcmB2 m a0) h1, r⟩
  show own_Ends _ _ _ _ _ _ _ (s₁.setTop (mkF m 0 #[.val (.ref a0), .val (.int (0 : Int32)), .val (.int (2 : Int32)), .unset, .unset, .unset] []))
  refine own_go (fun _ k => XS.iloadN X0.here hx rfl (hb hby dcmB2_0) rfl k) ?_
  show own_Ends _ _ _ _ _ _ _ (s₁.setTop (mkF m 1 #[.val (.ref a0), .val (.int (0 : Int32)), .val (.int (2 : Int32)), .unset, .unset, .unset] [(.int (2 : Int32))]))
  obtain ⟨T1, h1, k1, X1, e1, E1, A1, st1⟩ := newP X0 hx hZ (hw _ (List.mem_of_getElem? (i := 22) rfl)) e0 (g := (mkF m 1 #[.val (.ref a0), .val (.int (0 : Int32)), .val (.int (2 : Int32)), .unset, .unset, .unset] [(.int (2 : Int32))])) rfl (hb hby dcmB2_1) rfl (by decide) (cap := 2) (by decide) (by decide) (by decide) (by decide)
  obtain ⟨b1, q_b1⟩ : ∃ z, z = h0.size := ⟨_, rfl⟩
  rw [← q_b1] at A1 st1
  have g_b1 : n0 ≤ b1 := Nat.le_trans (own_sz O0) (Nat.le_of_eq q_b1.symm)
  have ne_a0_b1 : a0 ≠ b1 := Nat.ne_of_lt (Nat.lt_of_lt_of_le A_a0.lt (Nat.le_of_eq q_b1.symm))
  refine own_go (fun _ k => st1 _ k) ?_
  have F2 : own_Ar Z h1 a0 .char 2 (fun i => .int (GG i)) := (A_a0.ext E1)
  have F3 : Old Z n0 h1 := (O0.ext E1)
  have gh_b1 : h0.size ≤ b1 := Nat.le_trans (Keep.refl h0 []).1 (Nat.le_of_eq q_b1.symm)
  have K4 : Keep h0 h1 [] := (Keep.refl h0 []).ext E1
  have F5 : own_Ar Z h1 b1 .byte 2 (fun i => .int ((fun _ => (0 : Int32)) i)) := own_Ar.newI A1 (by decide) rfl
  show own_Ends _ _ _ _ _ _ _ (T1.setTop (mkF m 3 #[.val (.ref a0), .val (.int (0 : Int32)), .val (.int (2 : Int32)), .unset, .unset, .unset] [(.ref b1)]))
  refine own_go (fun _ k => XS.astoreN X1.here hx rfl (hb hby dcmB2_3) rfl rfl (l' := #[.val (.ref a0), .val (.int (0 : Int32)), .val (.int (2 : Int32)), .val (.ref b1), .unset, .unset]) rfl k) ?_
  show own_Ends _ _ _ _ _ _ _ (T1.setTop (mkF m 4 #[.val (.ref a0), .val (.int (0 : Int32)), .val (.int (2 : Int32)), .val (.ref b1), .unset, .unset] []))
  refine own_go (fun _ k => XS.aloadN X1.here hx rfl (hb hby dcmB2_4) rfl rfl k) ?_
  show own_Ends _ _ _ _ _ _ _ (T1.setTop (mkF m 5 #[.val (.ref a0), .val (.int (0 : Int32)), .val (.int (2 : Int32)), .val (.ref b1), .unset, .unset] [(.ref a0)]))
  refine own_go (fun _ k => XS.iloadN X1.here hx rfl (hb hby dcmB2_5) rfl k) ?_
  show own_Ends _ _ _ _ _ _ _ (T1.setTop (mkF m 6 #[.val (.ref a0), .val (.int (0 : Int32)), .val (.int (2 : Int32)), .val (.ref b1), .unset, .unset] [(.int (0 : Int32)), (.ref a0)]))
  refine own_go (fun _ k => XS.aloadN X1.here hx rfl (hb hby dcmB2_6) rfl rfl k) ?_
  show own_Ends _ _ _ _ _ _ _ (T1.setTop (mkF m 7 #[.val (.ref a0), .val (.int (0 : Int32)), .val (.int (2 : Int32)), .val (.ref b1), .unset, .unset] [(.ref b1), (.int (0 : Int32)), (.ref a0)]))
  refine own_go (fun _ k => XS.iconst X1.here hx rfl (hb hby dcmB2_7) k) ?_
  show own_Ends _ _ _ _ _ _ _ (T1.setTop (mkF m 8 #[.val (.ref a0), .val (.int (0 : Int32)), .val (.int (2 : Int32)), .val (.ref b1), .unset, .unset] [(.int (0 : Int32)), (.ref b1), (.int (0 : Int32)), (.ref a0)]))
  refine own_go (fun _ k => XS.iloadN X1.here hx rfl (hb hby dcmB2_8) rfl k) ?_
  show own_Ends _ _ _ _ _ _ _ (T1.setTop (mkF m 9 #[.val (.ref a0), .val (.int (0 : Int32)), .val (.int (2 : Int32)), .val (.ref b1), .unset, .unset] [(.int (2 : Int32)), (.int (0 : Int32)), (.ref b1), (.int (0 : Int32)), (.ref a0)]))
  obtain ⟨_, _, ⟨T6, L6, k6, n6⟩, -, X6, ⟨Lc6, hQ6, l6, y6, z6⟩, st6⟩ := Jvm.LawKit.callS X1 hx (y := (⟨"java/lang/StringUTF16", "compress", "([CI[BII)I"⟩ : MethodName)) hown (mvT hZ (hw _ (List.mem_of_getElem? (i := 34) rfl))) (mvT hZ (hw _ (List.mem_of_getElem? (i := 35) rfl))) (mvT hZ (hw _ (List.mem_of_getElem? (i := 32) rfl))) (mvT hZ (hw _ (List.mem_of_getElem? (i := 36) rfl))) (by decide) (backOf (W := 0) (rmcmA2 l Z ar hw [] a0 b1 GG (fun _ => (0 : Int32)) h1 n0 F3 F2 F5 g_b1 ne_a0_b1 hr) hZ (hw _ (List.mem_of_getElem? (i := 36) rfl)) (hw _ (List.mem_of_getElem? (i := 32) rfl)) (by decide) (by decide)) (g := (mkF m 9 #[.val (.ref a0), .val (.int (0 : Int32)), .val (.int (2 : Int32)), .val (.ref b1), .unset, .unset] [(.int (2 : Int32)), (.int (0 : Int32)), (.ref b1), (.int (0 : Int32)), (.ref a0)])) rfl (by rw [hml]; rfl) (argsL := [(.ref a0), (.int (0 : Int32)), (.ref b1), (.int (0 : Int32)), (.int (2 : Int32))]) (rest := []) (lenOf pdcmB2_0 rfl) rfl (by show 2 * 0 + _ ≤ _; exact Nat.le_of_eq rfl) (hb hby dcmB2_9) (fun _ _ => ⟨rfl, e1, (by decide : 1 + 0 ≤ _), (by decide : 2 + 0 ≤ _)⟩)
  dsimp only [Pt.U, Pt.locs, Pt.cells, Pt.slots] at X6 l6 y6 z6 st6 hQ6
  subst l6 y6 z6
  obtain ⟨rfl, N6q, K6, A6_0⟩ := hQ6
  have N6 := Fr.app N0 N6q
  have F7 : own_Ar Z T6.heap a0 .char 2 (fun i => .int (GG i)) := (F2.keep K6 (ninS ne_a0_b1 nin0))
  have F8 : Old Z n0 T6.heap := (F3.keep K6 (allS g_b1 all0))
  have K9 : Keep h0 T6.heap [] := K4.trans K6 (allS (Or.inr gh_b1) all0)
  refine own_go (fun _ k => st6 _ k) ?_
  show own_Ends _ _ _ _ _ _ _ (T6.setTop (mkF m 12 #[.val (.ref a0), .val (.int (0 : Int32)), .val (.int (2 : Int32)), .val (.ref b1), .unset, .unset] [(.int (2 : Int32))]))
  refine own_go (fun _ k => XS.istore X6.here hx rfl (hb hby dcmB2_12) rfl (l' := #[.val (.ref a0), .val (.int (0 : Int32)), .val (.int (2 : Int32)), .val (.ref b1), .val (.int (2 : Int32)), .unset]) rfl k) ?_
  show own_Ends _ _ _ _ _ _ _ (T6.setTop (mkF m 14 #[.val (.ref a0), .val (.int (0 : Int32)), .val (.int (2 : Int32)), .val (.ref b1), .val (.int (2 : Int32)), .unset] []))
  refine own_go (fun _ k => XS.iload X6.here hx rfl (hb hby dcmB2_14) rfl k) ?_
  show own_Ends _ _ _ _ _ _ _ (T6.setTop (mkF m 16 #[.val (.ref a0), .val (.int (0 : Int32)), .val (.int (2 : Int32)), .val (.ref b1), .val (.int (2 : Int32)), .unset] [(.int (2 : Int32))]))
  refine own_go (fun _ k => XS.iloadN X6.here hx rfl (hb hby dcmB2_16) rfl k) ?_
  show own_Ends _ _ _ _ _ _ _ (T6.setTop (mkF m 17 #[.val (.ref a0), .val (.int (0 : Int32)), .val (.int (2 : Int32)), .val (.ref b1), .val (.int (2 : Int32)), .unset] [(.int (2 : Int32)), (.int (2 : Int32))]))
  refine own_go (fun _ k => XS.icmpYes X6.here hx rfl (pc0 := 17) (pc' := 57) rfl (hb hby dcmB2_17) rfl (teq (by decide)).1 (by decide) (by decide) k) ?_
  show own_Ends _ _ _ _ _ _ _ (T6.setTop (mkF m 57 #[.val (.ref a0), .val (.int (0 : Int32)), .val (.int (2 : Int32)), .val (.ref b1), .val (.int (2 : Int32)), .unset] []))
  refine own_go (fun _ k => XS.aloadN X6.here hx rfl (hb hby dcmB2_57) rfl rfl k) ?_
  show own_Ends _ _ _ _ _ _ _ (T6.setTop (mkF m 58 #[.val (.ref a0), .val (.int (0 : Int32)), .val (.int (2 : Int32)), .val (.ref b1), .val (.int (2 : Int32)), .unset] [(.ref b1)]))
  exact own_retA X6 hx hlk Bd.returns rfl rfl rfl (hb hby dcmB2_58) (by decide) (by decide) (by rw [show T6.heap = T6.heap from rfl]; exact ⟨b1, rfl, N6, K9, gh_b1, A6_0⟩)
theorem dcfa2_0 : decode jdk_52_method_15_code 0 = .ok (.iload_n 1, 1) := by decide +kernel
theorem dcfa2_1 : decode jdk_52_method_15_code 1 = .ok (.aload_n 0, 1) := by decide +kernel
theorem dcfa2_2 : decode jdk_52_method_15_code 2 = .ok (.arraylength, 1) := by decide +kernel
theorem dcfa2_3 : decode jdk_52_method_15_code 3 = .ok (.isub, 1) := by decide +kernel
theorem dcfa2_4 : decode jdk_52_method_15_code 4 = .ok (.bipush 31, 2) := by decide +kernel
theorem dcfa2_6 : decode jdk_52_method_15_code 6 = .ok (.iushr, 1) := by decide +kernel
theorem dcfa2_7 : decode jdk_52_method_15_code 7 = .ok (.i2b, 1) := by decide +kernel
theorem dcfa2_8 : decode jdk_52_method_15_code 8 = .ok (.ireturn, 1) := by decide +kernel
theorem pncfa2 : plainName "java/lang/StringUTF16" = true := by first | (simp [plainName, overriddenIn]; done) | decide +kernel
theorem efcfa2 (m : MethodId) (a0 : Addr) : entryFrame m #[(.ref a0), (.int (2 : Int32))] 2 = mkF m 0 #[.val (.ref a0), .val (.int (2 : Int32))] [] := by first | (simp [entryFrame, mkF, argsToLocals, Value.category]; done) | rfl
def Qcfa2 (Z : State) (a0 : Addr) (GG : Nat → Int32) (h0 : Heap) (n0 : Nat) (v : Option Value) (h : Heap) (L : List Loc) : Prop := v = some (.int (0 : Int32)) ∧ Fr n0 L ∧ h = h0
set_option maxRecDepth 65536 in
set_option maxHeartbeats 40000000 in
theorem rmcfa2 (l : Launch) (Z : State) (ar : Array Value) (hw : ∀ d ∈ tables_1, d.before ar Z = true) (ws : List Jvm.Cond) (a0 : Addr) (GG : Nat → Int32) (h0 : Heap) (n0 : Nat) (O0 : Old Z n0 h0) (A_a0 : own_Ar Z h0 a0 .byte 2 (fun i => .int (GG i))) :
    MetFree l (⟨"java/lang/StringUTF16", "coderFromArrayLen", "([BI)B"⟩ : MethodName) (head1 (Jvm.Cond.code (⟨"java/lang/StringUTF16", "coderFromArrayLen", "([BI)B"⟩ : MethodName) jdk_52_method_15_code 2 (some .byte) :: ws) ({ frames := 0, cells := 0, slots := 0, locals := 0 } : Room)) (fun a U => a = #[(.ref a0), (.int (2 : Int32))] ∧ Z.Warmed39 U.vm ∧ U.heap = h0) (fun _ _ _ _ _ => True) (fun _ U o U' => ∃ v L, o = .returned v ∧ Qcfa2 Z a0 GG h0 n0 v U'.heap L ∧ FrameEnd U o U' L ({ frames := 0, cells := 0, slots := 0, locals := 0 } : Room).cells ({ frames := 0, cells := 0, slots := 0, locals := 0 } : Room).slots) := by
  refine MetFree.of_bodySF (plainFor_of_name pncfa2) hisR ?_
  intro p e s m args below meth c s₁ Bd hml0 hP hK
  obtain ⟨rfl, hZ, hh⟩ := hP
  have hx := Bd.exec
  have hby := Bd.bytes
  have hml : c.maxLocals = 2 := hml0
  have hown : s.vm.findClass "java/lang/StringUTF16" = some m.cls := findClass_of_methodNamed Bd.named
  have hnm := (name_of_methodNamed Bd.named Bd.method).1
  have hlk : meth.locks = false := BodyLoose.notSynchronized Bd
  have X0 : Stand p l e ({ frames := 0, cells := 0, slots := 0, locals := 0 } : Room) s m #[(.ref a0), (.int (2 : Int32))] below meth c s₁ [] 0 0 := Stand.of_body Bd
  have e0 : s₁.heap = h0 := by rw [← hh, Bd.state]; rfl
  have N0 := Fr.nil n0
  suffices hmain : own_Ends p e below s (Qcfa2 Z a0 GG h0 n0) 0 0 (s₁.setTop (mkF m 0 #[.val (.ref a0), .val (.int (2 : Int32))] [])) by
    obtain ⟨U, o, h1, r⟩ := hmain
    exact ⟨U, o, castTop (efcfa2 m a0) h1, r⟩
  show own_Ends _ _ _ _ _ _ _ (s₁.setTop (mkF m 0 #[.val (.ref a0), .val (.int (2 : Int32))] []))
  refine own_go (fun _ k => XS.iloadN X0.here hx rfl (hb hby dcfa2_0) rfl k) ?_
  show own_Ends _ _ _ _ _ _ _ (s₁.setTop (mkF m 1 #[.val (.ref a0), .val (.int (2 : Int32))] [(.int (2 : Int32))]))
  refine own_go (fun _ k => XS.aloadN X0.here hx rfl (hb hby dcfa2_1) rfl rfl k) ?_
  show own_Ends _ _ _ _ _ _ _ (s₁.setTop (mkF m 2 #[.val (.ref a0), .val (.int (2 : Int32))] [(.ref a0), (.int (2 : Int32))]))
  obtain ⟨c1, A1, l1⟩ := own_Ar.len A_a0
  refine own_go (fun _ k => X0.arraylength hx (by rw [e0]; exact A1.1) (State.isArrayOf_alike hZ.alike A1.2.1) (g := (mkF m 2 #[.val (.ref a0), .val (.int (2 : Int32))] [(.ref a0), (.int (2 : Int32))])) rfl rfl (hb hby dcfa2_2) _ k) ?_
  rw [l1]
  show own_Ends _ _ _ _ _ _ _ (s₁.setTop (mkF m 3 #[.val (.ref a0), .val (.int (2 : Int32))] [(.int (2 : Int32)), (.int (2 : Int32))]))
  refine own_go (fun _ k => XS.isub X0.here hx rfl (hb hby dcfa2_3) rfl k) ?_
  show own_Ends _ _ _ _ _ _ _ (s₁.setTop (mkF m 4 #[.val (.ref a0), .val (.int (2 : Int32))] [(.int ((2 : Int32) - (2 : Int32)))]))
  refine own_go (fun _ k => XS.bipush X0.here hx rfl (hb hby dcfa2_4) k) ?_
  show own_Ends _ _ _ _ _ _ _ (s₁.setTop (mkF m 6 #[.val (.ref a0), .val (.int (2 : Int32))] [(.int (31 : Int32)), (.int ((2 : Int32) - (2 : Int32)))]))
  refine own_go (fun _ k => XS.iushr X0.here hx rfl (hb hby dcfa2_6) rfl k) ?_
  show own_Ends _ _ _ _ _ _ _ (s₁.setTop (mkF m 7 #[.val (.ref a0), .val (.int (2 : Int32))] [(.int ((((2 : Int32) - (2 : Int32)).toUInt32 >>> ((31 : Int32) &&& 31).toUInt32).toInt32))]))
  refine own_go (fun _ k => XS.i2b X0.here hx rfl (hb hby dcfa2_7) rfl k) ?_
  show own_Ends _ _ _ _ _ _ _ (s₁.setTop (mkF m 8 #[.val (.ref a0), .val (.int (2 : Int32))] [(.int (((((2 : Int32) - (2 : Int32)).toUInt32 >>> ((31 : Int32) &&& 31).toUInt32).toInt32).toInt8.toInt32))]))
  exact own_retN X0 hx hlk (t := .byte) Bd.returns (by simp) (hb hby dcfa2_8) (by decide) (by decide) ⟨by decide, N0, e0⟩
theorem dsiB2_0 : decode jdk_42_method_149_code 0 = .ok (.aload_n 0, 1) := by decide +kernel
theorem dsiB2_1 : decode jdk_42_method_149_code 1 = .ok (.invokespecial 1, 3) := by decide +kernel
theorem dsiB2_4 : decode jdk_42_method_149_code 4 = .ok (.iload_n 3, 1) := by decide +kernel
theorem dsiB2_5 : decode jdk_42_method_149_code 5 = .ok (.ifCond .ne 22, 3) := by decide +kernel
theorem dsiB2_27 : decode jdk_42_method_149_code 27 = .ok (.getstatic 38, 3) := by decide +kernel
theorem dsiB2_30 : decode jdk_42_method_149_code 30 = .ok (.ifCond .eq 28, 3) := by decide +kernel
theorem dsiB2_33 : decode jdk_42_method_149_code 33 = .ok (.aload_n 1, 1) := by decide +kernel
theorem dsiB2_34 : decode jdk_42_method_149_code 34 = .ok (.iload_n 2, 1) := by decide +kernel
theorem dsiB2_35 : decode jdk_42_method_149_code 35 = .ok (.iload_n 3, 1) := by decide +kernel
theorem dsiB2_36 : decode jdk_42_method_149_code 36 = .ok (.invokestatic 177, 3) := by decide +kernel
theorem dsiB2_39 : decode jdk_42_method_149_code 39 = .ok (.astore 5, 2) := by decide +kernel
theorem dsiB2_41 : decode jdk_42_method_149_code 41 = .ok (.aload_n 0, 1) := by decide +kernel
theorem dsiB2_42 : decode jdk_42_method_149_code 42 = .ok (.aload 5, 2) := by decide +kernel
theorem dsiB2_44 : decode jdk_42_method_149_code 44 = .ok (.iload_n 3, 1) := by decide +kernel
theorem dsiB2_45 : decode jdk_42_method_149_code 45 = .ok (.invokestatic 47, 3) := by decide +kernel
theorem dsiB2_48 : decode jdk_42_method_149_code 48 = .ok (.putfield 15, 3) := by decide +kernel
theorem dsiB2_51 : decode jdk_42_method_149_code 51 = .ok (.aload_n 0, 1) := by decide +kernel
theorem dsiB2_52 : decode jdk_42_method_149_code 52 = .ok (.aload 5, 2) := by decide +kernel
theorem dsiB2_54 : decode jdk_42_method_149_code 54 = .ok (.putfield 9, 3) := by decide +kernel
theorem dsiB2_57 : decode jdk_42_method_149_code 57 = .ok (.return_, 1) := by decide +kernel
theorem pnsiB2 : plainName "java/lang/String" = true := by first | (simp [plainName, overriddenIn]; done) | decide +kernel
theorem pdsiB2_0 : parseMethodDescriptor "([CII)[B" = some ⟨[(.array .char), .int, .int], some (.array .byte)⟩ := by decide +kernel
theorem pdsiB2_1 : parseMethodDescriptor "([BI)B" = some ⟨[(.array .byte), .int], some .byte⟩ := by decide +kernel
theorem efsiB2 (m : MethodId) (a0 : Addr) (a1 : Addr) : entryFrame m #[(.ref a0), (.ref a1), (.int (0 : Int32)), (.int (2 : Int32)), .null] 6 = mkF m 0 #[.val (.ref a0), .val (.ref a1), .val (.int (0 : Int32)), .val (.int (2 : Int32)), .val .null, .unset] [] := by first | (simp [entryFrame, mkF, argsToLocals, Value.category]; done) | rfl
def QsiB2 (Z : State) (a0 : Addr) (a1 : Addr) (GG : Nat → Int32) (w_COMPACT_STRINGS : Int32) (h0 : Heap) (n0 : Nat) (v : Option Value) (h : Heap) (L : List Loc) : Prop := v = none ∧ Fr n0 L ∧ Keep h0 h [a0] ∧ own_Str Z h a0 2 (fun i => own_by (GG i))
set_option maxRecDepth 65536 in
set_option maxHeartbeats 40000000 in
theorem rmsiB2 (l : Launch) (Z : State) (ar : Array Value) (hw : ∀ d ∈ tables_1, d.before ar Z = true) (ws : List Jvm.Cond) (a0 : Addr) (a1 : Addr) (GG : Nat → Int32) (w_COMPACT_STRINGS : Int32) (h0 : Heap) (n0 : Nat) (O0 : Old Z n0 h0) (E_a0 : Exa Z h0 a0 "java/lang/String") (g_a0 : n0 ≤ a0) (F_value_a0 : Fld Z h0 a0 "java/lang/String" "value" "[B" .null) (F_coder_a0 : Fld Z h0 a0 "java/lang/String" "coder" "B" (.int (0 : Int32))) (A_a1 : own_Ar Z h0 a1 .char 2 (fun i => .int (GG i))) (hr : ∀ i, i < 2 → ¬ (255 : Int32) < GG i) (ne01 : a0 ≠ a1) (hCS : ¬ w_COMPACT_STRINGS = (0 : Int32)) (S_COMPACT_STRINGS : Sta Z Z.heap "java/lang/String" "COMPACT_STRINGS" "Z" (.int w_COMPACT_STRINGS)) :
    MetFree l (⟨"java/lang/String", "<init>", "([CIILjava/lang/Void;)V"⟩ : MethodName) (head1 (Jvm.Cond.code (⟨"java/lang/String", "<init>", "([CIILjava/lang/Void;)V"⟩ : MethodName) jdk_42_method_149_code 6 none :: ws) ({ frames := 2, cells := 1, slots := 2, locals := 35 } : Room)) (fun a U => a = #[(.ref a0), (.ref a1), (.int (0 : Int32)), (.int (2 : Int32)), .null] ∧ Z.Warmed39 U.vm ∧ U.heap = h0) (fun _ _ _ _ _ => True) (fun _ U o U' => ∃ v L, o = .returned v ∧ QsiB2 Z a0 a1 GG w_COMPACT_STRINGS h0 n0 v U'.heap L ∧ FrameEnd U o U' L ({ frames := 2, cells := 1, slots := 2, locals := 35 } : Room).cells ({ frames := 2, cells := 1, slots := 2, locals := 35 } : Room).slots) := by
  refine MetFree.of_bodySF (plainFor_of_name pnsiB2) hisR ?_
  intro p e s m args below meth c s₁ Bd hml0 hP hK
  obtain ⟨rfl, hZ, hh⟩ := hP
  have hx := Bd.exec
  have hby := Bd.bytes
  have hml : c.maxLocals = 6 := hml0
  have hown : s.vm.findClass "java/lang/String" = some m.cls := findClass_of_methodNamed Bd.named
  have hnm := (name_of_methodNamed Bd.named Bd.method).1
  have hlk : meth.locks = false := BodyLoose.notSynchronized Bd
  have X0 : Stand p l e ({ frames := 2, cells := 1, slots := 2, locals := 35 } : Room) s m #[(.ref a0), (.ref a1), (.int (0 : Int32)), (.int (2 : Int32)), .null] below meth c s₁ [] 0 0 := Stand.of_body Bd
  have e0 : s₁.heap = h0 := by rw [← hh, Bd.state]; rfl
  have N0 := Fr.nil n0
  suffices hmain : own_Ends p e below s (QsiB2 Z a0 a1 GG w_COMPACT_STRINGS h0 n0) 1 2 (s₁.setTop (mkF m 0 #[.val (.ref a0), .val (.ref a1), .val (.int (0 : Int32)), .val (.int (2 : Int32)), .val .null, .unset] [])) by
    obtain ⟨U, o, h1, r⟩ := hmain
    exact ⟨U, o, castTop (efsiB2 m a0 a1) h1, r⟩
  show own_Ends _ _ _ _ _ _ _ (s₁.setTop (mkF m 0 #[.val (.ref a0), .val (.ref a1), .val (.int (0 : Int32)), .val (.int (2 : Int32)), .val .null, .unset] []))
  refine own_go (fun _ k => XS.aloadN X0.here hx rfl (hb hby dsiB2_0) rfl rfl k) ?_
  show own_Ends _ _ _ _ _ _ _ (s₁.setTop (mkF m 1 #[.val (.ref a0), .val (.ref a1), .val (.int (0 : Int32)), .val (.int (2 : Int32)), .val .null, .unset] [(.ref a0)]))
  obtain ⟨T1, X1, e1, st1⟩ := initO X0 hx hZ hown (hw _ (List.mem_of_getElem? (i := 18) rfl)) (hw _ (List.mem_of_getElem? (i := 19) rfl)) (hw _ (List.mem_of_getElem? (i := 20) rfl)) e0 (g := (mkF m 1 #[.val (.ref a0), .val (.ref a1), .val (.int (0 : Int32)), .val (.int (2 : Int32)), .val .null, .unset] [(.ref a0)])) rfl (by rw [hml]; rfl) rfl (hb hby dsiB2_1) (by decide) (W := 0) (by show 2 * 0 + _ ≤ _; exact Nat.le_of_eq rfl) (by decide)
  refine own_go (fun _ k => st1 _ k) ?_
  show own_Ends _ _ _ _ _ _ _ (T1.setTop (mkF m 4 #[.val (.ref a0), .val (.ref a1), .val (.int (0 : Int32)), .val (.int (2 : Int32)), .val .null, .unset] []))
  refine own_go (fun _ k => XS.iloadN X1.here hx rfl (hb hby dsiB2_4) rfl k) ?_
  show own_Ends _ _ _ _ _ _ _ (T1.setTop (mkF m 5 #[.val (.ref a0), .val (.ref a1), .val (.int (0 : Int32)), .val (.int (2 : Int32)), .val .null, .unset] [(.int (2 : Int32))]))
  refine own_go (fun _ k => XS.ifYes X1.here hx rfl (pc0 := 5) (pc' := 27) rfl (hb hby dsiB2_5) rfl ((if0 _ _).trans (feq (by decide)).2) (by decide) (by decide) k) ?_
  show own_Ends _ _ _ _ _ _ _ (T1.setTop (mkF m 27 #[.val (.ref a0), .val (.ref a1), .val (.int (0 : Int32)), .val (.int (2 : Int32)), .val .null, .unset] []))
  obtain ⟨T2, X2, e2, st2⟩ := getS2 X1 hx hZ hown (host := "") (Or.inl (hw _ (List.mem_of_getElem? (i := 29) rfl))) Via.refl e1 (Sta.ext (own_ext O0) S_COMPACT_STRINGS) (g := (mkF m 27 #[.val (.ref a0), .val (.ref a1), .val (.int (0 : Int32)), .val (.int (2 : Int32)), .val .null, .unset] [])) rfl (hb hby dsiB2_27)
  refine own_go (fun _ k => st2 _ k) ?_
  show own_Ends _ _ _ _ _ _ _ (T2.setTop (mkF m 30 #[.val (.ref a0), .val (.ref a1), .val (.int (0 : Int32)), .val (.int (2 : Int32)), .val .null, .unset] [(.int w_COMPACT_STRINGS)]))
  refine own_go (fun _ k => XS.ifNo X2.here hx rfl (hb hby dsiB2_30) rfl ((if0 _ _).trans (feq hCS).1) k) ?_
  show own_Ends _ _ _ _ _ _ _ (T2.setTop (mkF m 33 #[.val (.ref a0), .val (.ref a1), .val (.int (0 : Int32)), .val (.int (2 : Int32)), .val .null, .unset] []))
  refine own_go (fun _ k => XS.aloadN X2.here hx rfl (hb hby dsiB2_33) rfl rfl k) ?_
  show own_Ends _ _ _ _ _ _ _ (T2.setTop (mkF m 34 #[.val (.ref a0), .val (.ref a1), .val (.int (0 : Int32)), .val (.int (2 : Int32)), .val .null, .unset] [(.ref a1)]))
  refine own_go (fun _ k => XS.iloadN X2.here hx rfl (hb hby dsiB2_34) rfl k) ?_
  show own_Ends _ _ _ _ _ _ _ (T2.setTop (mkF m 35 #[.val (.ref a0), .val (.ref a1), .val (.int (0 : Int32)), .val (.int (2 : Int32)), .val .null, .unset] [(.int (0 : Int32)), (.ref a1)]))
  refine own_go (fun _ k => XS.iloadN X2.here hx rfl (hb hby dsiB2_35) rfl k) ?_
  show own_Ends _ _ _ _ _ _ _ (T2.setTop (mkF m 36 #[.val (.ref a0), .val (.ref a1), .val (.int (0 : Int32)), .val (.int (2 : Int32)), .val .null, .unset] [(.int (2 : Int32)), (.int (0 : Int32)), (.ref a1)]))
  obtain ⟨_, _, ⟨T3, L3, k3, n3⟩, -, X3, ⟨Lc3, hQ3, l3, y3, z3⟩, st3⟩ := Jvm.LawKit.callS X2 hx (y := (⟨"java/lang/StringUTF16", "compress", "([CII)[B"⟩ : MethodName)) hown (mvT hZ (hw _ (List.mem_of_getElem? (i := 30) rfl))) (mvT hZ (hw _ (List.mem_of_getElem? (i := 31) rfl))) (mvT hZ (hw _ (List.mem_of_getElem? (i := 32) rfl))) (mvT hZ (hw _ (List.mem_of_getElem? (i := 33) rfl))) (by decide) (backOf (W := 0) (rmcmB2 l Z ar hw [] a1 GG h0 n0 O0 A_a1 hr) hZ (hw _ (List.mem_of_getElem? (i := 33) rfl)) (hw _ (List.mem_of_getElem? (i := 32) rfl)) (by decide) (by decide)) (g := (mkF m 36 #[.val (.ref a0), .val (.ref a1), .val (.int (0 : Int32)), .val (.int (2 : Int32)), .val .null, .unset] [(.int (2 : Int32)), (.int (0 : Int32)), (.ref a1)])) rfl (by rw [hml]; rfl) (argsL := [(.ref a1), (.int (0 : Int32)), (.int (2 : Int32))]) (rest := []) (lenOf pdsiB2_0 rfl) rfl (by show 2 * 0 + _ ≤ _; exact Nat.le_of_eq rfl) (hb hby dsiB2_36) (fun _ _ => ⟨rfl, e2, (by decide : 0 + 1 ≤ _), (by decide : 0 + 2 ≤ _)⟩)
  dsimp only [Pt.U, Pt.locs, Pt.cells, Pt.slots] at X3 l3 y3 z3 st3 hQ3
  subst l3 y3 z3
  obtain ⟨y3, rfl, N3q, K3, gh_y3, A3_0⟩ := hQ3
  have N3 := Fr.app N0 N3q
  have ne_a0_y3 : a0 ≠ y3 := Nat.ne_of_lt (Nat.lt_of_lt_of_le E_a0.lt gh_y3)
  have ne_a1_y3 : a1 ≠ y3 := Nat.ne_of_lt (Nat.lt_of_lt_of_le A_a1.lt gh_y3)
  have F4 : Exa Z T3.heap a0 "java/lang/String" := (E_a0.keep K3)
  have F5 : Fld Z T3.heap a0 "java/lang/String" "value" "[B" .null := (F_value_a0.keep K3 nin0)
  have F6 : Fld Z T3.heap a0 "java/lang/String" "coder" "B" (.int (0 : Int32)) := (F_coder_a0.keep K3 nin0)
  have F7 : Old Z n0 T3.heap := (O0.keep K3 all0)
  have K8 : Keep h0 T3.heap [a0] := (Keep.refl h0 [a0]).trans K3 all0
  refine own_go (fun _ k => st3 _ k) ?_
  show own_Ends _ _ _ _ _ _ _ (T3.setTop (mkF m 39 #[.val (.ref a0), .val (.ref a1), .val (.int (0 : Int32)), .val (.int (2 : Int32)), .val .null, .unset] [(.ref y3)]))
  refine own_go (fun _ k => XS.astore X3.here hx rfl (hb hby dsiB2_39) rfl rfl (l' := #[.val (.ref a0), .val (.ref a1), .val (.int (0 : Int32)), .val (.int (2 : Int32)), .val .null, .val (.ref y3)]) rfl k) ?_
  show own_Ends _ _ _ _ _ _ _ (T3.setTop (mkF m 41 #[.val (.ref a0), .val (.ref a1), .val (.int (0 : Int32)), .val (.int (2 : Int32)), .val .null, .val (.ref y3)] []))
  refine own_go (fun _ k => XS.aloadN X3.here hx rfl (hb hby dsiB2_41) rfl rfl k) ?_
  show own_Ends _ _ _ _ _ _ _ (T3.setTop (mkF m 42 #[.val (.ref a0), .val (.ref a1), .val (.int (0 : Int32)), .val (.int (2 : Int32)), .val .null, .val (.ref y3)] [(.ref a0)]))
  refine own_go (fun _ k => XS.aload X3.here hx rfl (hb hby dsiB2_42) rfl rfl k) ?_
  show own_Ends _ _ _ _ _ _ _ (T3.setTop (mkF m 44 #[.val (.ref a0), .val (.ref a1), .val (.int (0 : Int32)), .val (.int (2 : Int32)), .val .null, .val (.ref y3)] [(.ref y3), (.ref a0)]))
  refine own_go (fun _ k => XS.iloadN X3.here hx rfl (hb hby dsiB2_44) rfl k) ?_
  show own_Ends _ _ _ _ _ _ _ (T3.setTop (mkF m 45 #[.val (.ref a0), .val (.ref a1), .val (.int (0 : Int32)), .val (.int (2 : Int32)), .val .null, .val (.ref y3)] [(.int (2 : Int32)), (.ref y3), (.ref a0)]))
  obtain ⟨_, _, ⟨T9, L9, k9, n9⟩, -, X9, ⟨Lc9, hQ9, l9, y9, z9⟩, st9⟩ := Jvm.LawKit.callS X3 hx (y := (⟨"java/lang/StringUTF16", "coderFromArrayLen", "([BI)B"⟩ : MethodName)) hown (mvT hZ (hw _ (List.mem_of_getElem? (i := 37) rfl))) (mvT hZ (hw _ (List.mem_of_getElem? (i := 38) rfl))) (mvT hZ (hw _ (List.mem_of_getElem? (i := 32) rfl))) (mvT hZ (hw _ (List.mem_of_getElem? (i := 39) rfl))) (by decide) (backOf (W := 1) (rmcfa2 l Z ar hw [] y3 (fun i => own_by (GG i)) T3.heap n0 F7 A3_0) hZ (hw _ (List.mem_of_getElem? (i := 39) rfl)) (hw _ (List.mem_of_getElem? (i := 32) rfl)) (by decide) (by decide)) (g := (mkF m 45 #[.val (.ref a0), .val (.ref a1), .val (.int (0 : Int32)), .val (.int (2 : Int32)), .val .null, .val (.ref y3)] [(.int (2 : Int32)), (.ref y3), (.ref a0)])) rfl (by rw [hml]; rfl) (argsL := [(.ref y3), (.int (2 : Int32))]) (rest := [(.ref a0)]) (lenOf pdsiB2_1 rfl) rfl (by show 2 * 0 + _ ≤ _; exact Nat.le_of_eq rfl) (hb hby dsiB2_45) (fun _ _ => ⟨rfl, rfl, (by decide : 1 + 0 ≤ _), (by decide : 2 + 0 ≤ _)⟩)
  dsimp only [Pt.U, Pt.locs, Pt.cells, Pt.slots] at X9 l9 y9 z9 st9 hQ9
  subst l9 y9 z9
  obtain ⟨rfl, N9q, eq9⟩ := hQ9
  have e9 : T9.heap = T3.heap := eq9
  have N9 := Fr.app N3 N9q
  refine own_go (fun _ k => st9 _ k) ?_
  show own_Ends _ _ _ _ _ _ _ (T9.setTop (mkF m 48 #[.val (.ref a0), .val (.ref a1), .val (.int (0 : Int32)), .val (.int (2 : Int32)), .val .null, .val (.ref y3)] [(.int (0 : Int32)), (.ref a0)]))
  obtain ⟨T10, h10, X10, e10, W10, st10⟩ := putFN X9 hx hZ hown (hw _ (List.mem_of_getElem? (i := 28) rfl)) Via.refl e9 F6 F4 (Or.inr ⟨(hw _ (List.mem_of_getElem? (i := 24) rfl)), rfl, hnm⟩) (hw _ (List.mem_of_getElem? (i := 8) rfl)) (ty := .byte) (v' := (.int (0 : Int32))) (by decide) rfl rfl (g := (mkF m 48 #[.val (.ref a0), .val (.ref a1), .val (.int (0 : Int32)), .val (.int (2 : Int32)), .val .null, .val (.ref y3)] [(.int (0 : Int32)), (.ref a0)])) rfl rfl (hb hby dsiB2_48)
  refine own_go (fun _ k => st10 _ k) ?_
  have N10 := Fr.snoc X10 N9 g_a0
  have F11 : Exa Z h10 a0 "java/lang/String" := (Exa.wr W10 F4)
  have F12 : Fld Z h10 a0 "java/lang/String" "value" "[B" .null := (Fld.other W10 F5 (Or.inr (slot_ne (Or.inr (hw _ (List.mem_of_getElem? (i := 23) rfl))) (Or.inr (hw _ (List.mem_of_getElem? (i := 24) rfl))) (by decide) (t := (.array .byte)) (t' := .byte) (by decide) (by decide))))
  have F13 : Old Z n0 h10 := (F7.wr W10 g_a0)
  have F14 : own_Ar Z h10 y3 .byte 2 (fun i => .int ((fun i => own_by (GG i)) i)) := (A3_0.other W10 (Ne.symm ne_a0_y3))
  have F15 : Fld Z h10 a0 "java/lang/String" "coder" "B" (.int (0 : Int32)) := Fld.same W10 F6
  have K16 : Keep h0 h10 [a0] := K8.wr W10 (Or.inl (List.mem_of_getElem? (i := 0) rfl))
  show own_Ends _ _ _ _ _ _ _ (T10.setTop (mkF m 51 #[.val (.ref a0), .val (.ref a1), .val (.int (0 : Int32)), .val (.int (2 : Int32)), .val .null, .val (.ref y3)] []))
  refine own_go (fun _ k => XS.aloadN X10.here hx rfl (hb hby dsiB2_51) rfl rfl k) ?_
  show own_Ends _ _ _ _ _ _ _ (T10.setTop (mkF m 52 #[.val (.ref a0), .val (.ref a1), .val (.int (0 : Int32)), .val (.int (2 : Int32)), .val .null, .val (.ref y3)] [(.ref a0)]))
  refine own_go (fun _ k => XS.aload X10.here hx rfl (hb hby dsiB2_52) rfl rfl k) ?_
  show own_Ends _ _ _ _ _ _ _ (T10.setTop (mkF m 54 #[.val (.ref a0), .val (.ref a1), .val (.int (0 : Int32)), .val (.int (2 : Int32)), .val .null, .val (.ref y3)] [(.ref y3), (.ref a0)]))
  obtain ⟨T17, h17, X17, e17, W17, st17⟩ := putF X10 hx hZ hown (host := "") (Or.inl (hw _ (List.mem_of_getElem? (i := 27) rfl))) Via.refl e10 F12 F11 (Or.inr ⟨(hw _ (List.mem_of_getElem? (i := 23) rfl)), rfl, hnm⟩) (hw _ (List.mem_of_getElem? (i := 8) rfl)) (ty := (.array .byte)) (by decide) rfl rfl (g := (mkF m 54 #[.val (.ref a0), .val (.ref a1), .val (.int (0 : Int32)), .val (.int (2 : Int32)), .val .null, .val (.ref y3)] [(.ref y3), (.ref a0)])) rfl rfl (hb hby dsiB2_54)
  refine own_go (fun _ k => st17 _ k) ?_
  have N17 := Fr.snoc X17 N10 g_a0
  have F18 : Exa Z h17 a0 "java/lang/String" := (Exa.wr W17 F11)
  have F19 : Fld Z h17 a0 "java/lang/String" "coder" "B" (.int (0 : Int32)) := (Fld.other W17 F15 (Or.inr (slot_ne (Or.inr (hw _ (List.mem_of_getElem? (i := 24) rfl))) (Or.inr (hw _ (List.mem_of_getElem? (i := 23) rfl))) (by decide) (t := .byte) (t' := (.array .byte)) (by decide) (by decide))))
  have F20 : Old Z n0 h17 := (F13.wr W17 g_a0)
  have F21 : own_Ar Z h17 y3 .byte 2 (fun i => .int ((fun i => own_by (GG i)) i)) := (F14.other W17 (Ne.symm ne_a0_y3))
  have F22 : Fld Z h17 a0 "java/lang/String" "value" "[B" (.ref y3) := Fld.same W17 F12
  have K23 : Keep h0 h17 [a0] := K16.wr W17 (Or.inl (List.mem_of_getElem? (i := 0) rfl))
  show own_Ends _ _ _ _ _ _ _ (T17.setTop (mkF m 57 #[.val (.ref a0), .val (.ref a1), .val (.int (0 : Int32)), .val (.int (2 : Int32)), .val .null, .val (.ref y3)] []))
  exact own_retV X17 hx hlk Bd.returns (hb hby dsiB2_57) (by decide) (by decide) (by rw [e17]; exact ⟨rfl, N17, K23, ⟨F18, F19, y3, F22, F21⟩⟩)
theorem dsiA2_0 : decode jdk_42_method_3_code 0 = .ok (.aload_n 0, 1) := by decide +kernel
theorem dsiA2_1 : decode jdk_42_method_3_code 1 = .ok (.aload_n 1, 1) := by decide +kernel
theorem dsiA2_2 : decode jdk_42_method_3_code 2 = .ok (.iconst 0, 1) := by decide +kernel
theorem dsiA2_3 : decode jdk_42_method_3_code 3 = .ok (.aload_n 1, 1) := by decide +kernel
theorem dsiA2_4 : decode jdk_42_method_3_code 4 = .ok (.arraylength, 1) := by decide +kernel
theorem dsiA2_5 : decode jdk_42_method_3_code 5 = .ok (.aconst_null, 1) := by decide +kernel
theorem dsiA2_6 : decode jdk_42_method_3_code 6 = .ok (.invokespecial 27, 3) := by decide +kernel
theorem dsiA2_9 : decode jdk_42_method_3_code 9 = .ok (.return_, 1) := by decide +kernel
theorem pnsiA2 : plainName "java/lang/String" = true := by first | (simp [plainName, overriddenIn]; done) | decide +kernel
theorem pdsiA2_0 : parseMethodDescriptor "([CIILjava/lang/Void;)V" = some ⟨[(.array .char), .int, .int, (.object "java/lang/Void")], none⟩ := by decide +kernel
theorem efsiA2 (m : MethodId) (a0 : Addr) (a1 : Addr) : entryFrame m #[(.ref a0), (.ref a1)] 2 = mkF m 0 #[.val (.ref a0), .val (.ref a1)] [] := by first | (simp [entryFrame, mkF, argsToLocals, Value.category]; done) | rfl
def QsiA2 (Z : State) (a0 : Addr) (a1 : Addr) (GG : Nat → Int32) (w_COMPACT_STRINGS : Int32) (h0 : Heap) (n0 : Nat) (v : Option Value) (h : Heap) (L : List Loc) : Prop := v = none ∧ Fr n0 L ∧ Keep h0 h [a0] ∧ own_Str Z h a0 2 (fun i => own_by (GG i))
set_option maxRecDepth 65536 in
set_option maxHeartbeats 40000000 in
theorem rmsiA2 (l : Launch) (Z : State) (ar : Array Value) (hw : ∀ d ∈ tables_1, d.before ar Z = true) (ws : List Jvm.Cond) (a0 : Addr) (a1 : Addr) (GG : Nat → Int32) (w_COMPACT_STRINGS : Int32) (h0 : Heap) (n0 : Nat) (O0 : Old Z n0 h0) (E_a0 : Exa Z h0 a0 "java/lang/String") (g_a0 : n0 ≤ a0) (F_value_a0 : Fld Z h0 a0 "java/lang/String" "value" "[B" .null) (F_coder_a0 : Fld Z h0 a0 "java/lang/String" "coder" "B" (.int (0 : Int32))) (A_a1 : own_Ar Z h0 a1 .char 2 (fun i => .int (GG i))) (hr : ∀ i, i < 2 → ¬ (255 : Int32) < GG i) (ne01 : a0 ≠ a1) (hCS : ¬ w_COMPACT_STRINGS = (0 : Int32)) (S_COMPACT_STRINGS : Sta Z Z.heap "java/lang/String" "COMPACT_STRINGS" "Z" (.int w_COMPACT_STRINGS)) :
    MetFree l (⟨"java/lang/String", "<init>", "([C)V"⟩ : MethodName) (head1 (Jvm.Cond.code (⟨"java/lang/String", "<init>", "([C)V"⟩ : MethodName) jdk_42_method_3_code 2 none :: ws) ({ frames := 3, cells := 1, slots := 2, locals := 52 } : Room)) (fun a U => a = #[(.ref a0), (.ref a1)] ∧ Z.Warmed39 U.vm ∧ U.heap = h0) (fun _ _ _ _ _ => True) (fun _ U o U' => ∃ v L, o = .returned v ∧ QsiA2 Z a0 a1 GG w_COMPACT_STRINGS h0 n0 v U'.heap L ∧ FrameEnd U o U' L ({ frames := 3, cells := 1, slots := 2, locals := 52 } : Room).cells ({ frames := 3, cells := 1, slots := 2, locals := 52 } : Room).slots) := by
  refine MetFree.of_bodySF (plainFor_of_name pnsiA2) hisR ?_
  intro p e s m args below meth c s₁ Bd hml0 hP hK
  obtain ⟨rfl, hZ, hh⟩ := hP
  have hx := Bd.exec
  have hby := Bd.bytes
  have hml : c.maxLocals = 2 := hml0
  have hown : s.vm.findClass "java/lang/String" = some m.cls := findClass_of_methodNamed Bd.named
  have hnm := (name_of_methodNamed Bd.named Bd.method).1
  have hlk : meth.locks = false := BodyLoose.notSynchronized Bd
  have X0 : Stand p l e ({ frames := 3, cells := 1, slots := 2, locals := 52 } : Room) s m #[(.ref a0), (.ref a1)] below meth c s₁ [] 0 0 := Stand.of_body Bd
  have e0 : s₁.heap = h0 := by rw [← hh, Bd.state]; rfl
  have N0 := Fr.nil n0
  suffices hmain : own_Ends p e below s (QsiA2 Z a0 a1 GG w_COMPACT_STRINGS h0 n0) 1 2 (s₁.setTop (mkF m 0 #[.val (.ref a0), .val (.ref a1)] [])) by
    obtain ⟨U, o, h1, r⟩ := hmain
    exact ⟨U, o, castTop (efsiA2 m a0 a1) h1, r⟩
  show own_Ends _ _ _ _ _ _ _ (s₁.setTop (mkF m 0 #[.val (.ref a0), .val (.ref a1)] []))
  refine own_go (fun _ k => XS.aloadN X0.here hx rfl (hb hby dsiA2_0) rfl rfl k) ?_
  show own_Ends _ _ _ _ _ _ _ (s₁.setTop (mkF m 1 #[.val (.ref a0), .val (.ref a1)] [(.ref a0)]))
  refine own_go (fun _ k => XS.aloadN X0.here hx rfl (hb hby dsiA2_1) rfl rfl k) ?_
  show own_Ends _ _ _ _ _ _ _ (s₁.setTop (mkF m 2 #[.val (.ref a0), .val (.ref a1)] [(.ref a1), (.ref a0)]))
  refine own_go (fun _ k => XS.iconst X0.here hx rfl (hb hby dsiA2_2) k) ?_
  show own_Ends _ _ _ _ _ _ _ (s₁.setTop (mkF m 3 #[.val (.ref a0), .val (.ref a1)] [(.int (0 : Int32)), (.ref a1), (.ref a0)]))
  refine own_go (fun _ k => XS.aloadN X0.here hx rfl (hb hby dsiA2_3) rfl rfl k) ?_
  show own_Ends _ _ _ _ _ _ _ (s₁.setTop (mkF m 4 #[.val (.ref a0), .val (.ref a1)] [(.ref a1), (.int (0 : Int32)), (.ref a1), (.ref a0)]))
  obtain ⟨c1, A1, l1⟩ := own_Ar.len A_a1
  refine own_go (fun _ k => X0.arraylength hx (by rw [e0]; exact A1.1) (State.isArrayOf_alike hZ.alike A1.2.1) (g := (mkF m 4 #[.val (.ref a0), .val (.ref a1)] [(.ref a1), (.int (0 : Int32)), (.ref a1), (.ref a0)])) rfl rfl (hb hby dsiA2_4) _ k) ?_
  rw [l1]
  show own_Ends _ _ _ _ _ _ _ (s₁.setTop (mkF m 5 #[.val (.ref a0), .val (.ref a1)] [(.int (2 : Int32)), (.int (0 : Int32)), (.ref a1), (.ref a0)]))
  refine own_go (fun _ k => XS.aconstNull X0.here hx rfl (hb hby dsiA2_5) k) ?_
  show own_Ends _ _ _ _ _ _ _ (s₁.setTop (mkF m 6 #[.val (.ref a0), .val (.ref a1)] [.null, (.int (2 : Int32)), (.int (0 : Int32)), (.ref a1), (.ref a0)]))
  obtain ⟨_, _, ⟨T2, L2, k2, n2⟩, -, X2, ⟨Lc2, hQ2, l2, y2, z2⟩, st2⟩ := X0.specialBack hx (y := (⟨"java/lang/String", "<init>", "([CIILjava/lang/Void;)V"⟩ : MethodName)) rfl hown (mvT hZ (hw _ (List.mem_of_getElem? (i := 14) rfl))) (mvT hZ (hw _ (List.mem_of_getElem? (i := 15) rfl))) (mvT hZ (hw _ (List.mem_of_getElem? (i := 17) rfl))) (by decide) (backOf (W := 0) (rmsiB2 l Z ar hw [] a0 a1 GG w_COMPACT_STRINGS h0 n0 O0 E_a0 g_a0 F_value_a0 F_coder_a0 A_a1 hr ne01 hCS S_COMPACT_STRINGS) hZ (hw _ (List.mem_of_getElem? (i := 17) rfl)) (hw _ (List.mem_of_getElem? (i := 9) rfl)) (by decide) (by decide)) (g := (mkF m 6 #[.val (.ref a0), .val (.ref a1)] [.null, (.int (2 : Int32)), (.int (0 : Int32)), (.ref a1), (.ref a0)])) rfl (by rw [hml]; rfl) (Steps.refl _) (a := a0) (argsL := [(.ref a1), (.int (0 : Int32)), (.int (2 : Int32)), .null]) (rest := []) (lenOf pdsiA2_0 rfl) rfl (by show 2 * 0 + _ ≤ _; exact Nat.le_of_eq rfl) (hb hby dsiA2_6) (fun _ _ => ⟨rfl, e0, (by decide : 0 + 1 ≤ _), (by decide : 0 + 2 ≤ _)⟩)
  dsimp only [Pt.U, Pt.locs, Pt.cells, Pt.slots] at X2 l2 y2 z2 st2 hQ2
  subst l2 y2 z2
  obtain ⟨rfl, N2q, K2, T2_0⟩ := hQ2
  have N2 := Fr.app N0 N2q
  have F3 : Exa Z T2.heap a0 "java/lang/String" := (E_a0.keep K2)
  have F4 : Old Z n0 T2.heap := (O0.keep K2 (allS g_a0 all0))
  have K5 : Keep h0 T2.heap [a0] := (Keep.refl h0 [a0]).trans K2 (allS (Or.inl (List.mem_of_getElem? (i := 0) rfl)) all0)
  refine own_go (fun _ k => st2.trans k) ?_
  show own_Ends _ _ _ _ _ _ _ (T2.setTop (mkF m 9 #[.val (.ref a0), .val (.ref a1)] []))
  exact own_retV X2 hx hlk Bd.returns (hb hby dsiA2_9) (by decide) (by decide) (by rw [show T2.heap = T2.heap from rfl]; exact ⟨rfl, N2, K5, T2_0⟩)
theorem dcmA3_0 : decode jdk_52_method_21_code 0 = .ok (.iconst 0, 1) := by decide +kernel
theorem dcmA3_1 : decode jdk_52_method_21_code 1 = .ok (.istore 5, 2) := by decide +kernel
theorem dcmA3_3 : decode jdk_52_method_21_code 3 = .ok (.iload 5, 2) := by decide +kernel
theorem dcmA3_5 : decode jdk_52_method_21_code 5 = .ok (.iload 4, 2) := by decide +kernel
theorem dcmA3_7 : decode jdk_52_method_21_code 7 = .ok (.if_icmp .ge 37, 3) := by decide +kernel
theorem dcmA3_10 : decode jdk_52_method_21_code 10 = .ok (.aload_n 0, 1) := by decide +kernel
theorem dcmA3_11 : decode jdk_52_method_21_code 11 = .ok (.iload_n 1, 1) := by decide +kernel
theorem dcmA3_12 : decode jdk_52_method_21_code 12 = .ok (.caload, 1) := by decide +kernel
theorem dcmA3_13 : decode jdk_52_method_21_code 13 = .ok (.istore 6, 2) := by decide +kernel
theorem dcmA3_15 : decode jdk_52_method_21_code 15 = .ok (.iload 6, 2) := by decide +kernel
theorem dcmA3_17 : decode jdk_52_method_21_code 17 = .ok (.sipush 255, 3) := by decide +kernel
theorem dcmA3_20 : decode jdk_52_method_21_code 20 = .ok (.if_icmp .le 6, 3) := by decide +kernel
theorem dcmA3_26 : decode jdk_52_method_21_code 26 = .ok (.aload_n 2, 1) := by decide +kernel
theorem dcmA3_27 : decode jdk_52_method_21_code 27 = .ok (.iload_n 3, 1) := by decide +kernel
theorem dcmA3_28 : decode jdk_52_method_21_code 28 = .ok (.iload 6, 2) := by decide +kernel
theorem dcmA3_30 : decode jdk_52_method_21_code 30 = .ok (.i2b, 1) := by decide +kernel
theorem dcmA3_31 : decode jdk_52_method_21_code 31 = .ok (.bastore, 1) := by decide +kernel
theorem dcmA3_32 : decode jdk_52_method_21_code 32 = .ok (.iinc 1 1, 3) := by decide +kernel
theorem dcmA3_35 : decode jdk_52_method_21_code 35 = .ok (.iinc 3 1, 3) := by decide +kernel
theorem dcmA3_38 : decode jdk_52_method_21_code 38 = .ok (.iinc 5 1, 3) := by decide +kernel
theorem dcmA3_41 : decode jdk_52_method_21_code 41 = .ok (.goto (-38), 3) := by decide +kernel
theorem dcmA3_44 : decode jdk_52_method_21_code 44 = .ok (.iload 4, 2) := by decide +kernel
theorem dcmA3_46 : decode jdk_52_method_21_code 46 = .ok (.ireturn, 1) := by decide +kernel
theorem pncmA3 : plainName "java/lang/StringUTF16" = true := by first | (simp [plainName, overriddenIn]; done) | decide +kernel
theorem efcmA3 (m : MethodId) (a0 : Addr) (a2 : Addr) : entryFrame m #[(.ref a0), (.int (0 : Int32)), (.ref a2), (.int (0 : Int32)), (.int (3 : Int32))] 7 = mkF m 0 #[.val (.ref a0), .val (.int (0 : Int32)), .val (.ref a2), .val (.int (0 : Int32)), .val (.int (3 : Int32)), .unset, .unset] [] := by first | (simp [entryFrame, mkF, argsToLocals, Value.category]; done) | rfl
def QcmA3 (Z : State) (a0 : Addr) (a2 : Addr) (GG : Nat → Int32) (HH : Nat → Int32) (h0 : Heap) (n0 : Nat) (v : Option Value) (h : Heap) (L : List Loc) : Prop := v = some (.int (3 : Int32)) ∧ Fr n0 L ∧ Keep h0 h [a2] ∧ own_Ar Z h a2 .byte 3 (fun i => .int ((fun i => own_by (GG i)) i))
set_option maxRecDepth 65536 in
set_option maxHeartbeats 40000000 in
theorem rmcmA3 (l : Launch) (Z : State) (ar : Array Value) (hw : ∀ d ∈ tables_1, d.before ar Z = true) (ws : List Jvm.Cond) (a0 : Addr) (a2 : Addr) (GG : Nat → Int32) (HH : Nat → Int32) (h0 : Heap) (n0 : Nat) (O0 : Old Z n0 h0) (A_a0 : own_Ar Z h0 a0 .char 3 (fun i => .int (GG i))) (A_a2 : own_Ar Z h0 a2 .byte 3 (fun i => .int (HH i))) (g_a2 : n0 ≤ a2) (ne02 : a0 ≠ a2) (hr : ∀ i, i < 3 → ¬ (255 : Int32) < GG i) :
    MetFree l (⟨"java/lang/StringUTF16", "compress", "([CI[BII)I"⟩ : MethodName) (head1 (Jvm.Cond.code (⟨"java/lang/StringUTF16", "compress", "([CI[BII)I"⟩ : MethodName) jdk_52_method_21_code 7 (some .int) :: ws) ({ frames := 0, cells := 0, slots := 0, locals := 0 } : Room)) (fun a U => a = #[(.ref a0), (.int (0 : Int32)), (.ref a2), (.int (0 : Int32)), (.int (3 : Int32))] ∧ Z.Warmed39 U.vm ∧ U.heap = h0) (fun _ _ _ _ _ => True) (fun _ U o U' => ∃ v L, o = .returned v ∧ QcmA3 Z a0 a2 GG HH h0 n0 v U'.heap L ∧ FrameEnd U o U' L ({ frames := 0, cells := 0, slots := 0, locals := 0 } : Room).cells ({ frames := 0, cells := 0, slots := 0, locals := 0 } : Room).slots) := by
  refine MetFree.of_bodySF (plainFor_of_name pncmA3) hisR ?_
  intro p e s m args below meth c s₁ Bd hml0 hP hK
  obtain ⟨rfl, hZ, hh⟩ := hP
  have hx := Bd.exec
  have hby := Bd.bytes
  have hml : c.maxLocals = 7 := hml0
  have hown : s.vm.findClass "java/lang/StringUTF16" = some m.cls := findClass_of_methodNamed Bd.named
  have hnm := (name_of_methodNamed Bd.named Bd.method).1
  have hlk : meth.locks = false := BodyLoose.notSynchronized Bd
  have X0 : Stand p l e ({ frames := 0, cells := 0, slots := 0, locals := 0 } : Room) s m #[(.ref a0), (.int (0 : Int32)), (.ref a2), (.int (0 : Int32)), (.int (3 : Int32))] below meth c s₁ [] 0 0 := Stand.of_body Bd
  have e0 : s₁.heap = h0 := by rw [← hh, Bd.state]; rfl
  have N0 := Fr.nil n0
  suffices hmain : own_Ends p e below s (QcmA3 Z a0 a2 GG HH h0 n0) 0 0 (s₁.setTop (mkF m 0 #[.val (.ref a0), .val (.int (0 : Int32)), .val (.ref a2), .val (.int (0 : Int32)), .val (.int (3 : Int32)), .unset, .unset] [])) by
    obtain ⟨U, o, h1, r⟩ := hmain
    exact ⟨U, o, castTop (efcmA3 m a0 a2) h1, r⟩
  show own_Ends _ _ _ _ _ _ _ (s₁.setTop (mkF m 0 #[.val (.ref a0), .val (.int (0 : Int32)), .val (.ref a2), .val (.int (0 : Int32)), .val (.int (3 : Int32)), .unset, .unset] []))
  refine own_go (fun _ k => XS.iconst X0.here hx rfl (hb hby dcmA3_0) k) ?_
  show own_Ends _ _ _ _ _ _ _ (s₁.setTop (mkF m 1 #[.val (.ref a0), .val (.int (0 : Int32)), .val (.ref a2), .val (.int (0 : Int32)), .val (.int (3 : Int32)), .unset, .unset] [(.int (0 : Int32))]))
  refine own_go (fun _ k => XS.istore X0.here hx rfl (hb hby dcmA3_1) rfl (l' := #[.val (.ref a0), .val (.int (0 : Int32)), .val (.ref a2), .val (.int (0 : Int32)), .val (.int (3 : Int32)), .val (.int (0 : Int32)), .unset]) rfl k) ?_
  show own_Ends _ _ _ _ _ _ _ (s₁.setTop (mkF m 3 #[.val (.ref a0), .val (.int (0 : Int32)), .val (.ref a2), .val (.int (0 : Int32)), .val (.int (3 : Int32)), .val (.int (0 : Int32)), .unset] []))
  refine own_go (fun _ k => XS.iload X0.here hx rfl (hb hby dcmA3_3) rfl k) ?_
  show own_Ends _ _ _ _ _ _ _ (s₁.setTop (mkF m 5 #[.val (.ref a0), .val (.int (0 : Int32)), .val (.ref a2), .val (.int (0 : Int32)), .val (.int (3 : Int32)), .val (.int (0 : Int32)), .unset] [(.int (0 : Int32))]))
  refine own_go (fun _ k => XS.iload X0.here hx rfl (hb hby dcmA3_5) rfl k) ?_
  show own_Ends _ _ _ _ _ _ _ (s₁.setTop (mkF m 7 #[.val (.ref a0), .val (.int (0 : Int32)), .val (.ref a2), .val (.int (0 : Int32)), .val (.int (3 : Int32)), .val (.int (0 : Int32)), .unset] [(.int (3 : Int32)), (.int (0 : Int32))]))
  refine own_go (fun _ k => XS.icmpNo X0.here hx rfl (hb hby dcmA3_7) rfl (tlt (by decide)).2.1 k) ?_
  show own_Ends _ _ _ _ _ _ _ (s₁.setTop (mkF m 10 #[.val (.ref a0), .val (.int (0 : Int32)), .val (.ref a2), .val (.int (0 : Int32)), .val (.int (3 : Int32)), .val (.int (0 : Int32)), .unset] []))
  refine own_go (fun _ k => XS.aloadN X0.here hx rfl (hb hby dcmA3_10) rfl rfl k) ?_
  show own_Ends _ _ _ _ _ _ _ (s₁.setTop (mkF m 11 #[.val (.ref a0), .val (.int (0 : Int32)), .val (.ref a2), .val (.int (0 : Int32)), .val (.int (3 : Int32)), .val (.int (0 : Int32)), .unset] [(.ref a0)]))
  refine own_go (fun _ k => XS.iloadN X0.here hx rfl (hb hby dcmA3_11) rfl k) ?_
  show own_Ends _ _ _ _ _ _ _ (s₁.setTop (mkF m 12 #[.val (.ref a0), .val (.int (0 : Int32)), .val (.ref a2), .val (.int (0 : Int32)), .val (.int (3 : Int32)), .val (.int (0 : Int32)), .unset] [(.int (0 : Int32)), (.ref a0)]))
  obtain ⟨c1, A1, i1, v1⟩ := own_Ar.at A_a0 (0 : Int32) (by decide) (by decide)
  refine own_go (fun _ k => X0.caload hx (by rw [e0]; exact A1.1) (State.isArrayOf_alike hZ.alike A1.2.1) A1.2.2 i1 v1 (g := (mkF m 12 #[.val (.ref a0), .val (.int (0 : Int32)), .val (.ref a2), .val (.int (0 : Int32)), .val (.int (3 : Int32)), .val (.int (0 : Int32)), .unset] [(.int (0 : Int32)), (.ref a0)])) rfl rfl (hb hby dcmA3_12) _ k) ?_
  show own_Ends _ _ _ _ _ _ _ (s₁.setTop (mkF m 13 #[.val (.ref a0), .val (.int (0 : Int32)), .val (.ref a2), .val (.int (0 : Int32)), .val (.int (3 : Int32)), .val (.int (0 : Int32)), .unset] [(.int (GG ((0 : Int32)).toNatClampNeg))]))
  refine own_go (fun _ k => XS.istore X0.here hx rfl (hb hby dcmA3_13) rfl (l' := #[.val (.ref a0), .val (.int (0 : Int32)), .val (.ref a2), .val (.int (0 : Int32)), .val (.int (3 : Int32)), .val (.int (0 : Int32)), .val (.int (GG ((0 : Int32)).toNatClampNeg))]) rfl k) ?_
  show own_Ends _ _ _ _ _ _ _ (s₁.setTop (mkF m 15 #[.val (.ref a0), .val (.int (0 : Int32)), .val (.ref a2), .val (.int (0 : Int32)), .val (.int (3 : Int32)), .val (.int (0 : Int32)), .val (.int (GG ((0 : Int32)).toNatClampNeg))] []))
  refine own_go (fun _ k => XS.iload X0.here hx rfl (hb hby dcmA3_15) rfl k) ?_
  show own_Ends _ _ _ _ _ _ _ (s₁.setTop (mkF m 17 #[.val (.ref a0), .val (.int (0 : Int32)), .val (.ref a2), .val (.int (0 : Int32)), .val (.int (3 : Int32)), .val (.int (0 : Int32)), .val (.int (GG ((0 : Int32)).toNatClampNeg))] [(.int (GG ((0 : Int32)).toNatClampNeg))]))
  refine own_go (fun _ k => XS.sipush X0.here hx rfl (hb hby dcmA3_17) k) ?_
  show own_Ends _ _ _ _ _ _ _ (s₁.setTop (mkF m 20 #[.val (.ref a0), .val (.int (0 : Int32)), .val (.ref a2), .val (.int (0 : Int32)), .val (.int (3 : Int32)), .val (.int (0 : Int32)), .val (.int (GG ((0 : Int32)).toNatClampNeg))] [(.int (255 : Int32)), (.int (GG ((0 : Int32)).toNatClampNeg))]))
  refine own_go (fun _ k => XS.icmpYes X0.here hx rfl (pc0 := 20) (pc' := 26) rfl (hb hby dcmA3_20) rfl (flt (hr _ (by decide))).2.2.2 (by decide) (by decide) k) ?_
  show own_Ends _ _ _ _ _ _ _ (s₁.setTop (mkF m 26 #[.val (.ref a0), .val (.int (0 : Int32)), .val (.ref a2), .val (.int (0 : Int32)), .val (.int (3 : Int32)), .val (.int (0 : Int32)), .val (.int (GG ((0 : Int32)).toNatClampNeg))] []))
  refine own_go (fun _ k => XS.aloadN X0.here hx rfl (hb hby dcmA3_26) rfl rfl k) ?_
  show own_Ends _ _ _ _ _ _ _ (s₁.setTop (mkF m 27 #[.val (.ref a0), .val (.int (0 : Int32)), .val (.ref a2), .val (.int (0 : Int32)), .val (.int (3 : Int32)), .val (.int (0 : Int32)), .val (.int (GG ((0 : Int32)).toNatClampNeg))] [(.ref a2)]))
  refine own_go (fun _ k => XS.iloadN X0.here hx rfl (hb hby dcmA3_27) rfl k) ?_
  show own_Ends _ _ _ _ _ _ _ (s₁.setTop (mkF m 28 #[.val (.ref a0), .val (.int (0 : Int32)), .val (.ref a2), .val (.int (0 : Int32)), .val (.int (3 : Int32)), .val (.int (0 : Int32)), .val (.int (GG ((0 : Int32)).toNatClampNeg))] [(.int (0 : Int32)), (.ref a2)]))
  refine own_go (fun _ k => XS.iload X0.here hx rfl (hb hby dcmA3_28) rfl k) ?_
  show own_Ends _ _ _ _ _ _ _ (s₁.setTop (mkF m 30 #[.val (.ref a0), .val (.int (0 : Int32)), .val (.ref a2), .val (.int (0 : Int32)), .val (.int (3 : Int32)), .val (.int (0 : Int32)), .val (.int (GG ((0 : Int32)).toNatClampNeg))] [(.int (GG ((0 : Int32)).toNatClampNeg)), (.int (0 : Int32)), (.ref a2)]))
  refine own_go (fun _ k => XS.i2b X0.here hx rfl (hb hby dcmA3_30) rfl k) ?_
  show own_Ends _ _ _ _ _ _ _ (s₁.setTop (mkF m 31 #[.val (.ref a0), .val (.int (0 : Int32)), .val (.ref a2), .val (.int (0 : Int32)), .val (.int (3 : Int32)), .val (.int (0 : Int32)), .val (.int (GG ((0 : Int32)).toNatClampNeg))] [(.int ((GG ((0 : Int32)).toNatClampNeg).toInt8.toInt32)), (.int (0 : Int32)), (.ref a2)]))
  obtain ⟨c2, A2, i2, -⟩ := own_Ar.at A_a2 (0 : Int32) (by decide) (by decide)
  obtain ⟨T2, h2, X2, e2, W2, st2⟩ := stB X0 hx hZ e0 A2 (j := (0 : Int32)) i2 (g := (mkF m 31 #[.val (.ref a0), .val (.int (0 : Int32)), .val (.ref a2), .val (.int (0 : Int32)), .val (.int (3 : Int32)), .val (.int (0 : Int32)), .val (.int (GG ((0 : Int32)).toNatClampNeg))] [(.int ((GG ((0 : Int32)).toNatClampNeg).toInt8.toInt32)), (.int (0 : Int32)), (.ref a2)])) rfl rfl (hb hby dcmA3_31)
  refine own_go (fun _ k => st2 _ k) ?_
  have N2 := Fr.snoc X2 N0 g_a2
  have F3 : own_Ar Z h2 a0 .char 3 (fun i => .int (GG i)) := (A_a0.other W2 ne02)
  have F4 : Old Z n0 h2 := (O0.wr W2 g_a2)
  have F5 : own_Ar Z h2 a2 .byte 3 (fun i => .int ((fun i => if i = ((0 : Int32)).toNatClampNeg then (nar .byte ((GG ((0 : Int32)).toNatClampNeg).toInt8.toInt32)) else HH i) i)) := own_Ar.setI A_a2 W2
  have K6 : Keep h0 h2 [a2] := (Keep.refl h0 [a2]).wr W2 (Or.inl (List.mem_of_getElem? (i := 0) rfl))
  show own_Ends _ _ _ _ _ _ _ (T2.setTop (mkF m 32 #[.val (.ref a0), .val (.int (0 : Int32)), .val (.ref a2), .val (.int (0 : Int32)), .val (.int (3 : Int32)), .val (.int (0 : Int32)), .val (.int (GG ((0 : Int32)).toNatClampNeg))] []))
  refine own_go (fun _ k => XS.iinc X2.here hx rfl (hb hby dcmA3_32) rfl (l' := #[.val (.ref a0), .val (.int (1 : Int32)), .val (.ref a2), .val (.int (0 : Int32)), .val (.int (3 : Int32)), .val (.int (0 : Int32)), .val (.int (GG ((0 : Int32)).toNatClampNeg))]) rfl k) ?_
  show own_Ends _ _ _ _ _ _ _ (T2.setTop (mkF m 35 #[.val (.ref a0), .val (.int (1 : Int32)), .val (.ref a2), .val (.int (0 : Int32)), .val (.int (3 : Int32)), .val (.int (0 : Int32)), .val (.int (GG ((0 : Int32)).toNatClampNeg))] []))
  refine own_go (fun _ k => XS.iinc X2.here hx rfl (hb hby dcmA3_35) rfl (l' := #[.val (.ref a0), .val (.int (1 : Int32)), .val (.ref a2), .val (.int (1 : Int32)), .val (.int (3 : Int32)), .val (.int (0 : Int32)), .val (.int (GG ((0 : Int32)).toNatClampNeg))]) rfl k) ?_
  show own_Ends _ _ _ _ _ _ _ (T2.setTop (mkF m 38 #[.val (.ref a0), .val (.int (1 : Int32)), .val (.ref a2), .val (.int (1 : Int32)), .val (.int (3 : Int32)), .val (.int (0 : Int32)), .val (.int (GG ((0 : Int32)).toNatClampNeg))] []))
  refine own_go (fun _ k => XS.iinc X2.here hx rfl (hb hby dcmA3_38) rfl (l' := #[.val (.ref a0), .val (.int (1 : Int32)), .val (.ref a2), .val (.int (1 : Int32)), .val (.int (3 : Int32)), .val (.int (1 : Int32)), .val (.int (GG ((0 : Int32)).toNatClampNeg))]) rfl k) ?_
  show own_Ends _ _ _ _ _ _ _ (T2.setTop (mkF m 41 #[.val (.ref a0), .val (.int (1 : Int32)), .val (.ref a2), .val (.int (1 : Int32)), .val (.int (3 : Int32)), .val (.int (1 : Int32)), .val (.int (GG ((0 : Int32)).toNatClampNeg))] []))
  refine own_go (fun _ k => XS.goto X2.here hx rfl (pc0 := 41) (pc' := 3) rfl (hb hby dcmA3_41) (by decide) (by decide) k) ?_
  show own_Ends _ _ _ _ _ _ _ (T2.setTop (mkF m 3 #[.val (.ref a0), .val (.int (1 : Int32)), .val (.ref a2), .val (.int (1 : Int32)), .val (.int (3 : Int32)), .val (.int (1 : Int32)), .val (.int (GG ((0 : Int32)).toNatClampNeg))] []))
  refine own_go (fun _ k => XS.iload X2.here hx rfl (hb hby dcmA3_3) rfl k) ?_
  show own_Ends _ _ _ _ _ _ _ (T2.setTop (mkF m 5 #[.val (.ref a0), .val (.int (1 : Int32)), .val (.ref a2), .val (.int (1 : Int32)), .val (.int (3 : Int32)), .val (.int (1 : Int32)), .val (.int (GG ((0 : Int32)).toNatClampNeg))] [(.int (1 : Int32))]))
  refine own_go (fun _ k => XS.iload X2.here hx rfl (hb hby dcmA3_5) rfl k) ?_
  show own_Ends _ _ _ _ _ _ _ (T2.setTop (mkF m 7 #[.val (.ref a0), .val (.int (1 : Int32)), .val (.ref a2), .val (.int (1 : Int32)), .val (.int (3 : Int32)), .val (.int (1 : Int32)), .val (.int (GG ((0 : Int32)).toNatClampNeg))] [(.int (3 : Int32)), (.int (1 : Int32))]))
  refine own_go (fun _ k => XS.icmpNo X2.here hx rfl (hb hby dcmA3_7) rfl (tlt (by decide)).2.1 k) ?_
  show own_Ends _ _ _ _ _ _ _ (T2.setTop (mkF m 10 #[.val (.ref a0), .val (.int (1 : Int32)), .val (.ref a2), .val (.int (1 : Int32)), .val (.int (3 : Int32)), .val (.int (1 : Int32)), .val (.int (GG ((0 : Int32)).toNatClampNeg))] []))
  refine own_go (fun _ k => XS.aloadN X2.here hx rfl (hb hby dcmA3_10) rfl rfl k) ?_
  show own_Ends _ _ _ _ _ _ _ (T2.setTop (mkF m 11 #[.val (.ref a0), .val (.int (1 : Int32)), .val (.ref a2), .val (.int (1 : Int32)), .val (.int (3 : Int32)), .val (.int (1 : Int32)), .val (.int (GG ((0 : Int32)).toNatClampNeg))] [(.ref a0)]))
  refine own_go (fun _ k => XS.iloadN X2.here hx rfl (hb hby dcmA3_11) rfl k) ?_
  show own_Ends _ _ _ _ _ _ _ (T2.setTop (mkF m 12 #[.val (.ref a0), .val (.int (1 : Int32)), .val (.ref a2), .val (.int (1 : Int32)), .val (.int (3 : Int32)), .val (.int (1 : Int32)), .val (.int (GG ((0 : Int32)).toNatClampNeg))] [(.int (1 : Int32)), (.ref a0)]))
  obtain ⟨c7, A7, i7, v7⟩ := own_Ar.at F3 (1 : Int32) (by decide) (by decide)
  refine own_go (fun _ k => X2.caload hx (by rw [e2]; exact A7.1) (State.isArrayOf_alike hZ.alike A7.2.1) A7.2.2 i7 v7 (g := (mkF m 12 #[.val (.ref a0), .val (.int (1 : Int32)), .val (.ref a2), .val (.int (1 : Int32)), .val (.int (3 : Int32)), .val (.int (1 : Int32)), .val (.int (GG ((0 : Int32)).toNatClampNeg))] [(.int (1 : Int32)), (.ref a0)])) rfl rfl (hb hby dcmA3_12) _ k) ?_
  show own_Ends _ _ _ _ _ _ _ (T2.setTop (mkF m 13 #[.val (.ref a0), .val (.int (1 : Int32)), .val (.ref a2), .val (.int (1 : Int32)), .val (.int (3 : Int32)), .val (.int (1 : Int32)), .val (.int (GG ((0 : Int32)).toNatClampNeg))] [(.int (GG ((1 : Int32)).toNatClampNeg))]))
  refine own_go (fun _ k => XS.istore X2.here hx rfl (hb hby dcmA3_13) rfl (l' := #[.val (.ref a0), .val (.int (1 : Int32)), .val (.ref a2), .val (.int (1 : Int32)), .val (.int (3 : Int32)), .val (.int (1 : Int32)), .val (.int (GG ((1 : Int32)).toNatClampNeg))]) rfl k) ?_
  show own_Ends _ _ _ _ _ _ _ (T2.setTop (mkF m 15 #[.val (.ref a0), .val (.int (1 : Int32)), .val (.ref a2), .val (.int (1 : Int32)), .val (.int (3 : Int32)), .val (.int (1 : Int32)), .val (.int (GG ((1 : Int32)).toNatClampNeg))] []))
  refine own_go (fun _ k => XS.iload X2.here hx rfl (hb hby dcmA3_15) rfl k) ?_
  show own_Ends _ _ _ _ _ _ _ (T2.setTop (mkF m 17 #[.val (.ref a0), .val (.int (1 : Int32)), .val (.ref a2), .val (.int (1 : Int32)), .val (.int (3 : Int32)), .val (.int (1 : Int32)), .val (.int (GG ((1 : Int32)).toNatClampNeg))] [(.int (GG ((1 : Int32)).toNatClampNeg))]))
  refine own_go (fun _ k => XS.sipush X2.here hx rfl (hb hby dcmA3_17) k) ?_
  show own_Ends _ _ _ _ _ _ _ (T2.setTop (mkF m 20 #[.val (.ref a0), .val (.int (1 : Int32)), .val (.ref a2), .val (.int (1 : Int32)), .val (.int (3 : Int32)), .val (.int (1 : Int32)), .val (.int (GG ((1 : Int32)).toNatClampNeg))] [(.int (255 : Int32)), (.int (GG ((1 : Int32)).toNatClampNeg))]))
  refine own_go (fun _ k => XS.icmpYes X2.here hx rfl (pc0 := 20) (pc' := 26) rfl (hb hby dcmA3_20) rfl (flt (hr _ (by decide))).2.2.2 (by decide) (by decide) k) ?_
  show own_Ends _ _ _ _ _ _ _ (T2.setTop (mkF m 26 #[.val (.ref a0), .val (.int (1 : Int32)), .val (.ref a2), .val (.int (1 : Int32)), .val (.int (3 : Int32)), .val (.int (1 : Int32)), .val (.int (GG ((1 : Int32)).toNatClampNeg))] []))
  refine own_go (fun _ k => XS.aloadN X2.here hx rfl (hb hby dcmA3_26) rfl rfl k) ?_
  show own_Ends _ _ _ _ _ _ _ (T2.setTop (mkF m 27 #[.val (.ref a0), .val (.int (1 : Int32)), .val (.ref a2), .val (.int (1 : Int32)), .val (.int (3 : Int32)), .val (.int (1 : Int32)), .val (.int (GG ((1 : Int32)).toNatClampNeg))] [(.ref a2)]))
  refine own_go (fun _ k => XS.iloadN X2.here hx rfl (hb hby dcmA3_27) rfl k) ?_
  show own_Ends _ _ _ _ _ _ _ (T2.setTop (mkF m 28 #[.val (.ref a0), .val (.int (1 : Int32)), .val (.ref a2), .val (.int (1 : Int32)), .val (.int (3 : Int32)), .val (.int (1 : Int32)), .val (.int (GG ((1 : Int32)).toNatClampNeg))] [(.int (1 : Int32)), (.ref a2)]))
  refine own_go (fun _ k => XS.iload X2.here hx rfl (hb hby dcmA3_28) rfl k) ?_
  show own_Ends _ _ _ _ _ _ _ (T2.setTop (mkF m 30 #[.val (.ref a0), .val (.int (1 : Int32)), .val (.ref a2), .val (.int (1 : Int32)), .val (.int (3 : Int32)), .val (.int (1 : Int32)), .val (.int (GG ((1 : Int32)).toNatClampNeg))] [(.int (GG ((1 : Int32)).toNatClampNeg)), (.int (1 : Int32)), (.ref a2)]))
  refine own_go (fun _ k => XS.i2b X2.here hx rfl (hb hby dcmA3_30) rfl k) ?_
  show own_Ends _ _ _ _ _ _ _ (T2.setTop (mkF m 31 #[.val (.ref a0), .val (.int (1 : Int32)), .val (.ref a2), .val (.int (1 : Int32)), .val (.int (3 : Int32)), .val (.int (1 : Int32)), .val (.int (GG ((1 : Int32)).toNatClampNeg))] [(.int ((GG ((1 : Int32)).toNatClampNeg).toInt8.toInt32)), (.int (1 : Int32)), (.ref a2)]))
  obtain ⟨c8, A8, i8, -⟩ := own_Ar.at F5 (1 : Int32) (by decide) (by decide)
  obtain ⟨T8, h8, X8, e8, W8, st8⟩ := stB X2 hx hZ e2 A8 (j := (1 : Int32)) i8 (g := (mkF m 31 #[.val (.ref a0), .val (.int (1 : Int32)), .val (.ref a2), .val (.int (1 : Int32)), .val (.int (3 : Int32)), .val (.int (1 : Int32)), .val (.int (GG ((1 : Int32)).toNatClampNeg))] [(.int ((GG ((1 : Int32)).toNatClampNeg).toInt8.toInt32)), (.int (1 : Int32)), (.ref a2)])) rfl rfl (hb hby dcmA3_31)
  refine own_go (fun _ k => st8 _ k) ?_
  have N8 := Fr.snoc X8 N2 g_a2
  have F9 : own_Ar Z h8 a0 .char 3 (fun i => .int (GG i)) := (F3.other W8 ne02)
  have F10 : Old Z n0 h8 := (F4.wr W8 g_a2)
  have F11 : own_Ar Z h8 a2 .byte 3 (fun i => .int ((fun i => if i = ((1 : Int32)).toNatClampNeg then (nar .byte ((GG ((1 : Int32)).toNatClampNeg).toInt8.toInt32)) else (fun i => if i = ((0 : Int32)).toNatClampNeg then (nar .byte ((GG ((0 : Int32)).toNatClampNeg).toInt8.toInt32)) else HH i) i) i)) := own_Ar.setI F5 W8
  have K12 : Keep h0 h8 [a2] := K6.wr W8 (Or.inl (List.mem_of_getElem? (i := 0) rfl))
  show own_Ends _ _ _ _ _ _ _ (T8.setTop (mkF m 32 #[.val (.ref a0), .val (.int (1 : Int32)), .val (.ref a2), .val (.int (1 : Int32)), .val (.int (3 : Int32)), .val (.int (1 : Int32)), .val (.int (GG ((1 : Int32)).toNatClampNeg))] []))
  refine own_go (fun _ k => XS.iinc X8.here hx rfl (hb hby dcmA3_32) rfl (l' := #[.val (.ref a0), .val (.int (2 : Int32)), .val (.ref a2), .val (.int (1 : Int32)), .val (.int (3 : Int32)), .val (.int (1 : Int32)), .val (.int (GG ((1 : Int32)).toNatClampNeg))]) rfl k) ?_
  show own_Ends _ _ _ _ _ _ _ (T8.setTop (mkF m 35 #[.val (.ref a0), .val (.int (2 : Int32)), .val (.ref a2), .val (.int (1 : Int32)), .val (.int (3 : Int32)), .val (.int (1 : Int32)), .val (.int (GG ((1 : Int32)).toNatClampNeg))] []))
  refine own_go (fun _ k => XS.iinc X8.here hx rfl (hb hby dcmA3_35) rfl (l' := #[.val (.ref a0), .val (.int (2 : Int32)), .val (.ref a2), .val (.int (2 : Int32)), .val (.int (3 : Int32)), .val (.int (1 : Int32)), .val (.int (GG ((1 : Int32)).toNatClampNeg))]) rfl k) ?_
  show own_Ends _ _ _ _ _ _ _ (T8.setTop (mkF m 38 #[.val (.ref a0), .val (.int (2 : Int32)), .val (.ref a2), .val (.int (2 : Int32)), .val (.int (3 : Int32)), .val (.int (1 : Int32)), .val (.int (GG ((1 : Int32)).toNatClampNeg))] []))
  refine own_go (fun _ k => XS.iinc X8.here hx rfl (hb hby dcmA3_38) rfl (l' := #[.val (.ref a0), .val (.int (2 : Int32)), .val (.ref a2), .val (.int (2 : Int32)), .val (.int (3 : Int32)), .val (.int (2 : Int32)), .val (.int (GG ((1 : Int32)).toNatClampNeg))]) rfl k) ?_
  show own_Ends _ _ _ _ _ _ _ (T8.setTop (mkF m 41 #[.val (.ref a0), .val (.int (2 : Int32)), .val (.ref a2), .val (.int (2 : Int32)), .val (.int (3 : Int32)), .val (.int (2 : Int32)), .val (.int (GG ((1 : Int32)).toNatClampNeg))] []))
  refine own_go (fun _ k => XS.goto X8.here hx rfl (pc0 := 41) (pc' := 3) rfl (hb hby dcmA3_41) (by decide) (by decide) k) ?_
  show own_Ends _ _ _ _ _ _ _ (T8.setTop (mkF m 3 #[.val (.ref a0), .val (.int (2 : Int32)), .val (.ref a2), .val (.int (2 : Int32)), .val (.int (3 : Int32)), .val (.int (2 : Int32)), .val (.int (GG ((1 : Int32)).toNatClampNeg))] []))
  refine own_go (fun _ k => XS.iload X8.here hx rfl (hb hby dcmA3_3) rfl k) ?_
  show own_Ends _ _ _ _ _ _ _ (T8.setTop (mkF m 5 #[.val (.ref a0), .val (.int (2 : Int32)), .val (.ref a2), .val (.int (2 : Int32)), .val (.int (3 : Int32)), .val (.int (2 : Int32)), .val (.int (GG ((1 : Int32)).toNatClampNeg))] [(.int (2 : Int32))]))
  refine own_go (fun _ k => XS.iload X8.here hx rfl (hb hby dcmA3_5) rfl k) ?_
  show own_Ends _ _ _ _ _ _ _ (T8.setTop (mkF m 7 #[.val (.ref a0), .val (.int (2 : Int32)), .val (.ref a2), .val (.int (2 : Int32)), .val (.int (3 : Int32)), .val (.int (2 : Int32)), .val (.int (GG ((1 : Int32)).toNatClampNeg))] [(.int (3 : Int32)), (.int (2 : Int32))]))
  refine own_go (fun _ k => XS.icmpNo X8.here hx rfl (hb hby dcmA3_7) rfl (tlt (by decide)).2.1 k) ?_
  show own_Ends _ _ _ _ _ _ _ (T8.setTop (mkF m 10 #[.val (.ref a0), .val (.int (2 : Int32)), .val (.ref a2), .val (.int (2 : Int32)), .val (.int (3 : Int32)), .val (.int (2 : Int32)), .val (.int (GG ((1 : Int32)).toNatClampNeg))] []))
  refine own_go (fun _ k => XS.aloadN X8.here hx rfl (hb hby dcmA3_10) rfl rfl k) ?_
  show own_Ends _ _ _ _ _ _ _ (T8.setTop (mkF m 11 #[.val (.ref a0), .val (.int (2 : Int32)), .val (.ref a2), .val (.int (2 : Int32)), .val (.int (3 : Int32)), .val (.int (2 : Int32)), .val (.int (GG ((1 : Int32)).toNatClampNeg))] [(.ref a0)]))
  refine own_go (fun _ k => XS.iloadN X8.here hx rfl (hb hby dcmA3_11) rfl k) ?_
  show own_Ends _ _ _ _ _ _ _ (T8.setTop (mkF m 12 #[.val (.ref a0), .val (.int (2 : Int32)), .val (.ref a2), .val (.int (2 : Int32)), .val (.int (3 : Int32)), .val (.int (2 : Int32)), .val (.int (GG ((1 : Int32)).toNatClampNeg))] [(.int (2 : Int32)), (.ref a0)]))
  obtain ⟨c13, A13, i13, v13⟩ := own_Ar.at F9 (2 : Int32) (by decide) (by decide)
  refine own_go (fun _ k => X8.caload hx (by rw [e8]; exact A13.1) (State.isArrayOf_alike hZ.alike A13.2.1) A13.2.2 i13 v13 (g := (mkF m 12 #[.val (.ref a0), .val (.int (2 : Int32)), .val (.ref a2), .val (.int (2 : Int32)), .val (.int (3 : Int32)), .val (.int (2 : Int32)), .val (.int (GG ((1 : Int32)).toNatClampNeg))] [(.int (2 : Int32)), (.ref a0)])) rfl rfl (hb hby dcmA3_12) _ k) ?_
  show own_Ends _ _ _ _ _ _ _ (T8.setTop (mkF m 13 #[.val (.ref a0), .val (.int (2 : Int32)), .val (.ref a2), .val (.int (2 : Int32)), .val (.int (3 : Int32)), .val (.int (2 : Int32)), .val (.int (GG ((1 : Int32)).toNatClampNeg))] [(.int (GG ((2 : Int32)).toNatClampNeg))]))
  refine own_go (fun _ k => XS.istore X8.here hx rfl (hb hby dcmA3_13) rfl (l' := #[.val (.ref a0), .val (.int (2 : Int32)), .val (.ref a2), .val (.int (2 : Int32)), .val (.int (3 : Int32)), .val (.int (2 : Int32)), .val (.int (GG ((2 : Int32)).toNatClampNeg))]) rfl k) ?_
  show own_Ends _ _ _ _ _ _ _ (T8.setTop (mkF m 15 #[.val (.ref a0), .val (.int (2 : Int32)), .val (.ref a2), .val (.int (2 : Int32)), .val (.int (3 : Int32)), .val (.int (2 : Int32)), .val (.int (GG ((2 : Int32)).toNatClampNeg))] []))
  refine own_go (fun _ k => XS.iload X8.here hx rfl (hb hby dcmA3_15) rfl k) ?_
  show own_Ends _ _ _ _ _ _ _ (T8.setTop (mkF m 17 #[.val (.ref a0), .val (.int (2 : Int32)), .val (.ref a2), .val (.int (2 : Int32)), .val (.int (3 : Int32)), .val (.int (2 : Int32)), .val (.int (GG ((2 : Int32)).toNatClampNeg))] [(.int (GG ((2 : Int32)).toNatClampNeg))]))
  refine own_go (fun _ k => XS.sipush X8.here hx rfl (hb hby dcmA3_17) k) ?_
  show own_Ends _ _ _ _ _ _ _ (T8.setTop (mkF m 20 #[.val (.ref a0), .val (.int (2 : Int32)), .val (.ref a2), .val (.int (2 : Int32)), .val (.int (3 : Int32)), .val (.int (2 : Int32)), .val (.int (GG ((2 : Int32)).toNatClampNeg))] [(.int (255 : Int32)), (.int (GG ((2 : Int32)).toNatClampNeg))]))
  refine own_go (fun _ k => XS.icmpYes X8.here hx rfl (pc0 := 20) (pc' := 26) rfl (hb hby dcmA3_20) rfl (flt (hr _ (by decide))).2.2.2 (by decide) (by decide) k) ?_
  show own_Ends _ _ _ _ _ _ _ (T8.setTop (mkF m 26 #[.val (.ref a0), .val (.int (2 : Int32)), .val (.ref a2), .val (.int (2 : Int32)), .val (.int (3 : Int32)), .val (.int (2 : Int32)), .val (.int (GG ((2 : Int32)).toNatClampNeg))] []))
  refine own_go (fun _ k => XS.aloadN X8.here hx rfl (hb hby dcmA3_26) rfl rfl k) ?_
  show own_Ends _ _ _ _ _ _ _ (T8.setTop (mkF m 27 #[.val (.ref a0), .val (.int (2 : Int32)), .val (.ref a2), .val (.int (2 : Int32)), .val (.int (3 : Int32)), .val (.int (2 : Int32)), .val (.int (GG ((2 : Int32)).toNatClampNeg))] [(.ref a2)]))
  refine own_go (fun _ k => XS.iloadN X8.here hx rfl (hb hby dcmA3_27) rfl k) ?_
  show own_Ends _ _ _ _ _ _ _ (T8.setTop (mkF m 28 #[.val (.ref a0), .val (.int (2 : Int32)), .val (.ref a2), .val (.int (2 : Int32)), .val (.int (3 : Int32)), .val (.int (2 : Int32)), .val (.int (GG ((2 : Int32)).toNatClampNeg))] [(.int (2 : Int32)), (.ref a2)]))
  refine own_go (fun _ k => XS.iload X8.here hx rfl (hb hby dcmA3_28) rfl k) ?_
  show own_Ends _ _ _ _ _ _ _ (T8.setTop (mkF m 30 #[.val (.ref a0), .val (.int (2 : Int32)), .val (.ref a2), .val (.int (2 : Int32)), .val (.int (3 : Int32)), .val (.int (2 : Int32)), .val (.int (GG ((2 : Int32)).toNatClampNeg))] [(.int (GG ((2 : Int32)).toNatClampNeg)), (.int (2 : Int32)), (.ref a2)]))
  refine own_go (fun _ k => XS.i2b X8.here hx rfl (hb hby dcmA3_30) rfl k) ?_
  show own_Ends _ _ _ _ _ _ _ (T8.setTop (mkF m 31 #[.val (.ref a0), .val (.int (2 : Int32)), .val (.ref a2), .val (.int (2 : Int32)), .val (.int (3 : Int32)), .val (.int (2 : Int32)), .val (.int (GG ((2 : Int32)).toNatClampNeg))] [(.int ((GG ((2 : Int32)).toNatClampNeg).toInt8.toInt32)), (.int (2 : Int32)), (.ref a2)]))
  obtain ⟨c14, A14, i14, -⟩ := own_Ar.at F11 (2 : Int32) (by decide) (by decide)
  obtain ⟨T14, h14, X14, e14, W14, st14⟩ := stB X8 hx hZ e8 A14 (j := (2 : Int32)) i14 (g := (mkF m 31 #[.val (.ref a0), .val (.int (2 : Int32)), .val (.ref a2), .val (.int (2 : Int32)), .val (.int (3 : Int32)), .val (.int (2 : Int32)), .val (.int (GG ((2 : Int32)).toNatClampNeg))] [(.int ((GG ((2 : Int32)).toNatClampNeg).toInt8.toInt32)), (.int (2 : Int32)), (.ref a2)])) rfl rfl (hb hby dcmA3_31)
  refine own_go (fun _ k => st14 _ k) ?_
  have N14 := Fr.snoc X14 N8 g_a2
  have F15 : own_Ar Z h14 a0 .char 3 (fun i => .int (GG i)) := (F9.other W14 ne02)
  have F16 : Old Z n0 h14 := (F10.wr W14 g_a2)
  have F17 : own_Ar Z h14 a2 .byte 3 (fun i => .int ((fun i => if i = ((2 : Int32)).toNatClampNeg then (nar .byte ((GG ((2 : Int32)).toNatClampNeg).toInt8.toInt32)) else (fun i => if i = ((1 : Int32)).toNatClampNeg then (nar .byte ((GG ((1 : Int32)).toNatClampNeg).toInt8.toInt32)) else (fun i => if i = ((0 : Int32)).toNatClampNeg then (nar .byte ((GG ((0 : Int32)).toNatClampNeg).toInt8.toInt32)) else HH i) i) i) i)) := own_Ar.setI F11 W14
  have K18 : Keep h0 h14 [a2] := K12.wr W14 (Or.inl (List.mem_of_getElem? (i := 0) rfl))
  show own_Ends _ _ _ _ _ _ _ (T14.setTop (mkF m 32 #[.val (.ref a0), .val (.int (2 : Int32)), .val (.ref a2), .val (.int (2 : Int32)), .val (.int (3 : Int32)), .val (.int (2 : Int32)), .val (.int (GG ((2 : Int32)).toNatClampNeg))] []))
  refine own_go (fun _ k => XS.iinc X14.here hx rfl (hb hby dcmA3_32) rfl (l' := #[.val (.ref a0), .val (.int (3 : Int32)), .val (.ref a2), .val (.int (2 : Int32)), .val (.int (3 : Int32)), .val (.int (2 : Int32)), .val (.int (GG ((2 : Int32)).toNatClampNeg))]) rfl k) ?_
  show own_Ends _ _ _ _ _ _ _ (T14.setTop (mkF m 35 #[.val (.ref a0), .val (.int (3 : Int32)), .val (.ref a2), .val (.int (2 : Int32)), .val (.int (3 : Int32)), .val (.int (2 : Int32)), .val (.int (GG ((2 : Int32)).toNatClampNeg))] []))
  refine own_go (fun _ k => XS.iinc X14.here hx rfl (hb hby dcmA3_35) rfl (l' := #[.val (.ref a0), .val (.int (3 : Int32)), .val (.ref a2), .val (.int (3 : Int32)), .val (.int (3 : Int32)), .val (.int (2 : Int32)), .val (.int (GG ((2 : Int32)).toNatClampNeg))]) rfl k) ?_
  show own_Ends _ _ _ _ _ _ _ (T14.setTop (mkF m 38 #[.val (.ref a0), .val (.int (3 : Int32)), .val (.ref a2), .val (.int (3 : Int32)), .val (.int (3 : Int32)), .val (.int (2 : Int32)), .val (.int (GG ((2 : Int32)).toNatClampNeg))] []))
  refine own_go (fun _ k => XS.iinc X14.here hx rfl (hb hby dcmA3_38) rfl (l' := #[.val (.ref a0), .val (.int (3 : Int32)), .val (.ref a2), .val (.int (3 : Int32)), .val (.int (3 : Int32)), .val (.int (3 : Int32)), .val (.int (GG ((2 : Int32)).toNatClampNeg))]) rfl k) ?_
  show own_Ends _ _ _ _ _ _ _ (T14.setTop (mkF m 41 #[.val (.ref a0), .val (.int (3 : Int32)), .val (.ref a2), .val (.int (3 : Int32)), .val (.int (3 : Int32)), .val (.int (3 : Int32)), .val (.int (GG ((2 : Int32)).toNatClampNeg))] []))
  refine own_go (fun _ k => XS.goto X14.here hx rfl (pc0 := 41) (pc' := 3) rfl (hb hby dcmA3_41) (by decide) (by decide) k) ?_
  show own_Ends _ _ _ _ _ _ _ (T14.setTop (mkF m 3 #[.val (.ref a0), .val (.int (3 : Int32)), .val (.ref a2), .val (.int (3 : Int32)), .val (.int (3 : Int32)), .val (.int (3 : Int32)), .val (.int (GG ((2 : Int32)).toNatClampNeg))] []))
  refine own_go (fun _ k => XS.iload X14.here hx rfl (hb hby dcmA3_3) rfl k) ?_
  show own_Ends _ _ _ _ _ _ _ (T14.setTop (mkF m 5 #[.val (.ref a0), .val (.int (3 : Int32)), .val (.ref a2), .val (.int (3 : Int32)), .val (.int (3 : Int32)), .val (.int (3 : Int32)), .val (.int (GG ((2 : Int32)).toNatClampNeg))] [(.int (3 : Int32))]))
  refine own_go (fun _ k => XS.iload X14.here hx rfl (hb hby dcmA3_5) rfl k) ?_
  show own_Ends _ _ _ _ _ _ _ (T14.setTop (mkF m 7 #[.val (.ref a0), .val (.int (3 : Int32)), .val (.ref a2), .val (.int (3 : Int32)), .val (.int (3 : Int32)), .val (.int (3 : Int32)), .val (.int (GG ((2 : Int32)).toNatClampNeg))] [(.int (3 : Int32)), (.int (3 : Int32))]))
  refine own_go (fun _ k => XS.icmpYes X14.here hx rfl (pc0 := 7) (pc' := 44) rfl (hb hby dcmA3_7) rfl (flt (by decide)).2.1 (by decide) (by decide) k) ?_
  show own_Ends _ _ _ _ _ _ _ (T14.setTop (mkF m 44 #[.val (.ref a0), .val (.int (3 : Int32)), .val (.ref a2), .val (.int (3 : Int32)), .val (.int (3 : Int32)), .val (.int (3 : Int32)), .val (.int (GG ((2 : Int32)).toNatClampNeg))] []))
  refine own_go (fun _ k => XS.iload X14.here hx rfl (hb hby dcmA3_44) rfl k) ?_
  show own_Ends _ _ _ _ _ _ _ (T14.setTop (mkF m 46 #[.val (.ref a0), .val (.int (3 : Int32)), .val (.ref a2), .val (.int (3 : Int32)), .val (.int (3 : Int32)), .val (.int (3 : Int32)), .val (.int (GG ((2 : Int32)).toNatClampNeg))] [(.int (3 : Int32))]))
  exact own_retI X14 hx hlk Bd.returns (hb hby dcmA3_46) (by decide) (by decide) (by rw [e14]; exact ⟨rfl, N14, K18, F17.cong (fun i hi => by match i, hi with | 0, _ => rfl | 1, _ => rfl | 2, _ => rfl)⟩)
theorem dcmB3_0 : decode jdk_52_method_16_code 0 = .ok (.iload_n 2, 1) := by decide +kernel
theorem dcmB3_1 : decode jdk_52_method_16_code 1 = .ok (.newarray .byte, 2) := by decide +kernel
theorem dcmB3_3 : decode jdk_52_method_16_code 3 = .ok (.astore_n 3, 1) := by decide +kernel
theorem dcmB3_4 : decode jdk_52_method_16_code 4 = .ok (.aload_n 0, 1) := by decide +kernel
theorem dcmB3_5 : decode jdk_52_method_16_code 5 = .ok (.iload_n 1, 1) := by decide +kernel
theorem dcmB3_6 : decode jdk_52_method_16_code 6 = .ok (.aload_n 3, 1) := by decide +kernel
theorem dcmB3_7 : decode jdk_52_method_16_code 7 = .ok (.iconst 0, 1) := by decide +kernel
theorem dcmB3_8 : decode jdk_52_method_16_code 8 = .ok (.iload_n 2, 1) := by decide +kernel
theorem dcmB3_9 : decode jdk_52_method_16_code 9 = .ok (.invokestatic 115, 3) := by decide +kernel
theorem dcmB3_12 : decode jdk_52_method_16_code 12 = .ok (.istore 4, 2) := by decide +kernel
theorem dcmB3_14 : decode jdk_52_method_16_code 14 = .ok (.iload 4, 2) := by decide +kernel
theorem dcmB3_16 : decode jdk_52_method_16_code 16 = .ok (.iload_n 2, 1) := by decide +kernel
theorem dcmB3_17 : decode jdk_52_method_16_code 17 = .ok (.if_icmp .eq 40, 3) := by decide +kernel
theorem dcmB3_57 : decode jdk_52_method_16_code 57 = .ok (.aload_n 3, 1) := by decide +kernel
theorem dcmB3_58 : decode jdk_52_method_16_code 58 = .ok (.areturn, 1) := by decide +kernel
theorem pncmB3 : plainName "java/lang/StringUTF16" = true := by first | (simp [plainName, overriddenIn]; done) | decide +kernel
theorem pdcmB3_0 : parseMethodDescriptor "([CI[BII)I" = some ⟨[(.array .char), .int, (.array .byte), .int, .int], some .int⟩ := by decide +kernel
theorem efcmB3 (m : MethodId) (a0 : Addr) : entryFrame m #[(.ref a0), (.int (0 : Int32)), (.int (3 : Int32))] 6 = mkF m 0 #[.val (.ref a0), .val (.int (0 : Int32)), .val (.int (3 : Int32)), .unset, .unset, .unset] [] := by first | (simp [entryFrame, mkF, argsToLocals, Value.category]; done) | rfl
def QcmB3 (Z : State) (a0 : Addr) (GG : Nat → Int32) (h0 : Heap) (n0 : Nat) (v : Option Value) (h : Heap) (L : List Loc) : Prop := ∃ y, v = some (.ref y) ∧ Fr n0 L ∧ Keep h0 h [] ∧ h0.size ≤ y ∧ own_Ar Z h y .byte 3 (fun i => .int ((fun i => own_by (GG i)) i))
set_option maxRecDepth 65536 in
set_option maxHeartbeats 40000000 in
theorem rmcmB3 (l : Launch) (Z : State) (ar : Array Value) (hw : ∀ d ∈ tables_1, d.before ar Z = true) (ws : List Jvm.Cond) (a0 : Addr) (GG : Nat → Int32) (h0 : Heap) (n0 : Nat) (O0 : Old Z n0 h0) (A_a0 : own_Ar Z h0 a0 .char 3 (fun i => .int (GG i))) (hr : ∀ i, i < 3 → ¬ (255 : Int32) < GG i) :
    MetFree l (⟨"java/lang/StringUTF16", "compress", "([CII)[B"⟩ : MethodName) (head1 (Jvm.Cond.code (⟨"java/lang/StringUTF16", "compress", "([CII)[B"⟩ : MethodName) jdk_52_method_16_code 6 (some (.array .byte)) :: ws) ({ frames := 1, cells := 1, slots := 3, locals := 18 } : Room)) (fun a U => a = #[(.ref a0), (.int (0 : Int32)), (.int (3 : Int32))] ∧ Z.Warmed39 U.vm ∧ U.heap = h0) (fun _ _ _ _ _ => True) (fun _ U o U' => ∃ v L, o = .returned v ∧ QcmB3 Z a0 GG h0 n0 v U'.heap L ∧ FrameEnd U o U' L ({ frames := 1, cells := 1, slots := 3, locals := 18 } : Room).cells ({ frames := 1, cells := 1, slots := 3, locals := 18 } : Room).slots) := by
  refine MetFree.of_bodySF (plainFor_of_name pncmB3) hisR ?_
  intro p e s m args below meth c s₁ Bd hml0 hP hK
  obtain ⟨rfl, hZ, hh⟩ := hP
  have hx := Bd.exec
  have hby := Bd.bytes
  have hml : c.maxLocals = 6 := hml0
  have hown : s.vm.findClass "java/lang/StringUTF16" = some m.cls := findClass_of_methodNamed Bd.named
  have hnm := (name_of_methodNamed Bd.named Bd.method).1
  have hlk : meth.locks = false := BodyLoose.notSynchronized Bd
  have X0 : Stand p l e ({ frames := 1, cells := 1, slots := 3, locals := 18 } : Room) s m #[(.ref a0), (.int (0 : Int32)), (.int (3 : Int32))] below meth c s₁ [] 0 0 := Stand.of_body Bd
  have e0 : s₁.heap = h0 := by rw [← hh, Bd.state]; rfl
  have N0 := Fr.nil n0
  suffices hmain : own_Ends p e below s (QcmB3 Z a0 GG h0 n0) 1 3 (s₁.setTop (mkF m 0 #[.val (.ref a0), .val (.int (0 : Int32)), .val (.int (3 : Int32)), .unset, .unset, .unset] [])) by
    obtain ⟨U, o, h1, r⟩ := hmain
    exact ⟨U, o, castTop (efcmB3 m a0) h1, r⟩
  show own_Ends _ _ _ _ _ _ _ (s₁.setTop (mkF m 0 #[.val (.ref a0), .val (.int (0 : Int32)), .val (.int (3 : Int32)), .unset, .unset, .unset] []))
  refine own_go (fun _ k => XS.iloadN X0.here hx rfl (hb hby dcmB3_0) rfl k) ?_
  show own_Ends _ _ _ _ _ _ _ (s₁.setTop (mkF m 1 #[.val (.ref a0), .val (.int (0 : Int32)), .val (.int (3 : Int32)), .unset, .unset, .unset] [(.int (3 : Int32))]))
  obtain ⟨T1, h1, k1, X1, e1, E1, A1, st1⟩ := newP X0 hx hZ (hw _ (List.mem_of_getElem? (i := 22) rfl)) e0 (g := (mkF m 1 #[.val (.ref a0), .val (.int (0 : Int32)), .val (.int (3 : Int32)), .unset, .unset, .unset] [(.int (3 : Int32))])) rfl (hb hby dcmB3_1) rfl (by decide) (cap := 3) (by decide) (by decide) (by decide) (by decide)
  obtain ⟨b1, q_b1⟩ : ∃ z, z = h0.size := ⟨_, rfl⟩
  rw [← q_b1] at A1 st1
  have g_b1 : n0 ≤ b1 := Nat.le_trans (own_sz O0) (Nat.le_of_eq q_b1.symm)
  have ne_a0_b1 : a0 ≠ b1 := Nat.ne_of_lt (Nat.lt_of_lt_of_le A_a0.lt (Nat.le_of_eq q_b1.symm))
  refine own_go (fun _ k => st1 _ k) ?_
  have F2 : own_Ar Z h1 a0 .char 3 (fun i => .int (GG i)) := (A_a0.ext E1)
  have F3 : Old Z n0 h1 := (O0.ext E1)
  have gh_b1 : h0.size ≤ b1 := Nat.le_trans (Keep.refl h0 []).1 (Nat.le_of_eq q_b1.symm)
  have K4 : Keep h0 h1 [] := (Keep.refl h0 []).ext E1
  have F5 : own_Ar Z h1 b1 .byte 3 (fun i => .int ((fun _ => (0 : Int32)) i)) := own_Ar.newI A1 (by decide) rfl
  show own_Ends _ _ _ _ _ _ _ (T1.setTop (mkF m 3 #[.val (.ref a0), .val (.int (0 : Int32)), .val (.int (3 : Int32)), .unset, .unset, .unset] [(.ref b1)]))
  refine own_go (fun _ k => XS.astoreN X1.here hx rfl (hb hby dcmB3_3) rfl rfl (l' := #[.val (.ref a0), .val (.int (0 : Int32)), .val (.int (3 : Int32)), .val (.ref b1), .unset, .unset]) rfl k) ?_
  show own_Ends _ _ _ _ _ _ _ (T1.setTop (mkF m 4 #[.val (.ref a0), .val (.int (0 : Int32)), .val (.int (3 : Int32)), .val (.ref b1), .unset, .unset] []))
  refine own_go (fun _ k => XS.aloadN X1.here hx rfl (hb hby dcmB3_4) rfl rfl k) ?_
  show own_Ends _ _ _ _ _ _ _ (T1.setTop (mkF m 5 #[.val (.ref a0), .val (.int (0 : Int32)), .val (.int (3 : Int32)), .val (.ref b1), .unset, .unset] [(.ref a0)]))
  refine own_go (fun _ k => XS.iloadN X1.here hx rfl (hb hby dcmB3_5) rfl k) ?_
  show own_Ends _ _ _ _ _ _ _ (T1.setTop (mkF m 6 #[.val (.ref a0), .val (.int (0 : Int32)), .val (.int (3 : Int32)), .val (.ref b1), .unset, .unset] [(.int (0 : Int32)), (.ref a0)]))
  refine own_go (fun _ k => XS.aloadN X1.here hx rfl (hb hby dcmB3_6) rfl rfl k) ?_
  show own_Ends _ _ _ _ _ _ _ (T1.setTop (mkF m 7 #[.val (.ref a0), .val (.int (0 : Int32)), .val (.int (3 : Int32)), .val (.ref b1), .unset, .unset] [(.ref b1), (.int (0 : Int32)), (.ref a0)]))
  refine own_go (fun _ k => XS.iconst X1.here hx rfl (hb hby dcmB3_7) k) ?_
  show own_Ends _ _ _ _ _ _ _ (T1.setTop (mkF m 8 #[.val (.ref a0), .val (.int (0 : Int32)), .val (.int (3 : Int32)), .val (.ref b1), .unset, .unset] [(.int (0 : Int32)), (.ref b1), (.int (0 : Int32)), (.ref a0)]))
  refine own_go (fun _ k => XS.iloadN X1.here hx rfl (hb hby dcmB3_8) rfl k) ?_
  show own_Ends _ _ _ _ _ _ _ (T1.setTop (mkF m 9 #[.val (.ref a0), .val (.int (0 : Int32)), .val (.int (3 : Int32)), .val (.ref b1), .unset, .unset] [(.int (3 : Int32)), (.int (0 : Int32)), (.ref b1), (.int (0 : Int32)), (.ref a0)]))
  obtain ⟨_, _, ⟨T6, L6, k6, n6⟩, -, X6, ⟨Lc6, hQ6, l6, y6, z6⟩, st6⟩ := Jvm.LawKit.callS X1 hx (y := (⟨"java/lang/StringUTF16", "compress", "([CI[BII)I"⟩ : MethodName)) hown (mvT hZ (hw _ (List.mem_of_getElem? (i := 34) rfl))) (mvT hZ (hw _ (List.mem_of_getElem? (i := 35) rfl))) (mvT hZ (hw _ (List.mem_of_getElem? (i := 32) rfl))) (mvT hZ (hw _ (List.mem_of_getElem? (i := 36) rfl))) (by decide) (backOf (W := 0) (rmcmA3 l Z ar hw [] a0 b1 GG (fun _ => (0 : Int32)) h1 n0 F3 F2 F5 g_b1 ne_a0_b1 hr) hZ (hw _ (List.mem_of_getElem? (i := 36) rfl)) (hw _ (List.mem_of_getElem? (i := 32) rfl)) (by decide) (by decide)) (g := (mkF m 9 #[.val (.ref a0), .val (.int (0 : Int32)), .val (.int (3 : Int32)), .val (.ref b1), .unset, .unset] [(.int (3 : Int32)), (.int (0 : Int32)), (.ref b1), (.int (0 : Int32)), (.ref a0)])) rfl (by rw [hml]; rfl) (argsL := [(.ref a0), (.int (0 : Int32)), (.ref b1), (.int (0 : Int32)), (.int (3 : Int32))]) (rest := []) (lenOf pdcmB3_0 rfl) rfl (by show 2 * 0 + _ ≤ _; exact Nat.le_of_eq rfl) (hb hby dcmB3_9) (fun _ _ => ⟨rfl, e1, (by decide : 1 + 0 ≤ _), (by decide : 3 + 0 ≤ _)⟩)
  dsimp only [Pt.U, Pt.locs, Pt.cells, Pt.slots] at X6 l6 y6 z6 st6 hQ6
  subst l6 y6 z6
  obtain ⟨rfl, N6q, K6, A6_0⟩ := hQ6
  have N6 := Fr.app N0 N6q
  have F7 : own_Ar Z T6.heap a0 .char 3 (fun i => .int (GG i)) := (F2.keep K6 (ninS ne_a0_b1 nin0))
  have F8 : Old Z n0 T6.heap := (F3.keep K6 (allS g_b1 all0))
  have K9 : Keep h0 T6.heap [] := K4.trans K6 (allS (Or.inr gh_b1) all0)
  refine own_go (fun _ k => st6 _ k) ?_
  show own_Ends _ _ _ _ _ _ _ (T6.setTop (mkF m 12 #[.val (.ref a0), .val (.int (0 : Int32)), .val (.int (3 : Int32)), .val (.ref b1), .unset, .unset] [(.int (3 : Int32))]))
  refine own_go (fun _ k => XS.istore X6.here hx rfl (hb hby dcmB3_12) rfl (l' := #[.val (.ref a0), .val (.int (0 : Int32)), .val (.int (3 : Int32)), .val (.ref b1), .val (.int (3 : Int32)), .unset]) rfl k) ?_
  show own_Ends _ _ _ _ _ _ _ (T6.setTop (mkF m 14 #[.val (.ref a0), .val (.int (0 : Int32)), .val (.int (3 : Int32)), .val (.ref b1), .val (.int (3 : Int32)), .unset] []))
  refine own_go (fun _ k => XS.iload X6.here hx rfl (hb hby dcmB3_14) rfl k) ?_
  show own_Ends _ _ _ _ _ _ _ (T6.setTop (mkF m 16 #[.val (.ref a0), .val (.int (0 : Int32)), .val (.int (3 : Int32)), .val (.ref b1), .val (.int (3 : Int32)), .unset] [(.int (3 : Int32))]))
  refine own_go (fun _ k => XS.iloadN X6.here hx rfl (hb hby dcmB3_16) rfl k) ?_
  show own_Ends _ _ _ _ _ _ _ (T6.setTop (mkF m 17 #[.val (.ref a0), .val (.int (0 : Int32)), .val (.int (3 : Int32)), .val (.ref b1), .val (.int (3 : Int32)), .unset] [(.int (3 : Int32)), (.int (3 : Int32))]))
  refine own_go (fun _ k => XS.icmpYes X6.here hx rfl (pc0 := 17) (pc' := 57) rfl (hb hby dcmB3_17) rfl (teq (by decide)).1 (by decide) (by decide) k) ?_
  show own_Ends _ _ _ _ _ _ _ (T6.setTop (mkF m 57 #[.val (.ref a0), .val (.int (0 : Int32)), .val (.int (3 : Int32)), .val (.ref b1), .val (.int (3 : Int32)), .unset] []))
  refine own_go (fun _ k => XS.aloadN X6.here hx rfl (hb hby dcmB3_57) rfl rfl k) ?_
  show own_Ends _ _ _ _ _ _ _ (T6.setTop (mkF m 58 #[.val (.ref a0), .val (.int (0 : Int32)), .val (.int (3 : Int32)), .val (.ref b1), .val (.int (3 : Int32)), .unset] [(.ref b1)]))
  exact own_retA X6 hx hlk Bd.returns rfl rfl rfl (hb hby dcmB3_58) (by decide) (by decide) (by rw [show T6.heap = T6.heap from rfl]; exact ⟨b1, rfl, N6, K9, gh_b1, A6_0⟩)
theorem dcfa3_0 : decode jdk_52_method_15_code 0 = .ok (.iload_n 1, 1) := by decide +kernel
theorem dcfa3_1 : decode jdk_52_method_15_code 1 = .ok (.aload_n 0, 1) := by decide +kernel
theorem dcfa3_2 : decode jdk_52_method_15_code 2 = .ok (.arraylength, 1) := by decide +kernel
theorem dcfa3_3 : decode jdk_52_method_15_code 3 = .ok (.isub, 1) := by decide +kernel
theorem dcfa3_4 : decode jdk_52_method_15_code 4 = .ok (.bipush 31, 2) := by decide +kernel
theorem dcfa3_6 : decode jdk_52_method_15_code 6 = .ok (.iushr, 1) := by decide +kernel
theorem dcfa3_7 : decode jdk_52_method_15_code 7 = .ok (.i2b, 1) := by decide +kernel
theorem dcfa3_8 : decode jdk_52_method_15_code 8 = .ok (.ireturn, 1) := by decide +kernel
theorem pncfa3 : plainName "java/lang/StringUTF16" = true := by first | (simp [plainName, overriddenIn]; done) | decide +kernel
theorem efcfa3 (m : MethodId) (a0 : Addr) : entryFrame m #[(.ref a0), (.int (3 : Int32))] 2 = mkF m 0 #[.val (.ref a0), .val (.int (3 : Int32))] [] := by first | (simp [entryFrame, mkF, argsToLocals, Value.category]; done) | rfl
def Qcfa3 (Z : State) (a0 : Addr) (GG : Nat → Int32) (h0 : Heap) (n0 : Nat) (v : Option Value) (h : Heap) (L : List Loc) : Prop := v = some (.int (0 : Int32)) ∧ Fr n0 L ∧ h = h0
set_option maxRecDepth 65536 in
set_option maxHeartbeats 40000000 in
theorem rmcfa3 (l : Launch) (Z : State) (ar : Array Value) (hw : ∀ d ∈ tables_1, d.before ar Z = true) (ws : List Jvm.Cond) (a0 : Addr) (GG : Nat → Int32) (h0 : Heap) (n0 : Nat) (O0 : Old Z n0 h0) (A_a0 : own_Ar Z h0 a0 .byte 3 (fun i => .int (GG i))) :
    MetFree l (⟨"java/lang/StringUTF16", "coderFromArrayLen", "([BI)B"⟩ : MethodName) (head1 (Jvm.Cond.code (⟨"java/lang/StringUTF16", "coderFromArrayLen", "([BI)B"⟩ : MethodName) jdk_52_method_15_code 2 (some .byte) :: ws) ({ frames := 0, cells := 0, slots := 0, locals := 0 } : Room)) (fun a U => a = #[(.ref a0), (.int (3 : Int32))] ∧ Z.Warmed39 U.vm ∧ U.heap = h0) (fun _ _ _ _ _ => True) (fun _ U o U' => ∃ v L, o = .returned v ∧ Qcfa3 Z a0 GG h0 n0 v U'.heap L ∧ FrameEnd U o U' L ({ frames := 0, cells := 0, slots := 0, locals := 0 } : Room).cells ({ frames := 0, cells := 0, slots := 0, locals := 0 } : Room).slots) := by
  refine MetFree.of_bodySF (plainFor_of_name pncfa3) hisR ?_
  intro p e s m args below meth c s₁ Bd hml0 hP hK
  obtain ⟨rfl, hZ, hh⟩ := hP
  have hx := Bd.exec
  have hby := Bd.bytes
  have hml : c.maxLocals = 2 := hml0
  have hown : s.vm.findClass "java/lang/StringUTF16" = some m.cls := findClass_of_methodNamed Bd.named
  have hnm := (name_of_methodNamed Bd.named Bd.method).1
  have hlk : meth.locks = false := BodyLoose.notSynchronized Bd
  have X0 : Stand p l e ({ frames := 0, cells := 0, slots := 0, locals := 0 } : Room) s m #[(.ref a0), (.int (3 : Int32))] below meth c s₁ [] 0 0 := Stand.of_body Bd
  have e0 : s₁.heap = h0 := by rw [← hh, Bd.state]; rfl
  have N0 := Fr.nil n0
  suffices hmain : own_Ends p e below s (Qcfa3 Z a0 GG h0 n0) 0 0 (s₁.setTop (mkF m 0 #[.val (.ref a0), .val (.int (3 : Int32))] [])) by
    obtain ⟨U, o, h1, r⟩ := hmain
    exact ⟨U, o, castTop (efcfa3 m a0) h1, r⟩
  show own_Ends _ _ _ _ _ _ _ (s₁.setTop (mkF m 0 #[.val (.ref a0), .val (.int (3 : Int32))] []))
  refine own_go (fun _ k => XS.iloadN X0.here hx rfl (hb hby dcfa3_0) rfl k) ?_
  show own_Ends _ _ _ _ _ _ _ (s₁.setTop (mkF m 1 #[.val (.ref a0), .val (.int (3 : Int32))] [(.int (3 : Int32))]))
  refine own_go (fun _ k => XS.aloadN X0.here hx rfl (hb hby dcfa3_1) rfl rfl k) ?_
  show own_Ends _ _ _ _ _ _ _ (s₁.setTop (mkF m 2 #[.val (.ref a0), .val (.int (3 : Int32))] [(.ref a0), (.int (3 : Int32))]))
  obtain ⟨c1, A1, l1⟩ := own_Ar.len A_a0
  refine own_go (fun _ k => X0.arraylength hx (by rw [e0]; exact A1.1) (State.isArrayOf_alike hZ.alike A1.2.1) (g := (mkF m 2 #[.val (.ref a0), .val (.int (3 : Int32))] [(.ref a0), (.int (3 : Int32))])) rfl rfl (hb hby dcfa3_2) _ k) ?_
  rw [l1]
  show own_Ends _ _ _ _ _ _ _ (s₁.setTop (mkF m 3 #[.val (.ref a0), .val (.int (3 : Int32))] [(.int (3 : Int32)), (.int (3 : Int32))]))
  refine own_go (fun _ k => XS.isub X0.here hx rfl (hb hby dcfa3_3) rfl k) ?_
  show own_Ends _ _ _ _ _ _ _ (s₁.setTop (mkF m 4 #[.val (.ref a0), .val (.int (3 : Int32))] [(.int ((3 : Int32) - (3 : Int32)))]))
  refine own_go (fun _ k => XS.bipush X0.here hx rfl (hb hby dcfa3_4) k) ?_
  show own_Ends _ _ _ _ _ _ _ (s₁.setTop (mkF m 6 #[.val (.ref a0), .val (.int (3 : Int32))] [(.int (31 : Int32)), (.int ((3 : Int32) - (3 : Int32)))]))
  refine own_go (fun _ k => XS.iushr X0.here hx rfl (hb hby dcfa3_6) rfl k) ?_
  show own_Ends _ _ _ _ _ _ _ (s₁.setTop (mkF m 7 #[.val (.ref a0), .val (.int (3 : Int32))] [(.int ((((3 : Int32) - (3 : Int32)).toUInt32 >>> ((31 : Int32) &&& 31).toUInt32).toInt32))]))
  refine own_go (fun _ k => XS.i2b X0.here hx rfl (hb hby dcfa3_7) rfl k) ?_
  show own_Ends _ _ _ _ _ _ _ (s₁.setTop (mkF m 8 #[.val (.ref a0), .val (.int (3 : Int32))] [(.int (((((3 : Int32) - (3 : Int32)).toUInt32 >>> ((31 : Int32) &&& 31).toUInt32).toInt32).toInt8.toInt32))]))
  exact own_retN X0 hx hlk (t := .byte) Bd.returns (by simp) (hb hby dcfa3_8) (by decide) (by decide) ⟨by decide, N0, e0⟩
theorem dsiB3_0 : decode jdk_42_method_149_code 0 = .ok (.aload_n 0, 1) := by decide +kernel
theorem dsiB3_1 : decode jdk_42_method_149_code 1 = .ok (.invokespecial 1, 3) := by decide +kernel
theorem dsiB3_4 : decode jdk_42_method_149_code 4 = .ok (.iload_n 3, 1) := by decide +kernel
theorem dsiB3_5 : decode jdk_42_method_149_code 5 = .ok (.ifCond .ne 22, 3) := by decide +kernel
theorem dsiB3_27 : decode jdk_42_method_149_code 27 = .ok (.getstatic 38, 3) := by decide +kernel
theorem dsiB3_30 : decode jdk_42_method_149_code 30 = .ok (.ifCond .eq 28, 3) := by decide +kernel
theorem dsiB3_33 : decode jdk_42_method_149_code 33 = .ok (.aload_n 1, 1) := by decide +kernel
theorem dsiB3_34 : decode jdk_42_method_149_code 34 = .ok (.iload_n 2, 1) := by decide +kernel
theorem dsiB3_35 : decode jdk_42_method_149_code 35 = .ok (.iload_n 3, 1) := by decide +kernel
theorem dsiB3_36 : decode jdk_42_method_149_code 36 = .ok (.invokestatic 177, 3) := by decide +kernel
theorem dsiB3_39 : decode jdk_42_method_149_code 39 = .ok (.astore 5, 2) := by decide +kernel
theorem dsiB3_41 : decode jdk_42_method_149_code 41 = .ok (.aload_n 0, 1) := by decide +kernel
theorem dsiB3_42 : decode jdk_42_method_149_code 42 = .ok (.aload 5, 2) := by decide +kernel
theorem dsiB3_44 : decode jdk_42_method_149_code 44 = .ok (.iload_n 3, 1) := by decide +kernel
theorem dsiB3_45 : decode jdk_42_method_149_code 45 = .ok (.invokestatic 47, 3) := by decide +kernel
theorem dsiB3_48 : decode jdk_42_method_149_code 48 = .ok (.putfield 15, 3) := by decide +kernel
theorem dsiB3_51 : decode jdk_42_method_149_code 51 = .ok (.aload_n 0, 1) := by decide +kernel
theorem dsiB3_52 : decode jdk_42_method_149_code 52 = .ok (.aload 5, 2) := by decide +kernel
theorem dsiB3_54 : decode jdk_42_method_149_code 54 = .ok (.putfield 9, 3) := by decide +kernel
theorem dsiB3_57 : decode jdk_42_method_149_code 57 = .ok (.return_, 1) := by decide +kernel
theorem pnsiB3 : plainName "java/lang/String" = true := by first | (simp [plainName, overriddenIn]; done) | decide +kernel
theorem pdsiB3_0 : parseMethodDescriptor "([CII)[B" = some ⟨[(.array .char), .int, .int], some (.array .byte)⟩ := by decide +kernel
theorem pdsiB3_1 : parseMethodDescriptor "([BI)B" = some ⟨[(.array .byte), .int], some .byte⟩ := by decide +kernel
theorem efsiB3 (m : MethodId) (a0 : Addr) (a1 : Addr) : entryFrame m #[(.ref a0), (.ref a1), (.int (0 : Int32)), (.int (3 : Int32)), .null] 6 = mkF m 0 #[.val (.ref a0), .val (.ref a1), .val (.int (0 : Int32)), .val (.int (3 : Int32)), .val .null, .unset] [] := by first | (simp [entryFrame, mkF, argsToLocals, Value.category]; done) | rfl
def QsiB3 (Z : State) (a0 : Addr) (a1 : Addr) (GG : Nat → Int32) (w_COMPACT_STRINGS : Int32) (h0 : Heap) (n0 : Nat) (v : Option Value) (h : Heap) (L : List Loc) : Prop := v = none ∧ Fr n0 L ∧ Keep h0 h [a0] ∧ own_Str Z h a0 3 (fun i => own_by (GG i))
set_option maxRecDepth 65536 in
set_option maxHeartbeats 40000000 in
theorem rmsiB3 (l : Launch) (Z : State) (ar : Array Value) (hw : ∀ d ∈ tables_1, d.before ar Z = true) (ws : List Jvm.Cond) (a0 : Addr) (a1 : Addr) (GG : Nat → Int32) (w_COMPACT_STRINGS : Int32) (h0 : Heap) (n0 : Nat) (O0 : Old Z n0 h0) (E_a0 : Exa Z h0 a0 "java/lang/String") (g_a0 : n0 ≤ a0) (F_value_a0 : Fld Z h0 a0 "java/lang/String" "value" "[B" .null) (F_coder_a0 : Fld Z h0 a0 "java/lang/String" "coder" "B" (.int (0 : Int32))) (A_a1 : own_Ar Z h0 a1 .char 3 (fun i => .int (GG i))) (hr : ∀ i, i < 3 → ¬ (255 : Int32) < GG i) (ne01 : a0 ≠ a1) (hCS : ¬ w_COMPACT_STRINGS = (0 : Int32)) (S_COMPACT_STRINGS : Sta Z Z.heap "java/lang/String" "COMPACT_STRINGS" "Z" (.int w_COMPACT_STRINGS)) :
    MetFree l (⟨"java/lang/String", "<init>", "([CIILjava/lang/Void;)V"⟩ : MethodName) (head1 (Jvm.Cond.code (⟨"java/lang/String", "<init>", "([CIILjava/lang/Void;)V"⟩ : MethodName) jdk_42_method_149_code 6 none :: ws) ({ frames := 2, cells := 1, slots := 3, locals := 35 } : Room)) (fun a U => a = #[(.ref a0), (.ref a1), (.int (0 : Int32)), (.int (3 : Int32)), .null] ∧ Z.Warmed39 U.vm ∧ U.heap = h0) (fun _ _ _ _ _ => True) (fun _ U o U' => ∃ v L, o = .returned v ∧ QsiB3 Z a0 a1 GG w_COMPACT_STRINGS h0 n0 v U'.heap L ∧ FrameEnd U o U' L ({ frames := 2, cells := 1, slots := 3, locals := 35 } : Room).cells ({ frames := 2, cells := 1, slots := 3, locals := 35 } : Room).slots) := by
  refine MetFree.of_bodySF (plainFor_of_name pnsiB3) hisR ?_
  intro p e s m args below meth c s₁ Bd hml0 hP hK
  obtain ⟨rfl, hZ, hh⟩ := hP
  have hx := Bd.exec
  have hby := Bd.bytes
  have hml : c.maxLocals = 6 := hml0
  have hown : s.vm.findClass "java/lang/String" = some m.cls := findClass_of_methodNamed Bd.named
  have hnm := (name_of_methodNamed Bd.named Bd.method).1
  have hlk : meth.locks = false := BodyLoose.notSynchronized Bd
  have X0 : Stand p l e ({ frames := 2, cells := 1, slots := 3, locals := 35 } : Room) s m #[(.ref a0), (.ref a1), (.int (0 : Int32)), (.int (3 : Int32)), .null] below meth c s₁ [] 0 0 := Stand.of_body Bd
  have e0 : s₁.heap = h0 := by rw [← hh, Bd.state]; rfl
  have N0 := Fr.nil n0
  suffices hmain : own_Ends p e below s (QsiB3 Z a0 a1 GG w_COMPACT_STRINGS h0 n0) 1 3 (s₁.setTop (mkF m 0 #[.val (.ref a0), .val (.ref a1), .val (.int (0 : Int32)), .val (.int (3 : Int32)), .val .null, .unset] [])) by
    obtain ⟨U, o, h1, r⟩ := hmain
    exact ⟨U, o, castTop (efsiB3 m a0 a1) h1, r⟩
  show own_Ends _ _ _ _ _ _ _ (s₁.setTop (mkF m 0 #[.val (.ref a0), .val (.ref a1), .val (.int (0 : Int32)), .val (.int (3 : Int32)), .val .null, .unset] []))
  refine own_go (fun _ k => XS.aloadN X0.here hx rfl (hb hby dsiB3_0) rfl rfl k) ?_
  show own_Ends _ _ _ _ _ _ _ (s₁.setTop (mkF m 1 #[.val (.ref a0), .val (.ref a1), .val (.int (0 : Int32)), .val (.int (3 : Int32)), .val .null, .unset] [(.ref a0)]))
  obtain ⟨T1, X1, e1, st1⟩ := initO X0 hx hZ hown (hw _ (List.mem_of_getElem? (i := 18) rfl)) (hw _ (List.mem_of_getElem? (i := 19) rfl)) (hw _ (List.mem_of_getElem? (i := 20) rfl)) e0 (g := (mkF m 1 #[.val (.ref a0), .val (.ref a1), .val (.int (0 : Int32)), .val (.int (3 : Int32)), .val .null, .unset] [(.ref a0)])) rfl (by rw [hml]; rfl) rfl (hb hby dsiB3_1) (by decide) (W := 0) (by show 2 * 0 + _ ≤ _; exact Nat.le_of_eq rfl) (by decide)
  refine own_go (fun _ k => st1 _ k) ?_
  show own_Ends _ _ _ _ _ _ _ (T1.setTop (mkF m 4 #[.val (.ref a0), .val (.ref a1), .val (.int (0 : Int32)), .val (.int (3 : Int32)), .val .null, .unset] []))
  refine own_go (fun _ k => XS.iloadN X1.here hx rfl (hb hby dsiB3_4) rfl k) ?_
  show own_Ends _ _ _ _ _ _ _ (T1.setTop (mkF m 5 #[.val (.ref a0), .val (.ref a1), .val (.int (0 : Int32)), .val (.int (3 : Int32)), .val .null, .unset] [(.int (3 : Int32))]))
  refine own_go (fun _ k => XS.ifYes X1.here hx rfl (pc0 := 5) (pc' := 27) rfl (hb hby dsiB3_5) rfl ((if0 _ _).trans (feq (by decide)).2) (by decide) (by decide) k) ?_
  show own_Ends _ _ _ _ _ _ _ (T1.setTop (mkF m 27 #[.val (.ref a0), .val (.ref a1), .val (.int (0 : Int32)), .val (.int (3 : Int32)), .val .null, .unset] []))
  obtain ⟨T2, X2, e2, st2⟩ := getS2 X1 hx hZ hown (host := "") (Or.inl (hw _ (List.mem_of_getElem? (i := 29) rfl))) Via.refl e1 (Sta.ext (own_ext O0) S_COMPACT_STRINGS) (g := (mkF m 27 #[.val (.ref a0), .val (.ref a1), .val (.int (0 : Int32)), .val (.int (3 : Int32)), .val .null, .unset] [])) rfl (hb hby dsiB3_27)
  refine own_go (fun _ k => st2 _ k) ?_
  show own_Ends _ _ _ _ _ _ _ (T2.setTop (mkF m 30 #[.val (.ref a0), .val (.ref a1), .val (.int (0 : Int32)), .val (.int (3 : Int32)), .val .null, .unset] [(.int w_COMPACT_STRINGS)]))
  refine own_go (fun _ k => XS.ifNo X2.here hx rfl (hb hby dsiB3_30) rfl ((if0 _ _).trans (feq hCS).1) k) ?_
  show own_Ends _ _ _ _ _ _ _ (T2.setTop (mkF m 33 #[.val (.ref a0), .val (.ref a1), .val (.int (0 : Int32)), .val (.int (3 : Int32)), .val .null, .unset] []))
  refine own_go (fun _ k => XS.aloadN X2.here hx rfl (hb hby dsiB3_33) rfl rfl k) ?_
  show own_Ends _ _ _ _ _ _ _ (T2.setTop (mkF m 34 #[.val (.ref a0), .val (.ref a1), .val (.int (0 : Int32)), .val (.int (3 : Int32)), .val .null, .unset] [(.ref a1)]))
  refine own_go (fun _ k => XS.iloadN X2.here hx rfl (hb hby dsiB3_34) rfl k) ?_
  show own_Ends _ _ _ _ _ _ _ (T2.setTop (mkF m 35 #[.val (.ref a0), .val (.ref a1), .val (.int (0 : Int32)), .val (.int (3 : Int32)), .val .null, .unset] [(.int (0 : Int32)), (.ref a1)]))
  refine own_go (fun _ k => XS.iloadN X2.here hx rfl (hb hby dsiB3_35) rfl k) ?_
  show own_Ends _ _ _ _ _ _ _ (T2.setTop (mkF m 36 #[.val (.ref a0), .val (.ref a1), .val (.int (0 : Int32)), .val (.int (3 : Int32)), .val .null, .unset] [(.int (3 : Int32)), (.int (0 : Int32)), (.ref a1)]))
  obtain ⟨_, _, ⟨T3, L3, k3, n3⟩, -, X3, ⟨Lc3, hQ3, l3, y3, z3⟩, st3⟩ := Jvm.LawKit.callS X2 hx (y := (⟨"java/lang/StringUTF16", "compress", "([CII)[B"⟩ : MethodName)) hown (mvT hZ (hw _ (List.mem_of_getElem? (i := 30) rfl))) (mvT hZ (hw _ (List.mem_of_getElem? (i := 31) rfl))) (mvT hZ (hw _ (List.mem_of_getElem? (i := 32) rfl))) (mvT hZ (hw _ (List.mem_of_getElem? (i := 33) rfl))) (by decide) (backOf (W := 0) (rmcmB3 l Z ar hw [] a1 GG h0 n0 O0 A_a1 hr) hZ (hw _ (List.mem_of_getElem? (i := 33) rfl)) (hw _ (List.mem_of_getElem? (i := 32) rfl)) (by decide) (by decide)) (g := (mkF m 36 #[.val (.ref a0), .val (.ref a1), .val (.int (0 : Int32)), .val (.int (3 : Int32)), .val .null, .unset] [(.int (3 : Int32)), (.int (0 : Int32)), (.ref a1)])) rfl (by rw [hml]; rfl) (argsL := [(.ref a1), (.int (0 : Int32)), (.int (3 : Int32))]) (rest := []) (lenOf pdsiB3_0 rfl) rfl (by show 2 * 0 + _ ≤ _; exact Nat.le_of_eq rfl) (hb hby dsiB3_36) (fun _ _ => ⟨rfl, e2, (by decide : 0 + 1 ≤ _), (by decide : 0 + 3 ≤ _)⟩)
  dsimp only [Pt.U, Pt.locs, Pt.cells, Pt.slots] at X3 l3 y3 z3 st3 hQ3
  subst l3 y3 z3
  obtain ⟨y3, rfl, N3q, K3, gh_y3, A3_0⟩ := hQ3
  have N3 := Fr.app N0 N3q
  have ne_a0_y3 : a0 ≠ y3 := Nat.ne_of_lt (Nat.lt_of_lt_of_le E_a0.lt gh_y3)
  have ne_a1_y3 : a1 ≠ y3 := Nat.ne_of_lt (Nat.lt_of_lt_of_le A_a1.lt gh_y3)
  have F4 : Exa Z T3.heap a0 "java/lang/String" := (E_a0.keep K3)
  have F5 : Fld Z T3.heap a0 "java/lang/String" "value" "[B" .null := (F_value_a0.keep K3 nin0)
  have F6 : Fld Z T3.heap a0 "java/lang/String" "coder" "B" (.int (0 : Int32)) := (F_coder_a0.keep K3 nin0)
  have F7 : Old Z n0 T3.heap := (O0.keep K3 all0)
  have K8 : Keep h0 T3.heap [a0] := (Keep.refl h0 [a0]).trans K3 all0
  refine own_go (fun _ k => st3 _ k) ?_
  show own_Ends _ _ _ _ _ _ _ (T3.setTop (mkF m 39 #[.val (.ref a0), .val (.ref a1), .val (.int (0 : Int32)), .val (.int (3 : Int32)), .val .null, .unset] [(.ref y3)]))
  refine own_go (fun _ k => XS.astore X3.here hx rfl (hb hby dsiB3_39) rfl rfl (l' := #[.val (.ref a0), .val (.ref a1), .val (.int (0 : Int32)), .val (.int (3 : Int32)), .val .null, .val (.ref y3)]) rfl k) ?_
  show own_Ends _ _ _ _ _ _ _ (T3.setTop (mkF m 41 #[.val (.ref a0), .val (.ref a1), .val (.int (0 : Int32)), .val (.int (3 : Int32)), .val .null, .val (.ref y3)] []))
  refine own_go (fun _ k => XS.aloadN X3.here hx rfl (hb hby dsiB3_41) rfl rfl k) ?_
  show own_Ends _ _ _ _ _ _ _ (T3.setTop (mkF m 42 #[.val (.ref a0), .val (.ref a1), .val (.int (0 : Int32)), .val (.int (3 : Int32)), .val .null, .val (.ref y3)] [(.ref a0)]))
  refine own_go (fun _ k => XS.aload X3.here hx rfl (hb hby dsiB3_42) rfl rfl k) ?_
  show own_Ends _ _ _ _ _ _ _ (T3.setTop (mkF m 44 #[.val (.ref a0), .val (.ref a1), .val (.int (0 : Int32)), .val (.int (3 : Int32)), .val .null, .val (.ref y3)] [(.ref y3), (.ref a0)]))
  refine own_go (fun _ k => XS.iloadN X3.here hx rfl (hb hby dsiB3_44) rfl k) ?_
  show own_Ends _ _ _ _ _ _ _ (T3.setTop (mkF m 45 #[.val (.ref a0), .val (.ref a1), .val (.int (0 : Int32)), .val (.int (3 : Int32)), .val .null, .val (.ref y3)] [(.int (3 : Int32)), (.ref y3), (.ref a0)]))
  obtain ⟨_, _, ⟨T9, L9, k9, n9⟩, -, X9, ⟨Lc9, hQ9, l9, y9, z9⟩, st9⟩ := Jvm.LawKit.callS X3 hx (y := (⟨"java/lang/StringUTF16", "coderFromArrayLen", "([BI)B"⟩ : MethodName)) hown (mvT hZ (hw _ (List.mem_of_getElem? (i := 37) rfl))) (mvT hZ (hw _ (List.mem_of_getElem? (i := 38) rfl))) (mvT hZ (hw _ (List.mem_of_getElem? (i := 32) rfl))) (mvT hZ (hw _ (List.mem_of_getElem? (i := 39) rfl))) (by decide) (backOf (W := 1) (rmcfa3 l Z ar hw [] y3 (fun i => own_by (GG i)) T3.heap n0 F7 A3_0) hZ (hw _ (List.mem_of_getElem? (i := 39) rfl)) (hw _ (List.mem_of_getElem? (i := 32) rfl)) (by decide) (by decide)) (g := (mkF m 45 #[.val (.ref a0), .val (.ref a1), .val (.int (0 : Int32)), .val (.int (3 : Int32)), .val .null, .val (.ref y3)] [(.int (3 : Int32)), (.ref y3), (.ref a0)])) rfl (by rw [hml]; rfl) (argsL := [(.ref y3), (.int (3 : Int32))]) (rest := [(.ref a0)]) (lenOf pdsiB3_1 rfl) rfl (by show 2 * 0 + _ ≤ _; exact Nat.le_of_eq rfl) (hb hby dsiB3_45) (fun _ _ => ⟨rfl, rfl, (by decide : 1 + 0 ≤ _), (by decide : 3 + 0 ≤ _)⟩)
  dsimp only [Pt.U, Pt.locs, Pt.cells, Pt.slots] at X9 l9 y9 z9 st9 hQ9
  subst l9 y9 z9
  obtain ⟨rfl, N9q, eq9⟩ := hQ9
  have e9 : T9.heap = T3.heap := eq9
  have N9 := Fr.app N3 N9q
  refine own_go (fun _ k => st9 _ k) ?_
  show own_Ends _ _ _ _ _ _ _ (T9.setTop (mkF m 48 #[.val (.ref a0), .val (.ref a1), .val (.int (0 : Int32)), .val (.int (3 : Int32)), .val .null, .val (.ref y3)] [(.int (0 : Int32)), (.ref a0)]))
  obtain ⟨T10, h10, X10, e10, W10, st10⟩ := putFN X9 hx hZ hown (hw _ (List.mem_of_getElem? (i := 28) rfl)) Via.refl e9 F6 F4 (Or.inr ⟨(hw _ (List.mem_of_getElem? (i := 24) rfl)), rfl, hnm⟩) (hw _ (List.mem_of_getElem? (i := 8) rfl)) (ty := .byte) (v' := (.int (0 : Int32))) (by decide) rfl rfl (g := (mkF m 48 #[.val (.ref a0), .val (.ref a1), .val (.int (0 : Int32)), .val (.int (3 : Int32)), .val .null, .val (.ref y3)] [(.int (0 : Int32)), (.ref a0)])) rfl rfl (hb hby dsiB3_48)
  refine own_go (fun _ k => st10 _ k) ?_
  have N10 := Fr.snoc X10 N9 g_a0
  have F11 : Exa Z h10 a0 "java/lang/String" := (Exa.wr W10 F4)
  have F12 : Fld Z h10 a0 "java/lang/String" "value" "[B" .null := (Fld.other W10 F5 (Or.inr (slot_ne (Or.inr (hw _ (List.mem_of_getElem? (i := 23) rfl))) (Or.inr (hw _ (List.mem_of_getElem? (i := 24) rfl))) (by decide) (t := (.array .byte)) (t' := .byte) (by decide) (by decide))))
  have F13 : Old Z n0 h10 := (F7.wr W10 g_a0)
  have F14 : own_Ar Z h10 y3 .byte 3 (fun i => .int ((fun i => own_by (GG i)) i)) := (A3_0.other W10 (Ne.symm ne_a0_y3))
  have F15 : Fld Z h10 a0 "java/lang/String" "coder" "B" (.int (0 : Int32)) := Fld.same W10 F6
  have K16 : Keep h0 h10 [a0] := K8.wr W10 (Or.inl (List.mem_of_getElem? (i := 0) rfl))
  show own_Ends _ _ _ _ _ _ _ (T10.setTop (mkF m 51 #[.val (.ref a0), .val (.ref a1), .val (.int (0 : Int32)), .val (.int (3 : Int32)), .val .null, .val (.ref y3)] []))
  refine own_go (fun _ k => XS.aloadN X10.here hx rfl (hb hby dsiB3_51) rfl rfl k) ?_
  show own_Ends _ _ _ _ _ _ _ (T10.setTop (mkF m 52 #[.val (.ref a0), .val (.ref a1), .val (.int (0 : Int32)), .val (.int (3 : Int32)), .val .null, .val (.ref y3)] [(.ref a0)]))
  refine own_go (fun _ k => XS.aload X10.here hx rfl (hb hby dsiB3_52) rfl rfl k) ?_
  show own_Ends _ _ _ _ _ _ _ (T10.setTop (mkF m 54 #[.val (.ref a0), .val (.ref a1), .val (.int (0 : Int32)), .val (.int (3 : Int32)), .val .null, .val (.ref y3)] [(.ref y3), (.ref a0)]))
  obtain ⟨T17, h17, X17, e17, W17, st17⟩ := putF X10 hx hZ hown (host := "") (Or.inl (hw _ (List.mem_of_getElem? (i := 27) rfl))) Via.refl e10 F12 F11 (Or.inr ⟨(hw _ (List.mem_of_getElem? (i := 23) rfl)), rfl, hnm⟩) (hw _ (List.mem_of_getElem? (i := 8) rfl)) (ty := (.array .byte)) (by decide) rfl rfl (g := (mkF m 54 #[.val (.ref a0), .val (.ref a1), .val (.int (0 : Int32)), .val (.int (3 : Int32)), .val .null, .val (.ref y3)] [(.ref y3), (.ref a0)])) rfl rfl (hb hby dsiB3_54)
  refine own_go (fun _ k => st17 _ k) ?_
  have N17 := Fr.snoc X17 N10 g_a0
  have F18 : Exa Z h17 a0 "java/lang/String" := (Exa.wr W17 F11)
  have F19 : Fld Z h17 a0 "java/lang/String" "coder" "B" (.int (0 : Int32)) := (Fld.other W17 F15 (Or.inr (slot_ne (Or.inr (hw _ (List.mem_of_getElem? (i := 24) rfl))) (Or.inr (hw _ (List.mem_of_getElem? (i := 23) rfl))) (by decide) (t := .byte) (t' := (.array .byte)) (by decide) (by decide))))
  have F20 : Old Z n0 h17 := (F13.wr W17 g_a0)
  have F21 : own_Ar Z h17 y3 .byte 3 (fun i => .int ((fun i => own_by (GG i)) i)) := (F14.other W17 (Ne.symm ne_a0_y3))
  have F22 : Fld Z h17 a0 "java/lang/String" "value" "[B" (.ref y3) := Fld.same W17 F12
  have K23 : Keep h0 h17 [a0] := K16.wr W17 (Or.inl (List.mem_of_getElem? (i := 0) rfl))
  show own_Ends _ _ _ _ _ _ _ (T17.setTop (mkF m 57 #[.val (.ref a0), .val (.ref a1), .val (.int (0 : Int32)), .val (.int (3 : Int32)), .val .null, .val (.ref y3)] []))
  exact own_retV X17 hx hlk Bd.returns (hb hby dsiB3_57) (by decide) (by decide) (by rw [e17]; exact ⟨rfl, N17, K23, ⟨F18, F19, y3, F22, F21⟩⟩)
theorem dsiA3_0 : decode jdk_42_method_3_code 0 = .ok (.aload_n 0, 1) := by decide +kernel
theorem dsiA3_1 : decode jdk_42_method_3_code 1 = .ok (.aload_n 1, 1) := by decide +kernel
theorem dsiA3_2 : decode jdk_42_method_3_code 2 = .ok (.iconst 0, 1) := by decide +kernel
theorem dsiA3_3 : decode jdk_42_method_3_code 3 = .ok (.aload_n 1, 1) := by decide +kernel
theorem dsiA3_4 : decode jdk_42_method_3_code 4 = .ok (.arraylength, 1) := by decide +kernel
theorem dsiA3_5 : decode jdk_42_method_3_code 5 = .ok (.aconst_null, 1) := by decide +kernel
theorem dsiA3_6 : decode jdk_42_method_3_code 6 = .ok (.invokespecial 27, 3) := by decide +kernel
theorem dsiA3_9 : decode jdk_42_method_3_code 9 = .ok (.return_, 1) := by decide +kernel
theorem pnsiA3 : plainName "java/lang/String" = true := by first | (simp [plainName, overriddenIn]; done) | decide +kernel
theorem pdsiA3_0 : parseMethodDescriptor "([CIILjava/lang/Void;)V" = some ⟨[(.array .char), .int, .int, (.object "java/lang/Void")], none⟩ := by decide +kernel
theorem efsiA3 (m : MethodId) (a0 : Addr) (a1 : Addr) : entryFrame m #[(.ref a0), (.ref a1)] 2 = mkF m 0 #[.val (.ref a0), .val (.ref a1)] [] := by first | (simp [entryFrame, mkF, argsToLocals, Value.category]; done) | rfl
def QsiA3 (Z : State) (a0 : Addr) (a1 : Addr) (GG : Nat → Int32) (w_COMPACT_STRINGS : Int32) (h0 : Heap) (n0 : Nat) (v : Option Value) (h : Heap) (L : List Loc) : Prop := v = none ∧ Fr n0 L ∧ Keep h0 h [a0] ∧ own_Str Z h a0 3 (fun i => own_by (GG i))
set_option maxRecDepth 65536 in
set_option maxHeartbeats 40000000 in
theorem rmsiA3 (l : Launch) (Z : State) (ar : Array Value) (hw : ∀ d ∈ tables_1, d.before ar Z = true) (ws : List Jvm.Cond) (a0 : Addr) (a1 : Addr) (GG : Nat → Int32) (w_COMPACT_STRINGS : Int32) (h0 : Heap) (n0 : Nat) (O0 : Old Z n0 h0) (E_a0 : Exa Z h0 a0 "java/lang/String") (g_a0 : n0 ≤ a0) (F_value_a0 : Fld Z h0 a0 "java/lang/String" "value" "[B" .null) (F_coder_a0 : Fld Z h0 a0 "java/lang/String" "coder" "B" (.int (0 : Int32))) (A_a1 : own_Ar Z h0 a1 .char 3 (fun i => .int (GG i))) (hr : ∀ i, i < 3 → ¬ (255 : Int32) < GG i) (ne01 : a0 ≠ a1) (hCS : ¬ w_COMPACT_STRINGS = (0 : Int32)) (S_COMPACT_STRINGS : Sta Z Z.heap "java/lang/String" "COMPACT_STRINGS" "Z" (.int w_COMPACT_STRINGS)) :
    MetFree l (⟨"java/lang/String", "<init>", "([C)V"⟩ : MethodName) (head1 (Jvm.Cond.code (⟨"java/lang/String", "<init>", "([C)V"⟩ : MethodName) jdk_42_method_3_code 2 none :: ws) ({ frames := 3, cells := 1, slots := 3, locals := 52 } : Room)) (fun a U => a = #[(.ref a0), (.ref a1)] ∧ Z.Warmed39 U.vm ∧ U.heap = h0) (fun _ _ _ _ _ => True) (fun _ U o U' => ∃ v L, o = .returned v ∧ QsiA3 Z a0 a1 GG w_COMPACT_STRINGS h0 n0 v U'.heap L ∧ FrameEnd U o U' L ({ frames := 3, cells := 1, slots := 3, locals := 52 } : Room).cells ({ frames := 3, cells := 1, slots := 3, locals := 52 } : Room).slots) := by
  refine MetFree.of_bodySF (plainFor_of_name pnsiA3) hisR ?_
  intro p e s m args below meth c s₁ Bd hml0 hP hK
  obtain ⟨rfl, hZ, hh⟩ := hP
  have hx := Bd.exec
  have hby := Bd.bytes
  have hml : c.maxLocals = 2 := hml0
  have hown : s.vm.findClass "java/lang/String" = some m.cls := findClass_of_methodNamed Bd.named
  have hnm := (name_of_methodNamed Bd.named Bd.method).1
  have hlk : meth.locks = false := BodyLoose.notSynchronized Bd
  have X0 : Stand p l e ({ frames := 3, cells := 1, slots := 3, locals := 52 } : Room) s m #[(.ref a0), (.ref a1)] below meth c s₁ [] 0 0 := Stand.of_body Bd
  have e0 : s₁.heap = h0 := by rw [← hh, Bd.state]; rfl
  have N0 := Fr.nil n0
  suffices hmain : own_Ends p e below s (QsiA3 Z a0 a1 GG w_COMPACT_STRINGS h0 n0) 1 3 (s₁.setTop (mkF m 0 #[.val (.ref a0), .val (.ref a1)] [])) by
    obtain ⟨U, o, h1, r⟩ := hmain
    exact ⟨U, o, castTop (efsiA3 m a0 a1) h1, r⟩
  show own_Ends _ _ _ _ _ _ _ (s₁.setTop (mkF m 0 #[.val (.ref a0), .val (.ref a1)] []))
  refine own_go (fun _ k => XS.aloadN X0.here hx rfl (hb hby dsiA3_0) rfl rfl k) ?_
  show own_Ends _ _ _ _ _ _ _ (s₁.setTop (mkF m 1 #[.val (.ref a0), .val (.ref a1)] [(.ref a0)]))
  refine own_go (fun _ k => XS.aloadN X0.here hx rfl (hb hby dsiA3_1) rfl rfl k) ?_
  show own_Ends _ _ _ _ _ _ _ (s₁.setTop (mkF m 2 #[.val (.ref a0), .val (.ref a1)] [(.ref a1), (.ref a0)]))
  refine own_go (fun _ k => XS.iconst X0.here hx rfl (hb hby dsiA3_2) k) ?_
  show own_Ends _ _ _ _ _ _ _ (s₁.setTop (mkF m 3 #[.val (.ref a0), .val (.ref a1)] [(.int (0 : Int32)), (.ref a1), (.ref a0)]))
  refine own_go (fun _ k => XS.aloadN X0.here hx rfl (hb hby dsiA3_3) rfl rfl k) ?_
  show own_Ends _ _ _ _ _ _ _ (s₁.setTop (mkF m 4 #[.val (.ref a0), .val (.ref a1)] [(.ref a1), (.int (0 : Int32)), (.ref a1), (.ref a0)]))
  obtain ⟨c1, A1, l1⟩ := own_Ar.len A_a1
  refine own_go (fun _ k => X0.arraylength hx (by rw [e0]; exact A1.1) (State.isArrayOf_alike hZ.alike A1.2.1) (g := (mkF m 4 #[.val (.ref a0), .val (.ref a1)] [(.ref a1), (.int (0 : Int32)), (.ref a1), (.ref a0)])) rfl rfl (hb hby dsiA3_4) _ k) ?_
  rw [l1]
  show own_Ends _ _ _ _ _ _ _ (s₁.setTop (mkF m 5 #[.val (.ref a0), .val (.ref a1)] [(.int (3 : Int32)), (.int (0 : Int32)), (.ref a1), (.ref a0)]))
  refine own_go (fun _ k => XS.aconstNull X0.here hx rfl (hb hby dsiA3_5) k) ?_
  show own_Ends _ _ _ _ _ _ _ (s₁.setTop (mkF m 6 #[.val (.ref a0), .val (.ref a1)] [.null, (.int (3 : Int32)), (.int (0 : Int32)), (.ref a1), (.ref a0)]))
  obtain ⟨_, _, ⟨T2, L2, k2, n2⟩, -, X2, ⟨Lc2, hQ2, l2, y2, z2⟩, st2⟩ := X0.specialBack hx (y := (⟨"java/lang/String", "<init>", "([CIILjava/lang/Void;)V"⟩ : MethodName)) rfl hown (mvT hZ (hw _ (List.mem_of_getElem? (i := 14) rfl))) (mvT hZ (hw _ (List.mem_of_getElem? (i := 15) rfl))) (mvT hZ (hw _ (List.mem_of_getElem? (i := 17) rfl))) (by decide) (backOf (W := 0) (rmsiB3 l Z ar hw [] a0 a1 GG w_COMPACT_STRINGS h0 n0 O0 E_a0 g_a0 F_value_a0 F_coder_a0 A_a1 hr ne01 hCS S_COMPACT_STRINGS) hZ (hw _ (List.mem_of_getElem? (i := 17) rfl)) (hw _ (List.mem_of_getElem? (i := 9) rfl)) (by decide) (by decide)) (g := (mkF m 6 #[.val (.ref a0), .val (.ref a1)] [.null, (.int (3 : Int32)), (.int (0 : Int32)), (.ref a1), (.ref a0)])) rfl (by rw [hml]; rfl) (Steps.refl _) (a := a0) (argsL := [(.ref a1), (.int (0 : Int32)), (.int (3 : Int32)), .null]) (rest := []) (lenOf pdsiA3_0 rfl) rfl (by show 2 * 0 + _ ≤ _; exact Nat.le_of_eq rfl) (hb hby dsiA3_6) (fun _ _ => ⟨rfl, e0, (by decide : 0 + 1 ≤ _), (by decide : 0 + 3 ≤ _)⟩)
  dsimp only [Pt.U, Pt.locs, Pt.cells, Pt.slots] at X2 l2 y2 z2 st2 hQ2
  subst l2 y2 z2
  obtain ⟨rfl, N2q, K2, T2_0⟩ := hQ2
  have N2 := Fr.app N0 N2q
  have F3 : Exa Z T2.heap a0 "java/lang/String" := (E_a0.keep K2)
  have F4 : Old Z n0 T2.heap := (O0.keep K2 (allS g_a0 all0))
  have K5 : Keep h0 T2.heap [a0] := (Keep.refl h0 [a0]).trans K2 (allS (Or.inl (List.mem_of_getElem? (i := 0) rfl)) all0)
  refine own_go (fun _ k => st2.trans k) ?_
  show own_Ends _ _ _ _ _ _ _ (T2.setTop (mkF m 9 #[.val (.ref a0), .val (.ref a1)] []))
  exact own_retV X2 hx hlk Bd.returns (hb hby dsiA3_9) (by decide) (by decide) (by rw [show T2.heap = T2.heap from rfl]; exact ⟨rfl, N2, K5, T2_0⟩)
theorem dsleq_0 : decode jdk_43_method_13_code 0 = .ok (.aload_n 0, 1) := by decide +kernel
theorem dsleq_1 : decode jdk_43_method_13_code 1 = .ok (.arraylength, 1) := by decide +kernel
theorem dsleq_2 : decode jdk_43_method_13_code 2 = .ok (.aload_n 1, 1) := by decide +kernel
theorem dsleq_3 : decode jdk_43_method_13_code 3 = .ok (.arraylength, 1) := by decide +kernel
theorem dsleq_4 : decode jdk_43_method_13_code 4 = .ok (.if_icmp .ne 30, 3) := by decide +kernel
theorem dsleq_7 : decode jdk_43_method_13_code 7 = .ok (.iconst 0, 1) := by decide +kernel
theorem dsleq_8 : decode jdk_43_method_13_code 8 = .ok (.istore_n 2, 1) := by decide +kernel
theorem dsleq_9 : decode jdk_43_method_13_code 9 = .ok (.iload_n 2, 1) := by decide +kernel
theorem dsleq_10 : decode jdk_43_method_13_code 10 = .ok (.aload_n 0, 1) := by decide +kernel
theorem dsleq_11 : decode jdk_43_method_13_code 11 = .ok (.arraylength, 1) := by decide +kernel
theorem dsleq_12 : decode jdk_43_method_13_code 12 = .ok (.if_icmp .ge 20, 3) := by decide +kernel
theorem dsleq_15 : decode jdk_43_method_13_code 15 = .ok (.aload_n 0, 1) := by decide +kernel
theorem dsleq_16 : decode jdk_43_method_13_code 16 = .ok (.iload_n 2, 1) := by decide +kernel
theorem dsleq_17 : decode jdk_43_method_13_code 17 = .ok (.baload, 1) := by decide +kernel
theorem dsleq_18 : decode jdk_43_method_13_code 18 = .ok (.aload_n 1, 1) := by decide +kernel
theorem dsleq_19 : decode jdk_43_method_13_code 19 = .ok (.iload_n 2, 1) := by decide +kernel
theorem dsleq_20 : decode jdk_43_method_13_code 20 = .ok (.baload, 1) := by decide +kernel
theorem dsleq_21 : decode jdk_43_method_13_code 21 = .ok (.if_icmp .eq 5, 3) := by decide +kernel
theorem dsleq_24 : decode jdk_43_method_13_code 24 = .ok (.iconst 0, 1) := by decide +kernel
theorem dsleq_25 : decode jdk_43_method_13_code 25 = .ok (.ireturn, 1) := by decide +kernel
theorem dsleq_26 : decode jdk_43_method_13_code 26 = .ok (.iinc 2 1, 3) := by decide +kernel
theorem dsleq_29 : decode jdk_43_method_13_code 29 = .ok (.goto (-20), 3) := by decide +kernel
theorem dsleq_32 : decode jdk_43_method_13_code 32 = .ok (.iconst 1, 1) := by decide +kernel
theorem dsleq_33 : decode jdk_43_method_13_code 33 = .ok (.ireturn, 1) := by decide +kernel
theorem dsleq_34 : decode jdk_43_method_13_code 34 = .ok (.iconst 0, 1) := by decide +kernel
theorem dsleq_35 : decode jdk_43_method_13_code 35 = .ok (.ireturn, 1) := by decide +kernel
theorem pnsleq : plainName "java/lang/StringLatin1" = true := by first | (simp [plainName, overriddenIn]; done) | decide +kernel
theorem efsleq (m : MethodId) (a0 : Addr) (a1 : Addr) : entryFrame m #[(.ref a0), (.ref a1)] 3 = mkF m 0 #[.val (.ref a0), .val (.ref a1), .unset] [] := by first | (simp [entryFrame, mkF, argsToLocals, Value.category]; done) | rfl
def Qsleq (Z : State) (a0 : Addr) (a1 : Addr) (nn : Nat) (GG : Nat → Int32) (mm : Nat) (HH : Nat → Int32) (h0 : Heap) (n0 : Nat) (v : Option Value) (h : Heap) (L : List Loc) : Prop := ∃ z : Int32, v = some (.int z) ∧ own_ans z (own_eq nn mm GG HH) ∧ Fr n0 L ∧ h = h0
set_option maxRecDepth 65536 in
set_option maxHeartbeats 40000000 in
theorem rmsleq (l : Launch) (Z : State) (ar : Array Value) (hw : ∀ d ∈ tables_1, d.before ar Z = true) (ws : List Jvm.Cond) (a0 : Addr) (a1 : Addr) (nn : Nat) (GG : Nat → Int32) (mm : Nat) (HH : Nat → Int32) (h0 : Heap) (n0 : Nat) (O0 : Old Z n0 h0) (A_a0 : own_Ar Z h0 a0 .byte nn (fun i => .int (GG i))) (A_a1 : own_Ar Z h0 a1 .byte mm (fun i => .int (HH i))) (hl : nn < 1000 ∧ mm < 1000) :
    MetFree l (⟨"java/lang/StringLatin1", "equals", "([B[B)Z"⟩ : MethodName) (head1 (Jvm.Cond.code (⟨"java/lang/StringLatin1", "equals", "([B[B)Z"⟩ : MethodName) jdk_43_method_13_code 3 (some .boolean) :: ws) ({ frames := 0, cells := 0, slots := 0, locals := 0 } : Room)) (fun a U => a = #[(.ref a0), (.ref a1)] ∧ Z.Warmed39 U.vm ∧ U.heap = h0) (fun _ _ _ _ _ => True) (fun _ U o U' => ∃ v L, o = .returned v ∧ Qsleq Z a0 a1 nn GG mm HH h0 n0 v U'.heap L ∧ FrameEnd U o U' L ({ frames := 0, cells := 0, slots := 0, locals := 0 } : Room).cells ({ frames := 0, cells := 0, slots := 0, locals := 0 } : Room).slots) := by
  refine MetFree.of_bodySF (plainFor_of_name pnsleq) hisR ?_
  intro p e s m args below meth c s₁ Bd hml0 hP hK
  obtain ⟨rfl, hZ, hh⟩ := hP
  have hx := Bd.exec
  have hby := Bd.bytes
  have hml : c.maxLocals = 3 := hml0
  have hown : s.vm.findClass "java/lang/StringLatin1" = some m.cls := findClass_of_methodNamed Bd.named
  have hnm := (name_of_methodNamed Bd.named Bd.method).1
  have hlk : meth.locks = false := BodyLoose.notSynchronized Bd
  have X0 : Stand p l e ({ frames := 0, cells := 0, slots := 0, locals := 0 } : Room) s m #[(.ref a0), (.ref a1)] below meth c s₁ [] 0 0 := Stand.of_body Bd
  have e0 : s₁.heap = h0 := by rw [← hh, Bd.state]; rfl
  have N0 := Fr.nil n0
  suffices hmain : own_Ends p e below s (Qsleq Z a0 a1 nn GG mm HH h0 n0) 0 0 (s₁.setTop (mkF m 0 #[.val (.ref a0), .val (.ref a1), .unset] [])) by
    obtain ⟨U, o, h1, r⟩ := hmain
    exact ⟨U, o, castTop (efsleq m a0 a1) h1, r⟩
  show own_Ends _ _ _ _ _ _ _ (s₁.setTop (mkF m 0 #[.val (.ref a0), .val (.ref a1), .unset] []))
  refine own_go (fun _ k => XS.aloadN X0.here hx rfl (hb hby dsleq_0) rfl rfl k) ?_
  show own_Ends _ _ _ _ _ _ _ (s₁.setTop (mkF m 1 #[.val (.ref a0), .val (.ref a1), .unset] [(.ref a0)]))
  obtain ⟨c1, A1, l1⟩ := own_Ar.len A_a0
  refine own_go (fun _ k => X0.arraylength hx (by rw [e0]; exact A1.1) (State.isArrayOf_alike hZ.alike A1.2.1) (g := (mkF m 1 #[.val (.ref a0), .val (.ref a1), .unset] [(.ref a0)])) rfl rfl (hb hby dsleq_1) _ k) ?_
  rw [l1]
  show own_Ends _ _ _ _ _ _ _ (s₁.setTop (mkF m 2 #[.val (.ref a0), .val (.ref a1), .unset] [(.int (Int32.ofNat nn))]))
  refine own_go (fun _ k => XS.aloadN X0.here hx rfl (hb hby dsleq_2) rfl rfl k) ?_
  show own_Ends _ _ _ _ _ _ _ (s₁.setTop (mkF m 3 #[.val (.ref a0), .val (.ref a1), .unset] [(.ref a1), (.int (Int32.ofNat nn))]))
  obtain ⟨c2, A2, l2⟩ := own_Ar.len A_a1
  refine own_go (fun _ k => X0.arraylength hx (by rw [e0]; exact A2.1) (State.isArrayOf_alike hZ.alike A2.2.1) (g := (mkF m 3 #[.val (.ref a0), .val (.ref a1), .unset] [(.ref a1), (.int (Int32.ofNat nn))])) rfl rfl (hb hby dsleq_3) _ k) ?_
  rw [l2]
  show own_Ends _ _ _ _ _ _ _ (s₁.setTop (mkF m 4 #[.val (.ref a0), .val (.ref a1), .unset] [(.int (Int32.ofNat mm)), (.int (Int32.ofNat nn))]))
  by_cases hc3 : (Int32.ofNat nn) = (Int32.ofNat mm)
  · refine own_go (fun _ k => XS.icmpNo X0.here hx rfl (hb hby dsleq_4) rfl (teq hc3).2 k) ?_
    show own_Ends _ _ _ _ _ _ _ (s₁.setTop (mkF m 7 #[.val (.ref a0), .val (.ref a1), .unset] []))
    refine own_go (fun _ k => XS.iconst X0.here hx rfl (hb hby dsleq_7) k) ?_
    show own_Ends _ _ _ _ _ _ _ (s₁.setTop (mkF m 8 #[.val (.ref a0), .val (.ref a1), .unset] [(.int (0 : Int32))]))
    refine own_go (fun _ k => XS.istoreN X0.here hx rfl (hb hby dsleq_8) rfl (l' := #[.val (.ref a0), .val (.ref a1), .val (.int (0 : Int32))]) rfl k) ?_
    have enm := own_of32 hl.1 hl.2 hc3
    suffices hin : ∀ (kk i : Nat), i + kk = nn → (∀ j, j < i → GG j = HH j) → own_Ends p e below s (Qsleq Z a0 a1 nn GG mm HH h0 n0) 0 0 (s₁.setTop (mkF m 9 #[.val (.ref a0), .val (.ref a1), .val (.int (Int32.ofNat i))] [])) by
      exact hin nn 0 (by omega) (fun j hj => absurd hj (Nat.not_lt_zero _))
    intro kk
    induction kk with
    | zero =>
      intro i hi hno
      show own_Ends _ _ _ _ _ _ _ (s₁.setTop (mkF m 9 #[.val (.ref a0), .val (.ref a1), .val (.int (Int32.ofNat i))] []))
      refine own_go (fun _ k => XS.iloadN X0.here hx rfl (hb hby dsleq_9) rfl k) ?_
      show own_Ends _ _ _ _ _ _ _ (s₁.setTop (mkF m 10 #[.val (.ref a0), .val (.ref a1), .val (.int (Int32.ofNat i))] [(.int (Int32.ofNat i))]))
      refine own_go (fun _ k => XS.aloadN X0.here hx rfl (hb hby dsleq_10) rfl rfl k) ?_
      show own_Ends _ _ _ _ _ _ _ (s₁.setTop (mkF m 11 #[.val (.ref a0), .val (.ref a1), .val (.int (Int32.ofNat i))] [(.ref a0), (.int (Int32.ofNat i))]))
      obtain ⟨c4, A4, l4⟩ := own_Ar.len A_a0
      refine own_go (fun _ k => X0.arraylength hx (by rw [e0]; exact A4.1) (State.isArrayOf_alike hZ.alike A4.2.1) (g := (mkF m 11 #[.val (.ref a0), .val (.ref a1), .val (.int (Int32.ofNat i))] [(.ref a0), (.int (Int32.ofNat i))])) rfl rfl (hb hby dsleq_11) _ k) ?_
      rw [l4]
      show own_Ends _ _ _ _ _ _ _ (s₁.setTop (mkF m 12 #[.val (.ref a0), .val (.ref a1), .val (.int (Int32.ofNat i))] [(.int (Int32.ofNat nn)), (.int (Int32.ofNat i))]))
      refine own_go (fun _ k => XS.icmpYes X0.here hx rfl (pc0 := 12) (pc' := 32) rfl (hb hby dsleq_12) rfl (flt (own_ige (by omega))).2.1 (by decide) (by decide) k) ?_
      show own_Ends _ _ _ _ _ _ _ (s₁.setTop (mkF m 32 #[.val (.ref a0), .val (.ref a1), .val (.int (Int32.ofNat i))] []))
      refine own_go (fun _ k => XS.iconst X0.here hx rfl (hb hby dsleq_32) k) ?_
      show own_Ends _ _ _ _ _ _ _ (s₁.setTop (mkF m 33 #[.val (.ref a0), .val (.ref a1), .val (.int (Int32.ofNat i))] [(.int (1 : Int32))]))
      exact own_retN X0 hx hlk (t := .boolean) Bd.returns (by simp) (hb hby dsleq_33) (by decide) (by decide) ⟨_, rfl, Or.inl ⟨rfl, by omega, fun j hj => hno j (by omega)⟩, N0, e0⟩
    | succ kk ihk =>
      intro i hi hno
      show own_Ends _ _ _ _ _ _ _ (s₁.setTop (mkF m 9 #[.val (.ref a0), .val (.ref a1), .val (.int (Int32.ofNat i))] []))
      refine own_go (fun _ k => XS.iloadN X0.here hx rfl (hb hby dsleq_9) rfl k) ?_
      show own_Ends _ _ _ _ _ _ _ (s₁.setTop (mkF m 10 #[.val (.ref a0), .val (.ref a1), .val (.int (Int32.ofNat i))] [(.int (Int32.ofNat i))]))
      refine own_go (fun _ k => XS.aloadN X0.here hx rfl (hb hby dsleq_10) rfl rfl k) ?_
      show own_Ends _ _ _ _ _ _ _ (s₁.setTop (mkF m 11 #[.val (.ref a0), .val (.ref a1), .val (.int (Int32.ofNat i))] [(.ref a0), (.int (Int32.ofNat i))]))
      obtain ⟨c5, A5, l5⟩ := own_Ar.len A_a0
      refine own_go (fun _ k => X0.arraylength hx (by rw [e0]; exact A5.1) (State.isArrayOf_alike hZ.alike A5.2.1) (g := (mkF m 11 #[.val (.ref a0), .val (.ref a1), .val (.int (Int32.ofNat i))] [(.ref a0), (.int (Int32.ofNat i))])) rfl rfl (hb hby dsleq_11) _ k) ?_
      rw [l5]
      show own_Ends _ _ _ _ _ _ _ (s₁.setTop (mkF m 12 #[.val (.ref a0), .val (.ref a1), .val (.int (Int32.ofNat i))] [(.int (Int32.ofNat nn)), (.int (Int32.ofNat i))]))
      refine own_go (fun _ k => XS.icmpNo X0.here hx rfl (hb hby dsleq_12) rfl (tlt (own_ilt (by omega) (by omega))).2.1 k) ?_
      show own_Ends _ _ _ _ _ _ _ (s₁.setTop (mkF m 15 #[.val (.ref a0), .val (.ref a1), .val (.int (Int32.ofNat i))] []))
      refine own_go (fun _ k => XS.aloadN X0.here hx rfl (hb hby dsleq_15) rfl rfl k) ?_
      show own_Ends _ _ _ _ _ _ _ (s₁.setTop (mkF m 16 #[.val (.ref a0), .val (.ref a1), .val (.int (Int32.ofNat i))] [(.ref a0)]))
      refine own_go (fun _ k => XS.iloadN X0.here hx rfl (hb hby dsleq_16) rfl k) ?_
      show own_Ends _ _ _ _ _ _ _ (s₁.setTop (mkF m 17 #[.val (.ref a0), .val (.ref a1), .val (.int (Int32.ofNat i))] [(.int (Int32.ofNat i)), (.ref a0)]))
      obtain ⟨c6, A6, i6, v6⟩ := own_Ar.at A_a0 (Int32.ofNat i) (own_nn0 (by omega)) (own_ltn (by omega) (by omega))
      refine own_go (fun _ k => X0.baloadBytes hx (by rw [e0]; exact A6.1) (State.isArrayOf_alike hZ.alike A6.2.1) A6.2.2 i6 v6 (g := (mkF m 17 #[.val (.ref a0), .val (.ref a1), .val (.int (Int32.ofNat i))] [(.int (Int32.ofNat i)), (.ref a0)])) rfl rfl (hb hby dsleq_17) _ k) ?_
      show own_Ends _ _ _ _ _ _ _ (s₁.setTop (mkF m 18 #[.val (.ref a0), .val (.ref a1), .val (.int (Int32.ofNat i))] [(.int (GG ((Int32.ofNat i)).toNatClampNeg))]))
      refine own_go (fun _ k => XS.aloadN X0.here hx rfl (hb hby dsleq_18) rfl rfl k) ?_
      show own_Ends _ _ _ _ _ _ _ (s₁.setTop (mkF m 19 #[.val (.ref a0), .val (.ref a1), .val (.int (Int32.ofNat i))] [(.ref a1), (.int (GG ((Int32.ofNat i)).toNatClampNeg))]))
      refine own_go (fun _ k => XS.iloadN X0.here hx rfl (hb hby dsleq_19) rfl k) ?_
      show own_Ends _ _ _ _ _ _ _ (s₁.setTop (mkF m 20 #[.val (.ref a0), .val (.ref a1), .val (.int (Int32.ofNat i))] [(.int (Int32.ofNat i)), (.ref a1), (.int (GG ((Int32.ofNat i)).toNatClampNeg))]))
      obtain ⟨c7, A7, i7, v7⟩ := own_Ar.at A_a1 (Int32.ofNat i) (own_nn0 (by omega)) (own_ltn (by omega) (by omega))
      refine own_go (fun _ k => X0.baloadBytes hx (by rw [e0]; exact A7.1) (State.isArrayOf_alike hZ.alike A7.2.1) A7.2.2 i7 v7 (g := (mkF m 20 #[.val (.ref a0), .val (.ref a1), .val (.int (Int32.ofNat i))] [(.int (Int32.ofNat i)), (.ref a1), (.int (GG ((Int32.ofNat i)).toNatClampNeg))])) rfl rfl (hb hby dsleq_20) _ k) ?_
      show own_Ends _ _ _ _ _ _ _ (s₁.setTop (mkF m 21 #[.val (.ref a0), .val (.ref a1), .val (.int (Int32.ofNat i))] [(.int (HH ((Int32.ofNat i)).toNatClampNeg)), (.int (GG ((Int32.ofNat i)).toNatClampNeg))]))
      by_cases hc8 : (GG ((Int32.ofNat i)).toNatClampNeg) = (HH ((Int32.ofNat i)).toNatClampNeg)
      · refine own_go (fun _ k => XS.icmpYes X0.here hx rfl (pc0 := 21) (pc' := 26) rfl (hb hby dsleq_21) rfl (teq hc8).1 (by decide) (by decide) k) ?_
        show own_Ends _ _ _ _ _ _ _ (s₁.setTop (mkF m 26 #[.val (.ref a0), .val (.ref a1), .val (.int (Int32.ofNat i))] []))
        refine own_go (fun _ k => XS.iinc X0.here hx rfl (hb hby dsleq_26) rfl (l' := #[.val (.ref a0), .val (.ref a1), .val (.int ((Int32.ofNat i) + (1 : Int32)))]) rfl k) ?_
        show own_Ends _ _ _ _ _ _ _ (s₁.setTop (mkF m 29 #[.val (.ref a0), .val (.ref a1), .val (.int ((Int32.ofNat i) + (1 : Int32)))] []))
        refine own_go (fun _ k => XS.goto X0.here hx rfl (pc0 := 29) (pc' := 9) rfl (hb hby dsleq_29) (by decide) (by decide) k) ?_
        rw [own_succ]
        exact ihk (i + 1) (by omega) (own_grow (by omega) hno hc8)
      · refine own_go (fun _ k => XS.icmpNo X0.here hx rfl (hb hby dsleq_21) rfl (feq hc8).1 k) ?_
        show own_Ends _ _ _ _ _ _ _ (s₁.setTop (mkF m 24 #[.val (.ref a0), .val (.ref a1), .val (.int (Int32.ofNat i))] []))
        refine own_go (fun _ k => XS.iconst X0.here hx rfl (hb hby dsleq_24) k) ?_
        show own_Ends _ _ _ _ _ _ _ (s₁.setTop (mkF m 25 #[.val (.ref a0), .val (.ref a1), .val (.int (Int32.ofNat i))] [(.int (0 : Int32))]))
        exact own_retN X0 hx hlk (t := .boolean) Bd.returns (by simp) (hb hby dsleq_25) (by decide) (by decide) ⟨_, rfl, Or.inr ⟨rfl, own_bad (by omega) (by omega) hc8⟩, N0, e0⟩
  · refine own_go (fun _ k => XS.icmpYes X0.here hx rfl (pc0 := 4) (pc' := 34) rfl (hb hby dsleq_4) rfl (feq hc3).2 (by decide) (by decide) k) ?_
    show own_Ends _ _ _ _ _ _ _ (s₁.setTop (mkF m 34 #[.val (.ref a0), .val (.ref a1), .unset] []))
    refine own_go (fun _ k => XS.iconst X0.here hx rfl (hb hby dsleq_34) k) ?_
    show own_Ends _ _ _ _ _ _ _ (s₁.setTop (mkF m 35 #[.val (.ref a0), .val (.ref a1), .unset] [(.int (0 : Int32))]))
    exact own_retN X0 hx hlk (t := .boolean) Bd.returns (by simp) (hb hby dsleq_35) (by decide) (by decide) ⟨_, rfl, Or.inr ⟨rfl, fun q => hc3 (by rw [q.1])⟩, N0, e0⟩
theorem dstreq_0 : decode jdk_42_method_66_code 0 = .ok (.aload_n 0, 1) := by decide +kernel
theorem dstreq_1 : decode jdk_42_method_66_code 1 = .ok (.aload_n 1, 1) := by decide +kernel
theorem dstreq_2 : decode jdk_42_method_66_code 2 = .ok (.if_acmp .ne 5, 3) := by decide +kernel
theorem dstreq_5 : decode jdk_42_method_66_code 5 = .ok (.iconst 1, 1) := by decide +kernel
theorem dstreq_6 : decode jdk_42_method_66_code 6 = .ok (.ireturn, 1) := by decide +kernel
theorem dstreq_7 : decode jdk_42_method_66_code 7 = .ok (.aload_n 1, 1) := by decide +kernel
theorem dstreq_8 : decode jdk_42_method_66_code 8 = .ok (.instanceof 10, 3) := by decide +kernel
theorem dstreq_11 : decode jdk_42_method_66_code 11 = .ok (.ifCond .eq 43, 3) := by decide +kernel
theorem dstreq_14 : decode jdk_42_method_66_code 14 = .ok (.aload_n 1, 1) := by decide +kernel
theorem dstreq_15 : decode jdk_42_method_66_code 15 = .ok (.checkcast 10, 3) := by decide +kernel
theorem dstreq_18 : decode jdk_42_method_66_code 18 = .ok (.astore_n 2, 1) := by decide +kernel
theorem dstreq_19 : decode jdk_42_method_66_code 19 = .ok (.getstatic 38, 3) := by decide +kernel
theorem dstreq_22 : decode jdk_42_method_66_code 22 = .ok (.ifCond .eq 14, 3) := by decide +kernel
theorem dstreq_25 : decode jdk_42_method_66_code 25 = .ok (.aload_n 0, 1) := by decide +kernel
theorem dstreq_26 : decode jdk_42_method_66_code 26 = .ok (.getfield 15, 3) := by decide +kernel
theorem dstreq_29 : decode jdk_42_method_66_code 29 = .ok (.aload_n 2, 1) := by decide +kernel
theorem dstreq_30 : decode jdk_42_method_66_code 30 = .ok (.getfield 15, 3) := by decide +kernel
theorem dstreq_33 : decode jdk_42_method_66_code 33 = .ok (.if_icmp .ne 21, 3) := by decide +kernel
theorem dstreq_36 : decode jdk_42_method_66_code 36 = .ok (.aload_n 0, 1) := by decide +kernel
theorem dstreq_37 : decode jdk_42_method_66_code 37 = .ok (.getfield 9, 3) := by decide +kernel
theorem dstreq_40 : decode jdk_42_method_66_code 40 = .ok (.aload_n 2, 1) := by decide +kernel
theorem dstreq_41 : decode jdk_42_method_66_code 41 = .ok (.getfield 9, 3) := by decide +kernel
theorem dstreq_44 : decode jdk_42_method_66_code 44 = .ok (.invokestatic 541, 3) := by decide +kernel
theorem dstreq_47 : decode jdk_42_method_66_code 47 = .ok (.ifCond .eq 7, 3) := by decide +kernel
theorem dstreq_50 : decode jdk_42_method_66_code 50 = .ok (.iconst 1, 1) := by decide +kernel
theorem dstreq_51 : decode jdk_42_method_66_code 51 = .ok (.goto 4, 3) := by decide +kernel
theorem dstreq_54 : decode jdk_42_method_66_code 54 = .ok (.iconst 0, 1) := by decide +kernel
theorem dstreq_55 : decode jdk_42_method_66_code 55 = .ok (.ireturn, 1) := by decide +kernel
theorem pnstreq : plainName "java/lang/String" = true := by first | (simp [plainName, overriddenIn]; done) | decide +kernel
theorem pdstreq_0 : parseMethodDescriptor "([B[B)Z" = some ⟨[(.array .byte), (.array .byte)], some .boolean⟩ := by decide +kernel
theorem efstreq (m : MethodId) (a0 : Addr) (a1 : Addr) : entryFrame m #[(.ref a0), (.ref a1)] 3 = mkF m 0 #[.val (.ref a0), .val (.ref a1), .unset] [] := by first | (simp [entryFrame, mkF, argsToLocals, Value.category]; done) | rfl
def Qstreq (Z : State) (a0 : Addr) (a1 : Addr) (nn : Nat) (GG : Nat → Int32) (mm : Nat) (HH : Nat → Int32) (w_COMPACT_STRINGS : Int32) (h0 : Heap) (n0 : Nat) (v : Option Value) (h : Heap) (L : List Loc) : Prop := ∃ z : Int32, v = some (.int z) ∧ own_ans z (own_eq nn mm GG HH) ∧ Fr n0 L ∧ h = h0
set_option maxRecDepth 65536 in
set_option maxHeartbeats 40000000 in
theorem rmstreq (l : Launch) (Z : State) (ar : Array Value) (hw : ∀ d ∈ tables_1, d.before ar Z = true) (ws : List Jvm.Cond) (a0 : Addr) (a1 : Addr) (nn : Nat) (GG : Nat → Int32) (mm : Nat) (HH : Nat → Int32) (w_COMPACT_STRINGS : Int32) (h0 : Heap) (n0 : Nat) (O0 : Old Z n0 h0) (T_a0 : own_Str Z h0 a0 nn GG) (T_a1 : own_Str Z h0 a1 mm HH) (hl : nn < 1000 ∧ mm < 1000) (hCS : ¬ w_COMPACT_STRINGS = (0 : Int32)) (S_COMPACT_STRINGS : Sta Z Z.heap "java/lang/String" "COMPACT_STRINGS" "Z" (.int w_COMPACT_STRINGS)) :
    MetFree l (⟨"java/lang/String", "equals", "(Ljava/lang/Object;)Z"⟩ : MethodName) (head1 (Jvm.Cond.code (⟨"java/lang/String", "equals", "(Ljava/lang/Object;)Z"⟩ : MethodName) jdk_42_method_66_code 3 (some .boolean) :: ws) ({ frames := 1, cells := 0, slots := 0, locals := 14 } : Room)) (fun a U => a = #[(.ref a0), (.ref a1)] ∧ Z.Warmed39 U.vm ∧ U.heap = h0) (fun _ _ _ _ _ => True) (fun _ U o U' => ∃ v L, o = .returned v ∧ Qstreq Z a0 a1 nn GG mm HH w_COMPACT_STRINGS h0 n0 v U'.heap L ∧ FrameEnd U o U' L ({ frames := 1, cells := 0, slots := 0, locals := 14 } : Room).cells ({ frames := 1, cells := 0, slots := 0, locals := 14 } : Room).slots) := by
  refine MetFree.of_bodySF (plainFor_of_name pnstreq) hisR ?_
  intro p e s m args below meth c s₁ Bd hml0 hP hK
  obtain ⟨rfl, hZ, hh⟩ := hP
  have hx := Bd.exec
  have hby := Bd.bytes
  have hml : c.maxLocals = 3 := hml0
  have hown : s.vm.findClass "java/lang/String" = some m.cls := findClass_of_methodNamed Bd.named
  have hnm := (name_of_methodNamed Bd.named Bd.method).1
  have hlk : meth.locks = false := BodyLoose.notSynchronized Bd
  have X0 : Stand p l e ({ frames := 1, cells := 0, slots := 0, locals := 14 } : Room) s m #[(.ref a0), (.ref a1)] below meth c s₁ [] 0 0 := Stand.of_body Bd
  have e0 : s₁.heap = h0 := by rw [← hh, Bd.state]; rfl
  have N0 := Fr.nil n0
  suffices hmain : own_Ends p e below s (Qstreq Z a0 a1 nn GG mm HH w_COMPACT_STRINGS h0 n0) 0 0 (s₁.setTop (mkF m 0 #[.val (.ref a0), .val (.ref a1), .unset] [])) by
    obtain ⟨U, o, h1, r⟩ := hmain
    exact ⟨U, o, castTop (efstreq m a0 a1) h1, r⟩
  have q_a0 := T_a0
  obtain ⟨E_a0, Fc_a0, vb_a0, Fv_a0, Av_a0⟩ := q_a0
  have q_a1 := T_a1
  obtain ⟨E_a1, Fc_a1, vb_a1, Fv_a1, Av_a1⟩ := q_a1
  show own_Ends _ _ _ _ _ _ _ (s₁.setTop (mkF m 0 #[.val (.ref a0), .val (.ref a1), .unset] []))
  refine own_go (fun _ k => XS.aloadN X0.here hx rfl (hb hby dstreq_0) rfl rfl k) ?_
  show own_Ends _ _ _ _ _ _ _ (s₁.setTop (mkF m 1 #[.val (.ref a0), .val (.ref a1), .unset] [(.ref a0)]))
  refine own_go (fun _ k => XS.aloadN X0.here hx rfl (hb hby dstreq_1) rfl rfl k) ?_
  show own_Ends _ _ _ _ _ _ _ (s₁.setTop (mkF m 2 #[.val (.ref a0), .val (.ref a1), .unset] [(.ref a1), (.ref a0)]))
  by_cases ha1 : a0 = a1
  · refine own_go (fun _ k => Jvm.RoadKit.acmp (g := (mkF m 2 #[.val (.ref a0), .val (.ref a1), .unset] [(.ref a1), (.ref a0)])) X0 hx rfl rfl rfl (pc0 := 2) (pc' := 5) (same := true) rfl (hb hby dstreq_2) rfl (decide_eq_true (congrArg Value.ref ha1)) (by decide) (by decide) k) ?_
    show own_Ends _ _ _ _ _ _ _ (s₁.setTop (mkF m 5 #[.val (.ref a0), .val (.ref a1), .unset] []))
    refine own_go (fun _ k => XS.iconst X0.here hx rfl (hb hby dstreq_5) k) ?_
    show own_Ends _ _ _ _ _ _ _ (s₁.setTop (mkF m 6 #[.val (.ref a0), .val (.ref a1), .unset] [(.int (1 : Int32))]))
    exact own_retN X0 hx hlk (t := .boolean) Bd.returns (by simp) (hb hby dstreq_6) (by decide) (by decide) ⟨_, rfl, Or.inl ⟨rfl, by subst ha1; exact own_Str.same T_a0 T_a1⟩, N0, e0⟩
  · refine own_go (fun _ k => Jvm.RoadKit.acmp (g := (mkF m 2 #[.val (.ref a0), .val (.ref a1), .unset] [(.ref a1), (.ref a0)])) X0 hx rfl rfl rfl (pc0 := 2) (pc' := 7) (same := false) rfl (hb hby dstreq_2) rfl (decide_eq_false fun q => ha1 (Value.ref.inj q)) (by decide) (by decide) k) ?_
    show own_Ends _ _ _ _ _ _ _ (s₁.setTop (mkF m 7 #[.val (.ref a0), .val (.ref a1), .unset] []))
    refine own_go (fun _ k => XS.aloadN X0.here hx rfl (hb hby dstreq_7) rfl rfl k) ?_
    show own_Ends _ _ _ _ _ _ _ (s₁.setTop (mkF m 8 #[.val (.ref a0), .val (.ref a1), .unset] [(.ref a1)]))
    obtain ⟨T2, X2, e2, st2⟩ := instY X0 hx hZ hown (hw _ (List.mem_of_getElem? (i := 75) rfl)) e0 (Ins.self E_a1) (g := (mkF m 8 #[.val (.ref a0), .val (.ref a1), .unset] [(.ref a1)])) rfl rfl (hb hby dstreq_8)
    refine own_go (fun _ k => st2 _ k) ?_
    show own_Ends _ _ _ _ _ _ _ (T2.setTop (mkF m 11 #[.val (.ref a0), .val (.ref a1), .unset] [(.int (1 : Int32))]))
    refine own_go (fun _ k => XS.ifNo X2.here hx rfl (hb hby dstreq_11) rfl ((if0 _ _).trans (feq (by decide)).1) k) ?_
    show own_Ends _ _ _ _ _ _ _ (T2.setTop (mkF m 14 #[.val (.ref a0), .val (.ref a1), .unset] []))
    refine own_go (fun _ k => XS.aloadN X2.here hx rfl (hb hby dstreq_14) rfl rfl k) ?_
    show own_Ends _ _ _ _ _ _ _ (T2.setTop (mkF m 15 #[.val (.ref a0), .val (.ref a1), .unset] [(.ref a1)]))
    obtain ⟨T3, X3, e3, st3⟩ := castY X2 hx hZ hown (hw _ (List.mem_of_getElem? (i := 75) rfl)) e2 (Ins.self E_a1) (g := (mkF m 15 #[.val (.ref a0), .val (.ref a1), .unset] [(.ref a1)])) rfl rfl (hb hby dstreq_15)
    refine own_go (fun _ k => st3 _ k) ?_
    show own_Ends _ _ _ _ _ _ _ (T3.setTop (mkF m 18 #[.val (.ref a0), .val (.ref a1), .unset] [(.ref a1)]))
    refine own_go (fun _ k => XS.astoreN X3.here hx rfl (hb hby dstreq_18) rfl rfl (l' := #[.val (.ref a0), .val (.ref a1), .val (.ref a1)]) rfl k) ?_
    show own_Ends _ _ _ _ _ _ _ (T3.setTop (mkF m 19 #[.val (.ref a0), .val (.ref a1), .val (.ref a1)] []))
    obtain ⟨T4, X4, e4, st4⟩ := getS2 X3 hx hZ hown (host := "") (Or.inl (hw _ (List.mem_of_getElem? (i := 29) rfl))) Via.refl e3 (Sta.ext (own_ext O0) S_COMPACT_STRINGS) (g := (mkF m 19 #[.val (.ref a0), .val (.ref a1), .val (.ref a1)] [])) rfl (hb hby dstreq_19)
    refine own_go (fun _ k => st4 _ k) ?_
    show own_Ends _ _ _ _ _ _ _ (T4.setTop (mkF m 22 #[.val (.ref a0), .val (.ref a1), .val (.ref a1)] [(.int w_COMPACT_STRINGS)]))
    refine own_go (fun _ k => XS.ifNo X4.here hx rfl (hb hby dstreq_22) rfl ((if0 _ _).trans (feq hCS).1) k) ?_
    show own_Ends _ _ _ _ _ _ _ (T4.setTop (mkF m 25 #[.val (.ref a0), .val (.ref a1), .val (.ref a1)] []))
    refine own_go (fun _ k => XS.aloadN X4.here hx rfl (hb hby dstreq_25) rfl rfl k) ?_
    show own_Ends _ _ _ _ _ _ _ (T4.setTop (mkF m 26 #[.val (.ref a0), .val (.ref a1), .val (.ref a1)] [(.ref a0)]))
    obtain ⟨T5, X5, e5, st5⟩ := getF X4 hx hZ hown (host := "") (Or.inl (hw _ (List.mem_of_getElem? (i := 28) rfl))) Via.refl e4 Fc_a0 (g := (mkF m 26 #[.val (.ref a0), .val (.ref a1), .val (.ref a1)] [(.ref a0)])) rfl rfl (hb hby dstreq_26)
    refine own_go (fun _ k => st5 _ k) ?_
    show own_Ends _ _ _ _ _ _ _ (T5.setTop (mkF m 29 #[.val (.ref a0), .val (.ref a1), .val (.ref a1)] [(.int (0 : Int32))]))
    refine own_go (fun _ k => XS.aloadN X5.here hx rfl (hb hby dstreq_29) rfl rfl k) ?_
    show own_Ends _ _ _ _ _ _ _ (T5.setTop (mkF m 30 #[.val (.ref a0), .val (.ref a1), .val (.ref a1)] [(.ref a1), (.int (0 : Int32))]))
    obtain ⟨T6, X6, e6, st6⟩ := getF X5 hx hZ hown (host := "") (Or.inl (hw _ (List.mem_of_getElem? (i := 28) rfl))) Via.refl e5 Fc_a1 (g := (mkF m 30 #[.val (.ref a0), .val (.ref a1), .val (.ref a1)] [(.ref a1), (.int (0 : Int32))])) rfl rfl (hb hby dstreq_30)
    refine own_go (fun _ k => st6 _ k) ?_
    show own_Ends _ _ _ _ _ _ _ (T6.setTop (mkF m 33 #[.val (.ref a0), .val (.ref a1), .val (.ref a1)] [(.int (0 : Int32)), (.int (0 : Int32))]))
    refine own_go (fun _ k => XS.icmpNo X6.here hx rfl (hb hby dstreq_33) rfl (teq (by decide)).2 k) ?_
    show own_Ends _ _ _ _ _ _ _ (T6.setTop (mkF m 36 #[.val (.ref a0), .val (.ref a1), .val (.ref a1)] []))
    refine own_go (fun _ k => XS.aloadN X6.here hx rfl (hb hby dstreq_36) rfl rfl k) ?_
    show own_Ends _ _ _ _ _ _ _ (T6.setTop (mkF m 37 #[.val (.ref a0), .val (.ref a1), .val (.ref a1)] [(.ref a0)]))
    obtain ⟨T7, X7, e7, st7⟩ := getF X6 hx hZ hown (host := "") (Or.inl (hw _ (List.mem_of_getElem? (i := 27) rfl))) Via.refl e6 Fv_a0 (g := (mkF m 37 #[.val (.ref a0), .val (.ref a1), .val (.ref a1)] [(.ref a0)])) rfl rfl (hb hby dstreq_37)
    refine own_go (fun _ k => st7 _ k) ?_
    show own_Ends _ _ _ _ _ _ _ (T7.setTop (mkF m 40 #[.val (.ref a0), .val (.ref a1), .val (.ref a1)] [(.ref vb_a0)]))
    refine own_go (fun _ k => XS.aloadN X7.here hx rfl (hb hby dstreq_40) rfl rfl k) ?_
    show own_Ends _ _ _ _ _ _ _ (T7.setTop (mkF m 41 #[.val (.ref a0), .val (.ref a1), .val (.ref a1)] [(.ref a1), (.ref vb_a0)]))
    obtain ⟨T8, X8, e8, st8⟩ := getF X7 hx hZ hown (host := "") (Or.inl (hw _ (List.mem_of_getElem? (i := 27) rfl))) Via.refl e7 Fv_a1 (g := (mkF m 41 #[.val (.ref a0), .val (.ref a1), .val (.ref a1)] [(.ref a1), (.ref vb_a0)])) rfl rfl (hb hby dstreq_41)
    refine own_go (fun _ k => st8 _ k) ?_
    show own_Ends _ _ _ _ _ _ _ (T8.setTop (mkF m 44 #[.val (.ref a0), .val (.ref a1), .val (.ref a1)] [(.ref vb_a1), (.ref vb_a0)]))
    obtain ⟨_, _, ⟨T9, L9, k9, n9⟩, -, X9, ⟨Lc9, hQ9, l9, y9, z9⟩, st9⟩ := Jvm.LawKit.callS X8 hx (y := (⟨"java/lang/StringLatin1", "equals", "([B[B)Z"⟩ : MethodName)) hown (mvT hZ (hw _ (List.mem_of_getElem? (i := 76) rfl))) (mvT hZ (hw _ (List.mem_of_getElem? (i := 77) rfl))) (mvT hZ (hw _ (List.mem_of_getElem? (i := 78) rfl))) (mvT hZ (hw _ (List.mem_of_getElem? (i := 79) rfl))) (by decide) (backOf (W := 0) (rmsleq l Z ar hw [] vb_a0 vb_a1 nn GG mm HH h0 n0 O0 Av_a0 Av_a1 hl) hZ (hw _ (List.mem_of_getElem? (i := 79) rfl)) (hw _ (List.mem_of_getElem? (i := 78) rfl)) (by decide) (by decide)) (g := (mkF m 44 #[.val (.ref a0), .val (.ref a1), .val (.ref a1)] [(.ref vb_a1), (.ref vb_a0)])) rfl (by rw [hml]; rfl) (argsL := [(.ref vb_a0), (.ref vb_a1)]) (rest := []) (lenOf pdstreq_0 rfl) rfl (by show 2 * 0 + _ ≤ _; exact Nat.le_of_eq rfl) (hb hby dstreq_44) (fun _ _ => ⟨rfl, e8, (by decide : 0 + 0 ≤ _), (by decide : 0 + 0 ≤ _)⟩)
    dsimp only [Pt.U, Pt.locs, Pt.cells, Pt.slots] at X9 l9 y9 z9 st9 hQ9
    subst l9 y9 z9
    obtain ⟨z9, rfl, hz9, N9q, eq9⟩ := hQ9
    have e9 : T9.heap = h0 := eq9
    have N9 := Fr.app N0 N9q
    refine own_go (fun _ k => st9 _ k) ?_
    show own_Ends _ _ _ _ _ _ _ (T9.setTop (mkF m 47 #[.val (.ref a0), .val (.ref a1), .val (.ref a1)] [(.int z9)]))
    by_cases hc10 : z9 = (0 : Int32)
    · refine own_go (fun _ k => XS.ifYes X9.here hx rfl (pc0 := 47) (pc' := 54) rfl (hb hby dstreq_47) rfl ((if0 _ _).trans (teq hc10).1) (by decide) (by decide) k) ?_
      show own_Ends _ _ _ _ _ _ _ (T9.setTop (mkF m 54 #[.val (.ref a0), .val (.ref a1), .val (.ref a1)] []))
      refine own_go (fun _ k => XS.iconst X9.here hx rfl (hb hby dstreq_54) k) ?_
      show own_Ends _ _ _ _ _ _ _ (T9.setTop (mkF m 55 #[.val (.ref a0), .val (.ref a1), .val (.ref a1)] [(.int (0 : Int32))]))
      exact own_retN X9 hx hlk (t := .boolean) Bd.returns (by simp) (hb hby dstreq_55) (by decide) (by decide) ⟨_, rfl, Or.inr ⟨rfl, own_ans.neg hz9 hc10⟩, N9, e9⟩
    · refine own_go (fun _ k => XS.ifNo X9.here hx rfl (hb hby dstreq_47) rfl ((if0 _ _).trans (feq hc10).1) k) ?_
      show own_Ends _ _ _ _ _ _ _ (T9.setTop (mkF m 50 #[.val (.ref a0), .val (.ref a1), .val (.ref a1)] []))
      refine own_go (fun _ k => XS.iconst X9.here hx rfl (hb hby dstreq_50) k) ?_
      show own_Ends _ _ _ _ _ _ _ (T9.setTop (mkF m 51 #[.val (.ref a0), .val (.ref a1), .val (.ref a1)] [(.int (1 : Int32))]))
      refine own_go (fun _ k => XS.goto X9.here hx rfl (pc0 := 51) (pc' := 55) rfl (hb hby dstreq_51) (by decide) (by decide) k) ?_
      show own_Ends _ _ _ _ _ _ _ (T9.setTop (mkF m 55 #[.val (.ref a0), .val (.ref a1), .val (.ref a1)] [(.int (1 : Int32))]))
      exact own_retN X9 hx hlk (t := .boolean) Bd.returns (by simp) (hb hby dstreq_55) (by decide) (by decide) ⟨_, rfl, Or.inl ⟨rfl, own_ans.pos hz9 hc10⟩, N9, e9⟩
theorem dkey_0 : decode method_3_code 0 = .ok (.iload_n 0, 1) := by decide +kernel
theorem dkey_1 : decode method_3_code 1 = .ok (.iconst 3, 1) := by decide +kernel
theorem dkey_2 : decode method_3_code 2 = .ok (.iand, 1) := by decide +kernel
theorem dkey_3 : decode method_3_code 3 = .ok (.istore_n 1, 1) := by decide +kernel
theorem dkey_4 : decode method_3_code 4 = .ok (.iload_n 1, 1) := by decide +kernel
theorem dkey_5 : decode method_3_code 5 = .ok (.ifCond .ne 5, 3) := by decide +kernel
theorem dkey_8 : decode method_3_code 8 = .ok (.iconst 0, 1) := by decide +kernel
theorem dkey_9 : decode method_3_code 9 = .ok (.ireturn, 1) := by decide +kernel
theorem dkey_10 : decode method_3_code 10 = .ok (.iload_n 1, 1) := by decide +kernel
theorem dkey_11 : decode method_3_code 11 = .ok (.iconst 1, 1) := by decide +kernel
theorem dkey_12 : decode method_3_code 12 = .ok (.if_icmp .ne 9, 3) := by decide +kernel
theorem dkey_15 : decode method_3_code 15 = .ok (.iload_n 0, 1) := by decide +kernel
theorem dkey_16 : decode method_3_code 16 = .ok (.sipush 1023, 3) := by decide +kernel
theorem dkey_19 : decode method_3_code 19 = .ok (.iand, 1) := by decide +kernel
theorem dkey_20 : decode method_3_code 20 = .ok (.ireturn, 1) := by decide +kernel
theorem dkey_21 : decode method_3_code 21 = .ok (.iload_n 1, 1) := by decide +kernel
theorem dkey_22 : decode method_3_code 22 = .ok (.iconst 2, 1) := by decide +kernel
theorem dkey_23 : decode method_3_code 23 = .ok (.if_icmp .ne 8, 3) := by decide +kernel
theorem dkey_26 : decode method_3_code 26 = .ok (.iload_n 0, 1) := by decide +kernel
theorem dkey_27 : decode method_3_code 27 = .ok (.ldc 12, 2) := by decide +kernel
theorem dkey_29 : decode method_3_code 29 = .ok (.iand, 1) := by decide +kernel
theorem dkey_30 : decode method_3_code 30 = .ok (.ireturn, 1) := by decide +kernel
theorem dkey_31 : decode method_3_code 31 = .ok (.iload_n 0, 1) := by decide +kernel
theorem dkey_32 : decode method_3_code 32 = .ok (.ldc 13, 2) := by decide +kernel
theorem dkey_34 : decode method_3_code 34 = .ok (.iand, 1) := by decide +kernel
theorem dkey_35 : decode method_3_code 35 = .ok (.ireturn, 1) := by decide +kernel
theorem pnkey : plainName "com/example/shallow_history/shallowhistory/policy/MethodReferenceEqualsPinLaw" = true := by first | (simp [plainName, overriddenIn]; done) | decide +kernel
theorem efkey (m : MethodId) (p0 : Int32) : entryFrame m #[(.int p0)] 2 = mkF m 0 #[.val (.int p0), .unset] [] := by first | (simp [entryFrame, mkF, argsToLocals, Value.category]; done) | rfl
def fkey (p0 : Int32) : Int32 := (if (p0 &&& (3 : Int32)) = (0 : Int32) then (0 : Int32) else (if (p0 &&& (3 : Int32)) = (1 : Int32) then (p0 &&& (1023 : Int32)) else (if (p0 &&& (3 : Int32)) = (2 : Int32) then (p0 &&& (262143 : Int32)) else (p0 &&& (67108863 : Int32)))))
def Qkey (Z : State) (p0 : Int32) (h0 : Heap) (n0 : Nat) (v : Option Value) (h : Heap) (L : List Loc) : Prop := v = some (.int (fkey p0)) ∧ Fr n0 L ∧ h = h0
set_option maxRecDepth 65536 in
set_option maxHeartbeats 40000000 in
theorem rmkey (l : Launch) (Z : State) (ar : Array Value) (hw : ∀ d ∈ tables_1, d.before ar Z = true) (ws : List Jvm.Cond) (p0 : Int32) (h0 : Heap) (n0 : Nat) (O0 : Old Z n0 h0) :
    MetFree l (⟨"com/example/shallow_history/shallowhistory/policy/MethodReferenceEqualsPinLaw", "key", "(I)I"⟩ : MethodName) (head1 (Jvm.Cond.code (⟨"com/example/shallow_history/shallowhistory/policy/MethodReferenceEqualsPinLaw", "key", "(I)I"⟩ : MethodName) method_3_code 2 (some .int) :: ws) ({ frames := 0, cells := 0, slots := 0, locals := 0 } : Room)) (fun a U => a = #[(.int p0)] ∧ Z.Warmed39 U.vm ∧ U.heap = h0) (fun _ _ _ _ _ => True) (fun _ U o U' => ∃ v L, o = .returned v ∧ Qkey Z p0 h0 n0 v U'.heap L ∧ FrameEnd U o U' L ({ frames := 0, cells := 0, slots := 0, locals := 0 } : Room).cells ({ frames := 0, cells := 0, slots := 0, locals := 0 } : Room).slots) := by
  refine MetFree.of_bodySF (plainFor_of_name pnkey) hisR ?_
  intro p e s m args below meth c s₁ Bd hml0 hP hK
  obtain ⟨rfl, hZ, hh⟩ := hP
  have hx := Bd.exec
  have hby := Bd.bytes
  have hml : c.maxLocals = 2 := hml0
  have hown : s.vm.findClass "com/example/shallow_history/shallowhistory/policy/MethodReferenceEqualsPinLaw" = some m.cls := findClass_of_methodNamed Bd.named
  have hnm := (name_of_methodNamed Bd.named Bd.method).1
  have hlk : meth.locks = false := BodyLoose.notSynchronized Bd
  have X0 : Stand p l e ({ frames := 0, cells := 0, slots := 0, locals := 0 } : Room) s m #[(.int p0)] below meth c s₁ [] 0 0 := Stand.of_body Bd
  have e0 : s₁.heap = h0 := by rw [← hh, Bd.state]; rfl
  have N0 := Fr.nil n0
  suffices hmain : own_Ends p e below s (Qkey Z p0 h0 n0) 0 0 (s₁.setTop (mkF m 0 #[.val (.int p0), .unset] [])) by
    obtain ⟨U, o, h1, r⟩ := hmain
    exact ⟨U, o, castTop (efkey m p0) h1, r⟩
  show own_Ends _ _ _ _ _ _ _ (s₁.setTop (mkF m 0 #[.val (.int p0), .unset] []))
  refine own_go (fun _ k => XS.iloadN X0.here hx rfl (hb hby dkey_0) rfl k) ?_
  show own_Ends _ _ _ _ _ _ _ (s₁.setTop (mkF m 1 #[.val (.int p0), .unset] [(.int p0)]))
  refine own_go (fun _ k => XS.iconst X0.here hx rfl (hb hby dkey_1) k) ?_
  show own_Ends _ _ _ _ _ _ _ (s₁.setTop (mkF m 2 #[.val (.int p0), .unset] [(.int (3 : Int32)), (.int p0)]))
  refine own_go (fun _ k => XS.iand X0.here hx rfl (hb hby dkey_2) rfl k) ?_
  show own_Ends _ _ _ _ _ _ _ (s₁.setTop (mkF m 3 #[.val (.int p0), .unset] [(.int (p0 &&& (3 : Int32)))]))
  refine own_go (fun _ k => XS.istoreN X0.here hx rfl (hb hby dkey_3) rfl (l' := #[.val (.int p0), .val (.int (p0 &&& (3 : Int32)))]) rfl k) ?_
  show own_Ends _ _ _ _ _ _ _ (s₁.setTop (mkF m 4 #[.val (.int p0), .val (.int (p0 &&& (3 : Int32)))] []))
  refine own_go (fun _ k => XS.iloadN X0.here hx rfl (hb hby dkey_4) rfl k) ?_
  show own_Ends _ _ _ _ _ _ _ (s₁.setTop (mkF m 5 #[.val (.int p0), .val (.int (p0 &&& (3 : Int32)))] [(.int (p0 &&& (3 : Int32)))]))
  by_cases hc1 : (p0 &&& (3 : Int32)) = (0 : Int32)
  · refine own_go (fun _ k => XS.ifNo X0.here hx rfl (hb hby dkey_5) rfl ((if0 _ _).trans (teq hc1).2) k) ?_
    show own_Ends _ _ _ _ _ _ _ (s₁.setTop (mkF m 8 #[.val (.int p0), .val (.int (p0 &&& (3 : Int32)))] []))
    refine own_go (fun _ k => XS.iconst X0.here hx rfl (hb hby dkey_8) k) ?_
    show own_Ends _ _ _ _ _ _ _ (s₁.setTop (mkF m 9 #[.val (.int p0), .val (.int (p0 &&& (3 : Int32)))] [(.int (0 : Int32))]))
    exact own_retI X0 hx hlk Bd.returns (hb hby dkey_9) (by decide) (by decide) ⟨congrArg (fun z => some (Value.int z)) (by exact ((if_pos hc1)).symm), N0, e0⟩
  · refine own_go (fun _ k => XS.ifYes X0.here hx rfl (pc0 := 5) (pc' := 10) rfl (hb hby dkey_5) rfl ((if0 _ _).trans (feq hc1).2) (by decide) (by decide) k) ?_
    show own_Ends _ _ _ _ _ _ _ (s₁.setTop (mkF m 10 #[.val (.int p0), .val (.int (p0 &&& (3 : Int32)))] []))
    refine own_go (fun _ k => XS.iloadN X0.here hx rfl (hb hby dkey_10) rfl k) ?_
    show own_Ends _ _ _ _ _ _ _ (s₁.setTop (mkF m 11 #[.val (.int p0), .val (.int (p0 &&& (3 : Int32)))] [(.int (p0 &&& (3 : Int32)))]))
    refine own_go (fun _ k => XS.iconst X0.here hx rfl (hb hby dkey_11) k) ?_
    show own_Ends _ _ _ _ _ _ _ (s₁.setTop (mkF m 12 #[.val (.int p0), .val (.int (p0 &&& (3 : Int32)))] [(.int (1 : Int32)), (.int (p0 &&& (3 : Int32)))]))
    by_cases hc2 : (p0 &&& (3 : Int32)) = (1 : Int32)
    · refine own_go (fun _ k => XS.icmpNo X0.here hx rfl (hb hby dkey_12) rfl (teq hc2).2 k) ?_
      show own_Ends _ _ _ _ _ _ _ (s₁.setTop (mkF m 15 #[.val (.int p0), .val (.int (p0 &&& (3 : Int32)))] []))
      refine own_go (fun _ k => XS.iloadN X0.here hx rfl (hb hby dkey_15) rfl k) ?_
      show own_Ends _ _ _ _ _ _ _ (s₁.setTop (mkF m 16 #[.val (.int p0), .val (.int (p0 &&& (3 : Int32)))] [(.int p0)]))
      refine own_go (fun _ k => XS.sipush X0.here hx rfl (hb hby dkey_16) k) ?_
      show own_Ends _ _ _ _ _ _ _ (s₁.setTop (mkF m 19 #[.val (.int p0), .val (.int (p0 &&& (3 : Int32)))] [(.int (1023 : Int32)), (.int p0)]))
      refine own_go (fun _ k => XS.iand X0.here hx rfl (hb hby dkey_19) rfl k) ?_
      show own_Ends _ _ _ _ _ _ _ (s₁.setTop (mkF m 20 #[.val (.int p0), .val (.int (p0 &&& (3 : Int32)))] [(.int (p0 &&& (1023 : Int32)))]))
      exact own_retI X0 hx hlk Bd.returns (hb hby dkey_20) (by decide) (by decide) ⟨congrArg (fun z => some (Value.int z)) (by exact (((if_neg hc1).trans (if_pos hc2))).symm), N0, e0⟩
    · refine own_go (fun _ k => XS.icmpYes X0.here hx rfl (pc0 := 12) (pc' := 21) rfl (hb hby dkey_12) rfl (feq hc2).2 (by decide) (by decide) k) ?_
      show own_Ends _ _ _ _ _ _ _ (s₁.setTop (mkF m 21 #[.val (.int p0), .val (.int (p0 &&& (3 : Int32)))] []))
      refine own_go (fun _ k => XS.iloadN X0.here hx rfl (hb hby dkey_21) rfl k) ?_
      show own_Ends _ _ _ _ _ _ _ (s₁.setTop (mkF m 22 #[.val (.int p0), .val (.int (p0 &&& (3 : Int32)))] [(.int (p0 &&& (3 : Int32)))]))
      refine own_go (fun _ k => XS.iconst X0.here hx rfl (hb hby dkey_22) k) ?_
      show own_Ends _ _ _ _ _ _ _ (s₁.setTop (mkF m 23 #[.val (.int p0), .val (.int (p0 &&& (3 : Int32)))] [(.int (2 : Int32)), (.int (p0 &&& (3 : Int32)))]))
      by_cases hc3 : (p0 &&& (3 : Int32)) = (2 : Int32)
      · refine own_go (fun _ k => XS.icmpNo X0.here hx rfl (hb hby dkey_23) rfl (teq hc3).2 k) ?_
        show own_Ends _ _ _ _ _ _ _ (s₁.setTop (mkF m 26 #[.val (.int p0), .val (.int (p0 &&& (3 : Int32)))] []))
        refine own_go (fun _ k => XS.iloadN X0.here hx rfl (hb hby dkey_26) rfl k) ?_
        show own_Ends _ _ _ _ _ _ _ (s₁.setTop (mkF m 27 #[.val (.int p0), .val (.int (p0 &&& (3 : Int32)))] [(.int p0)]))
        refine own_go (fun _ k => X0.ldcInt hx hown (mvT hZ (hw _ (List.mem_of_getElem? (i := 62) rfl))) (g := (mkF m 27 #[.val (.int p0), .val (.int (p0 &&& (3 : Int32)))] [(.int p0)])) rfl (hb hby dkey_27) _ k) ?_
        show own_Ends _ _ _ _ _ _ _ (s₁.setTop (mkF m 29 #[.val (.int p0), .val (.int (p0 &&& (3 : Int32)))] [(.int (262143 : Int32)), (.int p0)]))
        refine own_go (fun _ k => XS.iand X0.here hx rfl (hb hby dkey_29) rfl k) ?_
        show own_Ends _ _ _ _ _ _ _ (s₁.setTop (mkF m 30 #[.val (.int p0), .val (.int (p0 &&& (3 : Int32)))] [(.int (p0 &&& (262143 : Int32)))]))
        exact own_retI X0 hx hlk Bd.returns (hb hby dkey_30) (by decide) (by decide) ⟨congrArg (fun z => some (Value.int z)) (by exact ((((if_neg hc1).trans (if_neg hc2)).trans (if_pos hc3))).symm), N0, e0⟩
      · refine own_go (fun _ k => XS.icmpYes X0.here hx rfl (pc0 := 23) (pc' := 31) rfl (hb hby dkey_23) rfl (feq hc3).2 (by decide) (by decide) k) ?_
        show own_Ends _ _ _ _ _ _ _ (s₁.setTop (mkF m 31 #[.val (.int p0), .val (.int (p0 &&& (3 : Int32)))] []))
        refine own_go (fun _ k => XS.iloadN X0.here hx rfl (hb hby dkey_31) rfl k) ?_
        show own_Ends _ _ _ _ _ _ _ (s₁.setTop (mkF m 32 #[.val (.int p0), .val (.int (p0 &&& (3 : Int32)))] [(.int p0)]))
        refine own_go (fun _ k => X0.ldcInt hx hown (mvT hZ (hw _ (List.mem_of_getElem? (i := 61) rfl))) (g := (mkF m 32 #[.val (.int p0), .val (.int (p0 &&& (3 : Int32)))] [(.int p0)])) rfl (hb hby dkey_32) _ k) ?_
        show own_Ends _ _ _ _ _ _ _ (s₁.setTop (mkF m 34 #[.val (.int p0), .val (.int (p0 &&& (3 : Int32)))] [(.int (67108863 : Int32)), (.int p0)]))
        refine own_go (fun _ k => XS.iand X0.here hx rfl (hb hby dkey_34) rfl k) ?_
        show own_Ends _ _ _ _ _ _ _ (s₁.setTop (mkF m 35 #[.val (.int p0), .val (.int (p0 &&& (3 : Int32)))] [(.int (p0 &&& (67108863 : Int32)))]))
        exact own_retI X0 hx hlk Bd.returns (hb hby dkey_35) (by decide) (by decide) ⟨congrArg (fun z => some (Value.int z)) (by exact ((((if_neg hc1).trans (if_neg hc2)).trans (if_neg hc3))).symm), N0, e0⟩
/-- the string's length and bytes -/
def own_n (x : Int32) : Nat := (x &&& (3 : Int32)).toNatClampNeg
def own_ch (x s : Int32) : Int32 := ((((x.toUInt32 >>> (s &&& 31).toUInt32).toInt32) &&& (255 : Int32)).toUInt32.toUInt16.toUInt32.toInt32)
def own_b (x : Int32) : Nat → Int32 := fun i => own_by (nar .char (if i = 0 then own_ch x 2 else if i = 1 then own_ch x 10 else own_ch x 18))
theorem own_3 (x : Int32) : (x &&& 3).toInt = x.toInt % 4 := Jvm.Kit.i32_mask x 3 (k := 2) (by decide) (by decide)
theorem own_nlt (x : Int32) : own_n x < 1000 := by
  rw [own_n]; show (x &&& 3).toInt.toNat < 1000
  rw [own_3]; omega
theorem own_n0 {x z : Int32} (h : z = (x &&& (3 : Int32))) (q : z = (0 : Int32)) : own_n x = 0 := by rw [own_n, ← h, q]; rfl
theorem own_n1 {x z : Int32} (h : z = (x &&& (3 : Int32))) (q : z = (1 : Int32)) : own_n x = 1 := by rw [own_n, ← h, q]; rfl
theorem own_n2 {x z : Int32} (h : z = (x &&& (3 : Int32))) (q : z = (2 : Int32)) : own_n x = 2 := by rw [own_n, ← h, q]; rfl
theorem own_nZ (x : Int32) : ∀ k : Nat, k < 4 → ((x &&& 3) = Int32.ofNat k ↔ x.toInt % 4 = k) := fun k hk => by
  rw [← Int32.toInt_inj, own_3, own_c32 (by omega)]
theorem own_n3 {x z : Int32} (h : z = (x &&& (3 : Int32))) (q0 : ¬ z = (0 : Int32)) (q1 : ¬ z = (1 : Int32)) (q2 : ¬ z = (2 : Int32)) : own_n x = 3 := by
  rw [h] at q0 q1 q2
  have a0 := own_nZ x 0 (by decide)
  have a1 := own_nZ x 1 (by decide)
  have a2 := own_nZ x 2 (by decide)
  rw [own_n]; show (x &&& 3).toInt.toNat = 3
  rw [own_3]
  have b0 : ¬ x.toInt % 4 = (0 : Nat) := fun e => q0 (a0.mpr e)
  have b1 : ¬ x.toInt % 4 = (1 : Nat) := fun e => q1 (a1.mpr e)
  have b2 : ¬ x.toInt % 4 = (2 : Nat) := fun e => q2 (a2.mpr e)
  omega
theorem own_rng256 : ∀ k : Fin 256, ¬ (255 : Int32) < nar .char ((Int32.ofNat k.val).toUInt32.toUInt16.toUInt32.toInt32) ∧ ((own_by (nar .char ((Int32.ofNat k.val).toUInt32.toUInt16.toUInt32.toInt32))) &&& 255) = Int32.ofNat k.val := by decide +kernel
theorem own_255 (y : Int32) : ∃ k : Fin 256, (y &&& (255 : Int32)) = Int32.ofNat k.val ∧ (k.val : Int) = y.toInt % 256 := by
  have e : (y &&& 255).toInt = y.toInt % 2 ^ 8 := Jvm.Kit.i32_mask y 255 (k := 8) (by decide) (by decide)
  refine ⟨⟨(y.toInt % 256).toNat, by omega⟩, Int32.toInt_inj.mp ?_, by show ((y.toInt % 256).toNat : Int) = _; omega⟩
  rw [own_c32 (by show (y.toInt % 256).toNat < _; omega), e]
  show _ = ((y.toInt % 256).toNat : Int)
  omega
theorem own_rng {y z : Int32} (h : z = (y &&& (255 : Int32)).toUInt32.toUInt16.toUInt32.toInt32) : ¬ (255 : Int32) < nar .char z := by
  obtain ⟨k, e, -⟩ := own_255 y
  rw [h, e]; exact (own_rng256 k).1
theorem own_u (x : Int32) (s : Nat) (hs : s < 32) : ((x.toUInt32 >>> ((Int32.ofNat s) &&& 31).toUInt32).toInt32).toInt % 256 = (x.toBitVec.toNat / 2 ^ s % 256 : Nat) := by
  have a : (((Int32.ofNat s) &&& 31).toUInt32).toBitVec % 32#32 = BitVec.ofNat 32 s := by
    have : ∀ k : Fin 32, (((Int32.ofNat k.val) &&& 31).toUInt32).toBitVec % 32#32 = BitVec.ofNat 32 k.val := by decide +kernel
    exact this ⟨s, hs⟩
  have b : ((x.toUInt32 >>> ((Int32.ofNat s) &&& 31).toUInt32).toInt32).toBitVec = x.toBitVec >>> (BitVec.ofNat 32 s) := by
    show x.toBitVec >>> ((((Int32.ofNat s) &&& 31).toUInt32).toBitVec % 32#32) = _
    rw [a]
  show (((x.toUInt32 >>> ((Int32.ofNat s) &&& 31).toUInt32).toInt32).toBitVec).toInt % 256 = _
  rw [b]
  have c : (x.toBitVec >>> (BitVec.ofNat 32 s)).toNat = x.toBitVec.toNat / 2 ^ s := by
    rw [BitVec.ushiftRight_eq', BitVec.toNat_ushiftRight, Nat.shiftRight_eq_div_pow, BitVec.toNat_ofNat, Nat.mod_eq_of_lt (by omega)]
  rw [BitVec.toInt_eq_toNat_cond, c]
  split <;> omega
/-- the characters as numbers -/
theorem own_chr (x : Int32) (s : Nat) (hs : s < 32) : (own_by (nar .char (own_ch x (Int32.ofNat s))) &&& 255).toInt = (x.toBitVec.toNat / 2 ^ s % 256 : Nat) := by
  obtain ⟨k, e, ek⟩ := own_255 ((x.toUInt32 >>> ((Int32.ofNat s) &&& 31).toUInt32).toInt32)
  rw [own_ch, e, (own_rng256 k).2, own_c32 (by have := k.isLt; omega), ek, own_u x s hs]
theorem own_chr_eq (x y : Int32) (s : Nat) (hs : s < 32) : own_by (nar .char (own_ch x (Int32.ofNat s))) = own_by (nar .char (own_ch y (Int32.ofNat s))) ↔ x.toBitVec.toNat / 2 ^ s % 256 = y.toBitVec.toNat / 2 ^ s % 256 := by
  constructor
  · intro h
    have a := own_chr x s hs
    rw [h, own_chr y s hs] at a
    exact_mod_cast a.symm
  · intro h
    obtain ⟨k, e, ek⟩ := own_255 ((x.toUInt32 >>> ((Int32.ofNat s) &&& 31).toUInt32).toInt32)
    obtain ⟨k', e', ek'⟩ := own_255 ((y.toUInt32 >>> ((Int32.ofNat s) &&& 31).toUInt32).toInt32)
    rw [own_u x s hs] at ek
    rw [own_u y s hs] at ek'
    have : k = k' := Fin.ext (by omega)
    rw [own_ch, own_ch, e, e', this]
theorem own_mk (x m : Int32) (k : Nat) (hk : k < 31) (hm : m.toBitVec.toNat = 2 ^ k - 1) : (x &&& m).toInt = (x.toBitVec.toNat % 2 ^ k : Nat) := by
  rw [Jvm.Kit.i32_mask x m (by omega) hm]
  have e : x.toInt = x.toBitVec.toInt := rfl
  have l := x.toBitVec.isLt
  rw [e, BitVec.toInt_eq_toNat_cond]
  have d : (2 : Int) ^ 32 = 2 ^ (32 - k) * 2 ^ k := by rw [← Int.pow_add, show 32 - k + k = 32 by omega]
  split
  · rw [Int.natCast_emod]; norm_cast
  · rw [show ((2 ^ 32 : Nat) : Int) = 2 ^ (32 - k) * 2 ^ k by rw [← d]; rfl, Int.sub_mul_emod_self_right, Int.natCast_emod]; norm_cast
theorem own_keyn (x : Int32) : (fkey x).toInt = if x.toBitVec.toNat % 4 = 0 then (0 : Int) else if x.toBitVec.toNat % 4 = 1 then ((x.toBitVec.toNat % 1024 : Nat) : Int) else if x.toBitVec.toNat % 4 = 2 then ((x.toBitVec.toNat % 262144 : Nat) : Int) else ((x.toBitVec.toNat % 67108864 : Nat) : Int) := by
  have c : ∀ k : Nat, k < 4 → ((x &&& 3) = Int32.ofNat k ↔ x.toBitVec.toNat % 4 = k) := fun k hk => by
    rw [← Int32.toInt_inj, own_mk x 3 2 (by decide) (by decide), own_c32 (by omega)]; omega
  have c0 := c 0 (by decide)
  have c1 := c 1 (by decide)
  have c2 := c 2 (by decide)
  have z0 : (x &&& 3) = (0 : Int32) ↔ x.toBitVec.toNat % 4 = 0 := c0
  have z1 : (x &&& 3) = (1 : Int32) ↔ x.toBitVec.toNat % 4 = 1 := c1
  have z2 : (x &&& 3) = (2 : Int32) ↔ x.toBitVec.toNat % 4 = 2 := c2
  rw [fkey]
  by_cases h0 : x.toBitVec.toNat % 4 = 0
  · rw [if_pos (z0.mpr h0), if_pos h0]; rfl
  · rw [if_neg (fun q => h0 (z0.mp q)), if_neg h0]
    by_cases h1 : x.toBitVec.toNat % 4 = 1
    · rw [if_pos (z1.mpr h1), if_pos h1]; exact own_mk x 1023 10 (by decide) (by decide)
    · rw [if_neg (fun q => h1 (z1.mp q)), if_neg h1]
      by_cases h2 : x.toBitVec.toNat % 4 = 2
      · rw [if_pos (z2.mpr h2), if_pos h2]; exact own_mk x 262143 18 (by decide) (by decide)
      · rw [if_neg (fun q => h2 (z2.mp q)), if_neg h2]; exact own_mk x 67108863 26 (by decide) (by decide)
theorem own_nn (x : Int32) : own_n x = x.toBitVec.toNat % 4 := by
  rw [own_n]; show (x &&& 3).toInt.toNat = _
  rw [own_mk x 3 2 (by decide) (by decide)]; omega
theorem own_nat (u v : Nat) : (u % 4 = v % 4 ∧ (0 < u % 4 → u / 4 % 256 = v / 4 % 256) ∧ (1 < u % 4 → u / 1024 % 256 = v / 1024 % 256) ∧ (2 < u % 4 → u / 262144 % 256 = v / 262144 % 256)) ↔
    (if u % 4 = 0 then (0 : Int) else if u % 4 = 1 then ((u % 1024 : Nat) : Int) else if u % 4 = 2 then ((u % 262144 : Nat) : Int) else ((u % 67108864 : Nat) : Int)) = (if v % 4 = 0 then (0 : Int) else if v % 4 = 1 then ((v % 1024 : Nat) : Int) else if v % 4 = 2 then ((v % 262144 : Nat) : Int) else ((v % 67108864 : Nat) : Int)) := by
  constructor
  · intro ⟨h, h0, h1, h2⟩
    rcases (by omega : u % 4 = 0 ∨ u % 4 = 1 ∨ u % 4 = 2 ∨ u % 4 = 3) with m | m | m | m
    · rw [if_pos m, if_pos (by omega)]
    · rw [if_neg (by omega), if_pos m, if_neg (by omega), if_pos (by omega)]
      have := h0 (by omega); omega
    · rw [if_neg (by omega), if_neg (by omega), if_pos m, if_neg (by omega), if_neg (by omega), if_pos (by omega)]
      have := h0 (by omega); have := h1 (by omega); omega
    · rw [if_neg (by omega), if_neg (by omega), if_neg (by omega), if_neg (by omega), if_neg (by omega), if_neg (by omega)]
      have := h0 (by omega); have := h1 (by omega); have := h2 (by omega); omega
  · intro h
    (repeat' split at h) <;> refine ⟨by omega, fun _ => by omega, fun _ => by omega, fun _ => by omega⟩
/-- two strings are the same where their keys are -/
theorem own_key (x y : Int32) : own_eq (own_n x) (own_n y) (own_b x) (own_b y) ↔ fkey x = fkey y := by
  have e0 := own_chr_eq x y 2 (by decide)
  have e1 := own_chr_eq x y 10 (by decide)
  have e2 := own_chr_eq x y 18 (by decide)
  have f0 : own_b x 0 = own_b y 0 ↔ x.toBitVec.toNat / 4 % 256 = y.toBitVec.toNat / 4 % 256 := e0
  have f1 : own_b x 1 = own_b y 1 ↔ x.toBitVec.toNat / 1024 % 256 = y.toBitVec.toNat / 1024 % 256 := e1
  have f2 : own_b x 2 = own_b y 2 ↔ x.toBitVec.toNat / 262144 % 256 = y.toBitVec.toNat / 262144 % 256 := e2
  rw [own_eq, ← Int32.toInt_inj, own_keyn, own_keyn, own_nn, own_nn]
  have key : (∀ i, i < x.toBitVec.toNat % 4 → own_b x i = own_b y i) ↔ ((0 < x.toBitVec.toNat % 4 → own_b x 0 = own_b y 0) ∧ (1 < x.toBitVec.toNat % 4 → own_b x 1 = own_b y 1) ∧ (2 < x.toBitVec.toNat % 4 → own_b x 2 = own_b y 2)) := by
    constructor
    · intro h; exact ⟨h 0, h 1, h 2⟩
    · intro ⟨h0, h1, h2⟩ i hi
      match i, hi with
      | 0, hi => exact h0 hi
      | 1, hi => exact h1 hi
      | 2, hi => exact h2 hi
      | i + 3, hi => omega
  rw [key, f0, f1, f2]
  clear e0 e1 e2 f0 f1 f2 key
  generalize x.toBitVec.toNat = u
  generalize y.toBitVec.toNat = v
  exact own_nat u v
theorem dstr_0 : decode method_2_code 0 = .ok (.iload_n 0, 1) := by decide +kernel
theorem dstr_1 : decode method_2_code 1 = .ok (.iconst 3, 1) := by decide +kernel
theorem dstr_2 : decode method_2_code 2 = .ok (.iand, 1) := by decide +kernel
theorem dstr_3 : decode method_2_code 3 = .ok (.istore_n 1, 1) := by decide +kernel
theorem dstr_4 : decode method_2_code 4 = .ok (.iload_n 0, 1) := by decide +kernel
theorem dstr_5 : decode method_2_code 5 = .ok (.iconst 2, 1) := by decide +kernel
theorem dstr_6 : decode method_2_code 6 = .ok (.iushr, 1) := by decide +kernel
theorem dstr_7 : decode method_2_code 7 = .ok (.sipush 255, 3) := by decide +kernel
theorem dstr_10 : decode method_2_code 10 = .ok (.iand, 1) := by decide +kernel
theorem dstr_11 : decode method_2_code 11 = .ok (.i2c, 1) := by decide +kernel
theorem dstr_12 : decode method_2_code 12 = .ok (.istore_n 2, 1) := by decide +kernel
theorem dstr_13 : decode method_2_code 13 = .ok (.iload_n 0, 1) := by decide +kernel
theorem dstr_14 : decode method_2_code 14 = .ok (.bipush 10, 2) := by decide +kernel
theorem dstr_16 : decode method_2_code 16 = .ok (.iushr, 1) := by decide +kernel
theorem dstr_17 : decode method_2_code 17 = .ok (.sipush 255, 3) := by decide +kernel
theorem dstr_20 : decode method_2_code 20 = .ok (.iand, 1) := by decide +kernel
theorem dstr_21 : decode method_2_code 21 = .ok (.i2c, 1) := by decide +kernel
theorem dstr_22 : decode method_2_code 22 = .ok (.istore_n 3, 1) := by decide +kernel
theorem dstr_23 : decode method_2_code 23 = .ok (.iload_n 0, 1) := by decide +kernel
theorem dstr_24 : decode method_2_code 24 = .ok (.bipush 18, 2) := by decide +kernel
theorem dstr_26 : decode method_2_code 26 = .ok (.iushr, 1) := by decide +kernel
theorem dstr_27 : decode method_2_code 27 = .ok (.sipush 255, 3) := by decide +kernel
theorem dstr_30 : decode method_2_code 30 = .ok (.iand, 1) := by decide +kernel
theorem dstr_31 : decode method_2_code 31 = .ok (.i2c, 1) := by decide +kernel
theorem dstr_32 : decode method_2_code 32 = .ok (.istore 4, 2) := by decide +kernel
theorem dstr_34 : decode method_2_code 34 = .ok (.iload_n 1, 1) := by decide +kernel
theorem dstr_35 : decode method_2_code 35 = .ok (.ifCond .ne 14, 3) := by decide +kernel
theorem dstr_38 : decode method_2_code 38 = .ok (.new 7, 3) := by decide +kernel
theorem dstr_41 : decode method_2_code 41 = .ok (.dup, 1) := by decide +kernel
theorem dstr_42 : decode method_2_code 42 = .ok (.iconst 0, 1) := by decide +kernel
theorem dstr_43 : decode method_2_code 43 = .ok (.newarray .char, 2) := by decide +kernel
theorem dstr_45 : decode method_2_code 45 = .ok (.invokespecial 9, 3) := by decide +kernel
theorem dstr_48 : decode method_2_code 48 = .ok (.areturn, 1) := by decide +kernel
theorem dstr_49 : decode method_2_code 49 = .ok (.iload_n 1, 1) := by decide +kernel
theorem dstr_50 : decode method_2_code 50 = .ok (.iconst 1, 1) := by decide +kernel
theorem dstr_51 : decode method_2_code 51 = .ok (.if_icmp .ne 18, 3) := by decide +kernel
theorem dstr_54 : decode method_2_code 54 = .ok (.new 7, 3) := by decide +kernel
theorem dstr_57 : decode method_2_code 57 = .ok (.dup, 1) := by decide +kernel
theorem dstr_58 : decode method_2_code 58 = .ok (.iconst 1, 1) := by decide +kernel
theorem dstr_59 : decode method_2_code 59 = .ok (.newarray .char, 2) := by decide +kernel
theorem dstr_61 : decode method_2_code 61 = .ok (.dup, 1) := by decide +kernel
theorem dstr_62 : decode method_2_code 62 = .ok (.iconst 0, 1) := by decide +kernel
theorem dstr_63 : decode method_2_code 63 = .ok (.iload_n 2, 1) := by decide +kernel
theorem dstr_64 : decode method_2_code 64 = .ok (.castore, 1) := by decide +kernel
theorem dstr_65 : decode method_2_code 65 = .ok (.invokespecial 9, 3) := by decide +kernel
theorem dstr_68 : decode method_2_code 68 = .ok (.areturn, 1) := by decide +kernel
theorem dstr_69 : decode method_2_code 69 = .ok (.iload_n 1, 1) := by decide +kernel
theorem dstr_70 : decode method_2_code 70 = .ok (.iconst 2, 1) := by decide +kernel
theorem dstr_71 : decode method_2_code 71 = .ok (.if_icmp .ne 22, 3) := by decide +kernel
theorem dstr_74 : decode method_2_code 74 = .ok (.new 7, 3) := by decide +kernel
theorem dstr_77 : decode method_2_code 77 = .ok (.dup, 1) := by decide +kernel
theorem dstr_78 : decode method_2_code 78 = .ok (.iconst 2, 1) := by decide +kernel
theorem dstr_79 : decode method_2_code 79 = .ok (.newarray .char, 2) := by decide +kernel
theorem dstr_81 : decode method_2_code 81 = .ok (.dup, 1) := by decide +kernel
theorem dstr_82 : decode method_2_code 82 = .ok (.iconst 0, 1) := by decide +kernel
theorem dstr_83 : decode method_2_code 83 = .ok (.iload_n 2, 1) := by decide +kernel
theorem dstr_84 : decode method_2_code 84 = .ok (.castore, 1) := by decide +kernel
theorem dstr_85 : decode method_2_code 85 = .ok (.dup, 1) := by decide +kernel
theorem dstr_86 : decode method_2_code 86 = .ok (.iconst 1, 1) := by decide +kernel
theorem dstr_87 : decode method_2_code 87 = .ok (.iload_n 3, 1) := by decide +kernel
theorem dstr_88 : decode method_2_code 88 = .ok (.castore, 1) := by decide +kernel
theorem dstr_89 : decode method_2_code 89 = .ok (.invokespecial 9, 3) := by decide +kernel
theorem dstr_92 : decode method_2_code 92 = .ok (.areturn, 1) := by decide +kernel
theorem dstr_93 : decode method_2_code 93 = .ok (.new 7, 3) := by decide +kernel
theorem dstr_96 : decode method_2_code 96 = .ok (.dup, 1) := by decide +kernel
theorem dstr_97 : decode method_2_code 97 = .ok (.iconst 3, 1) := by decide +kernel
theorem dstr_98 : decode method_2_code 98 = .ok (.newarray .char, 2) := by decide +kernel
theorem dstr_100 : decode method_2_code 100 = .ok (.dup, 1) := by decide +kernel
theorem dstr_101 : decode method_2_code 101 = .ok (.iconst 0, 1) := by decide +kernel
theorem dstr_102 : decode method_2_code 102 = .ok (.iload_n 2, 1) := by decide +kernel
theorem dstr_103 : decode method_2_code 103 = .ok (.castore, 1) := by decide +kernel
theorem dstr_104 : decode method_2_code 104 = .ok (.dup, 1) := by decide +kernel
theorem dstr_105 : decode method_2_code 105 = .ok (.iconst 1, 1) := by decide +kernel
theorem dstr_106 : decode method_2_code 106 = .ok (.iload_n 3, 1) := by decide +kernel
theorem dstr_107 : decode method_2_code 107 = .ok (.castore, 1) := by decide +kernel
theorem dstr_108 : decode method_2_code 108 = .ok (.dup, 1) := by decide +kernel
theorem dstr_109 : decode method_2_code 109 = .ok (.iconst 2, 1) := by decide +kernel
theorem dstr_110 : decode method_2_code 110 = .ok (.iload 4, 2) := by decide +kernel
theorem dstr_112 : decode method_2_code 112 = .ok (.castore, 1) := by decide +kernel
theorem dstr_113 : decode method_2_code 113 = .ok (.invokespecial 9, 3) := by decide +kernel
theorem dstr_116 : decode method_2_code 116 = .ok (.areturn, 1) := by decide +kernel
theorem pnstr : plainName "com/example/shallow_history/shallowhistory/policy/MethodReferenceEqualsPinLaw" = true := by first | (simp [plainName, overriddenIn]; done) | decide +kernel
theorem pdstr_0 : parseMethodDescriptor "([C)V" = some ⟨[(.array .char)], none⟩ := by decide +kernel
theorem efstr (m : MethodId) (p0 : Int32) : entryFrame m #[(.int p0)] 5 = mkF m 0 #[.val (.int p0), .unset, .unset, .unset, .unset] [] := by first | (simp [entryFrame, mkF, argsToLocals, Value.category]; done) | rfl
def Qstr (Z : State) (p0 : Int32) (w_COMPACT_STRINGS : Int32) (h0 : Heap) (n0 : Nat) (v : Option Value) (h : Heap) (L : List Loc) : Prop := ∃ r, v = some (.ref r) ∧ Fr n0 L ∧ Keep h0 h [] ∧ own_Str Z h r (own_n p0) (own_b p0)
set_option maxRecDepth 65536 in
set_option maxHeartbeats 40000000 in
theorem rmstr (l : Launch) (Z : State) (ar : Array Value) (hw : ∀ d ∈ tables_1, d.before ar Z = true) (ws : List Jvm.Cond) (p0 : Int32) (w_COMPACT_STRINGS : Int32) (h0 : Heap) (n0 : Nat) (O0 : Old Z n0 h0) (hCS : ¬ w_COMPACT_STRINGS = (0 : Int32)) (S_COMPACT_STRINGS : Sta Z Z.heap "java/lang/String" "COMPACT_STRINGS" "Z" (.int w_COMPACT_STRINGS)) :
    MetFree l (⟨"com/example/shallow_history/shallowhistory/policy/MethodReferenceEqualsPinLaw", "str", "(I)Ljava/lang/String;"⟩ : MethodName) (head1 (Jvm.Cond.code (⟨"com/example/shallow_history/shallowhistory/policy/MethodReferenceEqualsPinLaw", "str", "(I)Ljava/lang/String;"⟩ : MethodName) method_2_code 5 (some (.object "java/lang/String")) :: ws) ({ frames := 4, cells := 6, slots := 12, locals := 66 } : Room)) (fun a U => a = #[(.int p0)] ∧ Z.Warmed39 U.vm ∧ U.heap = h0 ∧ CHv Z consts_1 U.vm h0) (fun _ _ _ _ _ => True) (fun _ U o U' => ∃ v L, o = .returned v ∧ Qstr Z p0 w_COMPACT_STRINGS h0 n0 v U'.heap L ∧ CHr Z consts_1 U.vm U.heap U'.vm U'.heap ∧ ReturnedEndW U o U' L ({ frames := 4, cells := 6, slots := 12, locals := 66 } : Room).cells ({ frames := 4, cells := 6, slots := 12, locals := 66 } : Room).slots) := by
  refine MetFree.of_bodySF (plainFor_of_name pnstr) hisR ?_
  intro p e s m args below meth c s₁ Bd hml0 hP hK
  obtain ⟨rfl, hZ, hh, hCH⟩ := hP
  have hx := Bd.exec
  have hby := Bd.bytes
  have hml : c.maxLocals = 5 := hml0
  have hown : s.vm.findClass "com/example/shallow_history/shallowhistory/policy/MethodReferenceEqualsPinLaw" = some m.cls := findClass_of_methodNamed Bd.named
  have hnm := (name_of_methodNamed Bd.named Bd.method).1
  have hlk : meth.locks = false := BodyLoose.notSynchronized Bd
  have X0 : Stand p l e ({ frames := 4, cells := 6, slots := 12, locals := 66 } : Room) (s.setVm s.vm) m #[(.int p0)] below meth c s₁ [] 0 0 := Stand.of_body Bd
  have e0 : s₁.heap = h0 := by rw [← hh, Bd.state]; rfl
  have N0 := Fr.nil n0
  have Wd0 : own_Wd s Z consts_1 s.vm h0 := own_Wd.start hh hCH
  suffices hmain : own_EndsW p e below s Z consts_1 (Qstr Z p0 w_COMPACT_STRINGS h0 n0) 6 12 (s₁.setTop (mkF m 0 #[.val (.int p0), .unset, .unset, .unset, .unset] [])) by
    obtain ⟨U, o, h1, r⟩ := hmain
    exact ⟨U, o, castTop (efstr m p0) h1, r⟩
  show own_EndsW _ _ _ _ _ _ _ _ _ (s₁.setTop (mkF m 0 #[.val (.int p0), .unset, .unset, .unset, .unset] []))
  refine own_goW (fun _ k => XS.iloadN X0.here hx rfl (hb hby dstr_0) rfl k) ?_
  show own_EndsW _ _ _ _ _ _ _ _ _ (s₁.setTop (mkF m 1 #[.val (.int p0), .unset, .unset, .unset, .unset] [(.int p0)]))
  refine own_goW (fun _ k => XS.iconst X0.here hx rfl (hb hby dstr_1) k) ?_
  show own_EndsW _ _ _ _ _ _ _ _ _ (s₁.setTop (mkF m 2 #[.val (.int p0), .unset, .unset, .unset, .unset] [(.int (3 : Int32)), (.int p0)]))
  refine own_goW (fun _ k => XS.iand X0.here hx rfl (hb hby dstr_2) rfl k) ?_
  show own_EndsW _ _ _ _ _ _ _ _ _ (s₁.setTop (mkF m 3 #[.val (.int p0), .unset, .unset, .unset, .unset] [(.int (p0 &&& (3 : Int32)))]))
  refine own_goW (fun _ k => XS.istoreN X0.here hx rfl (hb hby dstr_3) rfl (l' := #[.val (.int p0), .val (.int (p0 &&& (3 : Int32))), .unset, .unset, .unset]) rfl k) ?_
  suffices hjzl : ∀ zl : Int32, zl = (p0 &&& (3 : Int32)) → own_EndsW p e below s Z consts_1 (Qstr Z p0 w_COMPACT_STRINGS h0 n0) 6 12 (s₁.setTop (mkF m 4 #[.val (.int p0), .val (.int zl), .unset, .unset, .unset] [])) by exact hjzl _ rfl
  intro zl hzl
  show own_EndsW _ _ _ _ _ _ _ _ _ (s₁.setTop (mkF m 4 #[.val (.int p0), .val (.int zl), .unset, .unset, .unset] []))
  refine own_goW (fun _ k => XS.iloadN X0.here hx rfl (hb hby dstr_4) rfl k) ?_
  show own_EndsW _ _ _ _ _ _ _ _ _ (s₁.setTop (mkF m 5 #[.val (.int p0), .val (.int zl), .unset, .unset, .unset] [(.int p0)]))
  refine own_goW (fun _ k => XS.iconst X0.here hx rfl (hb hby dstr_5) k) ?_
  show own_EndsW _ _ _ _ _ _ _ _ _ (s₁.setTop (mkF m 6 #[.val (.int p0), .val (.int zl), .unset, .unset, .unset] [(.int (2 : Int32)), (.int p0)]))
  refine own_goW (fun _ k => XS.iushr X0.here hx rfl (hb hby dstr_6) rfl k) ?_
  show own_EndsW _ _ _ _ _ _ _ _ _ (s₁.setTop (mkF m 7 #[.val (.int p0), .val (.int zl), .unset, .unset, .unset] [(.int ((p0.toUInt32 >>> ((2 : Int32) &&& 31).toUInt32).toInt32))]))
  refine own_goW (fun _ k => XS.sipush X0.here hx rfl (hb hby dstr_7) k) ?_
  show own_EndsW _ _ _ _ _ _ _ _ _ (s₁.setTop (mkF m 10 #[.val (.int p0), .val (.int zl), .unset, .unset, .unset] [(.int (255 : Int32)), (.int ((p0.toUInt32 >>> ((2 : Int32) &&& 31).toUInt32).toInt32))]))
  refine own_goW (fun _ k => XS.iand X0.here hx rfl (hb hby dstr_10) rfl k) ?_
  show own_EndsW _ _ _ _ _ _ _ _ _ (s₁.setTop (mkF m 11 #[.val (.int p0), .val (.int zl), .unset, .unset, .unset] [(.int (((p0.toUInt32 >>> ((2 : Int32) &&& 31).toUInt32).toInt32) &&& (255 : Int32)))]))
  refine own_goW (fun _ k => XS.i2c X0.here hx rfl (hb hby dstr_11) rfl k) ?_
  show own_EndsW _ _ _ _ _ _ _ _ _ (s₁.setTop (mkF m 12 #[.val (.int p0), .val (.int zl), .unset, .unset, .unset] [(.int ((((p0.toUInt32 >>> ((2 : Int32) &&& 31).toUInt32).toInt32) &&& (255 : Int32)).toUInt32.toUInt16.toUInt32.toInt32))]))
  refine own_goW (fun _ k => XS.istoreN X0.here hx rfl (hb hby dstr_12) rfl (l' := #[.val (.int p0), .val (.int zl), .val (.int ((((p0.toUInt32 >>> ((2 : Int32) &&& 31).toUInt32).toInt32) &&& (255 : Int32)).toUInt32.toUInt16.toUInt32.toInt32)), .unset, .unset]) rfl k) ?_
  suffices hjzc0 : ∀ zc0 : Int32, zc0 = ((((p0.toUInt32 >>> ((2 : Int32) &&& 31).toUInt32).toInt32) &&& (255 : Int32)).toUInt32.toUInt16.toUInt32.toInt32) → own_EndsW p e below s Z consts_1 (Qstr Z p0 w_COMPACT_STRINGS h0 n0) 6 12 (s₁.setTop (mkF m 13 #[.val (.int p0), .val (.int zl), .val (.int zc0), .unset, .unset] [])) by exact hjzc0 _ rfl
  intro zc0 hzc0
  show own_EndsW _ _ _ _ _ _ _ _ _ (s₁.setTop (mkF m 13 #[.val (.int p0), .val (.int zl), .val (.int zc0), .unset, .unset] []))
  refine own_goW (fun _ k => XS.iloadN X0.here hx rfl (hb hby dstr_13) rfl k) ?_
  show own_EndsW _ _ _ _ _ _ _ _ _ (s₁.setTop (mkF m 14 #[.val (.int p0), .val (.int zl), .val (.int zc0), .unset, .unset] [(.int p0)]))
  refine own_goW (fun _ k => XS.bipush X0.here hx rfl (hb hby dstr_14) k) ?_
  show own_EndsW _ _ _ _ _ _ _ _ _ (s₁.setTop (mkF m 16 #[.val (.int p0), .val (.int zl), .val (.int zc0), .unset, .unset] [(.int (10 : Int32)), (.int p0)]))
  refine own_goW (fun _ k => XS.iushr X0.here hx rfl (hb hby dstr_16) rfl k) ?_
  show own_EndsW _ _ _ _ _ _ _ _ _ (s₁.setTop (mkF m 17 #[.val (.int p0), .val (.int zl), .val (.int zc0), .unset, .unset] [(.int ((p0.toUInt32 >>> ((10 : Int32) &&& 31).toUInt32).toInt32))]))
  refine own_goW (fun _ k => XS.sipush X0.here hx rfl (hb hby dstr_17) k) ?_
  show own_EndsW _ _ _ _ _ _ _ _ _ (s₁.setTop (mkF m 20 #[.val (.int p0), .val (.int zl), .val (.int zc0), .unset, .unset] [(.int (255 : Int32)), (.int ((p0.toUInt32 >>> ((10 : Int32) &&& 31).toUInt32).toInt32))]))
  refine own_goW (fun _ k => XS.iand X0.here hx rfl (hb hby dstr_20) rfl k) ?_
  show own_EndsW _ _ _ _ _ _ _ _ _ (s₁.setTop (mkF m 21 #[.val (.int p0), .val (.int zl), .val (.int zc0), .unset, .unset] [(.int (((p0.toUInt32 >>> ((10 : Int32) &&& 31).toUInt32).toInt32) &&& (255 : Int32)))]))
  refine own_goW (fun _ k => XS.i2c X0.here hx rfl (hb hby dstr_21) rfl k) ?_
  show own_EndsW _ _ _ _ _ _ _ _ _ (s₁.setTop (mkF m 22 #[.val (.int p0), .val (.int zl), .val (.int zc0), .unset, .unset] [(.int ((((p0.toUInt32 >>> ((10 : Int32) &&& 31).toUInt32).toInt32) &&& (255 : Int32)).toUInt32.toUInt16.toUInt32.toInt32))]))
  refine own_goW (fun _ k => XS.istoreN X0.here hx rfl (hb hby dstr_22) rfl (l' := #[.val (.int p0), .val (.int zl), .val (.int zc0), .val (.int ((((p0.toUInt32 >>> ((10 : Int32) &&& 31).toUInt32).toInt32) &&& (255 : Int32)).toUInt32.toUInt16.toUInt32.toInt32)), .unset]) rfl k) ?_
  suffices hjzc1 : ∀ zc1 : Int32, zc1 = ((((p0.toUInt32 >>> ((10 : Int32) &&& 31).toUInt32).toInt32) &&& (255 : Int32)).toUInt32.toUInt16.toUInt32.toInt32) → own_EndsW p e below s Z consts_1 (Qstr Z p0 w_COMPACT_STRINGS h0 n0) 6 12 (s₁.setTop (mkF m 23 #[.val (.int p0), .val (.int zl), .val (.int zc0), .val (.int zc1), .unset] [])) by exact hjzc1 _ rfl
  intro zc1 hzc1
  show own_EndsW _ _ _ _ _ _ _ _ _ (s₁.setTop (mkF m 23 #[.val (.int p0), .val (.int zl), .val (.int zc0), .val (.int zc1), .unset] []))
  refine own_goW (fun _ k => XS.iloadN X0.here hx rfl (hb hby dstr_23) rfl k) ?_
  show own_EndsW _ _ _ _ _ _ _ _ _ (s₁.setTop (mkF m 24 #[.val (.int p0), .val (.int zl), .val (.int zc0), .val (.int zc1), .unset] [(.int p0)]))
  refine own_goW (fun _ k => XS.bipush X0.here hx rfl (hb hby dstr_24) k) ?_
  show own_EndsW _ _ _ _ _ _ _ _ _ (s₁.setTop (mkF m 26 #[.val (.int p0), .val (.int zl), .val (.int zc0), .val (.int zc1), .unset] [(.int (18 : Int32)), (.int p0)]))
  refine own_goW (fun _ k => XS.iushr X0.here hx rfl (hb hby dstr_26) rfl k) ?_
  show own_EndsW _ _ _ _ _ _ _ _ _ (s₁.setTop (mkF m 27 #[.val (.int p0), .val (.int zl), .val (.int zc0), .val (.int zc1), .unset] [(.int ((p0.toUInt32 >>> ((18 : Int32) &&& 31).toUInt32).toInt32))]))
  refine own_goW (fun _ k => XS.sipush X0.here hx rfl (hb hby dstr_27) k) ?_
  show own_EndsW _ _ _ _ _ _ _ _ _ (s₁.setTop (mkF m 30 #[.val (.int p0), .val (.int zl), .val (.int zc0), .val (.int zc1), .unset] [(.int (255 : Int32)), (.int ((p0.toUInt32 >>> ((18 : Int32) &&& 31).toUInt32).toInt32))]))
  refine own_goW (fun _ k => XS.iand X0.here hx rfl (hb hby dstr_30) rfl k) ?_
  show own_EndsW _ _ _ _ _ _ _ _ _ (s₁.setTop (mkF m 31 #[.val (.int p0), .val (.int zl), .val (.int zc0), .val (.int zc1), .unset] [(.int (((p0.toUInt32 >>> ((18 : Int32) &&& 31).toUInt32).toInt32) &&& (255 : Int32)))]))
  refine own_goW (fun _ k => XS.i2c X0.here hx rfl (hb hby dstr_31) rfl k) ?_
  show own_EndsW _ _ _ _ _ _ _ _ _ (s₁.setTop (mkF m 32 #[.val (.int p0), .val (.int zl), .val (.int zc0), .val (.int zc1), .unset] [(.int ((((p0.toUInt32 >>> ((18 : Int32) &&& 31).toUInt32).toInt32) &&& (255 : Int32)).toUInt32.toUInt16.toUInt32.toInt32))]))
  refine own_goW (fun _ k => XS.istore X0.here hx rfl (hb hby dstr_32) rfl (l' := #[.val (.int p0), .val (.int zl), .val (.int zc0), .val (.int zc1), .val (.int ((((p0.toUInt32 >>> ((18 : Int32) &&& 31).toUInt32).toInt32) &&& (255 : Int32)).toUInt32.toUInt16.toUInt32.toInt32))]) rfl k) ?_
  suffices hjzc2 : ∀ zc2 : Int32, zc2 = ((((p0.toUInt32 >>> ((18 : Int32) &&& 31).toUInt32).toInt32) &&& (255 : Int32)).toUInt32.toUInt16.toUInt32.toInt32) → own_EndsW p e below s Z consts_1 (Qstr Z p0 w_COMPACT_STRINGS h0 n0) 6 12 (s₁.setTop (mkF m 34 #[.val (.int p0), .val (.int zl), .val (.int zc0), .val (.int zc1), .val (.int zc2)] [])) by exact hjzc2 _ rfl
  intro zc2 hzc2
  show own_EndsW _ _ _ _ _ _ _ _ _ (s₁.setTop (mkF m 34 #[.val (.int p0), .val (.int zl), .val (.int zc0), .val (.int zc1), .val (.int zc2)] []))
  refine own_goW (fun _ k => XS.iloadN X0.here hx rfl (hb hby dstr_34) rfl k) ?_
  show own_EndsW _ _ _ _ _ _ _ _ _ (s₁.setTop (mkF m 35 #[.val (.int p0), .val (.int zl), .val (.int zc0), .val (.int zc1), .val (.int zc2)] [(.int zl)]))
  by_cases hc1 : zl = (0 : Int32)
  · refine own_goW (fun _ k => XS.ifNo X0.here hx rfl (hb hby dstr_35) rfl ((if0 _ _).trans (teq hc1).2) k) ?_
    show own_EndsW _ _ _ _ _ _ _ _ _ (s₁.setTop (mkF m 38 #[.val (.int p0), .val (.int zl), .val (.int zc0), .val (.int zc1), .val (.int zc2)] []))
    obtain ⟨T2, h2, X2, e2, E2, A2, D2, -, st2⟩ := newO X0 hx hZ hown (hw _ (List.mem_of_getElem? (i := 7) rfl)) (hw _ (List.mem_of_getElem? (i := 8) rfl)) (hw _ (List.mem_of_getElem? (i := 9) rfl)) e0 (g := (mkF m 38 #[.val (.int p0), .val (.int zl), .val (.int zc0), .val (.int zc1), .val (.int zc2)] [])) rfl (hb hby dstr_38) (by decide) (by decide)
    obtain ⟨b2, q_b2⟩ : ∃ z, z = h0.size := ⟨_, rfl⟩
    rw [← q_b2] at A2 D2 st2
    have g_b2 : n0 ≤ b2 := Nat.le_trans (own_sz O0) (Nat.le_of_eq q_b2.symm)
    refine own_goW (fun _ k => st2 _ k) ?_
    have Wd2 : own_Wd s Z consts_1 s.vm h2 := Wd0.ext E2
    have F3 : Old Z n0 h2 := (O0.ext E2)
    have gh_b2 : h0.size ≤ b2 := Nat.le_trans (Keep.refl h0 []).1 (Nat.le_of_eq q_b2.symm)
    have K4 : Keep h0 h2 [] := (Keep.refl h0 []).ext E2
    have F5 : Fld Z h2 b2 "java/lang/String" "value" "[B" .null := D2 (Or.inr (hw _ (List.mem_of_getElem? (i := 23) rfl))) (ty := (.array .byte)) (by decide)
    have F6 : Fld Z h2 b2 "java/lang/String" "coder" "B" (.int (0 : Int32)) := D2 (Or.inr (hw _ (List.mem_of_getElem? (i := 24) rfl))) (ty := .byte) (by decide)
    show own_EndsW _ _ _ _ _ _ _ _ _ (T2.setTop (mkF m 41 #[.val (.int p0), .val (.int zl), .val (.int zc0), .val (.int zc1), .val (.int zc2)] [(.ref b2)]))
    refine own_goW (fun _ k => XS.dup X2.here hx rfl (hb hby dstr_41) rfl rfl k) ?_
    show own_EndsW _ _ _ _ _ _ _ _ _ (T2.setTop (mkF m 42 #[.val (.int p0), .val (.int zl), .val (.int zc0), .val (.int zc1), .val (.int zc2)] [(.ref b2), (.ref b2)]))
    refine own_goW (fun _ k => XS.iconst X2.here hx rfl (hb hby dstr_42) k) ?_
    show own_EndsW _ _ _ _ _ _ _ _ _ (T2.setTop (mkF m 43 #[.val (.int p0), .val (.int zl), .val (.int zc0), .val (.int zc1), .val (.int zc2)] [(.int (0 : Int32)), (.ref b2), (.ref b2)]))
    obtain ⟨T7, h7, k7, X7, e7, E7, A7, st7⟩ := newP X2 hx hZ (hw _ (List.mem_of_getElem? (i := 10) rfl)) e2 (g := (mkF m 43 #[.val (.int p0), .val (.int zl), .val (.int zc0), .val (.int zc1), .val (.int zc2)] [(.int (0 : Int32)), (.ref b2), (.ref b2)])) rfl (hb hby dstr_43) rfl (by decide) (cap := 0) (by decide) (by decide) (by decide) (by decide)
    obtain ⟨b7, q_b7⟩ : ∃ z, z = h2.size := ⟨_, rfl⟩
    rw [← q_b7] at A7 st7
    have g_b7 : n0 ≤ b7 := Nat.le_trans (own_sz F3) (Nat.le_of_eq q_b7.symm)
    have ne_b2_b7 : b2 ≠ b7 := Nat.ne_of_lt (Nat.lt_of_lt_of_le A2.lt (Nat.le_of_eq q_b7.symm))
    refine own_goW (fun _ k => st7 _ k) ?_
    have Wd7 : own_Wd s Z consts_1 s.vm h7 := Wd2.ext E7
    have F8 : Old Z n0 h7 := (F3.ext E7)
    have F9 : Exa Z h7 b2 "java/lang/String" := (Exa.ext E7 A2)
    have F10 : Fld Z h7 b2 "java/lang/String" "value" "[B" .null := (Fld.ext E7 F5)
    have F11 : Fld Z h7 b2 "java/lang/String" "coder" "B" (.int (0 : Int32)) := (Fld.ext E7 F6)
    have gh_b7 : h0.size ≤ b7 := Nat.le_trans K4.1 (Nat.le_of_eq q_b7.symm)
    have K12 : Keep h0 h7 [] := K4.ext E7
    have F13 : own_Ar Z h7 b7 .char 0 (fun i => .int ((fun _ => (0 : Int32)) i)) := own_Ar.newI A7 (by decide) rfl
    show own_EndsW _ _ _ _ _ _ _ _ _ (T7.setTop (mkF m 45 #[.val (.int p0), .val (.int zl), .val (.int zc0), .val (.int zc1), .val (.int zc2)] [(.ref b7), (.ref b2), (.ref b2)]))
    obtain ⟨_, _, ⟨T14, L14, k14, n14⟩, -, X14', hS14, gg14, ⟨Lc14, hQ14, l14, y14, z14, C14⟩, st14⟩ := X7.specialBackS hx (y := (⟨"java/lang/String", "<init>", "([C)V"⟩ : MethodName)) rfl hown (mvT hZ (hw _ (List.mem_of_getElem? (i := 11) rfl))) (mvT hZ (hw _ (List.mem_of_getElem? (i := 12) rfl))) (mvT hZ (hw _ (List.mem_of_getElem? (i := 13) rfl))) (by decide) (backOfSH (W := 1) (rmsiA0 l Z ar hw [] b2 b7 h7 n0 F8 F9 g_b2 F10 F11 (F13.cong (fun i hi => absurd hi (Nat.not_lt_zero _)))) hZ (hw _ (List.mem_of_getElem? (i := 13) rfl)) (hw _ (List.mem_of_getElem? (i := 9) rfl)) (by decide) (by decide) (own_EW hw) Wd7.ch) (g := (mkF m 45 #[.val (.int p0), .val (.int zl), .val (.int zc0), .val (.int zc1), .val (.int zc2)] [(.ref b7), (.ref b2), (.ref b2)])) rfl (by rw [hml]; rfl) (Steps.refl _) (a := b2) (argsL := [(.ref b7)]) (rest := [(.ref b2)]) (lenOf pdstr_0 rfl) rfl (by show 2 * 0 + _ ≤ _; exact Nat.le_of_eq rfl) (hb hby dstr_45) (fun _ _ => ⟨rfl, e7, (by decide : 2 + 4 ≤ _), (by decide : 4 + 8 ≤ _)⟩)
    dsimp only [Pt.U, Pt.locs, Pt.cells, Pt.slots] at X14' hS14 gg14 l14 y14 z14 st14 hQ14 C14
    subst l14 y14 z14
    obtain ⟨X14, Wd14, hZ, hown⟩ := own_fold Wd7 e7 X14' hS14 gg14 C14 hZ hown
    obtain ⟨rfl, N14q, K14, T14_0⟩ := hQ14
    have N14 := Fr.app N0 N14q
    have F15 : Old Z n0 T14.heap := (F8.keep K14 (allS g_b2 all0))
    have F16 : Exa Z T14.heap b2 "java/lang/String" := (F9.keep K14)
    have K17 : Keep h0 T14.heap [] := K12.trans K14 (allS (Or.inr gh_b2) all0)
    refine own_goW (fun _ k => st14.trans k) ?_
    show own_EndsW _ _ _ _ _ _ _ _ _ (T14.setTop (mkF m 48 #[.val (.int p0), .val (.int zl), .val (.int zc0), .val (.int zc1), .val (.int zc2)] [(.ref b2)]))
    exact own_retAW X14 hx hlk rfl Wd14 hZ (own_EW hw) Bd.returns rfl rfl rfl (hb hby dstr_48) (by decide) (by decide) (by rw [show T14.heap = T14.heap from rfl]; exact ⟨b2, rfl, N14, K17, T14_0.cong (own_n0 hzl hc1) (fun i hi => absurd hi (Nat.not_lt_zero _))⟩)
  · refine own_goW (fun _ k => XS.ifYes X0.here hx rfl (pc0 := 35) (pc' := 49) rfl (hb hby dstr_35) rfl ((if0 _ _).trans (feq hc1).2) (by decide) (by decide) k) ?_
    show own_EndsW _ _ _ _ _ _ _ _ _ (s₁.setTop (mkF m 49 #[.val (.int p0), .val (.int zl), .val (.int zc0), .val (.int zc1), .val (.int zc2)] []))
    refine own_goW (fun _ k => XS.iloadN X0.here hx rfl (hb hby dstr_49) rfl k) ?_
    show own_EndsW _ _ _ _ _ _ _ _ _ (s₁.setTop (mkF m 50 #[.val (.int p0), .val (.int zl), .val (.int zc0), .val (.int zc1), .val (.int zc2)] [(.int zl)]))
    refine own_goW (fun _ k => XS.iconst X0.here hx rfl (hb hby dstr_50) k) ?_
    show own_EndsW _ _ _ _ _ _ _ _ _ (s₁.setTop (mkF m 51 #[.val (.int p0), .val (.int zl), .val (.int zc0), .val (.int zc1), .val (.int zc2)] [(.int (1 : Int32)), (.int zl)]))
    by_cases hc18 : zl = (1 : Int32)
    · refine own_goW (fun _ k => XS.icmpNo X0.here hx rfl (hb hby dstr_51) rfl (teq hc18).2 k) ?_
      show own_EndsW _ _ _ _ _ _ _ _ _ (s₁.setTop (mkF m 54 #[.val (.int p0), .val (.int zl), .val (.int zc0), .val (.int zc1), .val (.int zc2)] []))
      obtain ⟨T19, h19, X19, e19, E19, A19, D19, -, st19⟩ := newO X0 hx hZ hown (hw _ (List.mem_of_getElem? (i := 7) rfl)) (hw _ (List.mem_of_getElem? (i := 8) rfl)) (hw _ (List.mem_of_getElem? (i := 9) rfl)) e0 (g := (mkF m 54 #[.val (.int p0), .val (.int zl), .val (.int zc0), .val (.int zc1), .val (.int zc2)] [])) rfl (hb hby dstr_54) (by decide) (by decide)
      obtain ⟨b19, q_b19⟩ : ∃ z, z = h0.size := ⟨_, rfl⟩
      rw [← q_b19] at A19 D19 st19
      have g_b19 : n0 ≤ b19 := Nat.le_trans (own_sz O0) (Nat.le_of_eq q_b19.symm)
      refine own_goW (fun _ k => st19 _ k) ?_
      have Wd19 : own_Wd s Z consts_1 s.vm h19 := Wd0.ext E19
      have F20 : Old Z n0 h19 := (O0.ext E19)
      have gh_b19 : h0.size ≤ b19 := Nat.le_trans (Keep.refl h0 []).1 (Nat.le_of_eq q_b19.symm)
      have K21 : Keep h0 h19 [] := (Keep.refl h0 []).ext E19
      have F22 : Fld Z h19 b19 "java/lang/String" "value" "[B" .null := D19 (Or.inr (hw _ (List.mem_of_getElem? (i := 23) rfl))) (ty := (.array .byte)) (by decide)
      have F23 : Fld Z h19 b19 "java/lang/String" "coder" "B" (.int (0 : Int32)) := D19 (Or.inr (hw _ (List.mem_of_getElem? (i := 24) rfl))) (ty := .byte) (by decide)
      show own_EndsW _ _ _ _ _ _ _ _ _ (T19.setTop (mkF m 57 #[.val (.int p0), .val (.int zl), .val (.int zc0), .val (.int zc1), .val (.int zc2)] [(.ref b19)]))
      refine own_goW (fun _ k => XS.dup X19.here hx rfl (hb hby dstr_57) rfl rfl k) ?_
      show own_EndsW _ _ _ _ _ _ _ _ _ (T19.setTop (mkF m 58 #[.val (.int p0), .val (.int zl), .val (.int zc0), .val (.int zc1), .val (.int zc2)] [(.ref b19), (.ref b19)]))
      refine own_goW (fun _ k => XS.iconst X19.here hx rfl (hb hby dstr_58) k) ?_
      show own_EndsW _ _ _ _ _ _ _ _ _ (T19.setTop (mkF m 59 #[.val (.int p0), .val (.int zl), .val (.int zc0), .val (.int zc1), .val (.int zc2)] [(.int (1 : Int32)), (.ref b19), (.ref b19)]))
      obtain ⟨T24, h24, k24, X24, e24, E24, A24, st24⟩ := newP X19 hx hZ (hw _ (List.mem_of_getElem? (i := 10) rfl)) e19 (g := (mkF m 59 #[.val (.int p0), .val (.int zl), .val (.int zc0), .val (.int zc1), .val (.int zc2)] [(.int (1 : Int32)), (.ref b19), (.ref b19)])) rfl (hb hby dstr_59) rfl (by decide) (cap := 1) (by decide) (by decide) (by decide) (by decide)
      obtain ⟨b24, q_b24⟩ : ∃ z, z = h19.size := ⟨_, rfl⟩
      rw [← q_b24] at A24 st24
      have g_b24 : n0 ≤ b24 := Nat.le_trans (own_sz F20) (Nat.le_of_eq q_b24.symm)
      have ne_b19_b24 : b19 ≠ b24 := Nat.ne_of_lt (Nat.lt_of_lt_of_le A19.lt (Nat.le_of_eq q_b24.symm))
      refine own_goW (fun _ k => st24 _ k) ?_
      have Wd24 : own_Wd s Z consts_1 s.vm h24 := Wd19.ext E24
      have F25 : Old Z n0 h24 := (F20.ext E24)
      have F26 : Exa Z h24 b19 "java/lang/String" := (Exa.ext E24 A19)
      have F27 : Fld Z h24 b19 "java/lang/String" "value" "[B" .null := (Fld.ext E24 F22)
      have F28 : Fld Z h24 b19 "java/lang/String" "coder" "B" (.int (0 : Int32)) := (Fld.ext E24 F23)
      have gh_b24 : h0.size ≤ b24 := Nat.le_trans K21.1 (Nat.le_of_eq q_b24.symm)
      have K29 : Keep h0 h24 [] := K21.ext E24
      have F30 : own_Ar Z h24 b24 .char 1 (fun i => .int ((fun _ => (0 : Int32)) i)) := own_Ar.newI A24 (by decide) rfl
      show own_EndsW _ _ _ _ _ _ _ _ _ (T24.setTop (mkF m 61 #[.val (.int p0), .val (.int zl), .val (.int zc0), .val (.int zc1), .val (.int zc2)] [(.ref b24), (.ref b19), (.ref b19)]))
      refine own_goW (fun _ k => XS.dup X24.here hx rfl (hb hby dstr_61) rfl rfl k) ?_
      show own_EndsW _ _ _ _ _ _ _ _ _ (T24.setTop (mkF m 62 #[.val (.int p0), .val (.int zl), .val (.int zc0), .val (.int zc1), .val (.int zc2)] [(.ref b24), (.ref b24), (.ref b19), (.ref b19)]))
      refine own_goW (fun _ k => XS.iconst X24.here hx rfl (hb hby dstr_62) k) ?_
      show own_EndsW _ _ _ _ _ _ _ _ _ (T24.setTop (mkF m 63 #[.val (.int p0), .val (.int zl), .val (.int zc0), .val (.int zc1), .val (.int zc2)] [(.int (0 : Int32)), (.ref b24), (.ref b24), (.ref b19), (.ref b19)]))
      refine own_goW (fun _ k => XS.iloadN X24.here hx rfl (hb hby dstr_63) rfl k) ?_
      show own_EndsW _ _ _ _ _ _ _ _ _ (T24.setTop (mkF m 64 #[.val (.int p0), .val (.int zl), .val (.int zc0), .val (.int zc1), .val (.int zc2)] [(.int zc0), (.int (0 : Int32)), (.ref b24), (.ref b24), (.ref b19), (.ref b19)]))
      obtain ⟨c31, A31, i31, -⟩ := own_Ar.at F30 (0 : Int32) (by decide) (by decide)
      obtain ⟨T31, h31, X31, e31, W31, st31⟩ := stC X24 hx hZ e24 A31 (j := (0 : Int32)) i31 (g := (mkF m 64 #[.val (.int p0), .val (.int zl), .val (.int zc0), .val (.int zc1), .val (.int zc2)] [(.int zc0), (.int (0 : Int32)), (.ref b24), (.ref b24), (.ref b19), (.ref b19)])) rfl rfl (hb hby dstr_64)
      refine own_goW (fun _ k => st31 _ k) ?_
      have N31 := Fr.snoc X31 N0 g_b24
      have Wd31 : own_Wd s Z consts_1 s.vm h31 := Wd24.wr W31 (own_safeAr hZ.alike F30 (by decide))
      have F32 : Old Z n0 h31 := (F25.wr W31 g_b24)
      have F33 : Exa Z h31 b19 "java/lang/String" := (Exa.wr W31 F26)
      have F34 : Fld Z h31 b19 "java/lang/String" "value" "[B" .null := (Fld.other W31 F27 (Or.inl ne_b19_b24))
      have F35 : Fld Z h31 b19 "java/lang/String" "coder" "B" (.int (0 : Int32)) := (Fld.other W31 F28 (Or.inl ne_b19_b24))
      have F36 : own_Ar Z h31 b24 .char 1 (fun i => .int ((fun i => if i = ((0 : Int32)).toNatClampNeg then (nar .char zc0) else (fun _ => (0 : Int32)) i) i)) := own_Ar.setI F30 W31
      have K37 : Keep h0 h31 [] := K29.wr W31 (Or.inr gh_b24)
      show own_EndsW _ _ _ _ _ _ _ _ _ (T31.setTop (mkF m 65 #[.val (.int p0), .val (.int zl), .val (.int zc0), .val (.int zc1), .val (.int zc2)] [(.ref b24), (.ref b19), (.ref b19)]))
      obtain ⟨_, _, ⟨T38, L38, k38, n38⟩, -, X38, ⟨Lc38, hQ38, l38, y38, z38⟩, st38⟩ := X31.specialBack hx (y := (⟨"java/lang/String", "<init>", "([C)V"⟩ : MethodName)) rfl hown (mvT hZ (hw _ (List.mem_of_getElem? (i := 11) rfl))) (mvT hZ (hw _ (List.mem_of_getElem? (i := 12) rfl))) (mvT hZ (hw _ (List.mem_of_getElem? (i := 13) rfl))) (by decide) (backOf (W := 1) (rmsiA1 l Z ar hw [] b19 b24 (fun i => if i = ((0 : Int32)).toNatClampNeg then (nar .char zc0) else (fun _ => (0 : Int32)) i) w_COMPACT_STRINGS h31 n0 F32 F33 g_b19 F34 F35 F36 (fun i hi => by match i, hi with | 0, _ => exact own_rng hzc0) ne_b19_b24 hCS S_COMPACT_STRINGS) hZ (hw _ (List.mem_of_getElem? (i := 13) rfl)) (hw _ (List.mem_of_getElem? (i := 9) rfl)) (by decide) (by decide)) (g := (mkF m 65 #[.val (.int p0), .val (.int zl), .val (.int zc0), .val (.int zc1), .val (.int zc2)] [(.ref b24), (.ref b19), (.ref b19)])) rfl (by rw [hml]; rfl) (Steps.refl _) (a := b19) (argsL := [(.ref b24)]) (rest := [(.ref b19)]) (lenOf pdstr_0 rfl) rfl (by show 2 * 0 + _ ≤ _; exact Nat.le_of_eq rfl) (hb hby dstr_65) (fun _ _ => ⟨rfl, e31, (by decide : 2 + 1 ≤ _), (by decide : 5 + 1 ≤ _)⟩)
      dsimp only [Pt.U, Pt.locs, Pt.cells, Pt.slots] at X38 l38 y38 z38 st38 hQ38
      subst l38 y38 z38
      obtain ⟨rfl, N38q, K38, T38_0⟩ := hQ38
      have N38 := Fr.app N31 N38q
      have Wd38 : own_Wd s Z consts_1 s.vm T38.heap := Wd31.keep K38 (sfS (own_safeStr hZ.alike F33 F34) sf0)
      have F39 : Old Z n0 T38.heap := (F32.keep K38 (allS g_b19 all0))
      have F40 : Exa Z T38.heap b19 "java/lang/String" := (F33.keep K38)
      have K41 : Keep h0 T38.heap [] := K37.trans K38 (allS (Or.inr gh_b19) all0)
      refine own_goW (fun _ k => st38.trans k) ?_
      show own_EndsW _ _ _ _ _ _ _ _ _ (T38.setTop (mkF m 68 #[.val (.int p0), .val (.int zl), .val (.int zc0), .val (.int zc1), .val (.int zc2)] [(.ref b19)]))
      exact own_retAW X38 hx hlk rfl Wd38 hZ (own_EW hw) Bd.returns rfl rfl rfl (hb hby dstr_68) (by decide) (by decide) (by rw [show T38.heap = T38.heap from rfl]; exact ⟨b19, rfl, N38, K41, T38_0.cong (own_n1 hzl hc18) (fun i hi => by subst hzc0 hzc1 hzc2; match i, hi with | 0, _ => rfl)⟩)
    · refine own_goW (fun _ k => XS.icmpYes X0.here hx rfl (pc0 := 51) (pc' := 69) rfl (hb hby dstr_51) rfl (feq hc18).2 (by decide) (by decide) k) ?_
      show own_EndsW _ _ _ _ _ _ _ _ _ (s₁.setTop (mkF m 69 #[.val (.int p0), .val (.int zl), .val (.int zc0), .val (.int zc1), .val (.int zc2)] []))
      refine own_goW (fun _ k => XS.iloadN X0.here hx rfl (hb hby dstr_69) rfl k) ?_
      show own_EndsW _ _ _ _ _ _ _ _ _ (s₁.setTop (mkF m 70 #[.val (.int p0), .val (.int zl), .val (.int zc0), .val (.int zc1), .val (.int zc2)] [(.int zl)]))
      refine own_goW (fun _ k => XS.iconst X0.here hx rfl (hb hby dstr_70) k) ?_
      show own_EndsW _ _ _ _ _ _ _ _ _ (s₁.setTop (mkF m 71 #[.val (.int p0), .val (.int zl), .val (.int zc0), .val (.int zc1), .val (.int zc2)] [(.int (2 : Int32)), (.int zl)]))
      by_cases hc42 : zl = (2 : Int32)
      · refine own_goW (fun _ k => XS.icmpNo X0.here hx rfl (hb hby dstr_71) rfl (teq hc42).2 k) ?_
        show own_EndsW _ _ _ _ _ _ _ _ _ (s₁.setTop (mkF m 74 #[.val (.int p0), .val (.int zl), .val (.int zc0), .val (.int zc1), .val (.int zc2)] []))
        obtain ⟨T43, h43, X43, e43, E43, A43, D43, -, st43⟩ := newO X0 hx hZ hown (hw _ (List.mem_of_getElem? (i := 7) rfl)) (hw _ (List.mem_of_getElem? (i := 8) rfl)) (hw _ (List.mem_of_getElem? (i := 9) rfl)) e0 (g := (mkF m 74 #[.val (.int p0), .val (.int zl), .val (.int zc0), .val (.int zc1), .val (.int zc2)] [])) rfl (hb hby dstr_74) (by decide) (by decide)
        obtain ⟨b43, q_b43⟩ : ∃ z, z = h0.size := ⟨_, rfl⟩
        rw [← q_b43] at A43 D43 st43
        have g_b43 : n0 ≤ b43 := Nat.le_trans (own_sz O0) (Nat.le_of_eq q_b43.symm)
        refine own_goW (fun _ k => st43 _ k) ?_
        have Wd43 : own_Wd s Z consts_1 s.vm h43 := Wd0.ext E43
        have F44 : Old Z n0 h43 := (O0.ext E43)
        have gh_b43 : h0.size ≤ b43 := Nat.le_trans (Keep.refl h0 []).1 (Nat.le_of_eq q_b43.symm)
        have K45 : Keep h0 h43 [] := (Keep.refl h0 []).ext E43
        have F46 : Fld Z h43 b43 "java/lang/String" "value" "[B" .null := D43 (Or.inr (hw _ (List.mem_of_getElem? (i := 23) rfl))) (ty := (.array .byte)) (by decide)
        have F47 : Fld Z h43 b43 "java/lang/String" "coder" "B" (.int (0 : Int32)) := D43 (Or.inr (hw _ (List.mem_of_getElem? (i := 24) rfl))) (ty := .byte) (by decide)
        show own_EndsW _ _ _ _ _ _ _ _ _ (T43.setTop (mkF m 77 #[.val (.int p0), .val (.int zl), .val (.int zc0), .val (.int zc1), .val (.int zc2)] [(.ref b43)]))
        refine own_goW (fun _ k => XS.dup X43.here hx rfl (hb hby dstr_77) rfl rfl k) ?_
        show own_EndsW _ _ _ _ _ _ _ _ _ (T43.setTop (mkF m 78 #[.val (.int p0), .val (.int zl), .val (.int zc0), .val (.int zc1), .val (.int zc2)] [(.ref b43), (.ref b43)]))
        refine own_goW (fun _ k => XS.iconst X43.here hx rfl (hb hby dstr_78) k) ?_
        show own_EndsW _ _ _ _ _ _ _ _ _ (T43.setTop (mkF m 79 #[.val (.int p0), .val (.int zl), .val (.int zc0), .val (.int zc1), .val (.int zc2)] [(.int (2 : Int32)), (.ref b43), (.ref b43)]))
        obtain ⟨T48, h48, k48, X48, e48, E48, A48, st48⟩ := newP X43 hx hZ (hw _ (List.mem_of_getElem? (i := 10) rfl)) e43 (g := (mkF m 79 #[.val (.int p0), .val (.int zl), .val (.int zc0), .val (.int zc1), .val (.int zc2)] [(.int (2 : Int32)), (.ref b43), (.ref b43)])) rfl (hb hby dstr_79) rfl (by decide) (cap := 2) (by decide) (by decide) (by decide) (by decide)
        obtain ⟨b48, q_b48⟩ : ∃ z, z = h43.size := ⟨_, rfl⟩
        rw [← q_b48] at A48 st48
        have g_b48 : n0 ≤ b48 := Nat.le_trans (own_sz F44) (Nat.le_of_eq q_b48.symm)
        have ne_b43_b48 : b43 ≠ b48 := Nat.ne_of_lt (Nat.lt_of_lt_of_le A43.lt (Nat.le_of_eq q_b48.symm))
        refine own_goW (fun _ k => st48 _ k) ?_
        have Wd48 : own_Wd s Z consts_1 s.vm h48 := Wd43.ext E48
        have F49 : Old Z n0 h48 := (F44.ext E48)
        have F50 : Exa Z h48 b43 "java/lang/String" := (Exa.ext E48 A43)
        have F51 : Fld Z h48 b43 "java/lang/String" "value" "[B" .null := (Fld.ext E48 F46)
        have F52 : Fld Z h48 b43 "java/lang/String" "coder" "B" (.int (0 : Int32)) := (Fld.ext E48 F47)
        have gh_b48 : h0.size ≤ b48 := Nat.le_trans K45.1 (Nat.le_of_eq q_b48.symm)
        have K53 : Keep h0 h48 [] := K45.ext E48
        have F54 : own_Ar Z h48 b48 .char 2 (fun i => .int ((fun _ => (0 : Int32)) i)) := own_Ar.newI A48 (by decide) rfl
        show own_EndsW _ _ _ _ _ _ _ _ _ (T48.setTop (mkF m 81 #[.val (.int p0), .val (.int zl), .val (.int zc0), .val (.int zc1), .val (.int zc2)] [(.ref b48), (.ref b43), (.ref b43)]))
        refine own_goW (fun _ k => XS.dup X48.here hx rfl (hb hby dstr_81) rfl rfl k) ?_
        show own_EndsW _ _ _ _ _ _ _ _ _ (T48.setTop (mkF m 82 #[.val (.int p0), .val (.int zl), .val (.int zc0), .val (.int zc1), .val (.int zc2)] [(.ref b48), (.ref b48), (.ref b43), (.ref b43)]))
        refine own_goW (fun _ k => XS.iconst X48.here hx rfl (hb hby dstr_82) k) ?_
        show own_EndsW _ _ _ _ _ _ _ _ _ (T48.setTop (mkF m 83 #[.val (.int p0), .val (.int zl), .val (.int zc0), .val (.int zc1), .val (.int zc2)] [(.int (0 : Int32)), (.ref b48), (.ref b48), (.ref b43), (.ref b43)]))
        refine own_goW (fun _ k => XS.iloadN X48.here hx rfl (hb hby dstr_83) rfl k) ?_
        show own_EndsW _ _ _ _ _ _ _ _ _ (T48.setTop (mkF m 84 #[.val (.int p0), .val (.int zl), .val (.int zc0), .val (.int zc1), .val (.int zc2)] [(.int zc0), (.int (0 : Int32)), (.ref b48), (.ref b48), (.ref b43), (.ref b43)]))
        obtain ⟨c55, A55, i55, -⟩ := own_Ar.at F54 (0 : Int32) (by decide) (by decide)
        obtain ⟨T55, h55, X55, e55, W55, st55⟩ := stC X48 hx hZ e48 A55 (j := (0 : Int32)) i55 (g := (mkF m 84 #[.val (.int p0), .val (.int zl), .val (.int zc0), .val (.int zc1), .val (.int zc2)] [(.int zc0), (.int (0 : Int32)), (.ref b48), (.ref b48), (.ref b43), (.ref b43)])) rfl rfl (hb hby dstr_84)
        refine own_goW (fun _ k => st55 _ k) ?_
        have N55 := Fr.snoc X55 N0 g_b48
        have Wd55 : own_Wd s Z consts_1 s.vm h55 := Wd48.wr W55 (own_safeAr hZ.alike F54 (by decide))
        have F56 : Old Z n0 h55 := (F49.wr W55 g_b48)
        have F57 : Exa Z h55 b43 "java/lang/String" := (Exa.wr W55 F50)
        have F58 : Fld Z h55 b43 "java/lang/String" "value" "[B" .null := (Fld.other W55 F51 (Or.inl ne_b43_b48))
        have F59 : Fld Z h55 b43 "java/lang/String" "coder" "B" (.int (0 : Int32)) := (Fld.other W55 F52 (Or.inl ne_b43_b48))
        have F60 : own_Ar Z h55 b48 .char 2 (fun i => .int ((fun i => if i = ((0 : Int32)).toNatClampNeg then (nar .char zc0) else (fun _ => (0 : Int32)) i) i)) := own_Ar.setI F54 W55
        have K61 : Keep h0 h55 [] := K53.wr W55 (Or.inr gh_b48)
        show own_EndsW _ _ _ _ _ _ _ _ _ (T55.setTop (mkF m 85 #[.val (.int p0), .val (.int zl), .val (.int zc0), .val (.int zc1), .val (.int zc2)] [(.ref b48), (.ref b43), (.ref b43)]))
        refine own_goW (fun _ k => XS.dup X55.here hx rfl (hb hby dstr_85) rfl rfl k) ?_
        show own_EndsW _ _ _ _ _ _ _ _ _ (T55.setTop (mkF m 86 #[.val (.int p0), .val (.int zl), .val (.int zc0), .val (.int zc1), .val (.int zc2)] [(.ref b48), (.ref b48), (.ref b43), (.ref b43)]))
        refine own_goW (fun _ k => XS.iconst X55.here hx rfl (hb hby dstr_86) k) ?_
        show own_EndsW _ _ _ _ _ _ _ _ _ (T55.setTop (mkF m 87 #[.val (.int p0), .val (.int zl), .val (.int zc0), .val (.int zc1), .val (.int zc2)] [(.int (1 : Int32)), (.ref b48), (.ref b48), (.ref b43), (.ref b43)]))
        refine own_goW (fun _ k => XS.iloadN X55.here hx rfl (hb hby dstr_87) rfl k) ?_
        show own_EndsW _ _ _ _ _ _ _ _ _ (T55.setTop (mkF m 88 #[.val (.int p0), .val (.int zl), .val (.int zc0), .val (.int zc1), .val (.int zc2)] [(.int zc1), (.int (1 : Int32)), (.ref b48), (.ref b48), (.ref b43), (.ref b43)]))
        obtain ⟨c62, A62, i62, -⟩ := own_Ar.at F60 (1 : Int32) (by decide) (by decide)
        obtain ⟨T62, h62, X62, e62, W62, st62⟩ := stC X55 hx hZ e55 A62 (j := (1 : Int32)) i62 (g := (mkF m 88 #[.val (.int p0), .val (.int zl), .val (.int zc0), .val (.int zc1), .val (.int zc2)] [(.int zc1), (.int (1 : Int32)), (.ref b48), (.ref b48), (.ref b43), (.ref b43)])) rfl rfl (hb hby dstr_88)
        refine own_goW (fun _ k => st62 _ k) ?_
        have N62 := Fr.snoc X62 N55 g_b48
        have Wd62 : own_Wd s Z consts_1 s.vm h62 := Wd55.wr W62 (own_safeAr hZ.alike F60 (by decide))
        have F63 : Old Z n0 h62 := (F56.wr W62 g_b48)
        have F64 : Exa Z h62 b43 "java/lang/String" := (Exa.wr W62 F57)
        have F65 : Fld Z h62 b43 "java/lang/String" "value" "[B" .null := (Fld.other W62 F58 (Or.inl ne_b43_b48))
        have F66 : Fld Z h62 b43 "java/lang/String" "coder" "B" (.int (0 : Int32)) := (Fld.other W62 F59 (Or.inl ne_b43_b48))
        have F67 : own_Ar Z h62 b48 .char 2 (fun i => .int ((fun i => if i = ((1 : Int32)).toNatClampNeg then (nar .char zc1) else (fun i => if i = ((0 : Int32)).toNatClampNeg then (nar .char zc0) else (fun _ => (0 : Int32)) i) i) i)) := own_Ar.setI F60 W62
        have K68 : Keep h0 h62 [] := K61.wr W62 (Or.inr gh_b48)
        show own_EndsW _ _ _ _ _ _ _ _ _ (T62.setTop (mkF m 89 #[.val (.int p0), .val (.int zl), .val (.int zc0), .val (.int zc1), .val (.int zc2)] [(.ref b48), (.ref b43), (.ref b43)]))
        obtain ⟨_, _, ⟨T69, L69, k69, n69⟩, -, X69, ⟨Lc69, hQ69, l69, y69, z69⟩, st69⟩ := X62.specialBack hx (y := (⟨"java/lang/String", "<init>", "([C)V"⟩ : MethodName)) rfl hown (mvT hZ (hw _ (List.mem_of_getElem? (i := 11) rfl))) (mvT hZ (hw _ (List.mem_of_getElem? (i := 12) rfl))) (mvT hZ (hw _ (List.mem_of_getElem? (i := 13) rfl))) (by decide) (backOf (W := 1) (rmsiA2 l Z ar hw [] b43 b48 (fun i => if i = ((1 : Int32)).toNatClampNeg then (nar .char zc1) else (fun i => if i = ((0 : Int32)).toNatClampNeg then (nar .char zc0) else (fun _ => (0 : Int32)) i) i) w_COMPACT_STRINGS h62 n0 F63 F64 g_b43 F65 F66 F67 (fun i hi => by match i, hi with | 0, _ => exact own_rng hzc0 | 1, _ => exact own_rng hzc1) ne_b43_b48 hCS S_COMPACT_STRINGS) hZ (hw _ (List.mem_of_getElem? (i := 13) rfl)) (hw _ (List.mem_of_getElem? (i := 9) rfl)) (by decide) (by decide)) (g := (mkF m 89 #[.val (.int p0), .val (.int zl), .val (.int zc0), .val (.int zc1), .val (.int zc2)] [(.ref b48), (.ref b43), (.ref b43)])) rfl (by rw [hml]; rfl) (Steps.refl _) (a := b43) (argsL := [(.ref b48)]) (rest := [(.ref b43)]) (lenOf pdstr_0 rfl) rfl (by show 2 * 0 + _ ≤ _; exact Nat.le_of_eq rfl) (hb hby dstr_89) (fun _ _ => ⟨rfl, e62, (by decide : 2 + 1 ≤ _), (by decide : 6 + 2 ≤ _)⟩)
        dsimp only [Pt.U, Pt.locs, Pt.cells, Pt.slots] at X69 l69 y69 z69 st69 hQ69
        subst l69 y69 z69
        obtain ⟨rfl, N69q, K69, T69_0⟩ := hQ69
        have N69 := Fr.app N62 N69q
        have Wd69 : own_Wd s Z consts_1 s.vm T69.heap := Wd62.keep K69 (sfS (own_safeStr hZ.alike F64 F65) sf0)
        have F70 : Old Z n0 T69.heap := (F63.keep K69 (allS g_b43 all0))
        have F71 : Exa Z T69.heap b43 "java/lang/String" := (F64.keep K69)
        have K72 : Keep h0 T69.heap [] := K68.trans K69 (allS (Or.inr gh_b43) all0)
        refine own_goW (fun _ k => st69.trans k) ?_
        show own_EndsW _ _ _ _ _ _ _ _ _ (T69.setTop (mkF m 92 #[.val (.int p0), .val (.int zl), .val (.int zc0), .val (.int zc1), .val (.int zc2)] [(.ref b43)]))
        exact own_retAW X69 hx hlk rfl Wd69 hZ (own_EW hw) Bd.returns rfl rfl rfl (hb hby dstr_92) (by decide) (by decide) (by rw [show T69.heap = T69.heap from rfl]; exact ⟨b43, rfl, N69, K72, T69_0.cong (own_n2 hzl hc42) (fun i hi => by subst hzc0 hzc1 hzc2; match i, hi with | 0, _ => rfl | 1, _ => rfl)⟩)
      · refine own_goW (fun _ k => XS.icmpYes X0.here hx rfl (pc0 := 71) (pc' := 93) rfl (hb hby dstr_71) rfl (feq hc42).2 (by decide) (by decide) k) ?_
        show own_EndsW _ _ _ _ _ _ _ _ _ (s₁.setTop (mkF m 93 #[.val (.int p0), .val (.int zl), .val (.int zc0), .val (.int zc1), .val (.int zc2)] []))
        obtain ⟨T73, h73, X73, e73, E73, A73, D73, -, st73⟩ := newO X0 hx hZ hown (hw _ (List.mem_of_getElem? (i := 7) rfl)) (hw _ (List.mem_of_getElem? (i := 8) rfl)) (hw _ (List.mem_of_getElem? (i := 9) rfl)) e0 (g := (mkF m 93 #[.val (.int p0), .val (.int zl), .val (.int zc0), .val (.int zc1), .val (.int zc2)] [])) rfl (hb hby dstr_93) (by decide) (by decide)
        obtain ⟨b73, q_b73⟩ : ∃ z, z = h0.size := ⟨_, rfl⟩
        rw [← q_b73] at A73 D73 st73
        have g_b73 : n0 ≤ b73 := Nat.le_trans (own_sz O0) (Nat.le_of_eq q_b73.symm)
        refine own_goW (fun _ k => st73 _ k) ?_
        have Wd73 : own_Wd s Z consts_1 s.vm h73 := Wd0.ext E73
        have F74 : Old Z n0 h73 := (O0.ext E73)
        have gh_b73 : h0.size ≤ b73 := Nat.le_trans (Keep.refl h0 []).1 (Nat.le_of_eq q_b73.symm)
        have K75 : Keep h0 h73 [] := (Keep.refl h0 []).ext E73
        have F76 : Fld Z h73 b73 "java/lang/String" "value" "[B" .null := D73 (Or.inr (hw _ (List.mem_of_getElem? (i := 23) rfl))) (ty := (.array .byte)) (by decide)
        have F77 : Fld Z h73 b73 "java/lang/String" "coder" "B" (.int (0 : Int32)) := D73 (Or.inr (hw _ (List.mem_of_getElem? (i := 24) rfl))) (ty := .byte) (by decide)
        show own_EndsW _ _ _ _ _ _ _ _ _ (T73.setTop (mkF m 96 #[.val (.int p0), .val (.int zl), .val (.int zc0), .val (.int zc1), .val (.int zc2)] [(.ref b73)]))
        refine own_goW (fun _ k => XS.dup X73.here hx rfl (hb hby dstr_96) rfl rfl k) ?_
        show own_EndsW _ _ _ _ _ _ _ _ _ (T73.setTop (mkF m 97 #[.val (.int p0), .val (.int zl), .val (.int zc0), .val (.int zc1), .val (.int zc2)] [(.ref b73), (.ref b73)]))
        refine own_goW (fun _ k => XS.iconst X73.here hx rfl (hb hby dstr_97) k) ?_
        show own_EndsW _ _ _ _ _ _ _ _ _ (T73.setTop (mkF m 98 #[.val (.int p0), .val (.int zl), .val (.int zc0), .val (.int zc1), .val (.int zc2)] [(.int (3 : Int32)), (.ref b73), (.ref b73)]))
        obtain ⟨T78, h78, k78, X78, e78, E78, A78, st78⟩ := newP X73 hx hZ (hw _ (List.mem_of_getElem? (i := 10) rfl)) e73 (g := (mkF m 98 #[.val (.int p0), .val (.int zl), .val (.int zc0), .val (.int zc1), .val (.int zc2)] [(.int (3 : Int32)), (.ref b73), (.ref b73)])) rfl (hb hby dstr_98) rfl (by decide) (cap := 3) (by decide) (by decide) (by decide) (by decide)
        obtain ⟨b78, q_b78⟩ : ∃ z, z = h73.size := ⟨_, rfl⟩
        rw [← q_b78] at A78 st78
        have g_b78 : n0 ≤ b78 := Nat.le_trans (own_sz F74) (Nat.le_of_eq q_b78.symm)
        have ne_b73_b78 : b73 ≠ b78 := Nat.ne_of_lt (Nat.lt_of_lt_of_le A73.lt (Nat.le_of_eq q_b78.symm))
        refine own_goW (fun _ k => st78 _ k) ?_
        have Wd78 : own_Wd s Z consts_1 s.vm h78 := Wd73.ext E78
        have F79 : Old Z n0 h78 := (F74.ext E78)
        have F80 : Exa Z h78 b73 "java/lang/String" := (Exa.ext E78 A73)
        have F81 : Fld Z h78 b73 "java/lang/String" "value" "[B" .null := (Fld.ext E78 F76)
        have F82 : Fld Z h78 b73 "java/lang/String" "coder" "B" (.int (0 : Int32)) := (Fld.ext E78 F77)
        have gh_b78 : h0.size ≤ b78 := Nat.le_trans K75.1 (Nat.le_of_eq q_b78.symm)
        have K83 : Keep h0 h78 [] := K75.ext E78
        have F84 : own_Ar Z h78 b78 .char 3 (fun i => .int ((fun _ => (0 : Int32)) i)) := own_Ar.newI A78 (by decide) rfl
        show own_EndsW _ _ _ _ _ _ _ _ _ (T78.setTop (mkF m 100 #[.val (.int p0), .val (.int zl), .val (.int zc0), .val (.int zc1), .val (.int zc2)] [(.ref b78), (.ref b73), (.ref b73)]))
        refine own_goW (fun _ k => XS.dup X78.here hx rfl (hb hby dstr_100) rfl rfl k) ?_
        show own_EndsW _ _ _ _ _ _ _ _ _ (T78.setTop (mkF m 101 #[.val (.int p0), .val (.int zl), .val (.int zc0), .val (.int zc1), .val (.int zc2)] [(.ref b78), (.ref b78), (.ref b73), (.ref b73)]))
        refine own_goW (fun _ k => XS.iconst X78.here hx rfl (hb hby dstr_101) k) ?_
        show own_EndsW _ _ _ _ _ _ _ _ _ (T78.setTop (mkF m 102 #[.val (.int p0), .val (.int zl), .val (.int zc0), .val (.int zc1), .val (.int zc2)] [(.int (0 : Int32)), (.ref b78), (.ref b78), (.ref b73), (.ref b73)]))
        refine own_goW (fun _ k => XS.iloadN X78.here hx rfl (hb hby dstr_102) rfl k) ?_
        show own_EndsW _ _ _ _ _ _ _ _ _ (T78.setTop (mkF m 103 #[.val (.int p0), .val (.int zl), .val (.int zc0), .val (.int zc1), .val (.int zc2)] [(.int zc0), (.int (0 : Int32)), (.ref b78), (.ref b78), (.ref b73), (.ref b73)]))
        obtain ⟨c85, A85, i85, -⟩ := own_Ar.at F84 (0 : Int32) (by decide) (by decide)
        obtain ⟨T85, h85, X85, e85, W85, st85⟩ := stC X78 hx hZ e78 A85 (j := (0 : Int32)) i85 (g := (mkF m 103 #[.val (.int p0), .val (.int zl), .val (.int zc0), .val (.int zc1), .val (.int zc2)] [(.int zc0), (.int (0 : Int32)), (.ref b78), (.ref b78), (.ref b73), (.ref b73)])) rfl rfl (hb hby dstr_103)
        refine own_goW (fun _ k => st85 _ k) ?_
        have N85 := Fr.snoc X85 N0 g_b78
        have Wd85 : own_Wd s Z consts_1 s.vm h85 := Wd78.wr W85 (own_safeAr hZ.alike F84 (by decide))
        have F86 : Old Z n0 h85 := (F79.wr W85 g_b78)
        have F87 : Exa Z h85 b73 "java/lang/String" := (Exa.wr W85 F80)
        have F88 : Fld Z h85 b73 "java/lang/String" "value" "[B" .null := (Fld.other W85 F81 (Or.inl ne_b73_b78))
        have F89 : Fld Z h85 b73 "java/lang/String" "coder" "B" (.int (0 : Int32)) := (Fld.other W85 F82 (Or.inl ne_b73_b78))
        have F90 : own_Ar Z h85 b78 .char 3 (fun i => .int ((fun i => if i = ((0 : Int32)).toNatClampNeg then (nar .char zc0) else (fun _ => (0 : Int32)) i) i)) := own_Ar.setI F84 W85
        have K91 : Keep h0 h85 [] := K83.wr W85 (Or.inr gh_b78)
        show own_EndsW _ _ _ _ _ _ _ _ _ (T85.setTop (mkF m 104 #[.val (.int p0), .val (.int zl), .val (.int zc0), .val (.int zc1), .val (.int zc2)] [(.ref b78), (.ref b73), (.ref b73)]))
        refine own_goW (fun _ k => XS.dup X85.here hx rfl (hb hby dstr_104) rfl rfl k) ?_
        show own_EndsW _ _ _ _ _ _ _ _ _ (T85.setTop (mkF m 105 #[.val (.int p0), .val (.int zl), .val (.int zc0), .val (.int zc1), .val (.int zc2)] [(.ref b78), (.ref b78), (.ref b73), (.ref b73)]))
        refine own_goW (fun _ k => XS.iconst X85.here hx rfl (hb hby dstr_105) k) ?_
        show own_EndsW _ _ _ _ _ _ _ _ _ (T85.setTop (mkF m 106 #[.val (.int p0), .val (.int zl), .val (.int zc0), .val (.int zc1), .val (.int zc2)] [(.int (1 : Int32)), (.ref b78), (.ref b78), (.ref b73), (.ref b73)]))
        refine own_goW (fun _ k => XS.iloadN X85.here hx rfl (hb hby dstr_106) rfl k) ?_
        show own_EndsW _ _ _ _ _ _ _ _ _ (T85.setTop (mkF m 107 #[.val (.int p0), .val (.int zl), .val (.int zc0), .val (.int zc1), .val (.int zc2)] [(.int zc1), (.int (1 : Int32)), (.ref b78), (.ref b78), (.ref b73), (.ref b73)]))
        obtain ⟨c92, A92, i92, -⟩ := own_Ar.at F90 (1 : Int32) (by decide) (by decide)
        obtain ⟨T92, h92, X92, e92, W92, st92⟩ := stC X85 hx hZ e85 A92 (j := (1 : Int32)) i92 (g := (mkF m 107 #[.val (.int p0), .val (.int zl), .val (.int zc0), .val (.int zc1), .val (.int zc2)] [(.int zc1), (.int (1 : Int32)), (.ref b78), (.ref b78), (.ref b73), (.ref b73)])) rfl rfl (hb hby dstr_107)
        refine own_goW (fun _ k => st92 _ k) ?_
        have N92 := Fr.snoc X92 N85 g_b78
        have Wd92 : own_Wd s Z consts_1 s.vm h92 := Wd85.wr W92 (own_safeAr hZ.alike F90 (by decide))
        have F93 : Old Z n0 h92 := (F86.wr W92 g_b78)
        have F94 : Exa Z h92 b73 "java/lang/String" := (Exa.wr W92 F87)
        have F95 : Fld Z h92 b73 "java/lang/String" "value" "[B" .null := (Fld.other W92 F88 (Or.inl ne_b73_b78))
        have F96 : Fld Z h92 b73 "java/lang/String" "coder" "B" (.int (0 : Int32)) := (Fld.other W92 F89 (Or.inl ne_b73_b78))
        have F97 : own_Ar Z h92 b78 .char 3 (fun i => .int ((fun i => if i = ((1 : Int32)).toNatClampNeg then (nar .char zc1) else (fun i => if i = ((0 : Int32)).toNatClampNeg then (nar .char zc0) else (fun _ => (0 : Int32)) i) i) i)) := own_Ar.setI F90 W92
        have K98 : Keep h0 h92 [] := K91.wr W92 (Or.inr gh_b78)
        show own_EndsW _ _ _ _ _ _ _ _ _ (T92.setTop (mkF m 108 #[.val (.int p0), .val (.int zl), .val (.int zc0), .val (.int zc1), .val (.int zc2)] [(.ref b78), (.ref b73), (.ref b73)]))
        refine own_goW (fun _ k => XS.dup X92.here hx rfl (hb hby dstr_108) rfl rfl k) ?_
        show own_EndsW _ _ _ _ _ _ _ _ _ (T92.setTop (mkF m 109 #[.val (.int p0), .val (.int zl), .val (.int zc0), .val (.int zc1), .val (.int zc2)] [(.ref b78), (.ref b78), (.ref b73), (.ref b73)]))
        refine own_goW (fun _ k => XS.iconst X92.here hx rfl (hb hby dstr_109) k) ?_
        show own_EndsW _ _ _ _ _ _ _ _ _ (T92.setTop (mkF m 110 #[.val (.int p0), .val (.int zl), .val (.int zc0), .val (.int zc1), .val (.int zc2)] [(.int (2 : Int32)), (.ref b78), (.ref b78), (.ref b73), (.ref b73)]))
        refine own_goW (fun _ k => XS.iload X92.here hx rfl (hb hby dstr_110) rfl k) ?_
        show own_EndsW _ _ _ _ _ _ _ _ _ (T92.setTop (mkF m 112 #[.val (.int p0), .val (.int zl), .val (.int zc0), .val (.int zc1), .val (.int zc2)] [(.int zc2), (.int (2 : Int32)), (.ref b78), (.ref b78), (.ref b73), (.ref b73)]))
        obtain ⟨c99, A99, i99, -⟩ := own_Ar.at F97 (2 : Int32) (by decide) (by decide)
        obtain ⟨T99, h99, X99, e99, W99, st99⟩ := stC X92 hx hZ e92 A99 (j := (2 : Int32)) i99 (g := (mkF m 112 #[.val (.int p0), .val (.int zl), .val (.int zc0), .val (.int zc1), .val (.int zc2)] [(.int zc2), (.int (2 : Int32)), (.ref b78), (.ref b78), (.ref b73), (.ref b73)])) rfl rfl (hb hby dstr_112)
        refine own_goW (fun _ k => st99 _ k) ?_
        have N99 := Fr.snoc X99 N92 g_b78
        have Wd99 : own_Wd s Z consts_1 s.vm h99 := Wd92.wr W99 (own_safeAr hZ.alike F97 (by decide))
        have F100 : Old Z n0 h99 := (F93.wr W99 g_b78)
        have F101 : Exa Z h99 b73 "java/lang/String" := (Exa.wr W99 F94)
        have F102 : Fld Z h99 b73 "java/lang/String" "value" "[B" .null := (Fld.other W99 F95 (Or.inl ne_b73_b78))
        have F103 : Fld Z h99 b73 "java/lang/String" "coder" "B" (.int (0 : Int32)) := (Fld.other W99 F96 (Or.inl ne_b73_b78))
        have F104 : own_Ar Z h99 b78 .char 3 (fun i => .int ((fun i => if i = ((2 : Int32)).toNatClampNeg then (nar .char zc2) else (fun i => if i = ((1 : Int32)).toNatClampNeg then (nar .char zc1) else (fun i => if i = ((0 : Int32)).toNatClampNeg then (nar .char zc0) else (fun _ => (0 : Int32)) i) i) i) i)) := own_Ar.setI F97 W99
        have K105 : Keep h0 h99 [] := K98.wr W99 (Or.inr gh_b78)
        show own_EndsW _ _ _ _ _ _ _ _ _ (T99.setTop (mkF m 113 #[.val (.int p0), .val (.int zl), .val (.int zc0), .val (.int zc1), .val (.int zc2)] [(.ref b78), (.ref b73), (.ref b73)]))
        obtain ⟨_, _, ⟨T106, L106, k106, n106⟩, -, X106, ⟨Lc106, hQ106, l106, y106, z106⟩, st106⟩ := X99.specialBack hx (y := (⟨"java/lang/String", "<init>", "([C)V"⟩ : MethodName)) rfl hown (mvT hZ (hw _ (List.mem_of_getElem? (i := 11) rfl))) (mvT hZ (hw _ (List.mem_of_getElem? (i := 12) rfl))) (mvT hZ (hw _ (List.mem_of_getElem? (i := 13) rfl))) (by decide) (backOf (W := 1) (rmsiA3 l Z ar hw [] b73 b78 (fun i => if i = ((2 : Int32)).toNatClampNeg then (nar .char zc2) else (fun i => if i = ((1 : Int32)).toNatClampNeg then (nar .char zc1) else (fun i => if i = ((0 : Int32)).toNatClampNeg then (nar .char zc0) else (fun _ => (0 : Int32)) i) i) i) w_COMPACT_STRINGS h99 n0 F100 F101 g_b73 F102 F103 F104 (fun i hi => by match i, hi with | 0, _ => exact own_rng hzc0 | 1, _ => exact own_rng hzc1 | 2, _ => exact own_rng hzc2) ne_b73_b78 hCS S_COMPACT_STRINGS) hZ (hw _ (List.mem_of_getElem? (i := 13) rfl)) (hw _ (List.mem_of_getElem? (i := 9) rfl)) (by decide) (by decide)) (g := (mkF m 113 #[.val (.int p0), .val (.int zl), .val (.int zc0), .val (.int zc1), .val (.int zc2)] [(.ref b78), (.ref b73), (.ref b73)])) rfl (by rw [hml]; rfl) (Steps.refl _) (a := b73) (argsL := [(.ref b78)]) (rest := [(.ref b73)]) (lenOf pdstr_0 rfl) rfl (by show 2 * 0 + _ ≤ _; exact Nat.le_of_eq rfl) (hb hby dstr_113) (fun _ _ => ⟨rfl, e99, (by decide : 2 + 1 ≤ _), (by decide : 7 + 3 ≤ _)⟩)
        dsimp only [Pt.U, Pt.locs, Pt.cells, Pt.slots] at X106 l106 y106 z106 st106 hQ106
        subst l106 y106 z106
        obtain ⟨rfl, N106q, K106, T106_0⟩ := hQ106
        have N106 := Fr.app N99 N106q
        have Wd106 : own_Wd s Z consts_1 s.vm T106.heap := Wd99.keep K106 (sfS (own_safeStr hZ.alike F101 F102) sf0)
        have F107 : Old Z n0 T106.heap := (F100.keep K106 (allS g_b73 all0))
        have F108 : Exa Z T106.heap b73 "java/lang/String" := (F101.keep K106)
        have K109 : Keep h0 T106.heap [] := K105.trans K106 (allS (Or.inr gh_b73) all0)
        refine own_goW (fun _ k => st106.trans k) ?_
        show own_EndsW _ _ _ _ _ _ _ _ _ (T106.setTop (mkF m 116 #[.val (.int p0), .val (.int zl), .val (.int zc0), .val (.int zc1), .val (.int zc2)] [(.ref b73)]))
        exact own_retAW X106 hx hlk rfl Wd106 hZ (own_EW hw) Bd.returns rfl rfl rfl (hb hby dstr_116) (by decide) (by decide) (by rw [show T106.heap = T106.heap from rfl]; exact ⟨b73, rfl, N106, K109, T106_0.cong (own_n3 hzl hc1 hc18 hc42) (fun i hi => by subst hzc0 hzc1 hzc2; match i, hi with | 0, _ => rfl | 1, _ => rfl | 2, _ => rfl)⟩)
theorem drnn_0 : decode jdk_31_method_11_code 0 = .ok (.aload_n 0, 1) := by decide +kernel
theorem drnn_1 : decode jdk_31_method_11_code 1 = .ok (.ifnonnull 12, 3) := by decide +kernel
theorem drnn_13 : decode jdk_31_method_11_code 13 = .ok (.aload_n 0, 1) := by decide +kernel
theorem drnn_14 : decode jdk_31_method_11_code 14 = .ok (.areturn, 1) := by decide +kernel
theorem pnrnn : plainName "java/util/Objects" = true := by first | (simp [plainName, overriddenIn]; done) | decide +kernel
theorem efrnn (m : MethodId) (a0 : Addr) (a1 : Addr) : entryFrame m #[(.ref a0), (.ref a1)] 2 = mkF m 0 #[.val (.ref a0), .val (.ref a1)] [] := by first | (simp [entryFrame, mkF, argsToLocals, Value.category]; done) | rfl
def Qrnn (Z : State) (a0 : Addr) (a1 : Addr) (h0 : Heap) (n0 : Nat) (v : Option Value) (h : Heap) (L : List Loc) : Prop := v = some (.ref a0) ∧ Fr n0 L ∧ h = h0
set_option maxRecDepth 65536 in
set_option maxHeartbeats 40000000 in
theorem rmrnn (l : Launch) (Z : State) (ar : Array Value) (hw : ∀ d ∈ tables_1, d.before ar Z = true) (ws : List Jvm.Cond) (a0 : Addr) (a1 : Addr) (h0 : Heap) (n0 : Nat) (O0 : Old Z n0 h0) :
    MetFree l (⟨"java/util/Objects", "requireNonNull", "(Ljava/lang/Object;Ljava/lang/String;)Ljava/lang/Object;"⟩ : MethodName) (head1 (Jvm.Cond.code (⟨"java/util/Objects", "requireNonNull", "(Ljava/lang/Object;Ljava/lang/String;)Ljava/lang/Object;"⟩ : MethodName) jdk_31_method_11_code 2 (some (.object "java/lang/Object")) :: ws) ({ frames := 0, cells := 0, slots := 0, locals := 0 } : Room)) (fun a U => a = #[(.ref a0), (.ref a1)] ∧ Z.Warmed39 U.vm ∧ U.heap = h0) (fun _ _ _ _ _ => True) (fun _ U o U' => ∃ v L, o = .returned v ∧ Qrnn Z a0 a1 h0 n0 v U'.heap L ∧ FrameEnd U o U' L ({ frames := 0, cells := 0, slots := 0, locals := 0 } : Room).cells ({ frames := 0, cells := 0, slots := 0, locals := 0 } : Room).slots) := by
  refine MetFree.of_bodySF (plainFor_of_name pnrnn) hisR ?_
  intro p e s m args below meth c s₁ Bd hml0 hP hK
  obtain ⟨rfl, hZ, hh⟩ := hP
  have hx := Bd.exec
  have hby := Bd.bytes
  have hml : c.maxLocals = 2 := hml0
  have hown : s.vm.findClass "java/util/Objects" = some m.cls := findClass_of_methodNamed Bd.named
  have hnm := (name_of_methodNamed Bd.named Bd.method).1
  have hlk : meth.locks = false := BodyLoose.notSynchronized Bd
  have X0 : Stand p l e ({ frames := 0, cells := 0, slots := 0, locals := 0 } : Room) s m #[(.ref a0), (.ref a1)] below meth c s₁ [] 0 0 := Stand.of_body Bd
  have e0 : s₁.heap = h0 := by rw [← hh, Bd.state]; rfl
  have N0 := Fr.nil n0
  suffices hmain : own_Ends p e below s (Qrnn Z a0 a1 h0 n0) 0 0 (s₁.setTop (mkF m 0 #[.val (.ref a0), .val (.ref a1)] [])) by
    obtain ⟨U, o, h1, r⟩ := hmain
    exact ⟨U, o, castTop (efrnn m a0 a1) h1, r⟩
  show own_Ends _ _ _ _ _ _ _ (s₁.setTop (mkF m 0 #[.val (.ref a0), .val (.ref a1)] []))
  refine own_go (fun _ k => XS.aloadN X0.here hx rfl (hb hby drnn_0) rfl rfl k) ?_
  show own_Ends _ _ _ _ _ _ _ (s₁.setTop (mkF m 1 #[.val (.ref a0), .val (.ref a1)] [(.ref a0)]))
  refine own_go (fun _ k => XS.ifnonnullYes X0.here hx rfl (pc0 := 1) (pc' := 13) rfl (hb hby drnn_1) rfl (by decide) (by decide) k) ?_
  show own_Ends _ _ _ _ _ _ _ (s₁.setTop (mkF m 13 #[.val (.ref a0), .val (.ref a1)] []))
  refine own_go (fun _ k => XS.aloadN X0.here hx rfl (hb hby drnn_13) rfl rfl k) ?_
  show own_Ends _ _ _ _ _ _ _ (s₁.setTop (mkF m 14 #[.val (.ref a0), .val (.ref a1)] [(.ref a0)]))
  exact own_retA X0 hx hlk Bd.returns rfl rfl rfl (hb hby drnn_14) (by decide) (by decide) ⟨rfl, N0, e0⟩
theorem dmri_0 : decode prog_20_method_1_code 0 = .ok (.aload_n 0, 1) := by decide +kernel
theorem dmri_1 : decode prog_20_method_1_code 1 = .ok (.invokespecial 3, 3) := by decide +kernel
theorem dmri_4 : decode prog_20_method_1_code 4 = .ok (.aload_n 0, 1) := by decide +kernel
theorem dmri_5 : decode prog_20_method_1_code 5 = .ok (.aload_n 1, 1) := by decide +kernel
theorem dmri_6 : decode prog_20_method_1_code 6 = .ok (.ldc 9, 2) := by decide +kernel
theorem dmri_8 : decode prog_20_method_1_code 8 = .ok (.invokestatic 11, 3) := by decide +kernel
theorem dmri_11 : decode prog_20_method_1_code 11 = .ok (.checkcast 17, 3) := by decide +kernel
theorem dmri_14 : decode prog_20_method_1_code 14 = .ok (.putfield 19, 3) := by decide +kernel
theorem dmri_17 : decode prog_20_method_1_code 17 = .ok (.aload_n 0, 1) := by decide +kernel
theorem dmri_18 : decode prog_20_method_1_code 18 = .ok (.aload_n 2, 1) := by decide +kernel
theorem dmri_19 : decode prog_20_method_1_code 19 = .ok (.ldc 23, 2) := by decide +kernel
theorem dmri_21 : decode prog_20_method_1_code 21 = .ok (.invokestatic 11, 3) := by decide +kernel
theorem dmri_24 : decode prog_20_method_1_code 24 = .ok (.checkcast 17, 3) := by decide +kernel
theorem dmri_27 : decode prog_20_method_1_code 27 = .ok (.putfield 25, 3) := by decide +kernel
theorem dmri_30 : decode prog_20_method_1_code 30 = .ok (.aload_n 0, 1) := by decide +kernel
theorem dmri_31 : decode prog_20_method_1_code 31 = .ok (.aload_n 3, 1) := by decide +kernel
theorem dmri_32 : decode prog_20_method_1_code 32 = .ok (.ldc 28, 2) := by decide +kernel
theorem dmri_34 : decode prog_20_method_1_code 34 = .ok (.invokestatic 11, 3) := by decide +kernel
theorem dmri_37 : decode prog_20_method_1_code 37 = .ok (.checkcast 17, 3) := by decide +kernel
theorem dmri_40 : decode prog_20_method_1_code 40 = .ok (.putfield 30, 3) := by decide +kernel
theorem dmri_43 : decode prog_20_method_1_code 43 = .ok (.return_, 1) := by decide +kernel
theorem pnmri : plainName "com/example/shallow_history/shallowhistory/policy/MethodReference" = true := by first | (simp [plainName, overriddenIn]; done) | decide +kernel
theorem pdmri_0 : parseMethodDescriptor "(Ljava/lang/Object;Ljava/lang/String;)Ljava/lang/Object;" = some ⟨[(.object "java/lang/Object"), (.object "java/lang/String")], some (.object "java/lang/Object")⟩ := by decide +kernel
theorem efmri (m : MethodId) (a0 : Addr) (a1 : Addr) (a2 : Addr) (a3 : Addr) : entryFrame m #[(.ref a0), (.ref a1), (.ref a2), (.ref a3)] 4 = mkF m 0 #[.val (.ref a0), .val (.ref a1), .val (.ref a2), .val (.ref a3)] [] := by first | (simp [entryFrame, mkF, argsToLocals, Value.category]; done) | rfl
def Qmri (Z : State) (a0 : Addr) (a1 : Addr) (a2 : Addr) (a3 : Addr) (h0 : Heap) (n0 : Nat) (v : Option Value) (h : Heap) (L : List Loc) : Prop := v = none ∧ Fr n0 L ∧ Keep h0 h [a0] ∧ Exa Z h a0 "com/example/shallow_history/shallowhistory/policy/MethodReference" ∧ Fld Z h a0 "com/example/shallow_history/shallowhistory/policy/MethodReference" "owner" "Ljava/lang/String;" (.ref a1) ∧ Fld Z h a0 "com/example/shallow_history/shallowhistory/policy/MethodReference" "name" "Ljava/lang/String;" (.ref a2) ∧ Fld Z h a0 "com/example/shallow_history/shallowhistory/policy/MethodReference" "descriptor" "Ljava/lang/String;" (.ref a3)
set_option maxRecDepth 65536 in
set_option maxHeartbeats 40000000 in
theorem rmmri (l : Launch) (Z : State) (ar : Array Value) (hw : ∀ d ∈ tables_1, d.before ar Z = true) (ws : List Jvm.Cond) (a0 : Addr) (a1 : Addr) (a2 : Addr) (a3 : Addr) (h0 : Heap) (n0 : Nat) (O0 : Old Z n0 h0) (E_a0 : Exa Z h0 a0 "com/example/shallow_history/shallowhistory/policy/MethodReference") (g_a0 : n0 ≤ a0) (F_owner_a0 : Fld Z h0 a0 "com/example/shallow_history/shallowhistory/policy/MethodReference" "owner" "Ljava/lang/String;" .null) (F_name_a0 : Fld Z h0 a0 "com/example/shallow_history/shallowhistory/policy/MethodReference" "name" "Ljava/lang/String;" .null) (F_descriptor_a0 : Fld Z h0 a0 "com/example/shallow_history/shallowhistory/policy/MethodReference" "descriptor" "Ljava/lang/String;" .null) (E_a1 : Exa Z h0 a1 "java/lang/String") (E_a2 : Exa Z h0 a2 "java/lang/String") (E_a3 : Exa Z h0 a3 "java/lang/String") :
    MetFree l (⟨"com/example/shallow_history/shallowhistory/policy/MethodReference", "<init>", "(Ljava/lang/String;Ljava/lang/String;Ljava/lang/String;)V"⟩ : MethodName) (head1 (Jvm.Cond.code (⟨"com/example/shallow_history/shallowhistory/policy/MethodReference", "<init>", "(Ljava/lang/String;Ljava/lang/String;Ljava/lang/String;)V"⟩ : MethodName) prog_20_method_1_code 4 none :: ws) ({ frames := 1, cells := 6, slots := 148, locals := 14 } : Room)) (fun a U => a = #[(.ref a0), (.ref a1), (.ref a2), (.ref a3)] ∧ Z.Warmed39 U.vm ∧ U.heap = h0 ∧ CHv Z consts_1 U.vm h0) (fun _ _ _ _ _ => True) (fun _ U o U' => ∃ v L, o = .returned v ∧ Qmri Z a0 a1 a2 a3 h0 n0 v U'.heap L ∧ CHr Z consts_1 U.vm U.heap U'.vm U'.heap ∧ ReturnedEndW U o U' L ({ frames := 1, cells := 6, slots := 148, locals := 14 } : Room).cells ({ frames := 1, cells := 6, slots := 148, locals := 14 } : Room).slots) := by
  refine MetFree.of_bodySF (plainFor_of_name pnmri) hisR ?_
  intro p e s m args below meth c s₁ Bd hml0 hP hK
  obtain ⟨rfl, hZ, hh, hCH⟩ := hP
  have hx := Bd.exec
  have hby := Bd.bytes
  have hml : c.maxLocals = 4 := hml0
  have hown : s.vm.findClass "com/example/shallow_history/shallowhistory/policy/MethodReference" = some m.cls := findClass_of_methodNamed Bd.named
  have hnm := (name_of_methodNamed Bd.named Bd.method).1
  have hlk : meth.locks = false := BodyLoose.notSynchronized Bd
  have X0 : Stand p l e ({ frames := 1, cells := 6, slots := 148, locals := 14 } : Room) (s.setVm s.vm) m #[(.ref a0), (.ref a1), (.ref a2), (.ref a3)] below meth c s₁ [] 0 0 := Stand.of_body Bd
  have e0 : s₁.heap = h0 := by rw [← hh, Bd.state]; rfl
  have N0 := Fr.nil n0
  have Wd0 : own_Wd s Z consts_1 s.vm h0 := own_Wd.start hh hCH
  suffices hmain : own_EndsW p e below s Z consts_1 (Qmri Z a0 a1 a2 a3 h0 n0) 6 148 (s₁.setTop (mkF m 0 #[.val (.ref a0), .val (.ref a1), .val (.ref a2), .val (.ref a3)] [])) by
    obtain ⟨U, o, h1, r⟩ := hmain
    exact ⟨U, o, castTop (efmri m a0 a1 a2 a3) h1, r⟩
  show own_EndsW _ _ _ _ _ _ _ _ _ (s₁.setTop (mkF m 0 #[.val (.ref a0), .val (.ref a1), .val (.ref a2), .val (.ref a3)] []))
  refine own_goW (fun _ k => XS.aloadN X0.here hx rfl (hb hby dmri_0) rfl rfl k) ?_
  show own_EndsW _ _ _ _ _ _ _ _ _ (s₁.setTop (mkF m 1 #[.val (.ref a0), .val (.ref a1), .val (.ref a2), .val (.ref a3)] [(.ref a0)]))
  obtain ⟨T1, X1, e1, st1⟩ := initO X0 hx hZ hown (hw _ (List.mem_of_getElem? (i := 43) rfl)) (hw _ (List.mem_of_getElem? (i := 19) rfl)) (hw _ (List.mem_of_getElem? (i := 20) rfl)) e0 (g := (mkF m 1 #[.val (.ref a0), .val (.ref a1), .val (.ref a2), .val (.ref a3)] [(.ref a0)])) rfl (by rw [hml]; rfl) rfl (hb hby dmri_1) (by decide) (W := 0) (by show 2 * 0 + _ ≤ _; exact Nat.le_of_eq rfl) (by decide)
  refine own_goW (fun _ k => st1 _ k) ?_
  show own_EndsW _ _ _ _ _ _ _ _ _ (T1.setTop (mkF m 4 #[.val (.ref a0), .val (.ref a1), .val (.ref a2), .val (.ref a3)] []))
  refine own_goW (fun _ k => XS.aloadN X1.here hx rfl (hb hby dmri_4) rfl rfl k) ?_
  show own_EndsW _ _ _ _ _ _ _ _ _ (T1.setTop (mkF m 5 #[.val (.ref a0), .val (.ref a1), .val (.ref a2), .val (.ref a3)] [(.ref a0)]))
  refine own_goW (fun _ k => XS.aloadN X1.here hx rfl (hb hby dmri_5) rfl rfl k) ?_
  show own_EndsW _ _ _ _ _ _ _ _ _ (T1.setTop (mkF m 6 #[.val (.ref a0), .val (.ref a1), .val (.ref a2), .val (.ref a3)] [(.ref a1), (.ref a0)]))
  obtain ⟨b2, T2, h2, X2, e2, E2, Wd2, hZ, hown, st2⟩ := own_ldcO X1 hx hZ hown (hw _ (List.mem_of_getElem? (i := 44) rfl)) (own_SA hw) e1 Wd0 (own_EW hw) (g := (mkF m 6 #[.val (.ref a0), .val (.ref a1), .val (.ref a2), .val (.ref a3)] [(.ref a1), (.ref a0)])) rfl (hb hby dmri_6) (n := 40) (by first | decide | decide +kernel) (by decide) (by decide) (by decide)
  refine own_goW (fun _ k => st2 _ k) ?_
  have F3 : Exa Z h2 a0 "com/example/shallow_history/shallowhistory/policy/MethodReference" := (Exa.ext E2 E_a0)
  have F4 : Fld Z h2 a0 "com/example/shallow_history/shallowhistory/policy/MethodReference" "owner" "Ljava/lang/String;" .null := (Fld.ext E2 F_owner_a0)
  have F5 : Fld Z h2 a0 "com/example/shallow_history/shallowhistory/policy/MethodReference" "name" "Ljava/lang/String;" .null := (Fld.ext E2 F_name_a0)
  have F6 : Fld Z h2 a0 "com/example/shallow_history/shallowhistory/policy/MethodReference" "descriptor" "Ljava/lang/String;" .null := (Fld.ext E2 F_descriptor_a0)
  have F7 : Exa Z h2 a1 "java/lang/String" := (Exa.ext E2 E_a1)
  have F8 : Exa Z h2 a2 "java/lang/String" := (Exa.ext E2 E_a2)
  have F9 : Exa Z h2 a3 "java/lang/String" := (Exa.ext E2 E_a3)
  have F10 : Old Z n0 h2 := (O0.ext E2)
  have K11 : Keep h0 h2 [a0] := (Keep.refl h0 [a0]).ext E2
  show own_EndsW _ _ _ _ _ _ _ _ _ (T2.setTop (mkF m 8 #[.val (.ref a0), .val (.ref a1), .val (.ref a2), .val (.ref a3)] [(.ref b2), (.ref a1), (.ref a0)]))
  obtain ⟨_, _, ⟨T12, L12, k12, n12⟩, -, X12, ⟨Lc12, hQ12, l12, y12, z12⟩, st12⟩ := Jvm.LawKit.callS X2 hx (y := (⟨"java/util/Objects", "requireNonNull", "(Ljava/lang/Object;Ljava/lang/String;)Ljava/lang/Object;"⟩ : MethodName)) hown (mvT hZ (hw _ (List.mem_of_getElem? (i := 45) rfl))) (mvT hZ (hw _ (List.mem_of_getElem? (i := 46) rfl))) (mvT hZ (hw _ (List.mem_of_getElem? (i := 47) rfl))) (mvT hZ (hw _ (List.mem_of_getElem? (i := 48) rfl))) (by decide) (backOf (W := 1) (rmrnn l Z ar hw [] a1 b2 h2 n0 F10) hZ (hw _ (List.mem_of_getElem? (i := 48) rfl)) (hw _ (List.mem_of_getElem? (i := 47) rfl)) (by decide) (by decide)) (g := (mkF m 8 #[.val (.ref a0), .val (.ref a1), .val (.ref a2), .val (.ref a3)] [(.ref b2), (.ref a1), (.ref a0)])) rfl (by rw [hml]; rfl) (argsL := [(.ref a1), (.ref b2)]) (rest := [(.ref a0)]) (lenOf pdmri_0 rfl) rfl (by show 2 * 0 + _ ≤ _; exact Nat.le_of_eq rfl) (hb hby dmri_8) (fun _ _ => ⟨rfl, e2, (by decide : 2 + 0 ≤ _), (by decide : 44 + 0 ≤ _)⟩)
  dsimp only [Pt.U, Pt.locs, Pt.cells, Pt.slots] at X12 l12 y12 z12 st12 hQ12
  subst l12 y12 z12
  obtain ⟨rfl, N12q, eq12⟩ := hQ12
  have e12 : T12.heap = h2 := eq12
  have N12 := Fr.app N0 N12q
  refine own_goW (fun _ k => st12 _ k) ?_
  show own_EndsW _ _ _ _ _ _ _ _ _ (T12.setTop (mkF m 11 #[.val (.ref a0), .val (.ref a1), .val (.ref a2), .val (.ref a3)] [(.ref a1), (.ref a0)]))
  obtain ⟨T13, X13, e13, st13⟩ := castY X12 hx hZ hown (hw _ (List.mem_of_getElem? (i := 49) rfl)) e12 (Ins.self F7) (g := (mkF m 11 #[.val (.ref a0), .val (.ref a1), .val (.ref a2), .val (.ref a3)] [(.ref a1), (.ref a0)])) rfl rfl (hb hby dmri_11)
  refine own_goW (fun _ k => st13 _ k) ?_
  show own_EndsW _ _ _ _ _ _ _ _ _ (T13.setTop (mkF m 14 #[.val (.ref a0), .val (.ref a1), .val (.ref a2), .val (.ref a3)] [(.ref a1), (.ref a0)]))
  obtain ⟨T14, h14, X14, e14, W14, st14⟩ := putF X13 hx hZ hown (host := "") (Or.inl (hw _ (List.mem_of_getElem? (i := 50) rfl))) Via.refl e13 F4 F3 (Or.inr ⟨(hw _ (List.mem_of_getElem? (i := 51) rfl)), rfl, hnm⟩) (hw _ (List.mem_of_getElem? (i := 1) rfl)) (ty := (.object "java/lang/String")) (by decide) rfl rfl (g := (mkF m 14 #[.val (.ref a0), .val (.ref a1), .val (.ref a2), .val (.ref a3)] [(.ref a1), (.ref a0)])) rfl rfl (hb hby dmri_14)
  refine own_goW (fun _ k => st14 _ k) ?_
  have N14 := Fr.snoc X14 N12 g_a0
  have Wd14 : own_Wd s Z consts_1 T2.vm h14 := Wd2.wr W14 (Safe.exa hZ.alike F3 (by decide) (by decide))
  have F15 : Exa Z h14 a0 "com/example/shallow_history/shallowhistory/policy/MethodReference" := (Exa.wr W14 F3)
  have F16 : Fld Z h14 a0 "com/example/shallow_history/shallowhistory/policy/MethodReference" "name" "Ljava/lang/String;" .null := (Fld.other W14 F5 (Or.inr (slot_ne (Or.inr (hw _ (List.mem_of_getElem? (i := 54) rfl))) (Or.inr (hw _ (List.mem_of_getElem? (i := 51) rfl))) (by decide) (t := (.object "java/lang/String")) (t' := (.object "java/lang/String")) (by decide) (by decide))))
  have F17 : Fld Z h14 a0 "com/example/shallow_history/shallowhistory/policy/MethodReference" "descriptor" "Ljava/lang/String;" .null := (Fld.other W14 F6 (Or.inr (slot_ne (Or.inr (hw _ (List.mem_of_getElem? (i := 57) rfl))) (Or.inr (hw _ (List.mem_of_getElem? (i := 51) rfl))) (by decide) (t := (.object "java/lang/String")) (t' := (.object "java/lang/String")) (by decide) (by decide))))
  have F18 : Exa Z h14 a1 "java/lang/String" := (Exa.wr W14 F7)
  have F19 : Exa Z h14 a2 "java/lang/String" := (Exa.wr W14 F8)
  have F20 : Exa Z h14 a3 "java/lang/String" := (Exa.wr W14 F9)
  have F21 : Old Z n0 h14 := (F10.wr W14 g_a0)
  have F22 : Fld Z h14 a0 "com/example/shallow_history/shallowhistory/policy/MethodReference" "owner" "Ljava/lang/String;" (.ref a1) := Fld.same W14 F4
  have K23 : Keep h0 h14 [a0] := K11.wr W14 (Or.inl (List.mem_of_getElem? (i := 0) rfl))
  show own_EndsW _ _ _ _ _ _ _ _ _ (T14.setTop (mkF m 17 #[.val (.ref a0), .val (.ref a1), .val (.ref a2), .val (.ref a3)] []))
  refine own_goW (fun _ k => XS.aloadN X14.here hx rfl (hb hby dmri_17) rfl rfl k) ?_
  show own_EndsW _ _ _ _ _ _ _ _ _ (T14.setTop (mkF m 18 #[.val (.ref a0), .val (.ref a1), .val (.ref a2), .val (.ref a3)] [(.ref a0)]))
  refine own_goW (fun _ k => XS.aloadN X14.here hx rfl (hb hby dmri_18) rfl rfl k) ?_
  show own_EndsW _ _ _ _ _ _ _ _ _ (T14.setTop (mkF m 19 #[.val (.ref a0), .val (.ref a1), .val (.ref a2), .val (.ref a3)] [(.ref a2), (.ref a0)]))
  obtain ⟨b24, T24, h24, X24, e24, E24, Wd24, hZ, hown, st24⟩ := own_ldcO X14 hx hZ hown (hw _ (List.mem_of_getElem? (i := 52) rfl)) (own_SA hw) e14 Wd14 (own_EW hw) (g := (mkF m 19 #[.val (.ref a0), .val (.ref a1), .val (.ref a2), .val (.ref a3)] [(.ref a2), (.ref a0)])) rfl (hb hby dmri_19) (n := 36) (by first | decide | decide +kernel) (by decide) (by decide) (by decide)
  refine own_goW (fun _ k => st24 _ k) ?_
  have F25 : Exa Z h24 a0 "com/example/shallow_history/shallowhistory/policy/MethodReference" := (Exa.ext E24 F15)
  have F26 : Fld Z h24 a0 "com/example/shallow_history/shallowhistory/policy/MethodReference" "owner" "Ljava/lang/String;" (.ref a1) := (Fld.ext E24 F22)
  have F27 : Fld Z h24 a0 "com/example/shallow_history/shallowhistory/policy/MethodReference" "name" "Ljava/lang/String;" .null := (Fld.ext E24 F16)
  have F28 : Fld Z h24 a0 "com/example/shallow_history/shallowhistory/policy/MethodReference" "descriptor" "Ljava/lang/String;" .null := (Fld.ext E24 F17)
  have F29 : Exa Z h24 a1 "java/lang/String" := (Exa.ext E24 F18)
  have F30 : Exa Z h24 a2 "java/lang/String" := (Exa.ext E24 F19)
  have F31 : Exa Z h24 a3 "java/lang/String" := (Exa.ext E24 F20)
  have F32 : Old Z n0 h24 := (F21.ext E24)
  have K33 : Keep h0 h24 [a0] := K23.ext E24
  show own_EndsW _ _ _ _ _ _ _ _ _ (T24.setTop (mkF m 21 #[.val (.ref a0), .val (.ref a1), .val (.ref a2), .val (.ref a3)] [(.ref b24), (.ref a2), (.ref a0)]))
  obtain ⟨_, _, ⟨T34, L34, k34, n34⟩, -, X34, ⟨Lc34, hQ34, l34, y34, z34⟩, st34⟩ := Jvm.LawKit.callS X24 hx (y := (⟨"java/util/Objects", "requireNonNull", "(Ljava/lang/Object;Ljava/lang/String;)Ljava/lang/Object;"⟩ : MethodName)) hown (mvT hZ (hw _ (List.mem_of_getElem? (i := 45) rfl))) (mvT hZ (hw _ (List.mem_of_getElem? (i := 46) rfl))) (mvT hZ (hw _ (List.mem_of_getElem? (i := 47) rfl))) (mvT hZ (hw _ (List.mem_of_getElem? (i := 48) rfl))) (by decide) (backOf (W := 1) (rmrnn l Z ar hw [] a2 b24 h24 n0 F32) hZ (hw _ (List.mem_of_getElem? (i := 48) rfl)) (hw _ (List.mem_of_getElem? (i := 47) rfl)) (by decide) (by decide)) (g := (mkF m 21 #[.val (.ref a0), .val (.ref a1), .val (.ref a2), .val (.ref a3)] [(.ref b24), (.ref a2), (.ref a0)])) rfl (by rw [hml]; rfl) (argsL := [(.ref a2), (.ref b24)]) (rest := [(.ref a0)]) (lenOf pdmri_0 rfl) rfl (by show 2 * 0 + _ ≤ _; exact Nat.le_of_eq rfl) (hb hby dmri_21) (fun _ _ => ⟨rfl, e24, (by decide : 4 + 0 ≤ _), (by decide : 84 + 0 ≤ _)⟩)
  dsimp only [Pt.U, Pt.locs, Pt.cells, Pt.slots] at X34 l34 y34 z34 st34 hQ34
  subst l34 y34 z34
  obtain ⟨rfl, N34q, eq34⟩ := hQ34
  have e34 : T34.heap = h24 := eq34
  have N34 := Fr.app N14 N34q
  refine own_goW (fun _ k => st34 _ k) ?_
  show own_EndsW _ _ _ _ _ _ _ _ _ (T34.setTop (mkF m 24 #[.val (.ref a0), .val (.ref a1), .val (.ref a2), .val (.ref a3)] [(.ref a2), (.ref a0)]))
  obtain ⟨T35, X35, e35, st35⟩ := castY X34 hx hZ hown (hw _ (List.mem_of_getElem? (i := 49) rfl)) e34 (Ins.self F30) (g := (mkF m 24 #[.val (.ref a0), .val (.ref a1), .val (.ref a2), .val (.ref a3)] [(.ref a2), (.ref a0)])) rfl rfl (hb hby dmri_24)
  refine own_goW (fun _ k => st35 _ k) ?_
  show own_EndsW _ _ _ _ _ _ _ _ _ (T35.setTop (mkF m 27 #[.val (.ref a0), .val (.ref a1), .val (.ref a2), .val (.ref a3)] [(.ref a2), (.ref a0)]))
  obtain ⟨T36, h36, X36, e36, W36, st36⟩ := putF X35 hx hZ hown (host := "") (Or.inl (hw _ (List.mem_of_getElem? (i := 53) rfl))) Via.refl e35 F27 F25 (Or.inr ⟨(hw _ (List.mem_of_getElem? (i := 54) rfl)), rfl, hnm⟩) (hw _ (List.mem_of_getElem? (i := 1) rfl)) (ty := (.object "java/lang/String")) (by decide) rfl rfl (g := (mkF m 27 #[.val (.ref a0), .val (.ref a1), .val (.ref a2), .val (.ref a3)] [(.ref a2), (.ref a0)])) rfl rfl (hb hby dmri_27)
  refine own_goW (fun _ k => st36 _ k) ?_
  have N36 := Fr.snoc X36 N34 g_a0
  have Wd36 : own_Wd s Z consts_1 T24.vm h36 := Wd24.wr W36 (Safe.exa hZ.alike F25 (by decide) (by decide))
  have F37 : Exa Z h36 a0 "com/example/shallow_history/shallowhistory/policy/MethodReference" := (Exa.wr W36 F25)
  have F38 : Fld Z h36 a0 "com/example/shallow_history/shallowhistory/policy/MethodReference" "owner" "Ljava/lang/String;" (.ref a1) := (Fld.other W36 F26 (Or.inr (slot_ne (Or.inr (hw _ (List.mem_of_getElem? (i := 51) rfl))) (Or.inr (hw _ (List.mem_of_getElem? (i := 54) rfl))) (by decide) (t := (.object "java/lang/String")) (t' := (.object "java/lang/String")) (by decide) (by decide))))
  have F39 : Fld Z h36 a0 "com/example/shallow_history/shallowhistory/policy/MethodReference" "descriptor" "Ljava/lang/String;" .null := (Fld.other W36 F28 (Or.inr (slot_ne (Or.inr (hw _ (List.mem_of_getElem? (i := 57) rfl))) (Or.inr (hw _ (List.mem_of_getElem? (i := 54) rfl))) (by decide) (t := (.object "java/lang/String")) (t' := (.object "java/lang/String")) (by decide) (by decide))))
  have F40 : Exa Z h36 a1 "java/lang/String" := (Exa.wr W36 F29)
  have F41 : Exa Z h36 a2 "java/lang/String" := (Exa.wr W36 F30)
  have F42 : Exa Z h36 a3 "java/lang/String" := (Exa.wr W36 F31)
  have F43 : Old Z n0 h36 := (F32.wr W36 g_a0)
  have F44 : Fld Z h36 a0 "com/example/shallow_history/shallowhistory/policy/MethodReference" "name" "Ljava/lang/String;" (.ref a2) := Fld.same W36 F27
  have K45 : Keep h0 h36 [a0] := K33.wr W36 (Or.inl (List.mem_of_getElem? (i := 0) rfl))
  show own_EndsW _ _ _ _ _ _ _ _ _ (T36.setTop (mkF m 30 #[.val (.ref a0), .val (.ref a1), .val (.ref a2), .val (.ref a3)] []))
  refine own_goW (fun _ k => XS.aloadN X36.here hx rfl (hb hby dmri_30) rfl rfl k) ?_
  show own_EndsW _ _ _ _ _ _ _ _ _ (T36.setTop (mkF m 31 #[.val (.ref a0), .val (.ref a1), .val (.ref a2), .val (.ref a3)] [(.ref a0)]))
  refine own_goW (fun _ k => XS.aloadN X36.here hx rfl (hb hby dmri_31) rfl rfl k) ?_
  show own_EndsW _ _ _ _ _ _ _ _ _ (T36.setTop (mkF m 32 #[.val (.ref a0), .val (.ref a1), .val (.ref a2), .val (.ref a3)] [(.ref a3), (.ref a0)]))
  obtain ⟨b46, T46, h46, X46, e46, E46, Wd46, hZ, hown, st46⟩ := own_ldcO X36 hx hZ hown (hw _ (List.mem_of_getElem? (i := 55) rfl)) (own_SA hw) e36 Wd36 (own_EW hw) (g := (mkF m 32 #[.val (.ref a0), .val (.ref a1), .val (.ref a2), .val (.ref a3)] [(.ref a3), (.ref a0)])) rfl (hb hby dmri_32) (n := 60) (by first | decide | decide +kernel) (by decide) (by decide) (by decide)
  refine own_goW (fun _ k => st46 _ k) ?_
  have F47 : Exa Z h46 a0 "com/example/shallow_history/shallowhistory/policy/MethodReference" := (Exa.ext E46 F37)
  have F48 : Fld Z h46 a0 "com/example/shallow_history/shallowhistory/policy/MethodReference" "owner" "Ljava/lang/String;" (.ref a1) := (Fld.ext E46 F38)
  have F49 : Fld Z h46 a0 "com/example/shallow_history/shallowhistory/policy/MethodReference" "name" "Ljava/lang/String;" (.ref a2) := (Fld.ext E46 F44)
  have F50 : Fld Z h46 a0 "com/example/shallow_history/shallowhistory/policy/MethodReference" "descriptor" "Ljava/lang/String;" .null := (Fld.ext E46 F39)
  have F51 : Exa Z h46 a1 "java/lang/String" := (Exa.ext E46 F40)
  have F52 : Exa Z h46 a2 "java/lang/String" := (Exa.ext E46 F41)
  have F53 : Exa Z h46 a3 "java/lang/String" := (Exa.ext E46 F42)
  have F54 : Old Z n0 h46 := (F43.ext E46)
  have K55 : Keep h0 h46 [a0] := K45.ext E46
  show own_EndsW _ _ _ _ _ _ _ _ _ (T46.setTop (mkF m 34 #[.val (.ref a0), .val (.ref a1), .val (.ref a2), .val (.ref a3)] [(.ref b46), (.ref a3), (.ref a0)]))
  obtain ⟨_, _, ⟨T56, L56, k56, n56⟩, -, X56, ⟨Lc56, hQ56, l56, y56, z56⟩, st56⟩ := Jvm.LawKit.callS X46 hx (y := (⟨"java/util/Objects", "requireNonNull", "(Ljava/lang/Object;Ljava/lang/String;)Ljava/lang/Object;"⟩ : MethodName)) hown (mvT hZ (hw _ (List.mem_of_getElem? (i := 45) rfl))) (mvT hZ (hw _ (List.mem_of_getElem? (i := 46) rfl))) (mvT hZ (hw _ (List.mem_of_getElem? (i := 47) rfl))) (mvT hZ (hw _ (List.mem_of_getElem? (i := 48) rfl))) (by decide) (backOf (W := 1) (rmrnn l Z ar hw [] a3 b46 h46 n0 F54) hZ (hw _ (List.mem_of_getElem? (i := 48) rfl)) (hw _ (List.mem_of_getElem? (i := 47) rfl)) (by decide) (by decide)) (g := (mkF m 34 #[.val (.ref a0), .val (.ref a1), .val (.ref a2), .val (.ref a3)] [(.ref b46), (.ref a3), (.ref a0)])) rfl (by rw [hml]; rfl) (argsL := [(.ref a3), (.ref b46)]) (rest := [(.ref a0)]) (lenOf pdmri_0 rfl) rfl (by show 2 * 0 + _ ≤ _; exact Nat.le_of_eq rfl) (hb hby dmri_34) (fun _ _ => ⟨rfl, e46, (by decide : 6 + 0 ≤ _), (by decide : 148 + 0 ≤ _)⟩)
  dsimp only [Pt.U, Pt.locs, Pt.cells, Pt.slots] at X56 l56 y56 z56 st56 hQ56
  subst l56 y56 z56
  obtain ⟨rfl, N56q, eq56⟩ := hQ56
  have e56 : T56.heap = h46 := eq56
  have N56 := Fr.app N36 N56q
  refine own_goW (fun _ k => st56 _ k) ?_
  show own_EndsW _ _ _ _ _ _ _ _ _ (T56.setTop (mkF m 37 #[.val (.ref a0), .val (.ref a1), .val (.ref a2), .val (.ref a3)] [(.ref a3), (.ref a0)]))
  obtain ⟨T57, X57, e57, st57⟩ := castY X56 hx hZ hown (hw _ (List.mem_of_getElem? (i := 49) rfl)) e56 (Ins.self F53) (g := (mkF m 37 #[.val (.ref a0), .val (.ref a1), .val (.ref a2), .val (.ref a3)] [(.ref a3), (.ref a0)])) rfl rfl (hb hby dmri_37)
  refine own_goW (fun _ k => st57 _ k) ?_
  show own_EndsW _ _ _ _ _ _ _ _ _ (T57.setTop (mkF m 40 #[.val (.ref a0), .val (.ref a1), .val (.ref a2), .val (.ref a3)] [(.ref a3), (.ref a0)]))
  obtain ⟨T58, h58, X58, e58, W58, st58⟩ := putF X57 hx hZ hown (host := "") (Or.inl (hw _ (List.mem_of_getElem? (i := 56) rfl))) Via.refl e57 F50 F47 (Or.inr ⟨(hw _ (List.mem_of_getElem? (i := 57) rfl)), rfl, hnm⟩) (hw _ (List.mem_of_getElem? (i := 1) rfl)) (ty := (.object "java/lang/String")) (by decide) rfl rfl (g := (mkF m 40 #[.val (.ref a0), .val (.ref a1), .val (.ref a2), .val (.ref a3)] [(.ref a3), (.ref a0)])) rfl rfl (hb hby dmri_40)
  refine own_goW (fun _ k => st58 _ k) ?_
  have N58 := Fr.snoc X58 N56 g_a0
  have Wd58 : own_Wd s Z consts_1 T46.vm h58 := Wd46.wr W58 (Safe.exa hZ.alike F47 (by decide) (by decide))
  have F59 : Exa Z h58 a0 "com/example/shallow_history/shallowhistory/policy/MethodReference" := (Exa.wr W58 F47)
  have F60 : Fld Z h58 a0 "com/example/shallow_history/shallowhistory/policy/MethodReference" "owner" "Ljava/lang/String;" (.ref a1) := (Fld.other W58 F48 (Or.inr (slot_ne (Or.inr (hw _ (List.mem_of_getElem? (i := 51) rfl))) (Or.inr (hw _ (List.mem_of_getElem? (i := 57) rfl))) (by decide) (t := (.object "java/lang/String")) (t' := (.object "java/lang/String")) (by decide) (by decide))))
  have F61 : Fld Z h58 a0 "com/example/shallow_history/shallowhistory/policy/MethodReference" "name" "Ljava/lang/String;" (.ref a2) := (Fld.other W58 F49 (Or.inr (slot_ne (Or.inr (hw _ (List.mem_of_getElem? (i := 54) rfl))) (Or.inr (hw _ (List.mem_of_getElem? (i := 57) rfl))) (by decide) (t := (.object "java/lang/String")) (t' := (.object "java/lang/String")) (by decide) (by decide))))
  have F62 : Exa Z h58 a1 "java/lang/String" := (Exa.wr W58 F51)
  have F63 : Exa Z h58 a2 "java/lang/String" := (Exa.wr W58 F52)
  have F64 : Exa Z h58 a3 "java/lang/String" := (Exa.wr W58 F53)
  have F65 : Old Z n0 h58 := (F54.wr W58 g_a0)
  have F66 : Fld Z h58 a0 "com/example/shallow_history/shallowhistory/policy/MethodReference" "descriptor" "Ljava/lang/String;" (.ref a3) := Fld.same W58 F50
  have K67 : Keep h0 h58 [a0] := K55.wr W58 (Or.inl (List.mem_of_getElem? (i := 0) rfl))
  show own_EndsW _ _ _ _ _ _ _ _ _ (T58.setTop (mkF m 43 #[.val (.ref a0), .val (.ref a1), .val (.ref a2), .val (.ref a3)] []))
  exact own_retVW X58 hx hlk e58 Wd58 hZ (own_EW hw) Bd.returns (hb hby dmri_43) (by decide) (by decide) (by rw [e58]; exact ⟨rfl, N58, K67, F59, F60, F61, F66⟩)
theorem dmeN_0 : decode prog_20_method_7_code 0 = .ok (.aload_n 1, 1) := by decide +kernel
theorem dmeN_1 : decode prog_20_method_7_code 1 = .ok (.instanceof 1, 3) := by decide +kernel
theorem dmeN_4 : decode prog_20_method_7_code 4 = .ok (.ifCond .eq 54, 3) := by decide +kernel
theorem dmeN_58 : decode prog_20_method_7_code 58 = .ok (.iconst 0, 1) := by decide +kernel
theorem dmeN_59 : decode prog_20_method_7_code 59 = .ok (.ireturn, 1) := by decide +kernel
theorem pnmeN : plainName "com/example/shallow_history/shallowhistory/policy/MethodReference" = true := by first | (simp [plainName, overriddenIn]; done) | decide +kernel
theorem efmeN (m : MethodId) (a0 : Addr) : entryFrame m #[(.ref a0), .null] 3 = mkF m 0 #[.val (.ref a0), .val .null, .unset] [] := by first | (simp [entryFrame, mkF, argsToLocals, Value.category]; done) | rfl
def QmeN (Z : State) (a0 : Addr) (h0 : Heap) (n0 : Nat) (v : Option Value) (h : Heap) (L : List Loc) : Prop := v = some (.int (0 : Int32)) ∧ Fr n0 L ∧ h = h0
set_option maxRecDepth 65536 in
set_option maxHeartbeats 40000000 in
theorem rmmeN (l : Launch) (Z : State) (ar : Array Value) (hw : ∀ d ∈ tables_1, d.before ar Z = true) (ws : List Jvm.Cond) (a0 : Addr) (h0 : Heap) (n0 : Nat) (O0 : Old Z n0 h0) :
    MetFree l (⟨"com/example/shallow_history/shallowhistory/policy/MethodReference", "equals", "(Ljava/lang/Object;)Z"⟩ : MethodName) (head1 (Jvm.Cond.code (⟨"com/example/shallow_history/shallowhistory/policy/MethodReference", "equals", "(Ljava/lang/Object;)Z"⟩ : MethodName) prog_20_method_7_code 3 (some .boolean) :: ws) ({ frames := 0, cells := 0, slots := 0, locals := 0 } : Room)) (fun a U => a = #[(.ref a0), .null] ∧ Z.Warmed39 U.vm ∧ U.heap = h0) (fun _ _ _ _ _ => True) (fun _ U o U' => ∃ v L, o = .returned v ∧ QmeN Z a0 h0 n0 v U'.heap L ∧ FrameEnd U o U' L ({ frames := 0, cells := 0, slots := 0, locals := 0 } : Room).cells ({ frames := 0, cells := 0, slots := 0, locals := 0 } : Room).slots) := by
  refine MetFree.of_bodySF (plainFor_of_name pnmeN) hisR ?_
  intro p e s m args below meth c s₁ Bd hml0 hP hK
  obtain ⟨rfl, hZ, hh⟩ := hP
  have hx := Bd.exec
  have hby := Bd.bytes
  have hml : c.maxLocals = 3 := hml0
  have hown : s.vm.findClass "com/example/shallow_history/shallowhistory/policy/MethodReference" = some m.cls := findClass_of_methodNamed Bd.named
  have hnm := (name_of_methodNamed Bd.named Bd.method).1
  have hlk : meth.locks = false := BodyLoose.notSynchronized Bd
  have X0 : Stand p l e ({ frames := 0, cells := 0, slots := 0, locals := 0 } : Room) s m #[(.ref a0), .null] below meth c s₁ [] 0 0 := Stand.of_body Bd
  have e0 : s₁.heap = h0 := by rw [← hh, Bd.state]; rfl
  have N0 := Fr.nil n0
  suffices hmain : own_Ends p e below s (QmeN Z a0 h0 n0) 0 0 (s₁.setTop (mkF m 0 #[.val (.ref a0), .val .null, .unset] [])) by
    obtain ⟨U, o, h1, r⟩ := hmain
    exact ⟨U, o, castTop (efmeN m a0) h1, r⟩
  show own_Ends _ _ _ _ _ _ _ (s₁.setTop (mkF m 0 #[.val (.ref a0), .val .null, .unset] []))
  refine own_go (fun _ k => XS.aloadN X0.here hx rfl (hb hby dmeN_0) rfl rfl k) ?_
  show own_Ends _ _ _ _ _ _ _ (s₁.setTop (mkF m 1 #[.val (.ref a0), .val .null, .unset] [.null]))
  refine own_go (fun _ k => X0.instanceofNull hx (g := (mkF m 1 #[.val (.ref a0), .val .null, .unset] [.null])) rfl rfl (hb hby dmeN_1) _ k) ?_
  show own_Ends _ _ _ _ _ _ _ (s₁.setTop (mkF m 4 #[.val (.ref a0), .val .null, .unset] [(.int (0 : Int32))]))
  refine own_go (fun _ k => XS.ifYes X0.here hx rfl (pc0 := 4) (pc' := 58) rfl (hb hby dmeN_4) rfl ((if0 _ _).trans (teq (by decide)).1) (by decide) (by decide) k) ?_
  show own_Ends _ _ _ _ _ _ _ (s₁.setTop (mkF m 58 #[.val (.ref a0), .val .null, .unset] []))
  refine own_go (fun _ k => XS.iconst X0.here hx rfl (hb hby dmeN_58) k) ?_
  show own_Ends _ _ _ _ _ _ _ (s₁.setTop (mkF m 59 #[.val (.ref a0), .val .null, .unset] [(.int (0 : Int32))]))
  exact own_retN X0 hx hlk (t := .boolean) Bd.returns (by simp) (hb hby dmeN_59) (by decide) (by decide) ⟨rfl, N0, e0⟩
theorem dmeS_0 : decode prog_20_method_7_code 0 = .ok (.aload_n 1, 1) := by decide +kernel
theorem dmeS_1 : decode prog_20_method_7_code 1 = .ok (.instanceof 1, 3) := by decide +kernel
theorem dmeS_4 : decode prog_20_method_7_code 4 = .ok (.ifCond .eq 54, 3) := by decide +kernel
theorem dmeS_58 : decode prog_20_method_7_code 58 = .ok (.iconst 0, 1) := by decide +kernel
theorem dmeS_59 : decode prog_20_method_7_code 59 = .ok (.ireturn, 1) := by decide +kernel
theorem pnmeS : plainName "com/example/shallow_history/shallowhistory/policy/MethodReference" = true := by first | (simp [plainName, overriddenIn]; done) | decide +kernel
theorem efmeS (m : MethodId) (a0 : Addr) (a1 : Addr) : entryFrame m #[(.ref a0), (.ref a1)] 3 = mkF m 0 #[.val (.ref a0), .val (.ref a1), .unset] [] := by first | (simp [entryFrame, mkF, argsToLocals, Value.category]; done) | rfl
def QmeS (Z : State) (a0 : Addr) (a1 : Addr) (h0 : Heap) (n0 : Nat) (v : Option Value) (h : Heap) (L : List Loc) : Prop := v = some (.int (0 : Int32)) ∧ Fr n0 L ∧ h = h0
set_option maxRecDepth 65536 in
set_option maxHeartbeats 40000000 in
theorem rmmeS (l : Launch) (Z : State) (ar : Array Value) (hw : ∀ d ∈ tables_1, d.before ar Z = true) (ws : List Jvm.Cond) (a0 : Addr) (a1 : Addr) (h0 : Heap) (n0 : Nat) (O0 : Old Z n0 h0) (E_a1 : Exa Z h0 a1 "java/lang/String") :
    MetFree l (⟨"com/example/shallow_history/shallowhistory/policy/MethodReference", "equals", "(Ljava/lang/Object;)Z"⟩ : MethodName) (head1 (Jvm.Cond.code (⟨"com/example/shallow_history/shallowhistory/policy/MethodReference", "equals", "(Ljava/lang/Object;)Z"⟩ : MethodName) prog_20_method_7_code 3 (some .boolean) :: ws) ({ frames := 0, cells := 0, slots := 0, locals := 0 } : Room)) (fun a U => a = #[(.ref a0), (.ref a1)] ∧ Z.Warmed39 U.vm ∧ U.heap = h0) (fun _ _ _ _ _ => True) (fun _ U o U' => ∃ v L, o = .returned v ∧ QmeS Z a0 a1 h0 n0 v U'.heap L ∧ FrameEnd U o U' L ({ frames := 0, cells := 0, slots := 0, locals := 0 } : Room).cells ({ frames := 0, cells := 0, slots := 0, locals := 0 } : Room).slots) := by
  refine MetFree.of_bodySF (plainFor_of_name pnmeS) hisR ?_
  intro p e s m args below meth c s₁ Bd hml0 hP hK
  obtain ⟨rfl, hZ, hh⟩ := hP
  have hx := Bd.exec
  have hby := Bd.bytes
  have hml : c.maxLocals = 3 := hml0
  have hown : s.vm.findClass "com/example/shallow_history/shallowhistory/policy/MethodReference" = some m.cls := findClass_of_methodNamed Bd.named
  have hnm := (name_of_methodNamed Bd.named Bd.method).1
  have hlk : meth.locks = false := BodyLoose.notSynchronized Bd
  have X0 : Stand p l e ({ frames := 0, cells := 0, slots := 0, locals := 0 } : Room) s m #[(.ref a0), (.ref a1)] below meth c s₁ [] 0 0 := Stand.of_body Bd
  have e0 : s₁.heap = h0 := by rw [← hh, Bd.state]; rfl
  have N0 := Fr.nil n0
  suffices hmain : own_Ends p e below s (QmeS Z a0 a1 h0 n0) 0 0 (s₁.setTop (mkF m 0 #[.val (.ref a0), .val (.ref a1), .unset] [])) by
    obtain ⟨U, o, h1, r⟩ := hmain
    exact ⟨U, o, castTop (efmeS m a0 a1) h1, r⟩
  show own_Ends _ _ _ _ _ _ _ (s₁.setTop (mkF m 0 #[.val (.ref a0), .val (.ref a1), .unset] []))
  refine own_go (fun _ k => XS.aloadN X0.here hx rfl (hb hby dmeS_0) rfl rfl k) ?_
  show own_Ends _ _ _ _ _ _ _ (s₁.setTop (mkF m 1 #[.val (.ref a0), .val (.ref a1), .unset] [(.ref a1)]))
  obtain ⟨T1, X1, e1, st1⟩ := instNo X0 hx hZ hown (hw _ (List.mem_of_getElem? (i := 68) rfl)) e0 E_a1 (own_notInst (hw _ (List.mem_of_getElem? (i := 80) rfl)) (hw _ (List.mem_of_getElem? (i := 81) rfl)) (hw _ (List.mem_of_getElem? (i := 8) rfl)) (hw _ (List.mem_of_getElem? (i := 1) rfl)) (by decide) (by decide)) (g := (mkF m 1 #[.val (.ref a0), .val (.ref a1), .unset] [(.ref a1)])) rfl rfl (hb hby dmeS_1)
  refine own_go (fun _ k => st1 _ k) ?_
  show own_Ends _ _ _ _ _ _ _ (T1.setTop (mkF m 4 #[.val (.ref a0), .val (.ref a1), .unset] [(.int (0 : Int32))]))
  refine own_go (fun _ k => XS.ifYes X1.here hx rfl (pc0 := 4) (pc' := 58) rfl (hb hby dmeS_4) rfl ((if0 _ _).trans (teq (by decide)).1) (by decide) (by decide) k) ?_
  show own_Ends _ _ _ _ _ _ _ (T1.setTop (mkF m 58 #[.val (.ref a0), .val (.ref a1), .unset] []))
  refine own_go (fun _ k => XS.iconst X1.here hx rfl (hb hby dmeS_58) k) ?_
  show own_Ends _ _ _ _ _ _ _ (T1.setTop (mkF m 59 #[.val (.ref a0), .val (.ref a1), .unset] [(.int (0 : Int32))]))
  exact own_retN X1 hx hlk (t := .boolean) Bd.returns (by simp) (hb hby dmeS_59) (by decide) (by decide) ⟨rfl, N0, e1⟩
theorem dmeM_0 : decode prog_20_method_7_code 0 = .ok (.aload_n 1, 1) := by decide +kernel
theorem dmeM_1 : decode prog_20_method_7_code 1 = .ok (.instanceof 1, 3) := by decide +kernel
theorem dmeM_4 : decode prog_20_method_7_code 4 = .ok (.ifCond .eq 54, 3) := by decide +kernel
theorem dmeM_7 : decode prog_20_method_7_code 7 = .ok (.aload_n 1, 1) := by decide +kernel
theorem dmeM_8 : decode prog_20_method_7_code 8 = .ok (.checkcast 1, 3) := by decide +kernel
theorem dmeM_11 : decode prog_20_method_7_code 11 = .ok (.astore_n 2, 1) := by decide +kernel
theorem dmeM_12 : decode prog_20_method_7_code 12 = .ok (.aload_n 0, 1) := by decide +kernel
theorem dmeM_13 : decode prog_20_method_7_code 13 = .ok (.getfield 19, 3) := by decide +kernel
theorem dmeM_16 : decode prog_20_method_7_code 16 = .ok (.aload_n 2, 1) := by decide +kernel
theorem dmeM_17 : decode prog_20_method_7_code 17 = .ok (.getfield 19, 3) := by decide +kernel
theorem dmeM_20 : decode prog_20_method_7_code 20 = .ok (.invokevirtual 79, 3) := by decide +kernel
theorem dmeM_23 : decode prog_20_method_7_code 23 = .ok (.ifCond .eq 35, 3) := by decide +kernel
theorem dmeM_26 : decode prog_20_method_7_code 26 = .ok (.aload_n 0, 1) := by decide +kernel
theorem dmeM_27 : decode prog_20_method_7_code 27 = .ok (.getfield 25, 3) := by decide +kernel
theorem dmeM_30 : decode prog_20_method_7_code 30 = .ok (.aload_n 2, 1) := by decide +kernel
theorem dmeM_31 : decode prog_20_method_7_code 31 = .ok (.getfield 25, 3) := by decide +kernel
theorem dmeM_34 : decode prog_20_method_7_code 34 = .ok (.invokevirtual 79, 3) := by decide +kernel
theorem dmeM_37 : decode prog_20_method_7_code 37 = .ok (.ifCond .eq 21, 3) := by decide +kernel
theorem dmeM_40 : decode prog_20_method_7_code 40 = .ok (.aload_n 0, 1) := by decide +kernel
theorem dmeM_41 : decode prog_20_method_7_code 41 = .ok (.getfield 30, 3) := by decide +kernel
theorem dmeM_44 : decode prog_20_method_7_code 44 = .ok (.aload_n 2, 1) := by decide +kernel
theorem dmeM_45 : decode prog_20_method_7_code 45 = .ok (.getfield 30, 3) := by decide +kernel
theorem dmeM_48 : decode prog_20_method_7_code 48 = .ok (.invokevirtual 79, 3) := by decide +kernel
theorem dmeM_51 : decode prog_20_method_7_code 51 = .ok (.ifCond .eq 7, 3) := by decide +kernel
theorem dmeM_54 : decode prog_20_method_7_code 54 = .ok (.iconst 1, 1) := by decide +kernel
theorem dmeM_55 : decode prog_20_method_7_code 55 = .ok (.goto 4, 3) := by decide +kernel
theorem dmeM_58 : decode prog_20_method_7_code 58 = .ok (.iconst 0, 1) := by decide +kernel
theorem dmeM_59 : decode prog_20_method_7_code 59 = .ok (.ireturn, 1) := by decide +kernel
theorem pnmeM : plainName "com/example/shallow_history/shallowhistory/policy/MethodReference" = true := by first | (simp [plainName, overriddenIn]; done) | decide +kernel
theorem pdmeM_0 : parseMethodDescriptor "(Ljava/lang/Object;)Z" = some ⟨[(.object "java/lang/Object")], some .boolean⟩ := by decide +kernel
theorem efmeM (m : MethodId) (a0 : Addr) (a1 : Addr) : entryFrame m #[(.ref a0), (.ref a1)] 3 = mkF m 0 #[.val (.ref a0), .val (.ref a1), .unset] [] := by first | (simp [entryFrame, mkF, argsToLocals, Value.category]; done) | rfl
def QmeM (Z : State) (a0 : Addr) (a1 : Addr) (v_owner_a0 : Addr) (n_owner_a0 : Nat) (G_owner_a0 : Nat → Int32) (v_name_a0 : Addr) (n_name_a0 : Nat) (G_name_a0 : Nat → Int32) (v_descriptor_a0 : Addr) (n_descriptor_a0 : Nat) (G_descriptor_a0 : Nat → Int32) (v_owner_a1 : Addr) (n_owner_a1 : Nat) (G_owner_a1 : Nat → Int32) (v_name_a1 : Addr) (n_name_a1 : Nat) (G_name_a1 : Nat → Int32) (v_descriptor_a1 : Addr) (n_descriptor_a1 : Nat) (G_descriptor_a1 : Nat → Int32) (w_COMPACT_STRINGS : Int32) (h0 : Heap) (n0 : Nat) (v : Option Value) (h : Heap) (L : List Loc) : Prop := ∃ z : Int32, v = some (.int z) ∧ own_ans z (own_eq n_owner_a0 n_owner_a1 G_owner_a0 G_owner_a1 ∧ own_eq n_name_a0 n_name_a1 G_name_a0 G_name_a1 ∧ own_eq n_descriptor_a0 n_descriptor_a1 G_descriptor_a0 G_descriptor_a1) ∧ Fr n0 L ∧ h = h0
set_option maxRecDepth 65536 in
set_option maxHeartbeats 40000000 in
theorem rmmeM (l : Launch) (Z : State) (ar : Array Value) (hw : ∀ d ∈ tables_1, d.before ar Z = true) (ws : List Jvm.Cond) (a0 : Addr) (a1 : Addr) (v_owner_a0 : Addr) (n_owner_a0 : Nat) (G_owner_a0 : Nat → Int32) (v_name_a0 : Addr) (n_name_a0 : Nat) (G_name_a0 : Nat → Int32) (v_descriptor_a0 : Addr) (n_descriptor_a0 : Nat) (G_descriptor_a0 : Nat → Int32) (v_owner_a1 : Addr) (n_owner_a1 : Nat) (G_owner_a1 : Nat → Int32) (v_name_a1 : Addr) (n_name_a1 : Nat) (G_name_a1 : Nat → Int32) (v_descriptor_a1 : Addr) (n_descriptor_a1 : Nat) (G_descriptor_a1 : Nat → Int32) (w_COMPACT_STRINGS : Int32) (h0 : Heap) (n0 : Nat) (O0 : Old Z n0 h0) (E_a1 : Exa Z h0 a1 "com/example/shallow_history/shallowhistory/policy/MethodReference") (F_owner_a0 : Fld Z h0 a0 "com/example/shallow_history/shallowhistory/policy/MethodReference" "owner" "Ljava/lang/String;" (.ref v_owner_a0)) (T_owner_a0 : own_Str Z h0 v_owner_a0 n_owner_a0 G_owner_a0) (hl_owner_a0 : n_owner_a0 < 1000) (F_name_a0 : Fld Z h0 a0 "com/example/shallow_history/shallowhistory/policy/MethodReference" "name" "Ljava/lang/String;" (.ref v_name_a0)) (T_name_a0 : own_Str Z h0 v_name_a0 n_name_a0 G_name_a0) (hl_name_a0 : n_name_a0 < 1000) (F_descriptor_a0 : Fld Z h0 a0 "com/example/shallow_history/shallowhistory/policy/MethodReference" "descriptor" "Ljava/lang/String;" (.ref v_descriptor_a0)) (T_descriptor_a0 : own_Str Z h0 v_descriptor_a0 n_descriptor_a0 G_descriptor_a0) (hl_descriptor_a0 : n_descriptor_a0 < 1000) (F_owner_a1 : Fld Z h0 a1 "com/example/shallow_history/shallowhistory/policy/MethodReference" "owner" "Ljava/lang/String;" (.ref v_owner_a1)) (T_owner_a1 : own_Str Z h0 v_owner_a1 n_owner_a1 G_owner_a1) (hl_owner_a1 : n_owner_a1 < 1000) (F_name_a1 : Fld Z h0 a1 "com/example/shallow_history/shallowhistory/policy/MethodReference" "name" "Ljava/lang/String;" (.ref v_name_a1)) (T_name_a1 : own_Str Z h0 v_name_a1 n_name_a1 G_name_a1) (hl_name_a1 : n_name_a1 < 1000) (F_descriptor_a1 : Fld Z h0 a1 "com/example/shallow_history/shallowhistory/policy/MethodReference" "descriptor" "Ljava/lang/String;" (.ref v_descriptor_a1)) (T_descriptor_a1 : own_Str Z h0 v_descriptor_a1 n_descriptor_a1 G_descriptor_a1) (hl_descriptor_a1 : n_descriptor_a1 < 1000) (hCS : ¬ w_COMPACT_STRINGS = (0 : Int32)) (S_COMPACT_STRINGS : Sta Z Z.heap "java/lang/String" "COMPACT_STRINGS" "Z" (.int w_COMPACT_STRINGS)) :
    MetFree l (⟨"com/example/shallow_history/shallowhistory/policy/MethodReference", "equals", "(Ljava/lang/Object;)Z"⟩ : MethodName) (head1 (Jvm.Cond.code (⟨"com/example/shallow_history/shallowhistory/policy/MethodReference", "equals", "(Ljava/lang/Object;)Z"⟩ : MethodName) prog_20_method_7_code 3 (some .boolean) :: ws) ({ frames := 2, cells := 0, slots := 0, locals := 28 } : Room)) (fun a U => a = #[(.ref a0), (.ref a1)] ∧ Z.Warmed39 U.vm ∧ U.heap = h0) (fun _ _ _ _ _ => True) (fun _ U o U' => ∃ v L, o = .returned v ∧ QmeM Z a0 a1 v_owner_a0 n_owner_a0 G_owner_a0 v_name_a0 n_name_a0 G_name_a0 v_descriptor_a0 n_descriptor_a0 G_descriptor_a0 v_owner_a1 n_owner_a1 G_owner_a1 v_name_a1 n_name_a1 G_name_a1 v_descriptor_a1 n_descriptor_a1 G_descriptor_a1 w_COMPACT_STRINGS h0 n0 v U'.heap L ∧ FrameEnd U o U' L ({ frames := 2, cells := 0, slots := 0, locals := 28 } : Room).cells ({ frames := 2, cells := 0, slots := 0, locals := 28 } : Room).slots) := by
  refine MetFree.of_bodySF (plainFor_of_name pnmeM) hisR ?_
  intro p e s m args below meth c s₁ Bd hml0 hP hK
  obtain ⟨rfl, hZ, hh⟩ := hP
  have hx := Bd.exec
  have hby := Bd.bytes
  have hml : c.maxLocals = 3 := hml0
  have hown : s.vm.findClass "com/example/shallow_history/shallowhistory/policy/MethodReference" = some m.cls := findClass_of_methodNamed Bd.named
  have hnm := (name_of_methodNamed Bd.named Bd.method).1
  have hlk : meth.locks = false := BodyLoose.notSynchronized Bd
  have X0 : Stand p l e ({ frames := 2, cells := 0, slots := 0, locals := 28 } : Room) s m #[(.ref a0), (.ref a1)] below meth c s₁ [] 0 0 := Stand.of_body Bd
  have e0 : s₁.heap = h0 := by rw [← hh, Bd.state]; rfl
  have N0 := Fr.nil n0
  suffices hmain : own_Ends p e below s (QmeM Z a0 a1 v_owner_a0 n_owner_a0 G_owner_a0 v_name_a0 n_name_a0 G_name_a0 v_descriptor_a0 n_descriptor_a0 G_descriptor_a0 v_owner_a1 n_owner_a1 G_owner_a1 v_name_a1 n_name_a1 G_name_a1 v_descriptor_a1 n_descriptor_a1 G_descriptor_a1 w_COMPACT_STRINGS h0 n0) 0 0 (s₁.setTop (mkF m 0 #[.val (.ref a0), .val (.ref a1), .unset] [])) by
    obtain ⟨U, o, h1, r⟩ := hmain
    exact ⟨U, o, castTop (efmeM m a0 a1) h1, r⟩
  show own_Ends _ _ _ _ _ _ _ (s₁.setTop (mkF m 0 #[.val (.ref a0), .val (.ref a1), .unset] []))
  refine own_go (fun _ k => XS.aloadN X0.here hx rfl (hb hby dmeM_0) rfl rfl k) ?_
  show own_Ends _ _ _ _ _ _ _ (s₁.setTop (mkF m 1 #[.val (.ref a0), .val (.ref a1), .unset] [(.ref a1)]))
  obtain ⟨T1, X1, e1, st1⟩ := instY X0 hx hZ hown (hw _ (List.mem_of_getElem? (i := 68) rfl)) e0 (Ins.self E_a1) (g := (mkF m 1 #[.val (.ref a0), .val (.ref a1), .unset] [(.ref a1)])) rfl rfl (hb hby dmeM_1)
  refine own_go (fun _ k => st1 _ k) ?_
  show own_Ends _ _ _ _ _ _ _ (T1.setTop (mkF m 4 #[.val (.ref a0), .val (.ref a1), .unset] [(.int (1 : Int32))]))
  refine own_go (fun _ k => XS.ifNo X1.here hx rfl (hb hby dmeM_4) rfl ((if0 _ _).trans (feq (by decide)).1) k) ?_
  show own_Ends _ _ _ _ _ _ _ (T1.setTop (mkF m 7 #[.val (.ref a0), .val (.ref a1), .unset] []))
  refine own_go (fun _ k => XS.aloadN X1.here hx rfl (hb hby dmeM_7) rfl rfl k) ?_
  show own_Ends _ _ _ _ _ _ _ (T1.setTop (mkF m 8 #[.val (.ref a0), .val (.ref a1), .unset] [(.ref a1)]))
  obtain ⟨T2, X2, e2, st2⟩ := castY X1 hx hZ hown (hw _ (List.mem_of_getElem? (i := 68) rfl)) e1 (Ins.self E_a1) (g := (mkF m 8 #[.val (.ref a0), .val (.ref a1), .unset] [(.ref a1)])) rfl rfl (hb hby dmeM_8)
  refine own_go (fun _ k => st2 _ k) ?_
  show own_Ends _ _ _ _ _ _ _ (T2.setTop (mkF m 11 #[.val (.ref a0), .val (.ref a1), .unset] [(.ref a1)]))
  refine own_go (fun _ k => XS.astoreN X2.here hx rfl (hb hby dmeM_11) rfl rfl (l' := #[.val (.ref a0), .val (.ref a1), .val (.ref a1)]) rfl k) ?_
  show own_Ends _ _ _ _ _ _ _ (T2.setTop (mkF m 12 #[.val (.ref a0), .val (.ref a1), .val (.ref a1)] []))
  refine own_go (fun _ k => XS.aloadN X2.here hx rfl (hb hby dmeM_12) rfl rfl k) ?_
  show own_Ends _ _ _ _ _ _ _ (T2.setTop (mkF m 13 #[.val (.ref a0), .val (.ref a1), .val (.ref a1)] [(.ref a0)]))
  obtain ⟨T3, X3, e3, st3⟩ := getF X2 hx hZ hown (host := "") (Or.inl (hw _ (List.mem_of_getElem? (i := 50) rfl))) Via.refl e2 F_owner_a0 (g := (mkF m 13 #[.val (.ref a0), .val (.ref a1), .val (.ref a1)] [(.ref a0)])) rfl rfl (hb hby dmeM_13)
  refine own_go (fun _ k => st3 _ k) ?_
  show own_Ends _ _ _ _ _ _ _ (T3.setTop (mkF m 16 #[.val (.ref a0), .val (.ref a1), .val (.ref a1)] [(.ref v_owner_a0)]))
  refine own_go (fun _ k => XS.aloadN X3.here hx rfl (hb hby dmeM_16) rfl rfl k) ?_
  show own_Ends _ _ _ _ _ _ _ (T3.setTop (mkF m 17 #[.val (.ref a0), .val (.ref a1), .val (.ref a1)] [(.ref a1), (.ref v_owner_a0)]))
  obtain ⟨T4, X4, e4, st4⟩ := getF X3 hx hZ hown (host := "") (Or.inl (hw _ (List.mem_of_getElem? (i := 50) rfl))) Via.refl e3 F_owner_a1 (g := (mkF m 17 #[.val (.ref a0), .val (.ref a1), .val (.ref a1)] [(.ref a1), (.ref v_owner_a0)])) rfl rfl (hb hby dmeM_17)
  refine own_go (fun _ k => st4 _ k) ?_
  show own_Ends _ _ _ _ _ _ _ (T4.setTop (mkF m 20 #[.val (.ref a0), .val (.ref a1), .val (.ref a1)] [(.ref v_owner_a1), (.ref v_owner_a0)]))
  obtain ⟨cq5, kq5, q5a, q5b, q5c⟩ := isOf hZ e4 T_owner_a0.1
  obtain ⟨_, _, ⟨T5, L5, k5, n5⟩, -, X5, ⟨Lc5, hQ5, l5, y5, z5⟩, st5⟩ := X4.virtualBack hx (y := (⟨"java/lang/String", "equals", "(Ljava/lang/Object;)Z"⟩ : MethodName)) (z := (⟨"java/lang/String", "equals", "(Ljava/lang/Object;)Z"⟩ : MethodName)) hown (mvT hZ (hw _ (List.mem_of_getElem? (i := 70) rfl))) (mvT hZ (hw _ (List.mem_of_getElem? (i := 71) rfl))) (notFace_of_selects (args := #[]) (mvT hZ (hw _ (List.mem_of_getElem? (i := 73) rfl)))) (mvT hZ (hw _ (List.mem_of_getElem? (i := 73) rfl))) (mvT hZ (hw _ (List.mem_of_getElem? (i := 72) rfl))) (by decide) (backOf (W := 0) (rmstreq l Z ar hw [] v_owner_a0 v_owner_a1 n_owner_a0 G_owner_a0 n_owner_a1 G_owner_a1 w_COMPACT_STRINGS h0 n0 O0 T_owner_a0 T_owner_a1 ⟨hl_owner_a0, hl_owner_a1⟩ hCS S_COMPACT_STRINGS) hZ (hw _ (List.mem_of_getElem? (i := 74) rfl)) (hw _ (List.mem_of_getElem? (i := 9) rfl)) (by decide) (by decide)) q5a q5c (g := (mkF m 20 #[.val (.ref a0), .val (.ref a1), .val (.ref a1)] [(.ref v_owner_a1), (.ref v_owner_a0)])) rfl (by rw [hml]; rfl) (Steps.refl _) (argsL := [(.ref v_owner_a1)]) (rest := []) (lenOf pdmeM_0 rfl) rfl (by show 2 * 0 + _ ≤ _; exact Nat.le_of_eq rfl) (hb hby dmeM_20) (fun _ _ => ⟨rfl, e4, (by decide : 0 + 0 ≤ _), (by decide : 0 + 0 ≤ _)⟩)
  dsimp only [Pt.U, Pt.locs, Pt.cells, Pt.slots] at X5 l5 y5 z5 st5 hQ5
  subst l5 y5 z5
  obtain ⟨z5, rfl, hz5, N5q, eq5⟩ := hQ5
  have e5 : T5.heap = h0 := eq5
  have N5 := Fr.app N0 N5q
  refine own_go (fun _ k => st5.trans k) ?_
  show own_Ends _ _ _ _ _ _ _ (T5.setTop (mkF m 23 #[.val (.ref a0), .val (.ref a1), .val (.ref a1)] [(.int z5)]))
  by_cases hc6 : z5 = (0 : Int32)
  · refine own_go (fun _ k => XS.ifYes X5.here hx rfl (pc0 := 23) (pc' := 58) rfl (hb hby dmeM_23) rfl ((if0 _ _).trans (teq hc6).1) (by decide) (by decide) k) ?_
    show own_Ends _ _ _ _ _ _ _ (T5.setTop (mkF m 58 #[.val (.ref a0), .val (.ref a1), .val (.ref a1)] []))
    refine own_go (fun _ k => XS.iconst X5.here hx rfl (hb hby dmeM_58) k) ?_
    show own_Ends _ _ _ _ _ _ _ (T5.setTop (mkF m 59 #[.val (.ref a0), .val (.ref a1), .val (.ref a1)] [(.int (0 : Int32))]))
    exact own_retN X5 hx hlk (t := .boolean) Bd.returns (by simp) (hb hby dmeM_59) (by decide) (by decide) ⟨_, rfl, Or.inr ⟨rfl, fun q => own_ans.neg hz5 hc6 q.1⟩, N5, e5⟩
  · refine own_go (fun _ k => XS.ifNo X5.here hx rfl (hb hby dmeM_23) rfl ((if0 _ _).trans (feq hc6).1) k) ?_
    show own_Ends _ _ _ _ _ _ _ (T5.setTop (mkF m 26 #[.val (.ref a0), .val (.ref a1), .val (.ref a1)] []))
    refine own_go (fun _ k => XS.aloadN X5.here hx rfl (hb hby dmeM_26) rfl rfl k) ?_
    show own_Ends _ _ _ _ _ _ _ (T5.setTop (mkF m 27 #[.val (.ref a0), .val (.ref a1), .val (.ref a1)] [(.ref a0)]))
    obtain ⟨T7, X7, e7, st7⟩ := getF X5 hx hZ hown (host := "") (Or.inl (hw _ (List.mem_of_getElem? (i := 53) rfl))) Via.refl e5 F_name_a0 (g := (mkF m 27 #[.val (.ref a0), .val (.ref a1), .val (.ref a1)] [(.ref a0)])) rfl rfl (hb hby dmeM_27)
    refine own_go (fun _ k => st7 _ k) ?_
    show own_Ends _ _ _ _ _ _ _ (T7.setTop (mkF m 30 #[.val (.ref a0), .val (.ref a1), .val (.ref a1)] [(.ref v_name_a0)]))
    refine own_go (fun _ k => XS.aloadN X7.here hx rfl (hb hby dmeM_30) rfl rfl k) ?_
    show own_Ends _ _ _ _ _ _ _ (T7.setTop (mkF m 31 #[.val (.ref a0), .val (.ref a1), .val (.ref a1)] [(.ref a1), (.ref v_name_a0)]))
    obtain ⟨T8, X8, e8, st8⟩ := getF X7 hx hZ hown (host := "") (Or.inl (hw _ (List.mem_of_getElem? (i := 53) rfl))) Via.refl e7 F_name_a1 (g := (mkF m 31 #[.val (.ref a0), .val (.ref a1), .val (.ref a1)] [(.ref a1), (.ref v_name_a0)])) rfl rfl (hb hby dmeM_31)
    refine own_go (fun _ k => st8 _ k) ?_
    show own_Ends _ _ _ _ _ _ _ (T8.setTop (mkF m 34 #[.val (.ref a0), .val (.ref a1), .val (.ref a1)] [(.ref v_name_a1), (.ref v_name_a0)]))
    obtain ⟨cq9, kq9, q9a, q9b, q9c⟩ := isOf hZ e8 T_name_a0.1
    obtain ⟨_, _, ⟨T9, L9, k9, n9⟩, -, X9, ⟨Lc9, hQ9, l9, y9, z9⟩, st9⟩ := X8.virtualBack hx (y := (⟨"java/lang/String", "equals", "(Ljava/lang/Object;)Z"⟩ : MethodName)) (z := (⟨"java/lang/String", "equals", "(Ljava/lang/Object;)Z"⟩ : MethodName)) hown (mvT hZ (hw _ (List.mem_of_getElem? (i := 70) rfl))) (mvT hZ (hw _ (List.mem_of_getElem? (i := 71) rfl))) (notFace_of_selects (args := #[]) (mvT hZ (hw _ (List.mem_of_getElem? (i := 73) rfl)))) (mvT hZ (hw _ (List.mem_of_getElem? (i := 73) rfl))) (mvT hZ (hw _ (List.mem_of_getElem? (i := 72) rfl))) (by decide) (backOf (W := 0) (rmstreq l Z ar hw [] v_name_a0 v_name_a1 n_name_a0 G_name_a0 n_name_a1 G_name_a1 w_COMPACT_STRINGS h0 n0 O0 T_name_a0 T_name_a1 ⟨hl_name_a0, hl_name_a1⟩ hCS S_COMPACT_STRINGS) hZ (hw _ (List.mem_of_getElem? (i := 74) rfl)) (hw _ (List.mem_of_getElem? (i := 9) rfl)) (by decide) (by decide)) q9a q9c (g := (mkF m 34 #[.val (.ref a0), .val (.ref a1), .val (.ref a1)] [(.ref v_name_a1), (.ref v_name_a0)])) rfl (by rw [hml]; rfl) (Steps.refl _) (argsL := [(.ref v_name_a1)]) (rest := []) (lenOf pdmeM_0 rfl) rfl (by show 2 * 0 + _ ≤ _; exact Nat.le_of_eq rfl) (hb hby dmeM_34) (fun _ _ => ⟨rfl, e8, (by decide : 0 + 0 ≤ _), (by decide : 0 + 0 ≤ _)⟩)
    dsimp only [Pt.U, Pt.locs, Pt.cells, Pt.slots] at X9 l9 y9 z9 st9 hQ9
    subst l9 y9 z9
    obtain ⟨z9, rfl, hz9, N9q, eq9⟩ := hQ9
    have e9 : T9.heap = h0 := eq9
    have N9 := Fr.app N5 N9q
    refine own_go (fun _ k => st9.trans k) ?_
    show own_Ends _ _ _ _ _ _ _ (T9.setTop (mkF m 37 #[.val (.ref a0), .val (.ref a1), .val (.ref a1)] [(.int z9)]))
    by_cases hc10 : z9 = (0 : Int32)
    · refine own_go (fun _ k => XS.ifYes X9.here hx rfl (pc0 := 37) (pc' := 58) rfl (hb hby dmeM_37) rfl ((if0 _ _).trans (teq hc10).1) (by decide) (by decide) k) ?_
      show own_Ends _ _ _ _ _ _ _ (T9.setTop (mkF m 58 #[.val (.ref a0), .val (.ref a1), .val (.ref a1)] []))
      refine own_go (fun _ k => XS.iconst X9.here hx rfl (hb hby dmeM_58) k) ?_
      show own_Ends _ _ _ _ _ _ _ (T9.setTop (mkF m 59 #[.val (.ref a0), .val (.ref a1), .val (.ref a1)] [(.int (0 : Int32))]))
      exact own_retN X9 hx hlk (t := .boolean) Bd.returns (by simp) (hb hby dmeM_59) (by decide) (by decide) ⟨_, rfl, Or.inr ⟨rfl, fun q => own_ans.neg hz9 hc10 q.2.1⟩, N9, e9⟩
    · refine own_go (fun _ k => XS.ifNo X9.here hx rfl (hb hby dmeM_37) rfl ((if0 _ _).trans (feq hc10).1) k) ?_
      show own_Ends _ _ _ _ _ _ _ (T9.setTop (mkF m 40 #[.val (.ref a0), .val (.ref a1), .val (.ref a1)] []))
      refine own_go (fun _ k => XS.aloadN X9.here hx rfl (hb hby dmeM_40) rfl rfl k) ?_
      show own_Ends _ _ _ _ _ _ _ (T9.setTop (mkF m 41 #[.val (.ref a0), .val (.ref a1), .val (.ref a1)] [(.ref a0)]))
      obtain ⟨T11, X11, e11, st11⟩ := getF X9 hx hZ hown (host := "") (Or.inl (hw _ (List.mem_of_getElem? (i := 56) rfl))) Via.refl e9 F_descriptor_a0 (g := (mkF m 41 #[.val (.ref a0), .val (.ref a1), .val (.ref a1)] [(.ref a0)])) rfl rfl (hb hby dmeM_41)
      refine own_go (fun _ k => st11 _ k) ?_
      show own_Ends _ _ _ _ _ _ _ (T11.setTop (mkF m 44 #[.val (.ref a0), .val (.ref a1), .val (.ref a1)] [(.ref v_descriptor_a0)]))
      refine own_go (fun _ k => XS.aloadN X11.here hx rfl (hb hby dmeM_44) rfl rfl k) ?_
      show own_Ends _ _ _ _ _ _ _ (T11.setTop (mkF m 45 #[.val (.ref a0), .val (.ref a1), .val (.ref a1)] [(.ref a1), (.ref v_descriptor_a0)]))
      obtain ⟨T12, X12, e12, st12⟩ := getF X11 hx hZ hown (host := "") (Or.inl (hw _ (List.mem_of_getElem? (i := 56) rfl))) Via.refl e11 F_descriptor_a1 (g := (mkF m 45 #[.val (.ref a0), .val (.ref a1), .val (.ref a1)] [(.ref a1), (.ref v_descriptor_a0)])) rfl rfl (hb hby dmeM_45)
      refine own_go (fun _ k => st12 _ k) ?_
      show own_Ends _ _ _ _ _ _ _ (T12.setTop (mkF m 48 #[.val (.ref a0), .val (.ref a1), .val (.ref a1)] [(.ref v_descriptor_a1), (.ref v_descriptor_a0)]))
      obtain ⟨cq13, kq13, q13a, q13b, q13c⟩ := isOf hZ e12 T_descriptor_a0.1
      obtain ⟨_, _, ⟨T13, L13, k13, n13⟩, -, X13, ⟨Lc13, hQ13, l13, y13, z13⟩, st13⟩ := X12.virtualBack hx (y := (⟨"java/lang/String", "equals", "(Ljava/lang/Object;)Z"⟩ : MethodName)) (z := (⟨"java/lang/String", "equals", "(Ljava/lang/Object;)Z"⟩ : MethodName)) hown (mvT hZ (hw _ (List.mem_of_getElem? (i := 70) rfl))) (mvT hZ (hw _ (List.mem_of_getElem? (i := 71) rfl))) (notFace_of_selects (args := #[]) (mvT hZ (hw _ (List.mem_of_getElem? (i := 73) rfl)))) (mvT hZ (hw _ (List.mem_of_getElem? (i := 73) rfl))) (mvT hZ (hw _ (List.mem_of_getElem? (i := 72) rfl))) (by decide) (backOf (W := 0) (rmstreq l Z ar hw [] v_descriptor_a0 v_descriptor_a1 n_descriptor_a0 G_descriptor_a0 n_descriptor_a1 G_descriptor_a1 w_COMPACT_STRINGS h0 n0 O0 T_descriptor_a0 T_descriptor_a1 ⟨hl_descriptor_a0, hl_descriptor_a1⟩ hCS S_COMPACT_STRINGS) hZ (hw _ (List.mem_of_getElem? (i := 74) rfl)) (hw _ (List.mem_of_getElem? (i := 9) rfl)) (by decide) (by decide)) q13a q13c (g := (mkF m 48 #[.val (.ref a0), .val (.ref a1), .val (.ref a1)] [(.ref v_descriptor_a1), (.ref v_descriptor_a0)])) rfl (by rw [hml]; rfl) (Steps.refl _) (argsL := [(.ref v_descriptor_a1)]) (rest := []) (lenOf pdmeM_0 rfl) rfl (by show 2 * 0 + _ ≤ _; exact Nat.le_of_eq rfl) (hb hby dmeM_48) (fun _ _ => ⟨rfl, e12, (by decide : 0 + 0 ≤ _), (by decide : 0 + 0 ≤ _)⟩)
      dsimp only [Pt.U, Pt.locs, Pt.cells, Pt.slots] at X13 l13 y13 z13 st13 hQ13
      subst l13 y13 z13
      obtain ⟨z13, rfl, hz13, N13q, eq13⟩ := hQ13
      have e13 : T13.heap = h0 := eq13
      have N13 := Fr.app N9 N13q
      refine own_go (fun _ k => st13.trans k) ?_
      show own_Ends _ _ _ _ _ _ _ (T13.setTop (mkF m 51 #[.val (.ref a0), .val (.ref a1), .val (.ref a1)] [(.int z13)]))
      by_cases hc14 : z13 = (0 : Int32)
      · refine own_go (fun _ k => XS.ifYes X13.here hx rfl (pc0 := 51) (pc' := 58) rfl (hb hby dmeM_51) rfl ((if0 _ _).trans (teq hc14).1) (by decide) (by decide) k) ?_
        show own_Ends _ _ _ _ _ _ _ (T13.setTop (mkF m 58 #[.val (.ref a0), .val (.ref a1), .val (.ref a1)] []))
        refine own_go (fun _ k => XS.iconst X13.here hx rfl (hb hby dmeM_58) k) ?_
        show own_Ends _ _ _ _ _ _ _ (T13.setTop (mkF m 59 #[.val (.ref a0), .val (.ref a1), .val (.ref a1)] [(.int (0 : Int32))]))
        exact own_retN X13 hx hlk (t := .boolean) Bd.returns (by simp) (hb hby dmeM_59) (by decide) (by decide) ⟨_, rfl, Or.inr ⟨rfl, fun q => own_ans.neg hz13 hc14 q.2.2⟩, N13, e13⟩
      · refine own_go (fun _ k => XS.ifNo X13.here hx rfl (hb hby dmeM_51) rfl ((if0 _ _).trans (feq hc14).1) k) ?_
        show own_Ends _ _ _ _ _ _ _ (T13.setTop (mkF m 54 #[.val (.ref a0), .val (.ref a1), .val (.ref a1)] []))
        refine own_go (fun _ k => XS.iconst X13.here hx rfl (hb hby dmeM_54) k) ?_
        show own_Ends _ _ _ _ _ _ _ (T13.setTop (mkF m 55 #[.val (.ref a0), .val (.ref a1), .val (.ref a1)] [(.int (1 : Int32))]))
        refine own_go (fun _ k => XS.goto X13.here hx rfl (pc0 := 55) (pc' := 59) rfl (hb hby dmeM_55) (by decide) (by decide) k) ?_
        show own_Ends _ _ _ _ _ _ _ (T13.setTop (mkF m 59 #[.val (.ref a0), .val (.ref a1), .val (.ref a1)] [(.int (1 : Int32))]))
        exact own_retN X13 hx hlk (t := .boolean) Bd.returns (by simp) (hb hby dmeM_59) (by decide) (by decide) ⟨_, rfl, Or.inl ⟨rfl, ⟨own_ans.pos hz5 hc6, own_ans.pos hz9 hc10, own_ans.pos hz13 hc14⟩⟩, N13, e13⟩
theorem pn0 : plainName "com/example/shallow_history/shallowhistory/policy/MethodReferenceEqualsPinLaw" = true := by first | (simp [plainName, overriddenIn]; done) | decide +kernel
theorem pd0_0 : parseMethodDescriptor "(I)Ljava/lang/String;" = some ⟨[.int], some (.object "java/lang/String")⟩ := by decide +kernel
theorem pd0_1 : parseMethodDescriptor "(Ljava/lang/String;Ljava/lang/String;Ljava/lang/String;)V" = some ⟨[(.object "java/lang/String"), (.object "java/lang/String"), (.object "java/lang/String")], none⟩ := by decide +kernel
theorem pd0_2 : parseMethodDescriptor "(Ljava/lang/Object;)Z" = some ⟨[(.object "java/lang/Object")], some .boolean⟩ := by decide +kernel
theorem pd0_3 : parseMethodDescriptor "(I)I" = some ⟨[.int], some .int⟩ := by decide +kernel
theorem ef0 (m : MethodId) (p0 : Int32) (p1 : Int32) (p2 : Int32) (p3 : Int32) (p4 : Int32) (p5 : Int32) : entryFrame m #[(.int p0), (.int p1), (.int p2), (.int p3), (.int p4), (.int p5)] maxLocals = mkF m 0 #[.val (.int p0), .val (.int p1), .val (.int p2), .val (.int p3), .val (.int p4), .val (.int p5), .unset, .unset, .unset, .unset, .unset, .unset, .unset] [] := by first | (simp [entryFrame, mkF, argsToLocals, Value.category, maxLocals]; done) | rfl
def Q0 (Z : State) (p0 : Int32) (p1 : Int32) (p2 : Int32) (p3 : Int32) (p4 : Int32) (p5 : Int32) (w_COMPACT_STRINGS : Int32) (h0 : Heap) (n0 : Nat) (v : Option Value) (h : Heap) (L : List Loc) : Prop := v = some (.int 1) ∧ Fr n0 L
set_option maxRecDepth 65536 in
set_option maxHeartbeats 40000000 in
theorem rm0 (l : Launch) (Z : State) (ar : Array Value) (hw : ∀ d ∈ tables_1, d.before ar Z = true) (ws : List Jvm.Cond) (p0 : Int32) (p1 : Int32) (p2 : Int32) (p3 : Int32) (p4 : Int32) (p5 : Int32) (w_COMPACT_STRINGS : Int32) (h0 : Heap) (n0 : Nat) (O0 : Old Z n0 h0) (hCS : ¬ w_COMPACT_STRINGS = (0 : Int32)) (S_COMPACT_STRINGS : Sta Z Z.heap "java/lang/String" "COMPACT_STRINGS" "Z" (.int w_COMPACT_STRINGS)) :
    MetFree l x (head1 (Jvm.Cond.code x code maxLocals ret :: ws) room_1) (fun a U => a = #[(.int p0), (.int p1), (.int p2), (.int p3), (.int p4), (.int p5)] ∧ Z.Warmed39 U.vm ∧ U.heap = h0 ∧ CHv Z consts_1 U.vm h0) (fun _ _ _ _ _ => True) (fun _ U o U' => ∃ v L, o = .returned v ∧ Q0 Z p0 p1 p2 p3 p4 p5 w_COMPACT_STRINGS h0 n0 v U'.heap L ∧ CHr Z consts_1 U.vm U.heap U'.vm U'.heap ∧ ReturnedEndW U o U' L room_1.cells room_1.slots) := by
  refine MetFree.of_bodySF (plainFor_of_name pn0) hisR ?_
  intro p e s m args below meth c s₁ Bd hml0 hP hK
  obtain ⟨rfl, hZ, hh, hCH⟩ := hP
  have hx := Bd.exec
  have hby := Bd.bytes
  have hml : c.maxLocals = 13 := hml0
  have hown : s.vm.findClass "com/example/shallow_history/shallowhistory/policy/MethodReferenceEqualsPinLaw" = some m.cls := findClass_of_methodNamed Bd.named
  have hnm := (name_of_methodNamed Bd.named Bd.method).1
  have hlk : meth.locks = false := BodyLoose.notSynchronized Bd
  have X0 : Stand p l e room_1 (s.setVm s.vm) m #[(.int p0), (.int p1), (.int p2), (.int p3), (.int p4), (.int p5)] below meth c s₁ [] 0 0 := Stand.of_body Bd
  have e0 : s₁.heap = h0 := by rw [← hh, Bd.state]; rfl
  have N0 := Fr.nil n0
  have Wd0 : own_Wd s Z consts_1 s.vm h0 := own_Wd.start hh hCH
  suffices hmain : own_EndsW p e below s Z consts_1 (Q0 Z p0 p1 p2 p3 p4 p5 w_COMPACT_STRINGS h0 n0) 56 4352 (s₁.setTop (mkF m 0 #[.val (.int p0), .val (.int p1), .val (.int p2), .val (.int p3), .val (.int p4), .val (.int p5), .unset, .unset, .unset, .unset, .unset, .unset, .unset] [])) by
    obtain ⟨U, o, h1, r⟩ := hmain
    exact ⟨U, o, castTop (ef0 m p0 p1 p2 p3 p4 p5) h1, r⟩
  show own_EndsW _ _ _ _ _ _ _ _ _ (s₁.setTop (mkF m 0 #[.val (.int p0), .val (.int p1), .val (.int p2), .val (.int p3), .val (.int p4), .val (.int p5), .unset, .unset, .unset, .unset, .unset, .unset, .unset] []))
  refine own_goW (fun _ k => XS.iloadN X0.here hx rfl (hb hby at_0) rfl k) ?_
  show own_EndsW _ _ _ _ _ _ _ _ _ (s₁.setTop (mkF m 1 #[.val (.int p0), .val (.int p1), .val (.int p2), .val (.int p3), .val (.int p4), .val (.int p5), .unset, .unset, .unset, .unset, .unset, .unset, .unset] [(.int p3)]))
  refine own_goW (fun _ k => XS.iconst X0.here hx rfl (hb hby at_1) k) ?_
  show own_EndsW _ _ _ _ _ _ _ _ _ (s₁.setTop (mkF m 2 #[.val (.int p0), .val (.int p1), .val (.int p2), .val (.int p3), .val (.int p4), .val (.int p5), .unset, .unset, .unset, .unset, .unset, .unset, .unset] [(.int (1 : Int32)), (.int p3)]))
  refine own_goW (fun _ k => XS.iand X0.here hx rfl (hb hby at_2) rfl k) ?_
  show own_EndsW _ _ _ _ _ _ _ _ _ (s₁.setTop (mkF m 3 #[.val (.int p0), .val (.int p1), .val (.int p2), .val (.int p3), .val (.int p4), .val (.int p5), .unset, .unset, .unset, .unset, .unset, .unset, .unset] [(.int (p3 &&& (1 : Int32)))]))
  suffices hj2 : ∀ z1 : Int32, z1 = (if (p3 &&& (1 : Int32)) = (0 : Int32) then p0 else (p0 ^^^ p4)) → own_EndsW p e below s Z consts_1 (Q0 Z p0 p1 p2 p3 p4 p5 w_COMPACT_STRINGS h0 n0) 56 4352 (s₁.setTop (mkF m 14 #[.val (.int p0), .val (.int p1), .val (.int p2), .val (.int p3), .val (.int p4), .val (.int p5), .unset, .unset, .unset, .unset, .unset, .unset, .unset] [(.int z1)])) by
    show own_EndsW _ _ _ _ _ _ _ _ _ (s₁.setTop (mkF m 3 #[.val (.int p0), .val (.int p1), .val (.int p2), .val (.int p3), .val (.int p4), .val (.int p5), .unset, .unset, .unset, .unset, .unset, .unset, .unset] [(.int (p3 &&& (1 : Int32)))]))
    by_cases hc3 : (p3 &&& (1 : Int32)) = (0 : Int32)
    · refine own_goW (fun _ k => XS.ifNo X0.here hx rfl (hb hby at_3) rfl ((if0 _ _).trans (teq hc3).2) k) ?_
      show own_EndsW _ _ _ _ _ _ _ _ _ (s₁.setTop (mkF m 6 #[.val (.int p0), .val (.int p1), .val (.int p2), .val (.int p3), .val (.int p4), .val (.int p5), .unset, .unset, .unset, .unset, .unset, .unset, .unset] []))
      refine own_goW (fun _ k => XS.iloadN X0.here hx rfl (hb hby at_6) rfl k) ?_
      show own_EndsW _ _ _ _ _ _ _ _ _ (s₁.setTop (mkF m 7 #[.val (.int p0), .val (.int p1), .val (.int p2), .val (.int p3), .val (.int p4), .val (.int p5), .unset, .unset, .unset, .unset, .unset, .unset, .unset] [(.int p0)]))
      refine own_goW (fun _ k => XS.goto X0.here hx rfl (pc0 := 7) (pc' := 14) rfl (hb hby at_7) (by decide) (by decide) k) ?_
      exact hj2 _ ((if_pos hc3)).symm
    · refine own_goW (fun _ k => XS.ifYes X0.here hx rfl (pc0 := 3) (pc' := 10) rfl (hb hby at_3) rfl ((if0 _ _).trans (feq hc3).2) (by decide) (by decide) k) ?_
      show own_EndsW _ _ _ _ _ _ _ _ _ (s₁.setTop (mkF m 10 #[.val (.int p0), .val (.int p1), .val (.int p2), .val (.int p3), .val (.int p4), .val (.int p5), .unset, .unset, .unset, .unset, .unset, .unset, .unset] []))
      refine own_goW (fun _ k => XS.iloadN X0.here hx rfl (hb hby at_10) rfl k) ?_
      show own_EndsW _ _ _ _ _ _ _ _ _ (s₁.setTop (mkF m 11 #[.val (.int p0), .val (.int p1), .val (.int p2), .val (.int p3), .val (.int p4), .val (.int p5), .unset, .unset, .unset, .unset, .unset, .unset, .unset] [(.int p0)]))
      refine own_goW (fun _ k => XS.iload X0.here hx rfl (hb hby at_11) rfl k) ?_
      show own_EndsW _ _ _ _ _ _ _ _ _ (s₁.setTop (mkF m 13 #[.val (.int p0), .val (.int p1), .val (.int p2), .val (.int p3), .val (.int p4), .val (.int p5), .unset, .unset, .unset, .unset, .unset, .unset, .unset] [(.int p4), (.int p0)]))
      refine own_goW (fun _ k => XS.ixor X0.here hx rfl (hb hby at_13) rfl k) ?_
      exact hj2 _ ((if_neg hc3)).symm
  intro z1 hz1
  show own_EndsW _ _ _ _ _ _ _ _ _ (s₁.setTop (mkF m 14 #[.val (.int p0), .val (.int p1), .val (.int p2), .val (.int p3), .val (.int p4), .val (.int p5), .unset, .unset, .unset, .unset, .unset, .unset, .unset] [(.int z1)]))
  refine own_goW (fun _ k => XS.istore X0.here hx rfl (hb hby at_14) rfl (l' := #[.val (.int p0), .val (.int p1), .val (.int p2), .val (.int p3), .val (.int p4), .val (.int p5), .val (.int z1), .unset, .unset, .unset, .unset, .unset, .unset]) rfl k) ?_
  show own_EndsW _ _ _ _ _ _ _ _ _ (s₁.setTop (mkF m 16 #[.val (.int p0), .val (.int p1), .val (.int p2), .val (.int p3), .val (.int p4), .val (.int p5), .val (.int z1), .unset, .unset, .unset, .unset, .unset, .unset] []))
  refine own_goW (fun _ k => XS.iloadN X0.here hx rfl (hb hby at_16) rfl k) ?_
  show own_EndsW _ _ _ _ _ _ _ _ _ (s₁.setTop (mkF m 17 #[.val (.int p0), .val (.int p1), .val (.int p2), .val (.int p3), .val (.int p4), .val (.int p5), .val (.int z1), .unset, .unset, .unset, .unset, .unset, .unset] [(.int p3)]))
  refine own_goW (fun _ k => XS.iconst X0.here hx rfl (hb hby at_17) k) ?_
  show own_EndsW _ _ _ _ _ _ _ _ _ (s₁.setTop (mkF m 18 #[.val (.int p0), .val (.int p1), .val (.int p2), .val (.int p3), .val (.int p4), .val (.int p5), .val (.int z1), .unset, .unset, .unset, .unset, .unset, .unset] [(.int (2 : Int32)), (.int p3)]))
  refine own_goW (fun _ k => XS.iand X0.here hx rfl (hb hby at_18) rfl k) ?_
  show own_EndsW _ _ _ _ _ _ _ _ _ (s₁.setTop (mkF m 19 #[.val (.int p0), .val (.int p1), .val (.int p2), .val (.int p3), .val (.int p4), .val (.int p5), .val (.int z1), .unset, .unset, .unset, .unset, .unset, .unset] [(.int (p3 &&& (2 : Int32)))]))
  suffices hj5 : ∀ z4 : Int32, z4 = (if (p3 &&& (2 : Int32)) = (0 : Int32) then p1 else (p1 ^^^ p5)) → own_EndsW p e below s Z consts_1 (Q0 Z p0 p1 p2 p3 p4 p5 w_COMPACT_STRINGS h0 n0) 56 4352 (s₁.setTop (mkF m 30 #[.val (.int p0), .val (.int p1), .val (.int p2), .val (.int p3), .val (.int p4), .val (.int p5), .val (.int z1), .unset, .unset, .unset, .unset, .unset, .unset] [(.int z4)])) by
    show own_EndsW _ _ _ _ _ _ _ _ _ (s₁.setTop (mkF m 19 #[.val (.int p0), .val (.int p1), .val (.int p2), .val (.int p3), .val (.int p4), .val (.int p5), .val (.int z1), .unset, .unset, .unset, .unset, .unset, .unset] [(.int (p3 &&& (2 : Int32)))]))
    by_cases hc6 : (p3 &&& (2 : Int32)) = (0 : Int32)
    · refine own_goW (fun _ k => XS.ifNo X0.here hx rfl (hb hby at_19) rfl ((if0 _ _).trans (teq hc6).2) k) ?_
      show own_EndsW _ _ _ _ _ _ _ _ _ (s₁.setTop (mkF m 22 #[.val (.int p0), .val (.int p1), .val (.int p2), .val (.int p3), .val (.int p4), .val (.int p5), .val (.int z1), .unset, .unset, .unset, .unset, .unset, .unset] []))
      refine own_goW (fun _ k => XS.iloadN X0.here hx rfl (hb hby at_22) rfl k) ?_
      show own_EndsW _ _ _ _ _ _ _ _ _ (s₁.setTop (mkF m 23 #[.val (.int p0), .val (.int p1), .val (.int p2), .val (.int p3), .val (.int p4), .val (.int p5), .val (.int z1), .unset, .unset, .unset, .unset, .unset, .unset] [(.int p1)]))
      refine own_goW (fun _ k => XS.goto X0.here hx rfl (pc0 := 23) (pc' := 30) rfl (hb hby at_23) (by decide) (by decide) k) ?_
      exact hj5 _ ((if_pos hc6)).symm
    · refine own_goW (fun _ k => XS.ifYes X0.here hx rfl (pc0 := 19) (pc' := 26) rfl (hb hby at_19) rfl ((if0 _ _).trans (feq hc6).2) (by decide) (by decide) k) ?_
      show own_EndsW _ _ _ _ _ _ _ _ _ (s₁.setTop (mkF m 26 #[.val (.int p0), .val (.int p1), .val (.int p2), .val (.int p3), .val (.int p4), .val (.int p5), .val (.int z1), .unset, .unset, .unset, .unset, .unset, .unset] []))
      refine own_goW (fun _ k => XS.iloadN X0.here hx rfl (hb hby at_26) rfl k) ?_
      show own_EndsW _ _ _ _ _ _ _ _ _ (s₁.setTop (mkF m 27 #[.val (.int p0), .val (.int p1), .val (.int p2), .val (.int p3), .val (.int p4), .val (.int p5), .val (.int z1), .unset, .unset, .unset, .unset, .unset, .unset] [(.int p1)]))
      refine own_goW (fun _ k => XS.iload X0.here hx rfl (hb hby at_27) rfl k) ?_
      show own_EndsW _ _ _ _ _ _ _ _ _ (s₁.setTop (mkF m 29 #[.val (.int p0), .val (.int p1), .val (.int p2), .val (.int p3), .val (.int p4), .val (.int p5), .val (.int z1), .unset, .unset, .unset, .unset, .unset, .unset] [(.int p5), (.int p1)]))
      refine own_goW (fun _ k => XS.ixor X0.here hx rfl (hb hby at_29) rfl k) ?_
      exact hj5 _ ((if_neg hc6)).symm
  intro z4 hz4
  show own_EndsW _ _ _ _ _ _ _ _ _ (s₁.setTop (mkF m 30 #[.val (.int p0), .val (.int p1), .val (.int p2), .val (.int p3), .val (.int p4), .val (.int p5), .val (.int z1), .unset, .unset, .unset, .unset, .unset, .unset] [(.int z4)]))
  refine own_goW (fun _ k => XS.istore X0.here hx rfl (hb hby at_30) rfl (l' := #[.val (.int p0), .val (.int p1), .val (.int p2), .val (.int p3), .val (.int p4), .val (.int p5), .val (.int z1), .val (.int z4), .unset, .unset, .unset, .unset, .unset]) rfl k) ?_
  show own_EndsW _ _ _ _ _ _ _ _ _ (s₁.setTop (mkF m 32 #[.val (.int p0), .val (.int p1), .val (.int p2), .val (.int p3), .val (.int p4), .val (.int p5), .val (.int z1), .val (.int z4), .unset, .unset, .unset, .unset, .unset] []))
  refine own_goW (fun _ k => XS.iloadN X0.here hx rfl (hb hby at_32) rfl k) ?_
  show own_EndsW _ _ _ _ _ _ _ _ _ (s₁.setTop (mkF m 33 #[.val (.int p0), .val (.int p1), .val (.int p2), .val (.int p3), .val (.int p4), .val (.int p5), .val (.int z1), .val (.int z4), .unset, .unset, .unset, .unset, .unset] [(.int p3)]))
  refine own_goW (fun _ k => XS.iconst X0.here hx rfl (hb hby at_33) k) ?_
  show own_EndsW _ _ _ _ _ _ _ _ _ (s₁.setTop (mkF m 34 #[.val (.int p0), .val (.int p1), .val (.int p2), .val (.int p3), .val (.int p4), .val (.int p5), .val (.int z1), .val (.int z4), .unset, .unset, .unset, .unset, .unset] [(.int (4 : Int32)), (.int p3)]))
  refine own_goW (fun _ k => XS.iand X0.here hx rfl (hb hby at_34) rfl k) ?_
  show own_EndsW _ _ _ _ _ _ _ _ _ (s₁.setTop (mkF m 35 #[.val (.int p0), .val (.int p1), .val (.int p2), .val (.int p3), .val (.int p4), .val (.int p5), .val (.int z1), .val (.int z4), .unset, .unset, .unset, .unset, .unset] [(.int (p3 &&& (4 : Int32)))]))
  suffices hj8 : ∀ z7 : Int32, z7 = (if (p3 &&& (4 : Int32)) = (0 : Int32) then p2 else (p2 ^^^ (p4 + p5))) → own_EndsW p e below s Z consts_1 (Q0 Z p0 p1 p2 p3 p4 p5 w_COMPACT_STRINGS h0 n0) 56 4352 (s₁.setTop (mkF m 49 #[.val (.int p0), .val (.int p1), .val (.int p2), .val (.int p3), .val (.int p4), .val (.int p5), .val (.int z1), .val (.int z4), .unset, .unset, .unset, .unset, .unset] [(.int z7)])) by
    show own_EndsW _ _ _ _ _ _ _ _ _ (s₁.setTop (mkF m 35 #[.val (.int p0), .val (.int p1), .val (.int p2), .val (.int p3), .val (.int p4), .val (.int p5), .val (.int z1), .val (.int z4), .unset, .unset, .unset, .unset, .unset] [(.int (p3 &&& (4 : Int32)))]))
    by_cases hc9 : (p3 &&& (4 : Int32)) = (0 : Int32)
    · refine own_goW (fun _ k => XS.ifNo X0.here hx rfl (hb hby at_35) rfl ((if0 _ _).trans (teq hc9).2) k) ?_
      show own_EndsW _ _ _ _ _ _ _ _ _ (s₁.setTop (mkF m 38 #[.val (.int p0), .val (.int p1), .val (.int p2), .val (.int p3), .val (.int p4), .val (.int p5), .val (.int z1), .val (.int z4), .unset, .unset, .unset, .unset, .unset] []))
      refine own_goW (fun _ k => XS.iloadN X0.here hx rfl (hb hby at_38) rfl k) ?_
      show own_EndsW _ _ _ _ _ _ _ _ _ (s₁.setTop (mkF m 39 #[.val (.int p0), .val (.int p1), .val (.int p2), .val (.int p3), .val (.int p4), .val (.int p5), .val (.int z1), .val (.int z4), .unset, .unset, .unset, .unset, .unset] [(.int p2)]))
      refine own_goW (fun _ k => XS.goto X0.here hx rfl (pc0 := 39) (pc' := 49) rfl (hb hby at_39) (by decide) (by decide) k) ?_
      exact hj8 _ ((if_pos hc9)).symm
    · refine own_goW (fun _ k => XS.ifYes X0.here hx rfl (pc0 := 35) (pc' := 42) rfl (hb hby at_35) rfl ((if0 _ _).trans (feq hc9).2) (by decide) (by decide) k) ?_
      show own_EndsW _ _ _ _ _ _ _ _ _ (s₁.setTop (mkF m 42 #[.val (.int p0), .val (.int p1), .val (.int p2), .val (.int p3), .val (.int p4), .val (.int p5), .val (.int z1), .val (.int z4), .unset, .unset, .unset, .unset, .unset] []))
      refine own_goW (fun _ k => XS.iloadN X0.here hx rfl (hb hby at_42) rfl k) ?_
      show own_EndsW _ _ _ _ _ _ _ _ _ (s₁.setTop (mkF m 43 #[.val (.int p0), .val (.int p1), .val (.int p2), .val (.int p3), .val (.int p4), .val (.int p5), .val (.int z1), .val (.int z4), .unset, .unset, .unset, .unset, .unset] [(.int p2)]))
      refine own_goW (fun _ k => XS.iload X0.here hx rfl (hb hby at_43) rfl k) ?_
      show own_EndsW _ _ _ _ _ _ _ _ _ (s₁.setTop (mkF m 45 #[.val (.int p0), .val (.int p1), .val (.int p2), .val (.int p3), .val (.int p4), .val (.int p5), .val (.int z1), .val (.int z4), .unset, .unset, .unset, .unset, .unset] [(.int p4), (.int p2)]))
      refine own_goW (fun _ k => XS.iload X0.here hx rfl (hb hby at_45) rfl k) ?_
      show own_EndsW _ _ _ _ _ _ _ _ _ (s₁.setTop (mkF m 47 #[.val (.int p0), .val (.int p1), .val (.int p2), .val (.int p3), .val (.int p4), .val (.int p5), .val (.int z1), .val (.int z4), .unset, .unset, .unset, .unset, .unset] [(.int p5), (.int p4), (.int p2)]))
      refine own_goW (fun _ k => XS.iadd X0.here hx rfl (hb hby at_47) rfl k) ?_
      show own_EndsW _ _ _ _ _ _ _ _ _ (s₁.setTop (mkF m 48 #[.val (.int p0), .val (.int p1), .val (.int p2), .val (.int p3), .val (.int p4), .val (.int p5), .val (.int z1), .val (.int z4), .unset, .unset, .unset, .unset, .unset] [(.int (p4 + p5)), (.int p2)]))
      refine own_goW (fun _ k => XS.ixor X0.here hx rfl (hb hby at_48) rfl k) ?_
      exact hj8 _ ((if_neg hc9)).symm
  intro z7 hz7
  show own_EndsW _ _ _ _ _ _ _ _ _ (s₁.setTop (mkF m 49 #[.val (.int p0), .val (.int p1), .val (.int p2), .val (.int p3), .val (.int p4), .val (.int p5), .val (.int z1), .val (.int z4), .unset, .unset, .unset, .unset, .unset] [(.int z7)]))
  refine own_goW (fun _ k => XS.istore X0.here hx rfl (hb hby at_49) rfl (l' := #[.val (.int p0), .val (.int p1), .val (.int p2), .val (.int p3), .val (.int p4), .val (.int p5), .val (.int z1), .val (.int z4), .val (.int z7), .unset, .unset, .unset, .unset]) rfl k) ?_
  show own_EndsW _ _ _ _ _ _ _ _ _ (s₁.setTop (mkF m 51 #[.val (.int p0), .val (.int p1), .val (.int p2), .val (.int p3), .val (.int p4), .val (.int p5), .val (.int z1), .val (.int z4), .val (.int z7), .unset, .unset, .unset, .unset] []))
  obtain ⟨T10, h10, X10, e10, E10, A10, D10, -, st10⟩ := newO X0 hx hZ hown (hw _ (List.mem_of_getElem? (i := 0) rfl)) (hw _ (List.mem_of_getElem? (i := 1) rfl)) (hw _ (List.mem_of_getElem? (i := 2) rfl)) e0 (g := (mkF m 51 #[.val (.int p0), .val (.int p1), .val (.int p2), .val (.int p3), .val (.int p4), .val (.int p5), .val (.int z1), .val (.int z4), .val (.int z7), .unset, .unset, .unset, .unset] [])) rfl (hb hby at_51) (by decide) (by decide)
  obtain ⟨b10, q_b10⟩ : ∃ z, z = h0.size := ⟨_, rfl⟩
  rw [← q_b10] at A10 D10 st10
  have g_b10 : n0 ≤ b10 := Nat.le_trans (own_sz O0) (Nat.le_of_eq q_b10.symm)
  refine own_goW (fun _ k => st10 _ k) ?_
  have Wd10 : own_Wd s Z consts_1 s.vm h10 := Wd0.ext E10
  have F11 : Old Z n0 h10 := (O0.ext E10)
  have F12 : Fld Z h10 b10 "com/example/shallow_history/shallowhistory/policy/MethodReference" "owner" "Ljava/lang/String;" .null := D10 (Or.inr (hw _ (List.mem_of_getElem? (i := 51) rfl))) (ty := (.object "java/lang/String")) (by decide)
  have F13 : Fld Z h10 b10 "com/example/shallow_history/shallowhistory/policy/MethodReference" "name" "Ljava/lang/String;" .null := D10 (Or.inr (hw _ (List.mem_of_getElem? (i := 54) rfl))) (ty := (.object "java/lang/String")) (by decide)
  have F14 : Fld Z h10 b10 "com/example/shallow_history/shallowhistory/policy/MethodReference" "descriptor" "Ljava/lang/String;" .null := D10 (Or.inr (hw _ (List.mem_of_getElem? (i := 57) rfl))) (ty := (.object "java/lang/String")) (by decide)
  show own_EndsW _ _ _ _ _ _ _ _ _ (T10.setTop (mkF m 54 #[.val (.int p0), .val (.int p1), .val (.int p2), .val (.int p3), .val (.int p4), .val (.int p5), .val (.int z1), .val (.int z4), .val (.int z7), .unset, .unset, .unset, .unset] [(.ref b10)]))
  refine own_goW (fun _ k => XS.dup X10.here hx rfl (hb hby at_54) rfl rfl k) ?_
  show own_EndsW _ _ _ _ _ _ _ _ _ (T10.setTop (mkF m 55 #[.val (.int p0), .val (.int p1), .val (.int p2), .val (.int p3), .val (.int p4), .val (.int p5), .val (.int z1), .val (.int z4), .val (.int z7), .unset, .unset, .unset, .unset] [(.ref b10), (.ref b10)]))
  refine own_goW (fun _ k => XS.iloadN X10.here hx rfl (hb hby at_55) rfl k) ?_
  show own_EndsW _ _ _ _ _ _ _ _ _ (T10.setTop (mkF m 56 #[.val (.int p0), .val (.int p1), .val (.int p2), .val (.int p3), .val (.int p4), .val (.int p5), .val (.int z1), .val (.int z4), .val (.int z7), .unset, .unset, .unset, .unset] [(.int p0), (.ref b10), (.ref b10)]))
  obtain ⟨_, _, ⟨T15, L15, k15, n15⟩, -, X15', hS15, gg15, ⟨Lc15, hQ15, l15, y15, z15, C15⟩, st15⟩ := callSS X10 hx (y := (⟨"com/example/shallow_history/shallowhistory/policy/MethodReferenceEqualsPinLaw", "str", "(I)Ljava/lang/String;"⟩ : MethodName)) hown (mvT hZ (hw _ (List.mem_of_getElem? (i := 3) rfl))) (mvT hZ (hw _ (List.mem_of_getElem? (i := 4) rfl))) (mvT hZ (hw _ (List.mem_of_getElem? (i := 5) rfl))) (mvT hZ (hw _ (List.mem_of_getElem? (i := 6) rfl))) (by decide) (backOfSH (W := 2) (rmstr l Z ar hw [] p0 w_COMPACT_STRINGS h10 n0 F11 hCS S_COMPACT_STRINGS) hZ (hw _ (List.mem_of_getElem? (i := 6) rfl)) (hw _ (List.mem_of_getElem? (i := 5) rfl)) (by decide) (by decide) (own_EW hw) Wd10.ch) (g := (mkF m 56 #[.val (.int p0), .val (.int p1), .val (.int p2), .val (.int p3), .val (.int p4), .val (.int p5), .val (.int z1), .val (.int z4), .val (.int z7), .unset, .unset, .unset, .unset] [(.int p0), (.ref b10), (.ref b10)])) rfl (by rw [hml]; rfl) (argsL := [(.int p0)]) (rest := [(.ref b10), (.ref b10)]) (lenOf pd0_0 rfl) rfl (by show 2 * 0 + _ ≤ _; exact Nat.le_of_eq rfl) (hb hby at_56) (fun _ _ => ⟨rfl, e10, (by decide : 1 + 6 ≤ _), (by decide : 3 + 12 ≤ _)⟩)
  dsimp only [Pt.U, Pt.locs, Pt.cells, Pt.slots] at X15' hS15 gg15 l15 y15 z15 st15 hQ15 C15
  subst l15 y15 z15
  obtain ⟨X15, Wd15, hZ, hown⟩ := own_fold Wd10 e10 X15' hS15 gg15 C15 hZ hown
  obtain ⟨r15, rfl, N15q, K15, T15_0⟩ := hQ15
  have N15 := Fr.app N0 N15q
  have F16 : Old Z n0 T15.heap := (F11.keep K15 all0)
  have F17 : Exa Z T15.heap b10 "com/example/shallow_history/shallowhistory/policy/MethodReference" := (A10.keep K15)
  have F18 : Fld Z T15.heap b10 "com/example/shallow_history/shallowhistory/policy/MethodReference" "owner" "Ljava/lang/String;" .null := (F12.keep K15 nin0)
  have F19 : Fld Z T15.heap b10 "com/example/shallow_history/shallowhistory/policy/MethodReference" "name" "Ljava/lang/String;" .null := (F13.keep K15 nin0)
  have F20 : Fld Z T15.heap b10 "com/example/shallow_history/shallowhistory/policy/MethodReference" "descriptor" "Ljava/lang/String;" .null := (F14.keep K15 nin0)
  refine own_goW (fun _ k => st15.trans k) ?_
  show own_EndsW _ _ _ _ _ _ _ _ _ (T15.setTop (mkF m 59 #[.val (.int p0), .val (.int p1), .val (.int p2), .val (.int p3), .val (.int p4), .val (.int p5), .val (.int z1), .val (.int z4), .val (.int z7), .unset, .unset, .unset, .unset] [(.ref r15), (.ref b10), (.ref b10)]))
  refine own_goW (fun _ k => XS.iloadN X15.here hx rfl (hb hby at_59) rfl k) ?_
  show own_EndsW _ _ _ _ _ _ _ _ _ (T15.setTop (mkF m 60 #[.val (.int p0), .val (.int p1), .val (.int p2), .val (.int p3), .val (.int p4), .val (.int p5), .val (.int z1), .val (.int z4), .val (.int z7), .unset, .unset, .unset, .unset] [(.int p1), (.ref r15), (.ref b10), (.ref b10)]))
  obtain ⟨_, _, ⟨T21, L21, k21, n21⟩, -, X21', hS21, gg21, ⟨Lc21, hQ21, l21, y21, z21, C21⟩, st21⟩ := callSS X15 hx (y := (⟨"com/example/shallow_history/shallowhistory/policy/MethodReferenceEqualsPinLaw", "str", "(I)Ljava/lang/String;"⟩ : MethodName)) hown (mvT hZ (hw _ (List.mem_of_getElem? (i := 3) rfl))) (mvT hZ (hw _ (List.mem_of_getElem? (i := 4) rfl))) (mvT hZ (hw _ (List.mem_of_getElem? (i := 5) rfl))) (mvT hZ (hw _ (List.mem_of_getElem? (i := 6) rfl))) (by decide) (backOfSH (W := 3) (rmstr l Z ar hw [] p1 w_COMPACT_STRINGS T15.heap n0 F16 hCS S_COMPACT_STRINGS) hZ (hw _ (List.mem_of_getElem? (i := 6) rfl)) (hw _ (List.mem_of_getElem? (i := 5) rfl)) (by decide) (by decide) (own_EW hw) Wd15.ch) (g := (mkF m 60 #[.val (.int p0), .val (.int p1), .val (.int p2), .val (.int p3), .val (.int p4), .val (.int p5), .val (.int z1), .val (.int z4), .val (.int z7), .unset, .unset, .unset, .unset] [(.int p1), (.ref r15), (.ref b10), (.ref b10)])) rfl (by rw [hml]; rfl) (argsL := [(.int p1)]) (rest := [(.ref r15), (.ref b10), (.ref b10)]) (lenOf pd0_0 rfl) rfl (by show 2 * 0 + _ ≤ _; exact Nat.le_of_eq rfl) (hb hby at_60) (fun _ _ => ⟨rfl, rfl, (by decide : 7 + 6 ≤ _), (by decide : 15 + 12 ≤ _)⟩)
  dsimp only [Pt.U, Pt.locs, Pt.cells, Pt.slots] at X21' hS21 gg21 l21 y21 z21 st21 hQ21 C21
  subst l21 y21 z21
  obtain ⟨X21, Wd21, hZ, hown⟩ := own_fold Wd15 rfl X21' hS21 gg21 C21 hZ hown
  obtain ⟨r21, rfl, N21q, K21, T21_0⟩ := hQ21
  have N21 := Fr.app N15 N21q
  have F22 : own_Str Z T21.heap r15 (own_n p0) (own_b p0) := (T15_0.keep0 K21)
  have F23 : Old Z n0 T21.heap := (F16.keep K21 all0)
  have F24 : Exa Z T21.heap b10 "com/example/shallow_history/shallowhistory/policy/MethodReference" := (F17.keep K21)
  have F25 : Fld Z T21.heap b10 "com/example/shallow_history/shallowhistory/policy/MethodReference" "owner" "Ljava/lang/String;" .null := (F18.keep K21 nin0)
  have F26 : Fld Z T21.heap b10 "com/example/shallow_history/shallowhistory/policy/MethodReference" "name" "Ljava/lang/String;" .null := (F19.keep K21 nin0)
  have F27 : Fld Z T21.heap b10 "com/example/shallow_history/shallowhistory/policy/MethodReference" "descriptor" "Ljava/lang/String;" .null := (F20.keep K21 nin0)
  have F28 : Exa Z T21.heap r15 "java/lang/String" := (T15_0.1.keep K21)
  refine own_goW (fun _ k => st21.trans k) ?_
  show own_EndsW _ _ _ _ _ _ _ _ _ (T21.setTop (mkF m 63 #[.val (.int p0), .val (.int p1), .val (.int p2), .val (.int p3), .val (.int p4), .val (.int p5), .val (.int z1), .val (.int z4), .val (.int z7), .unset, .unset, .unset, .unset] [(.ref r21), (.ref r15), (.ref b10), (.ref b10)]))
  refine own_goW (fun _ k => XS.iloadN X21.here hx rfl (hb hby at_63) rfl k) ?_
  show own_EndsW _ _ _ _ _ _ _ _ _ (T21.setTop (mkF m 64 #[.val (.int p0), .val (.int p1), .val (.int p2), .val (.int p3), .val (.int p4), .val (.int p5), .val (.int z1), .val (.int z4), .val (.int z7), .unset, .unset, .unset, .unset] [(.int p2), (.ref r21), (.ref r15), (.ref b10), (.ref b10)]))
  obtain ⟨_, _, ⟨T29, L29, k29, n29⟩, -, X29', hS29, gg29, ⟨Lc29, hQ29, l29, y29, z29, C29⟩, st29⟩ := callSS X21 hx (y := (⟨"com/example/shallow_history/shallowhistory/policy/MethodReferenceEqualsPinLaw", "str", "(I)Ljava/lang/String;"⟩ : MethodName)) hown (mvT hZ (hw _ (List.mem_of_getElem? (i := 3) rfl))) (mvT hZ (hw _ (List.mem_of_getElem? (i := 4) rfl))) (mvT hZ (hw _ (List.mem_of_getElem? (i := 5) rfl))) (mvT hZ (hw _ (List.mem_of_getElem? (i := 6) rfl))) (by decide) (backOfSH (W := 4) (rmstr l Z ar hw [] p2 w_COMPACT_STRINGS T21.heap n0 F23 hCS S_COMPACT_STRINGS) hZ (hw _ (List.mem_of_getElem? (i := 6) rfl)) (hw _ (List.mem_of_getElem? (i := 5) rfl)) (by decide) (by decide) (own_EW hw) Wd21.ch) (g := (mkF m 64 #[.val (.int p0), .val (.int p1), .val (.int p2), .val (.int p3), .val (.int p4), .val (.int p5), .val (.int z1), .val (.int z4), .val (.int z7), .unset, .unset, .unset, .unset] [(.int p2), (.ref r21), (.ref r15), (.ref b10), (.ref b10)])) rfl (by rw [hml]; rfl) (argsL := [(.int p2)]) (rest := [(.ref r21), (.ref r15), (.ref b10), (.ref b10)]) (lenOf pd0_0 rfl) rfl (by show 2 * 0 + _ ≤ _; exact Nat.le_of_eq rfl) (hb hby at_64) (fun _ _ => ⟨rfl, rfl, (by decide : 13 + 6 ≤ _), (by decide : 27 + 12 ≤ _)⟩)
  dsimp only [Pt.U, Pt.locs, Pt.cells, Pt.slots] at X29' hS29 gg29 l29 y29 z29 st29 hQ29 C29
  subst l29 y29 z29
  obtain ⟨X29, Wd29, hZ, hown⟩ := own_fold Wd21 rfl X29' hS29 gg29 C29 hZ hown
  obtain ⟨r29, rfl, N29q, K29, T29_0⟩ := hQ29
  have N29 := Fr.app N21 N29q
  have F30 : own_Str Z T29.heap r15 (own_n p0) (own_b p0) := (F22.keep0 K29)
  have F31 : own_Str Z T29.heap r21 (own_n p1) (own_b p1) := (T21_0.keep0 K29)
  have F32 : Old Z n0 T29.heap := (F23.keep K29 all0)
  have F33 : Exa Z T29.heap b10 "com/example/shallow_history/shallowhistory/policy/MethodReference" := (F24.keep K29)
  have F34 : Fld Z T29.heap b10 "com/example/shallow_history/shallowhistory/policy/MethodReference" "owner" "Ljava/lang/String;" .null := (F25.keep K29 nin0)
  have F35 : Fld Z T29.heap b10 "com/example/shallow_history/shallowhistory/policy/MethodReference" "name" "Ljava/lang/String;" .null := (F26.keep K29 nin0)
  have F36 : Fld Z T29.heap b10 "com/example/shallow_history/shallowhistory/policy/MethodReference" "descriptor" "Ljava/lang/String;" .null := (F27.keep K29 nin0)
  have F37 : Exa Z T29.heap r15 "java/lang/String" := (F28.keep K29)
  have F38 : Exa Z T29.heap r21 "java/lang/String" := (T21_0.1.keep K29)
  refine own_goW (fun _ k => st29.trans k) ?_
  show own_EndsW _ _ _ _ _ _ _ _ _ (T29.setTop (mkF m 67 #[.val (.int p0), .val (.int p1), .val (.int p2), .val (.int p3), .val (.int p4), .val (.int p5), .val (.int z1), .val (.int z4), .val (.int z7), .unset, .unset, .unset, .unset] [(.ref r29), (.ref r21), (.ref r15), (.ref b10), (.ref b10)]))
  obtain ⟨_, _, ⟨T39, L39, k39, n39⟩, -, X39', hS39, gg39, ⟨Lc39, hQ39, l39, y39, z39, C39⟩, st39⟩ := X29.specialBackS hx (y := (⟨"com/example/shallow_history/shallowhistory/policy/MethodReference", "<init>", "(Ljava/lang/String;Ljava/lang/String;Ljava/lang/String;)V"⟩ : MethodName)) rfl hown (mvT hZ (hw _ (List.mem_of_getElem? (i := 40) rfl))) (mvT hZ (hw _ (List.mem_of_getElem? (i := 41) rfl))) (mvT hZ (hw _ (List.mem_of_getElem? (i := 42) rfl))) (by decide) (backOfSH (W := 1) (rmmri l Z ar hw [] b10 r15 r21 r29 T29.heap n0 F32 F33 g_b10 F34 F35 F36 F37 F38 T29_0.1) hZ (hw _ (List.mem_of_getElem? (i := 42) rfl)) (hw _ (List.mem_of_getElem? (i := 2) rfl)) (by decide) (by decide) (own_EW hw) Wd29.ch) (g := (mkF m 67 #[.val (.int p0), .val (.int p1), .val (.int p2), .val (.int p3), .val (.int p4), .val (.int p5), .val (.int z1), .val (.int z4), .val (.int z7), .unset, .unset, .unset, .unset] [(.ref r29), (.ref r21), (.ref r15), (.ref b10), (.ref b10)])) rfl (by rw [hml]; rfl) (Steps.refl _) (a := b10) (argsL := [(.ref r15), (.ref r21), (.ref r29)]) (rest := [(.ref b10)]) (lenOf pd0_1 rfl) rfl (by show 2 * 0 + _ ≤ _; exact Nat.le_of_eq rfl) (hb hby at_67) (fun _ _ => ⟨rfl, rfl, (by decide : 19 + 6 ≤ _), (by decide : 39 + 148 ≤ _)⟩)
  dsimp only [Pt.U, Pt.locs, Pt.cells, Pt.slots] at X39' hS39 gg39 l39 y39 z39 st39 hQ39 C39
  subst l39 y39 z39
  obtain ⟨X39, Wd39, hZ, hown⟩ := own_fold Wd29 rfl X39' hS39 gg39 C39 hZ hown
  obtain ⟨rfl, N39q, K39, E39_0, F39_0, F39_1, F39_2⟩ := hQ39
  have N39 := Fr.app N29 N39q
  have F40 : own_Str Z T39.heap r15 (own_n p0) (own_b p0) := (F30.keep1 K39 F33 (by decide) (hw _ (List.mem_of_getElem? (i := 1) rfl)))
  have F41 : own_Str Z T39.heap r21 (own_n p1) (own_b p1) := (F31.keep1 K39 F33 (by decide) (hw _ (List.mem_of_getElem? (i := 1) rfl)))
  have F42 : own_Str Z T39.heap r29 (own_n p2) (own_b p2) := (T29_0.keep1 K39 F33 (by decide) (hw _ (List.mem_of_getElem? (i := 1) rfl)))
  have F43 : Old Z n0 T39.heap := (F32.keep K39 (allS g_b10 all0))
  have F44 : Exa Z T39.heap b10 "com/example/shallow_history/shallowhistory/policy/MethodReference" := (F33.keep K39)
  have F45 : Exa Z T39.heap r15 "java/lang/String" := (F37.keep K39)
  have F46 : Exa Z T39.heap r21 "java/lang/String" := (F38.keep K39)
  have F47 : Exa Z T39.heap r29 "java/lang/String" := (T29_0.1.keep K39)
  refine own_goW (fun _ k => st39.trans k) ?_
  show own_EndsW _ _ _ _ _ _ _ _ _ (T39.setTop (mkF m 70 #[.val (.int p0), .val (.int p1), .val (.int p2), .val (.int p3), .val (.int p4), .val (.int p5), .val (.int z1), .val (.int z4), .val (.int z7), .unset, .unset, .unset, .unset] [(.ref b10)]))
  refine own_goW (fun _ k => XS.astore X39.here hx rfl (hb hby at_70) rfl rfl (l' := #[.val (.int p0), .val (.int p1), .val (.int p2), .val (.int p3), .val (.int p4), .val (.int p5), .val (.int z1), .val (.int z4), .val (.int z7), .val (.ref b10), .unset, .unset, .unset]) rfl k) ?_
  show own_EndsW _ _ _ _ _ _ _ _ _ (T39.setTop (mkF m 72 #[.val (.int p0), .val (.int p1), .val (.int p2), .val (.int p3), .val (.int p4), .val (.int p5), .val (.int z1), .val (.int z4), .val (.int z7), .val (.ref b10), .unset, .unset, .unset] []))
  refine own_goW (fun _ k => XS.iloadN X39.here hx rfl (hb hby at_72) rfl k) ?_
  show own_EndsW _ _ _ _ _ _ _ _ _ (T39.setTop (mkF m 73 #[.val (.int p0), .val (.int p1), .val (.int p2), .val (.int p3), .val (.int p4), .val (.int p5), .val (.int z1), .val (.int z4), .val (.int z7), .val (.ref b10), .unset, .unset, .unset] [(.int p3)]))
  refine own_goW (fun _ k => XS.iconst X39.here hx rfl (hb hby at_73) k) ?_
  show own_EndsW _ _ _ _ _ _ _ _ _ (T39.setTop (mkF m 74 #[.val (.int p0), .val (.int p1), .val (.int p2), .val (.int p3), .val (.int p4), .val (.int p5), .val (.int z1), .val (.int z4), .val (.int z7), .val (.ref b10), .unset, .unset, .unset] [(.int (3 : Int32)), (.int p3)]))
  refine own_goW (fun _ k => XS.iushr X39.here hx rfl (hb hby at_74) rfl k) ?_
  show own_EndsW _ _ _ _ _ _ _ _ _ (T39.setTop (mkF m 75 #[.val (.int p0), .val (.int p1), .val (.int p2), .val (.int p3), .val (.int p4), .val (.int p5), .val (.int z1), .val (.int z4), .val (.int z7), .val (.ref b10), .unset, .unset, .unset] [(.int ((p3.toUInt32 >>> ((3 : Int32) &&& 31).toUInt32).toInt32))]))
  refine own_goW (fun _ k => XS.iconst X39.here hx rfl (hb hby at_75) k) ?_
  show own_EndsW _ _ _ _ _ _ _ _ _ (T39.setTop (mkF m 76 #[.val (.int p0), .val (.int p1), .val (.int p2), .val (.int p3), .val (.int p4), .val (.int p5), .val (.int z1), .val (.int z4), .val (.int z7), .val (.ref b10), .unset, .unset, .unset] [(.int (3 : Int32)), (.int ((p3.toUInt32 >>> ((3 : Int32) &&& 31).toUInt32).toInt32))]))
  refine own_goW (fun _ k => XS.iand X39.here hx rfl (hb hby at_76) rfl k) ?_
  show own_EndsW _ _ _ _ _ _ _ _ _ (T39.setTop (mkF m 77 #[.val (.int p0), .val (.int p1), .val (.int p2), .val (.int p3), .val (.int p4), .val (.int p5), .val (.int z1), .val (.int z4), .val (.int z7), .val (.ref b10), .unset, .unset, .unset] [(.int (((p3.toUInt32 >>> ((3 : Int32) &&& 31).toUInt32).toInt32) &&& (3 : Int32)))]))
  refine own_goW (fun _ k => XS.istore X39.here hx rfl (hb hby at_77) rfl (l' := #[.val (.int p0), .val (.int p1), .val (.int p2), .val (.int p3), .val (.int p4), .val (.int p5), .val (.int z1), .val (.int z4), .val (.int z7), .val (.ref b10), .val (.int (((p3.toUInt32 >>> ((3 : Int32) &&& 31).toUInt32).toInt32) &&& (3 : Int32))), .unset, .unset]) rfl k) ?_
  show own_EndsW _ _ _ _ _ _ _ _ _ (T39.setTop (mkF m 79 #[.val (.int p0), .val (.int p1), .val (.int p2), .val (.int p3), .val (.int p4), .val (.int p5), .val (.int z1), .val (.int z4), .val (.int z7), .val (.ref b10), .val (.int (((p3.toUInt32 >>> ((3 : Int32) &&& 31).toUInt32).toInt32) &&& (3 : Int32))), .unset, .unset] []))
  refine own_goW (fun _ k => XS.iload X39.here hx rfl (hb hby at_79) rfl k) ?_
  show own_EndsW _ _ _ _ _ _ _ _ _ (T39.setTop (mkF m 81 #[.val (.int p0), .val (.int p1), .val (.int p2), .val (.int p3), .val (.int p4), .val (.int p5), .val (.int z1), .val (.int z4), .val (.int z7), .val (.ref b10), .val (.int (((p3.toUInt32 >>> ((3 : Int32) &&& 31).toUInt32).toInt32) &&& (3 : Int32))), .unset, .unset] [(.int (((p3.toUInt32 >>> ((3 : Int32) &&& 31).toUInt32).toInt32) &&& (3 : Int32)))]))
  refine own_goW (fun _ k => XS.iconst X39.here hx rfl (hb hby at_81) k) ?_
  show own_EndsW _ _ _ _ _ _ _ _ _ (T39.setTop (mkF m 82 #[.val (.int p0), .val (.int p1), .val (.int p2), .val (.int p3), .val (.int p4), .val (.int p5), .val (.int z1), .val (.int z4), .val (.int z7), .val (.ref b10), .val (.int (((p3.toUInt32 >>> ((3 : Int32) &&& 31).toUInt32).toInt32) &&& (3 : Int32))), .unset, .unset] [(.int (1 : Int32)), (.int (((p3.toUInt32 >>> ((3 : Int32) &&& 31).toUInt32).toInt32) &&& (3 : Int32)))]))
  by_cases hc48 : (((p3.toUInt32 >>> ((3 : Int32) &&& 31).toUInt32).toInt32) &&& (3 : Int32)) = (1 : Int32)
  · refine own_goW (fun _ k => XS.icmpNo X39.here hx rfl (hb hby at_82) rfl (teq hc48).2 k) ?_
    show own_EndsW _ _ _ _ _ _ _ _ _ (T39.setTop (mkF m 85 #[.val (.int p0), .val (.int p1), .val (.int p2), .val (.int p3), .val (.int p4), .val (.int p5), .val (.int z1), .val (.int z4), .val (.int z7), .val (.ref b10), .val (.int (((p3.toUInt32 >>> ((3 : Int32) &&& 31).toUInt32).toInt32) &&& (3 : Int32))), .unset, .unset] []))
    refine own_goW (fun _ k => XS.aload X39.here hx rfl (hb hby at_85) rfl rfl k) ?_
    show own_EndsW _ _ _ _ _ _ _ _ _ (T39.setTop (mkF m 87 #[.val (.int p0), .val (.int p1), .val (.int p2), .val (.int p3), .val (.int p4), .val (.int p5), .val (.int z1), .val (.int z4), .val (.int z7), .val (.ref b10), .val (.int (((p3.toUInt32 >>> ((3 : Int32) &&& 31).toUInt32).toInt32) &&& (3 : Int32))), .unset, .unset] [(.ref b10)]))
    refine own_goW (fun _ k => XS.aconstNull X39.here hx rfl (hb hby at_87) k) ?_
    show own_EndsW _ _ _ _ _ _ _ _ _ (T39.setTop (mkF m 88 #[.val (.int p0), .val (.int p1), .val (.int p2), .val (.int p3), .val (.int p4), .val (.int p5), .val (.int z1), .val (.int z4), .val (.int z7), .val (.ref b10), .val (.int (((p3.toUInt32 >>> ((3 : Int32) &&& 31).toUInt32).toInt32) &&& (3 : Int32))), .unset, .unset] [.null, (.ref b10)]))
    obtain ⟨cq49, kq49, q49a, q49b, q49c⟩ := isOf hZ rfl E39_0
    obtain ⟨_, _, ⟨T49, L49, k49, n49⟩, -, X49, ⟨Lc49, hQ49, l49, y49, z49⟩, st49⟩ := X39.virtualBack hx (y := (⟨"com/example/shallow_history/shallowhistory/policy/MethodReference", "equals", "(Ljava/lang/Object;)Z"⟩ : MethodName)) (z := (⟨"com/example/shallow_history/shallowhistory/policy/MethodReference", "equals", "(Ljava/lang/Object;)Z"⟩ : MethodName)) hown (mvT hZ (hw _ (List.mem_of_getElem? (i := 63) rfl))) (mvT hZ (hw _ (List.mem_of_getElem? (i := 64) rfl))) (notFace_of_selects (args := #[]) (mvT hZ (hw _ (List.mem_of_getElem? (i := 66) rfl)))) (mvT hZ (hw _ (List.mem_of_getElem? (i := 66) rfl))) (mvT hZ (hw _ (List.mem_of_getElem? (i := 65) rfl))) (by decide) (backOf (W := 0) (rmmeN l Z ar hw [] b10 T39.heap n0 F43) hZ (hw _ (List.mem_of_getElem? (i := 67) rfl)) (hw _ (List.mem_of_getElem? (i := 2) rfl)) (by decide) (by decide)) q49a q49c (g := (mkF m 88 #[.val (.int p0), .val (.int p1), .val (.int p2), .val (.int p3), .val (.int p4), .val (.int p5), .val (.int z1), .val (.int z4), .val (.int z7), .val (.ref b10), .val (.int (((p3.toUInt32 >>> ((3 : Int32) &&& 31).toUInt32).toInt32) &&& (3 : Int32))), .unset, .unset] [.null, (.ref b10)])) rfl (by rw [hml]; rfl) (Steps.refl _) (argsL := [.null]) (rest := []) (lenOf pd0_2 rfl) rfl (by show 2 * 0 + _ ≤ _; exact Nat.le_of_eq rfl) (hb hby at_88) (fun _ _ => ⟨rfl, rfl, (by decide : 25 + 0 ≤ _), (by decide : 187 + 0 ≤ _)⟩)
    dsimp only [Pt.U, Pt.locs, Pt.cells, Pt.slots] at X49 l49 y49 z49 st49 hQ49
    subst l49 y49 z49
    obtain ⟨rfl, N49q, eq49⟩ := hQ49
    have e49 : T49.heap = T39.heap := eq49
    have N49 := Fr.app N39 N49q
    refine own_goW (fun _ k => st49.trans k) ?_
    show own_EndsW _ _ _ _ _ _ _ _ _ (T49.setTop (mkF m 91 #[.val (.int p0), .val (.int p1), .val (.int p2), .val (.int p3), .val (.int p4), .val (.int p5), .val (.int z1), .val (.int z4), .val (.int z7), .val (.ref b10), .val (.int (((p3.toUInt32 >>> ((3 : Int32) &&& 31).toUInt32).toInt32) &&& (3 : Int32))), .unset, .unset] [(.int (0 : Int32))]))
    refine own_goW (fun _ k => XS.ifNo X49.here hx rfl (hb hby at_91) rfl ((if0 _ _).trans (teq (by decide)).2) k) ?_
    show own_EndsW _ _ _ _ _ _ _ _ _ (T49.setTop (mkF m 94 #[.val (.int p0), .val (.int p1), .val (.int p2), .val (.int p3), .val (.int p4), .val (.int p5), .val (.int z1), .val (.int z4), .val (.int z7), .val (.ref b10), .val (.int (((p3.toUInt32 >>> ((3 : Int32) &&& 31).toUInt32).toInt32) &&& (3 : Int32))), .unset, .unset] []))
    refine own_goW (fun _ k => XS.iconst X49.here hx rfl (hb hby at_94) k) ?_
    show own_EndsW _ _ _ _ _ _ _ _ _ (T49.setTop (mkF m 95 #[.val (.int p0), .val (.int p1), .val (.int p2), .val (.int p3), .val (.int p4), .val (.int p5), .val (.int z1), .val (.int z4), .val (.int z7), .val (.ref b10), .val (.int (((p3.toUInt32 >>> ((3 : Int32) &&& 31).toUInt32).toInt32) &&& (3 : Int32))), .unset, .unset] [(.int (1 : Int32))]))
    refine own_goW (fun _ k => XS.goto X49.here hx rfl (pc0 := 95) (pc' := 99) rfl (hb hby at_95) (by decide) (by decide) k) ?_
    show own_EndsW _ _ _ _ _ _ _ _ _ (T49.setTop (mkF m 99 #[.val (.int p0), .val (.int p1), .val (.int p2), .val (.int p3), .val (.int p4), .val (.int p5), .val (.int z1), .val (.int z4), .val (.int z7), .val (.ref b10), .val (.int (((p3.toUInt32 >>> ((3 : Int32) &&& 31).toUInt32).toInt32) &&& (3 : Int32))), .unset, .unset] [(.int (1 : Int32))]))
    exact own_retNW X49 hx hlk e49 Wd39 hZ (own_EW hw) (t := .boolean) Bd.returns (by simp) (hb hby at_99) (by decide) (by decide) ⟨rfl, N49⟩
  · refine own_goW (fun _ k => XS.icmpYes X39.here hx rfl (pc0 := 82) (pc' := 100) rfl (hb hby at_82) rfl (feq hc48).2 (by decide) (by decide) k) ?_
    show own_EndsW _ _ _ _ _ _ _ _ _ (T39.setTop (mkF m 100 #[.val (.int p0), .val (.int p1), .val (.int p2), .val (.int p3), .val (.int p4), .val (.int p5), .val (.int z1), .val (.int z4), .val (.int z7), .val (.ref b10), .val (.int (((p3.toUInt32 >>> ((3 : Int32) &&& 31).toUInt32).toInt32) &&& (3 : Int32))), .unset, .unset] []))
    refine own_goW (fun _ k => XS.iload X39.here hx rfl (hb hby at_100) rfl k) ?_
    show own_EndsW _ _ _ _ _ _ _ _ _ (T39.setTop (mkF m 102 #[.val (.int p0), .val (.int p1), .val (.int p2), .val (.int p3), .val (.int p4), .val (.int p5), .val (.int z1), .val (.int z4), .val (.int z7), .val (.ref b10), .val (.int (((p3.toUInt32 >>> ((3 : Int32) &&& 31).toUInt32).toInt32) &&& (3 : Int32))), .unset, .unset] [(.int (((p3.toUInt32 >>> ((3 : Int32) &&& 31).toUInt32).toInt32) &&& (3 : Int32)))]))
    refine own_goW (fun _ k => XS.iconst X39.here hx rfl (hb hby at_102) k) ?_
    show own_EndsW _ _ _ _ _ _ _ _ _ (T39.setTop (mkF m 103 #[.val (.int p0), .val (.int p1), .val (.int p2), .val (.int p3), .val (.int p4), .val (.int p5), .val (.int z1), .val (.int z4), .val (.int z7), .val (.ref b10), .val (.int (((p3.toUInt32 >>> ((3 : Int32) &&& 31).toUInt32).toInt32) &&& (3 : Int32))), .unset, .unset] [(.int (2 : Int32)), (.int (((p3.toUInt32 >>> ((3 : Int32) &&& 31).toUInt32).toInt32) &&& (3 : Int32)))]))
    by_cases hc50 : (((p3.toUInt32 >>> ((3 : Int32) &&& 31).toUInt32).toInt32) &&& (3 : Int32)) = (2 : Int32)
    · refine own_goW (fun _ k => XS.icmpNo X39.here hx rfl (hb hby at_103) rfl (teq hc50).2 k) ?_
      show own_EndsW _ _ _ _ _ _ _ _ _ (T39.setTop (mkF m 106 #[.val (.int p0), .val (.int p1), .val (.int p2), .val (.int p3), .val (.int p4), .val (.int p5), .val (.int z1), .val (.int z4), .val (.int z7), .val (.ref b10), .val (.int (((p3.toUInt32 >>> ((3 : Int32) &&& 31).toUInt32).toInt32) &&& (3 : Int32))), .unset, .unset] []))
      refine own_goW (fun _ k => XS.aload X39.here hx rfl (hb hby at_106) rfl rfl k) ?_
      show own_EndsW _ _ _ _ _ _ _ _ _ (T39.setTop (mkF m 108 #[.val (.int p0), .val (.int p1), .val (.int p2), .val (.int p3), .val (.int p4), .val (.int p5), .val (.int z1), .val (.int z4), .val (.int z7), .val (.ref b10), .val (.int (((p3.toUInt32 >>> ((3 : Int32) &&& 31).toUInt32).toInt32) &&& (3 : Int32))), .unset, .unset] [(.ref b10)]))
      refine own_goW (fun _ k => XS.iloadN X39.here hx rfl (hb hby at_108) rfl k) ?_
      show own_EndsW _ _ _ _ _ _ _ _ _ (T39.setTop (mkF m 109 #[.val (.int p0), .val (.int p1), .val (.int p2), .val (.int p3), .val (.int p4), .val (.int p5), .val (.int z1), .val (.int z4), .val (.int z7), .val (.ref b10), .val (.int (((p3.toUInt32 >>> ((3 : Int32) &&& 31).toUInt32).toInt32) &&& (3 : Int32))), .unset, .unset] [(.int p0), (.ref b10)]))
      obtain ⟨_, _, ⟨T51, L51, k51, n51⟩, -, X51', hS51, gg51, ⟨Lc51, hQ51, l51, y51, z51, C51⟩, st51⟩ := callSS X39 hx (y := (⟨"com/example/shallow_history/shallowhistory/policy/MethodReferenceEqualsPinLaw", "str", "(I)Ljava/lang/String;"⟩ : MethodName)) hown (mvT hZ (hw _ (List.mem_of_getElem? (i := 3) rfl))) (mvT hZ (hw _ (List.mem_of_getElem? (i := 4) rfl))) (mvT hZ (hw _ (List.mem_of_getElem? (i := 5) rfl))) (mvT hZ (hw _ (List.mem_of_getElem? (i := 6) rfl))) (by decide) (backOfSH (W := 1) (rmstr l Z ar hw [] p0 w_COMPACT_STRINGS T39.heap n0 F43 hCS S_COMPACT_STRINGS) hZ (hw _ (List.mem_of_getElem? (i := 6) rfl)) (hw _ (List.mem_of_getElem? (i := 5) rfl)) (by decide) (by decide) (own_EW hw) Wd39.ch) (g := (mkF m 109 #[.val (.int p0), .val (.int p1), .val (.int p2), .val (.int p3), .val (.int p4), .val (.int p5), .val (.int z1), .val (.int z4), .val (.int z7), .val (.ref b10), .val (.int (((p3.toUInt32 >>> ((3 : Int32) &&& 31).toUInt32).toInt32) &&& (3 : Int32))), .unset, .unset] [(.int p0), (.ref b10)])) rfl (by rw [hml]; rfl) (argsL := [(.int p0)]) (rest := [(.ref b10)]) (lenOf pd0_0 rfl) rfl (by show 2 * 0 + _ ≤ _; exact Nat.le_of_eq rfl) (hb hby at_109) (fun _ _ => ⟨rfl, rfl, (by decide : 25 + 6 ≤ _), (by decide : 187 + 12 ≤ _)⟩)
      dsimp only [Pt.U, Pt.locs, Pt.cells, Pt.slots] at X51' hS51 gg51 l51 y51 z51 st51 hQ51 C51
      subst l51 y51 z51
      obtain ⟨X51, Wd51, hZ, hown⟩ := own_fold Wd39 rfl X51' hS51 gg51 C51 hZ hown
      obtain ⟨r51, rfl, N51q, K51, T51_0⟩ := hQ51
      have N51 := Fr.app N39 N51q
      have F52 : own_Str Z T51.heap r15 (own_n p0) (own_b p0) := (F40.keep0 K51)
      have F53 : own_Str Z T51.heap r21 (own_n p1) (own_b p1) := (F41.keep0 K51)
      have F54 : own_Str Z T51.heap r29 (own_n p2) (own_b p2) := (F42.keep0 K51)
      have F55 : Old Z n0 T51.heap := (F43.keep K51 all0)
      have F56 : Exa Z T51.heap b10 "com/example/shallow_history/shallowhistory/policy/MethodReference" := (E39_0.keep K51)
      have F57 : Exa Z T51.heap r15 "java/lang/String" := (F45.keep K51)
      have F58 : Exa Z T51.heap r21 "java/lang/String" := (F46.keep K51)
      have F59 : Exa Z T51.heap r29 "java/lang/String" := (F47.keep K51)
      have F60 : Fld Z T51.heap b10 "com/example/shallow_history/shallowhistory/policy/MethodReference" "owner" "Ljava/lang/String;" (.ref r15) := (F39_0.keep K51 nin0)
      have F61 : Fld Z T51.heap b10 "com/example/shallow_history/shallowhistory/policy/MethodReference" "name" "Ljava/lang/String;" (.ref r21) := (F39_1.keep K51 nin0)
      have F62 : Fld Z T51.heap b10 "com/example/shallow_history/shallowhistory/policy/MethodReference" "descriptor" "Ljava/lang/String;" (.ref r29) := (F39_2.keep K51 nin0)
      refine own_goW (fun _ k => st51.trans k) ?_
      show own_EndsW _ _ _ _ _ _ _ _ _ (T51.setTop (mkF m 112 #[.val (.int p0), .val (.int p1), .val (.int p2), .val (.int p3), .val (.int p4), .val (.int p5), .val (.int z1), .val (.int z4), .val (.int z7), .val (.ref b10), .val (.int (((p3.toUInt32 >>> ((3 : Int32) &&& 31).toUInt32).toInt32) &&& (3 : Int32))), .unset, .unset] [(.ref r51), (.ref b10)]))
      obtain ⟨cq63, kq63, q63a, q63b, q63c⟩ := isOf hZ rfl F56
      obtain ⟨_, _, ⟨T63, L63, k63, n63⟩, -, X63, ⟨Lc63, hQ63, l63, y63, z63⟩, st63⟩ := X51.virtualBack hx (y := (⟨"com/example/shallow_history/shallowhistory/policy/MethodReference", "equals", "(Ljava/lang/Object;)Z"⟩ : MethodName)) (z := (⟨"com/example/shallow_history/shallowhistory/policy/MethodReference", "equals", "(Ljava/lang/Object;)Z"⟩ : MethodName)) hown (mvT hZ (hw _ (List.mem_of_getElem? (i := 63) rfl))) (mvT hZ (hw _ (List.mem_of_getElem? (i := 64) rfl))) (notFace_of_selects (args := #[]) (mvT hZ (hw _ (List.mem_of_getElem? (i := 66) rfl)))) (mvT hZ (hw _ (List.mem_of_getElem? (i := 66) rfl))) (mvT hZ (hw _ (List.mem_of_getElem? (i := 65) rfl))) (by decide) (backOf (W := 0) (rmmeS l Z ar hw [] b10 r51 T51.heap n0 F55 T51_0.1) hZ (hw _ (List.mem_of_getElem? (i := 67) rfl)) (hw _ (List.mem_of_getElem? (i := 2) rfl)) (by decide) (by decide)) q63a q63c (g := (mkF m 112 #[.val (.int p0), .val (.int p1), .val (.int p2), .val (.int p3), .val (.int p4), .val (.int p5), .val (.int z1), .val (.int z4), .val (.int z7), .val (.ref b10), .val (.int (((p3.toUInt32 >>> ((3 : Int32) &&& 31).toUInt32).toInt32) &&& (3 : Int32))), .unset, .unset] [(.ref r51), (.ref b10)])) rfl (by rw [hml]; rfl) (Steps.refl _) (argsL := [(.ref r51)]) (rest := []) (lenOf pd0_2 rfl) rfl (by show 2 * 0 + _ ≤ _; exact Nat.le_of_eq rfl) (hb hby at_112) (fun _ _ => ⟨rfl, rfl, (by decide : 31 + 0 ≤ _), (by decide : 199 + 0 ≤ _)⟩)
      dsimp only [Pt.U, Pt.locs, Pt.cells, Pt.slots] at X63 l63 y63 z63 st63 hQ63
      subst l63 y63 z63
      obtain ⟨rfl, N63q, eq63⟩ := hQ63
      have e63 : T63.heap = T51.heap := eq63
      have N63 := Fr.app N51 N63q
      refine own_goW (fun _ k => st63.trans k) ?_
      show own_EndsW _ _ _ _ _ _ _ _ _ (T63.setTop (mkF m 115 #[.val (.int p0), .val (.int p1), .val (.int p2), .val (.int p3), .val (.int p4), .val (.int p5), .val (.int z1), .val (.int z4), .val (.int z7), .val (.ref b10), .val (.int (((p3.toUInt32 >>> ((3 : Int32) &&& 31).toUInt32).toInt32) &&& (3 : Int32))), .unset, .unset] [(.int (0 : Int32))]))
      refine own_goW (fun _ k => XS.ifNo X63.here hx rfl (hb hby at_115) rfl ((if0 _ _).trans (teq (by decide)).2) k) ?_
      show own_EndsW _ _ _ _ _ _ _ _ _ (T63.setTop (mkF m 118 #[.val (.int p0), .val (.int p1), .val (.int p2), .val (.int p3), .val (.int p4), .val (.int p5), .val (.int z1), .val (.int z4), .val (.int z7), .val (.ref b10), .val (.int (((p3.toUInt32 >>> ((3 : Int32) &&& 31).toUInt32).toInt32) &&& (3 : Int32))), .unset, .unset] []))
      refine own_goW (fun _ k => XS.iconst X63.here hx rfl (hb hby at_118) k) ?_
      show own_EndsW _ _ _ _ _ _ _ _ _ (T63.setTop (mkF m 119 #[.val (.int p0), .val (.int p1), .val (.int p2), .val (.int p3), .val (.int p4), .val (.int p5), .val (.int z1), .val (.int z4), .val (.int z7), .val (.ref b10), .val (.int (((p3.toUInt32 >>> ((3 : Int32) &&& 31).toUInt32).toInt32) &&& (3 : Int32))), .unset, .unset] [(.int (1 : Int32))]))
      refine own_goW (fun _ k => XS.goto X63.here hx rfl (pc0 := 119) (pc' := 123) rfl (hb hby at_119) (by decide) (by decide) k) ?_
      show own_EndsW _ _ _ _ _ _ _ _ _ (T63.setTop (mkF m 123 #[.val (.int p0), .val (.int p1), .val (.int p2), .val (.int p3), .val (.int p4), .val (.int p5), .val (.int z1), .val (.int z4), .val (.int z7), .val (.ref b10), .val (.int (((p3.toUInt32 >>> ((3 : Int32) &&& 31).toUInt32).toInt32) &&& (3 : Int32))), .unset, .unset] [(.int (1 : Int32))]))
      exact own_retNW X63 hx hlk e63 Wd51 hZ (own_EW hw) (t := .boolean) Bd.returns (by simp) (hb hby at_123) (by decide) (by decide) ⟨rfl, N63⟩
    · refine own_goW (fun _ k => XS.icmpYes X39.here hx rfl (pc0 := 103) (pc' := 124) rfl (hb hby at_103) rfl (feq hc50).2 (by decide) (by decide) k) ?_
      show own_EndsW _ _ _ _ _ _ _ _ _ (T39.setTop (mkF m 124 #[.val (.int p0), .val (.int p1), .val (.int p2), .val (.int p3), .val (.int p4), .val (.int p5), .val (.int z1), .val (.int z4), .val (.int z7), .val (.ref b10), .val (.int (((p3.toUInt32 >>> ((3 : Int32) &&& 31).toUInt32).toInt32) &&& (3 : Int32))), .unset, .unset] []))
      refine own_goW (fun _ k => XS.iload X39.here hx rfl (hb hby at_124) rfl k) ?_
      show own_EndsW _ _ _ _ _ _ _ _ _ (T39.setTop (mkF m 126 #[.val (.int p0), .val (.int p1), .val (.int p2), .val (.int p3), .val (.int p4), .val (.int p5), .val (.int z1), .val (.int z4), .val (.int z7), .val (.ref b10), .val (.int (((p3.toUInt32 >>> ((3 : Int32) &&& 31).toUInt32).toInt32) &&& (3 : Int32))), .unset, .unset] [(.int (((p3.toUInt32 >>> ((3 : Int32) &&& 31).toUInt32).toInt32) &&& (3 : Int32)))]))
      refine own_goW (fun _ k => XS.iconst X39.here hx rfl (hb hby at_126) k) ?_
      show own_EndsW _ _ _ _ _ _ _ _ _ (T39.setTop (mkF m 127 #[.val (.int p0), .val (.int p1), .val (.int p2), .val (.int p3), .val (.int p4), .val (.int p5), .val (.int z1), .val (.int z4), .val (.int z7), .val (.ref b10), .val (.int (((p3.toUInt32 >>> ((3 : Int32) &&& 31).toUInt32).toInt32) &&& (3 : Int32))), .unset, .unset] [(.int (3 : Int32)), (.int (((p3.toUInt32 >>> ((3 : Int32) &&& 31).toUInt32).toInt32) &&& (3 : Int32)))]))
      by_cases hc64 : (((p3.toUInt32 >>> ((3 : Int32) &&& 31).toUInt32).toInt32) &&& (3 : Int32)) = (3 : Int32)
      · refine own_goW (fun _ k => XS.icmpNo X39.here hx rfl (hb hby at_127) rfl (teq hc64).2 k) ?_
        show own_EndsW _ _ _ _ _ _ _ _ _ (T39.setTop (mkF m 130 #[.val (.int p0), .val (.int p1), .val (.int p2), .val (.int p3), .val (.int p4), .val (.int p5), .val (.int z1), .val (.int z4), .val (.int z7), .val (.ref b10), .val (.int (((p3.toUInt32 >>> ((3 : Int32) &&& 31).toUInt32).toInt32) &&& (3 : Int32))), .unset, .unset] []))
        refine own_goW (fun _ k => XS.aload X39.here hx rfl (hb hby at_130) rfl rfl k) ?_
        show own_EndsW _ _ _ _ _ _ _ _ _ (T39.setTop (mkF m 132 #[.val (.int p0), .val (.int p1), .val (.int p2), .val (.int p3), .val (.int p4), .val (.int p5), .val (.int z1), .val (.int z4), .val (.int z7), .val (.ref b10), .val (.int (((p3.toUInt32 >>> ((3 : Int32) &&& 31).toUInt32).toInt32) &&& (3 : Int32))), .unset, .unset] [(.ref b10)]))
        refine own_goW (fun _ k => XS.aload X39.here hx rfl (hb hby at_132) rfl rfl k) ?_
        show own_EndsW _ _ _ _ _ _ _ _ _ (T39.setTop (mkF m 134 #[.val (.int p0), .val (.int p1), .val (.int p2), .val (.int p3), .val (.int p4), .val (.int p5), .val (.int z1), .val (.int z4), .val (.int z7), .val (.ref b10), .val (.int (((p3.toUInt32 >>> ((3 : Int32) &&& 31).toUInt32).toInt32) &&& (3 : Int32))), .unset, .unset] [(.ref b10), (.ref b10)]))
        obtain ⟨cq65, kq65, q65a, q65b, q65c⟩ := isOf hZ rfl E39_0
        obtain ⟨_, _, ⟨T65, L65, k65, n65⟩, -, X65, ⟨Lc65, hQ65, l65, y65, z65⟩, st65⟩ := X39.virtualBack hx (y := (⟨"com/example/shallow_history/shallowhistory/policy/MethodReference", "equals", "(Ljava/lang/Object;)Z"⟩ : MethodName)) (z := (⟨"com/example/shallow_history/shallowhistory/policy/MethodReference", "equals", "(Ljava/lang/Object;)Z"⟩ : MethodName)) hown (mvT hZ (hw _ (List.mem_of_getElem? (i := 63) rfl))) (mvT hZ (hw _ (List.mem_of_getElem? (i := 64) rfl))) (notFace_of_selects (args := #[]) (mvT hZ (hw _ (List.mem_of_getElem? (i := 66) rfl)))) (mvT hZ (hw _ (List.mem_of_getElem? (i := 66) rfl))) (mvT hZ (hw _ (List.mem_of_getElem? (i := 65) rfl))) (by decide) (backOf (W := 0) (rmmeM l Z ar hw [] b10 b10 r15 (own_n p0) (own_b p0) r21 (own_n p1) (own_b p1) r29 (own_n p2) (own_b p2) r15 (own_n p0) (own_b p0) r21 (own_n p1) (own_b p1) r29 (own_n p2) (own_b p2) w_COMPACT_STRINGS T39.heap n0 F43 E39_0 F39_0 F40 (own_nlt _) F39_1 F41 (own_nlt _) F39_2 F42 (own_nlt _) F39_0 F40 (own_nlt _) F39_1 F41 (own_nlt _) F39_2 F42 (own_nlt _) hCS S_COMPACT_STRINGS) hZ (hw _ (List.mem_of_getElem? (i := 67) rfl)) (hw _ (List.mem_of_getElem? (i := 2) rfl)) (by decide) (by decide)) q65a q65c (g := (mkF m 134 #[.val (.int p0), .val (.int p1), .val (.int p2), .val (.int p3), .val (.int p4), .val (.int p5), .val (.int z1), .val (.int z4), .val (.int z7), .val (.ref b10), .val (.int (((p3.toUInt32 >>> ((3 : Int32) &&& 31).toUInt32).toInt32) &&& (3 : Int32))), .unset, .unset] [(.ref b10), (.ref b10)])) rfl (by rw [hml]; rfl) (Steps.refl _) (argsL := [(.ref b10)]) (rest := []) (lenOf pd0_2 rfl) rfl (by show 2 * 0 + _ ≤ _; exact Nat.le_of_eq rfl) (hb hby at_134) (fun _ _ => ⟨rfl, rfl, (by decide : 25 + 0 ≤ _), (by decide : 187 + 0 ≤ _)⟩)
        dsimp only [Pt.U, Pt.locs, Pt.cells, Pt.slots] at X65 l65 y65 z65 st65 hQ65
        subst l65 y65 z65
        obtain ⟨z65, rfl, hz65, N65q, eq65⟩ := hQ65
        have e65 : T65.heap = T39.heap := eq65
        have N65 := Fr.app N39 N65q
        refine own_goW (fun _ k => st65.trans k) ?_
        show own_EndsW _ _ _ _ _ _ _ _ _ (T65.setTop (mkF m 137 #[.val (.int p0), .val (.int p1), .val (.int p2), .val (.int p3), .val (.int p4), .val (.int p5), .val (.int z1), .val (.int z4), .val (.int z7), .val (.ref b10), .val (.int (((p3.toUInt32 >>> ((3 : Int32) &&& 31).toUInt32).toInt32) &&& (3 : Int32))), .unset, .unset] [(.int z65)]))
        exact own_retNW X65 hx hlk e65 Wd39 hZ (own_EW hw) (t := .boolean) Bd.returns (by simp) (hb hby at_137) (by decide) (by decide) ⟨by rw [own_ans.yes hz65 ⟨own_eq.refl _ _, own_eq.refl _ _, own_eq.refl _ _⟩]; rfl, N65⟩
      · refine own_goW (fun _ k => XS.icmpYes X39.here hx rfl (pc0 := 127) (pc' := 138) rfl (hb hby at_127) rfl (feq hc64).2 (by decide) (by decide) k) ?_
        show own_EndsW _ _ _ _ _ _ _ _ _ (T39.setTop (mkF m 138 #[.val (.int p0), .val (.int p1), .val (.int p2), .val (.int p3), .val (.int p4), .val (.int p5), .val (.int z1), .val (.int z4), .val (.int z7), .val (.ref b10), .val (.int (((p3.toUInt32 >>> ((3 : Int32) &&& 31).toUInt32).toInt32) &&& (3 : Int32))), .unset, .unset] []))
        obtain ⟨T66, h66, X66, e66, E66, A66, D66, -, st66⟩ := newO X39 hx hZ hown (hw _ (List.mem_of_getElem? (i := 0) rfl)) (hw _ (List.mem_of_getElem? (i := 1) rfl)) (hw _ (List.mem_of_getElem? (i := 2) rfl)) rfl (g := (mkF m 138 #[.val (.int p0), .val (.int p1), .val (.int p2), .val (.int p3), .val (.int p4), .val (.int p5), .val (.int z1), .val (.int z4), .val (.int z7), .val (.ref b10), .val (.int (((p3.toUInt32 >>> ((3 : Int32) &&& 31).toUInt32).toInt32) &&& (3 : Int32))), .unset, .unset] [])) rfl (hb hby at_138) (by decide) (by decide)
        obtain ⟨b66, q_b66⟩ : ∃ z, z = T39.heap.size := ⟨_, rfl⟩
        rw [← q_b66] at A66 D66 st66
        have g_b66 : n0 ≤ b66 := Nat.le_trans (own_sz F43) (Nat.le_of_eq q_b66.symm)
        have ne_b10_b66 : b10 ≠ b66 := Nat.ne_of_lt (Nat.lt_of_lt_of_le E39_0.lt (Nat.le_of_eq q_b66.symm))
        have ne_r15_b66 : r15 ≠ b66 := Nat.ne_of_lt (Nat.lt_of_lt_of_le F45.lt (Nat.le_of_eq q_b66.symm))
        have ne_r21_b66 : r21 ≠ b66 := Nat.ne_of_lt (Nat.lt_of_lt_of_le F46.lt (Nat.le_of_eq q_b66.symm))
        have ne_r29_b66 : r29 ≠ b66 := Nat.ne_of_lt (Nat.lt_of_lt_of_le F47.lt (Nat.le_of_eq q_b66.symm))
        refine own_goW (fun _ k => st66 _ k) ?_
        have Wd66 : own_Wd s Z consts_1 T39.vm h66 := Wd39.ext E66
        have F67 : own_Str Z h66 r15 (own_n p0) (own_b p0) := (F40.ext E66)
        have F68 : own_Str Z h66 r21 (own_n p1) (own_b p1) := (F41.ext E66)
        have F69 : own_Str Z h66 r29 (own_n p2) (own_b p2) := (F42.ext E66)
        have F70 : Old Z n0 h66 := (F43.ext E66)
        have F71 : Exa Z h66 b10 "com/example/shallow_history/shallowhistory/policy/MethodReference" := (Exa.ext E66 E39_0)
        have F72 : Exa Z h66 r15 "java/lang/String" := (Exa.ext E66 F45)
        have F73 : Exa Z h66 r21 "java/lang/String" := (Exa.ext E66 F46)
        have F74 : Exa Z h66 r29 "java/lang/String" := (Exa.ext E66 F47)
        have F75 : Fld Z h66 b10 "com/example/shallow_history/shallowhistory/policy/MethodReference" "owner" "Ljava/lang/String;" (.ref r15) := (Fld.ext E66 F39_0)
        have F76 : Fld Z h66 b10 "com/example/shallow_history/shallowhistory/policy/MethodReference" "name" "Ljava/lang/String;" (.ref r21) := (Fld.ext E66 F39_1)
        have F77 : Fld Z h66 b10 "com/example/shallow_history/shallowhistory/policy/MethodReference" "descriptor" "Ljava/lang/String;" (.ref r29) := (Fld.ext E66 F39_2)
        have F78 : Fld Z h66 b66 "com/example/shallow_history/shallowhistory/policy/MethodReference" "owner" "Ljava/lang/String;" .null := D66 (Or.inr (hw _ (List.mem_of_getElem? (i := 51) rfl))) (ty := (.object "java/lang/String")) (by decide)
        have F79 : Fld Z h66 b66 "com/example/shallow_history/shallowhistory/policy/MethodReference" "name" "Ljava/lang/String;" .null := D66 (Or.inr (hw _ (List.mem_of_getElem? (i := 54) rfl))) (ty := (.object "java/lang/String")) (by decide)
        have F80 : Fld Z h66 b66 "com/example/shallow_history/shallowhistory/policy/MethodReference" "descriptor" "Ljava/lang/String;" .null := D66 (Or.inr (hw _ (List.mem_of_getElem? (i := 57) rfl))) (ty := (.object "java/lang/String")) (by decide)
        show own_EndsW _ _ _ _ _ _ _ _ _ (T66.setTop (mkF m 141 #[.val (.int p0), .val (.int p1), .val (.int p2), .val (.int p3), .val (.int p4), .val (.int p5), .val (.int z1), .val (.int z4), .val (.int z7), .val (.ref b10), .val (.int (((p3.toUInt32 >>> ((3 : Int32) &&& 31).toUInt32).toInt32) &&& (3 : Int32))), .unset, .unset] [(.ref b66)]))
        refine own_goW (fun _ k => XS.dup X66.here hx rfl (hb hby at_141) rfl rfl k) ?_
        show own_EndsW _ _ _ _ _ _ _ _ _ (T66.setTop (mkF m 142 #[.val (.int p0), .val (.int p1), .val (.int p2), .val (.int p3), .val (.int p4), .val (.int p5), .val (.int z1), .val (.int z4), .val (.int z7), .val (.ref b10), .val (.int (((p3.toUInt32 >>> ((3 : Int32) &&& 31).toUInt32).toInt32) &&& (3 : Int32))), .unset, .unset] [(.ref b66), (.ref b66)]))
        refine own_goW (fun _ k => XS.iload X66.here hx rfl (hb hby at_142) rfl k) ?_
        show own_EndsW _ _ _ _ _ _ _ _ _ (T66.setTop (mkF m 144 #[.val (.int p0), .val (.int p1), .val (.int p2), .val (.int p3), .val (.int p4), .val (.int p5), .val (.int z1), .val (.int z4), .val (.int z7), .val (.ref b10), .val (.int (((p3.toUInt32 >>> ((3 : Int32) &&& 31).toUInt32).toInt32) &&& (3 : Int32))), .unset, .unset] [(.int z1), (.ref b66), (.ref b66)]))
        obtain ⟨_, _, ⟨T81, L81, k81, n81⟩, -, X81', hS81, gg81, ⟨Lc81, hQ81, l81, y81, z81, C81⟩, st81⟩ := callSS X66 hx (y := (⟨"com/example/shallow_history/shallowhistory/policy/MethodReferenceEqualsPinLaw", "str", "(I)Ljava/lang/String;"⟩ : MethodName)) hown (mvT hZ (hw _ (List.mem_of_getElem? (i := 3) rfl))) (mvT hZ (hw _ (List.mem_of_getElem? (i := 4) rfl))) (mvT hZ (hw _ (List.mem_of_getElem? (i := 5) rfl))) (mvT hZ (hw _ (List.mem_of_getElem? (i := 6) rfl))) (by decide) (backOfSH (W := 2) (rmstr l Z ar hw [] z1 w_COMPACT_STRINGS h66 n0 F70 hCS S_COMPACT_STRINGS) hZ (hw _ (List.mem_of_getElem? (i := 6) rfl)) (hw _ (List.mem_of_getElem? (i := 5) rfl)) (by decide) (by decide) (own_EW hw) Wd66.ch) (g := (mkF m 144 #[.val (.int p0), .val (.int p1), .val (.int p2), .val (.int p3), .val (.int p4), .val (.int p5), .val (.int z1), .val (.int z4), .val (.int z7), .val (.ref b10), .val (.int (((p3.toUInt32 >>> ((3 : Int32) &&& 31).toUInt32).toInt32) &&& (3 : Int32))), .unset, .unset] [(.int z1), (.ref b66), (.ref b66)])) rfl (by rw [hml]; rfl) (argsL := [(.int z1)]) (rest := [(.ref b66), (.ref b66)]) (lenOf pd0_0 rfl) rfl (by show 2 * 0 + _ ≤ _; exact Nat.le_of_eq rfl) (hb hby at_144) (fun _ _ => ⟨rfl, e66, (by decide : 26 + 6 ≤ _), (by decide : 190 + 12 ≤ _)⟩)
        dsimp only [Pt.U, Pt.locs, Pt.cells, Pt.slots] at X81' hS81 gg81 l81 y81 z81 st81 hQ81 C81
        subst l81 y81 z81
        obtain ⟨X81, Wd81, hZ, hown⟩ := own_fold Wd66 e66 X81' hS81 gg81 C81 hZ hown
        obtain ⟨r81, rfl, N81q, K81, T81_0⟩ := hQ81
        have N81 := Fr.app N39 N81q
        have F82 : own_Str Z T81.heap r15 (own_n p0) (own_b p0) := (F67.keep0 K81)
        have F83 : own_Str Z T81.heap r21 (own_n p1) (own_b p1) := (F68.keep0 K81)
        have F84 : own_Str Z T81.heap r29 (own_n p2) (own_b p2) := (F69.keep0 K81)
        have F85 : Old Z n0 T81.heap := (F70.keep K81 all0)
        have F86 : Exa Z T81.heap b10 "com/example/shallow_history/shallowhistory/policy/MethodReference" := (F71.keep K81)
        have F87 : Exa Z T81.heap r15 "java/lang/String" := (F72.keep K81)
        have F88 : Exa Z T81.heap r21 "java/lang/String" := (F73.keep K81)
        have F89 : Exa Z T81.heap r29 "java/lang/String" := (F74.keep K81)
        have F90 : Fld Z T81.heap b10 "com/example/shallow_history/shallowhistory/policy/MethodReference" "owner" "Ljava/lang/String;" (.ref r15) := (F75.keep K81 nin0)
        have F91 : Fld Z T81.heap b10 "com/example/shallow_history/shallowhistory/policy/MethodReference" "name" "Ljava/lang/String;" (.ref r21) := (F76.keep K81 nin0)
        have F92 : Fld Z T81.heap b10 "com/example/shallow_history/shallowhistory/policy/MethodReference" "descriptor" "Ljava/lang/String;" (.ref r29) := (F77.keep K81 nin0)
        have F93 : Exa Z T81.heap b66 "com/example/shallow_history/shallowhistory/policy/MethodReference" := (A66.keep K81)
        have F94 : Fld Z T81.heap b66 "com/example/shallow_history/shallowhistory/policy/MethodReference" "owner" "Ljava/lang/String;" .null := (F78.keep K81 nin0)
        have F95 : Fld Z T81.heap b66 "com/example/shallow_history/shallowhistory/policy/MethodReference" "name" "Ljava/lang/String;" .null := (F79.keep K81 nin0)
        have F96 : Fld Z T81.heap b66 "com/example/shallow_history/shallowhistory/policy/MethodReference" "descriptor" "Ljava/lang/String;" .null := (F80.keep K81 nin0)
        refine own_goW (fun _ k => st81.trans k) ?_
        show own_EndsW _ _ _ _ _ _ _ _ _ (T81.setTop (mkF m 147 #[.val (.int p0), .val (.int p1), .val (.int p2), .val (.int p3), .val (.int p4), .val (.int p5), .val (.int z1), .val (.int z4), .val (.int z7), .val (.ref b10), .val (.int (((p3.toUInt32 >>> ((3 : Int32) &&& 31).toUInt32).toInt32) &&& (3 : Int32))), .unset, .unset] [(.ref r81), (.ref b66), (.ref b66)]))
        refine own_goW (fun _ k => XS.iload X81.here hx rfl (hb hby at_147) rfl k) ?_
        show own_EndsW _ _ _ _ _ _ _ _ _ (T81.setTop (mkF m 149 #[.val (.int p0), .val (.int p1), .val (.int p2), .val (.int p3), .val (.int p4), .val (.int p5), .val (.int z1), .val (.int z4), .val (.int z7), .val (.ref b10), .val (.int (((p3.toUInt32 >>> ((3 : Int32) &&& 31).toUInt32).toInt32) &&& (3 : Int32))), .unset, .unset] [(.int z4), (.ref r81), (.ref b66), (.ref b66)]))
        obtain ⟨_, _, ⟨T97, L97, k97, n97⟩, -, X97', hS97, gg97, ⟨Lc97, hQ97, l97, y97, z97, C97⟩, st97⟩ := callSS X81 hx (y := (⟨"com/example/shallow_history/shallowhistory/policy/MethodReferenceEqualsPinLaw", "str", "(I)Ljava/lang/String;"⟩ : MethodName)) hown (mvT hZ (hw _ (List.mem_of_getElem? (i := 3) rfl))) (mvT hZ (hw _ (List.mem_of_getElem? (i := 4) rfl))) (mvT hZ (hw _ (List.mem_of_getElem? (i := 5) rfl))) (mvT hZ (hw _ (List.mem_of_getElem? (i := 6) rfl))) (by decide) (backOfSH (W := 3) (rmstr l Z ar hw [] z4 w_COMPACT_STRINGS T81.heap n0 F85 hCS S_COMPACT_STRINGS) hZ (hw _ (List.mem_of_getElem? (i := 6) rfl)) (hw _ (List.mem_of_getElem? (i := 5) rfl)) (by decide) (by decide) (own_EW hw) Wd81.ch) (g := (mkF m 149 #[.val (.int p0), .val (.int p1), .val (.int p2), .val (.int p3), .val (.int p4), .val (.int p5), .val (.int z1), .val (.int z4), .val (.int z7), .val (.ref b10), .val (.int (((p3.toUInt32 >>> ((3 : Int32) &&& 31).toUInt32).toInt32) &&& (3 : Int32))), .unset, .unset] [(.int z4), (.ref r81), (.ref b66), (.ref b66)])) rfl (by rw [hml]; rfl) (argsL := [(.int z4)]) (rest := [(.ref r81), (.ref b66), (.ref b66)]) (lenOf pd0_0 rfl) rfl (by show 2 * 0 + _ ≤ _; exact Nat.le_of_eq rfl) (hb hby at_149) (fun _ _ => ⟨rfl, rfl, (by decide : 32 + 6 ≤ _), (by decide : 202 + 12 ≤ _)⟩)
        dsimp only [Pt.U, Pt.locs, Pt.cells, Pt.slots] at X97' hS97 gg97 l97 y97 z97 st97 hQ97 C97
        subst l97 y97 z97
        obtain ⟨X97, Wd97, hZ, hown⟩ := own_fold Wd81 rfl X97' hS97 gg97 C97 hZ hown
        obtain ⟨r97, rfl, N97q, K97, T97_0⟩ := hQ97
        have N97 := Fr.app N81 N97q
        have F98 : own_Str Z T97.heap r15 (own_n p0) (own_b p0) := (F82.keep0 K97)
        have F99 : own_Str Z T97.heap r21 (own_n p1) (own_b p1) := (F83.keep0 K97)
        have F100 : own_Str Z T97.heap r29 (own_n p2) (own_b p2) := (F84.keep0 K97)
        have F101 : own_Str Z T97.heap r81 (own_n z1) (own_b z1) := (T81_0.keep0 K97)
        have F102 : Old Z n0 T97.heap := (F85.keep K97 all0)
        have F103 : Exa Z T97.heap b10 "com/example/shallow_history/shallowhistory/policy/MethodReference" := (F86.keep K97)
        have F104 : Exa Z T97.heap r15 "java/lang/String" := (F87.keep K97)
        have F105 : Exa Z T97.heap r21 "java/lang/String" := (F88.keep K97)
        have F106 : Exa Z T97.heap r29 "java/lang/String" := (F89.keep K97)
        have F107 : Fld Z T97.heap b10 "com/example/shallow_history/shallowhistory/policy/MethodReference" "owner" "Ljava/lang/String;" (.ref r15) := (F90.keep K97 nin0)
        have F108 : Fld Z T97.heap b10 "com/example/shallow_history/shallowhistory/policy/MethodReference" "name" "Ljava/lang/String;" (.ref r21) := (F91.keep K97 nin0)
        have F109 : Fld Z T97.heap b10 "com/example/shallow_history/shallowhistory/policy/MethodReference" "descriptor" "Ljava/lang/String;" (.ref r29) := (F92.keep K97 nin0)
        have F110 : Exa Z T97.heap b66 "com/example/shallow_history/shallowhistory/policy/MethodReference" := (F93.keep K97)
        have F111 : Fld Z T97.heap b66 "com/example/shallow_history/shallowhistory/policy/MethodReference" "owner" "Ljava/lang/String;" .null := (F94.keep K97 nin0)
        have F112 : Fld Z T97.heap b66 "com/example/shallow_history/shallowhistory/policy/MethodReference" "name" "Ljava/lang/String;" .null := (F95.keep K97 nin0)
        have F113 : Fld Z T97.heap b66 "com/example/shallow_history/shallowhistory/policy/MethodReference" "descriptor" "Ljava/lang/String;" .null := (F96.keep K97 nin0)
        have F114 : Exa Z T97.heap r81 "java/lang/String" := (T81_0.1.keep K97)
        refine own_goW (fun _ k => st97.trans k) ?_
        show own_EndsW _ _ _ _ _ _ _ _ _ (T97.setTop (mkF m 152 #[.val (.int p0), .val (.int p1), .val (.int p2), .val (.int p3), .val (.int p4), .val (.int p5), .val (.int z1), .val (.int z4), .val (.int z7), .val (.ref b10), .val (.int (((p3.toUInt32 >>> ((3 : Int32) &&& 31).toUInt32).toInt32) &&& (3 : Int32))), .unset, .unset] [(.ref r97), (.ref r81), (.ref b66), (.ref b66)]))
        refine own_goW (fun _ k => XS.iload X97.here hx rfl (hb hby at_152) rfl k) ?_
        show own_EndsW _ _ _ _ _ _ _ _ _ (T97.setTop (mkF m 154 #[.val (.int p0), .val (.int p1), .val (.int p2), .val (.int p3), .val (.int p4), .val (.int p5), .val (.int z1), .val (.int z4), .val (.int z7), .val (.ref b10), .val (.int (((p3.toUInt32 >>> ((3 : Int32) &&& 31).toUInt32).toInt32) &&& (3 : Int32))), .unset, .unset] [(.int z7), (.ref r97), (.ref r81), (.ref b66), (.ref b66)]))
        obtain ⟨_, _, ⟨T115, L115, k115, n115⟩, -, X115', hS115, gg115, ⟨Lc115, hQ115, l115, y115, z115, C115⟩, st115⟩ := callSS X97 hx (y := (⟨"com/example/shallow_history/shallowhistory/policy/MethodReferenceEqualsPinLaw", "str", "(I)Ljava/lang/String;"⟩ : MethodName)) hown (mvT hZ (hw _ (List.mem_of_getElem? (i := 3) rfl))) (mvT hZ (hw _ (List.mem_of_getElem? (i := 4) rfl))) (mvT hZ (hw _ (List.mem_of_getElem? (i := 5) rfl))) (mvT hZ (hw _ (List.mem_of_getElem? (i := 6) rfl))) (by decide) (backOfSH (W := 4) (rmstr l Z ar hw [] z7 w_COMPACT_STRINGS T97.heap n0 F102 hCS S_COMPACT_STRINGS) hZ (hw _ (List.mem_of_getElem? (i := 6) rfl)) (hw _ (List.mem_of_getElem? (i := 5) rfl)) (by decide) (by decide) (own_EW hw) Wd97.ch) (g := (mkF m 154 #[.val (.int p0), .val (.int p1), .val (.int p2), .val (.int p3), .val (.int p4), .val (.int p5), .val (.int z1), .val (.int z4), .val (.int z7), .val (.ref b10), .val (.int (((p3.toUInt32 >>> ((3 : Int32) &&& 31).toUInt32).toInt32) &&& (3 : Int32))), .unset, .unset] [(.int z7), (.ref r97), (.ref r81), (.ref b66), (.ref b66)])) rfl (by rw [hml]; rfl) (argsL := [(.int z7)]) (rest := [(.ref r97), (.ref r81), (.ref b66), (.ref b66)]) (lenOf pd0_0 rfl) rfl (by show 2 * 0 + _ ≤ _; exact Nat.le_of_eq rfl) (hb hby at_154) (fun _ _ => ⟨rfl, rfl, (by decide : 38 + 6 ≤ _), (by decide : 214 + 12 ≤ _)⟩)
        dsimp only [Pt.U, Pt.locs, Pt.cells, Pt.slots] at X115' hS115 gg115 l115 y115 z115 st115 hQ115 C115
        subst l115 y115 z115
        obtain ⟨X115, Wd115, hZ, hown⟩ := own_fold Wd97 rfl X115' hS115 gg115 C115 hZ hown
        obtain ⟨r115, rfl, N115q, K115, T115_0⟩ := hQ115
        have N115 := Fr.app N97 N115q
        have F116 : own_Str Z T115.heap r15 (own_n p0) (own_b p0) := (F98.keep0 K115)
        have F117 : own_Str Z T115.heap r21 (own_n p1) (own_b p1) := (F99.keep0 K115)
        have F118 : own_Str Z T115.heap r29 (own_n p2) (own_b p2) := (F100.keep0 K115)
        have F119 : own_Str Z T115.heap r81 (own_n z1) (own_b z1) := (F101.keep0 K115)
        have F120 : own_Str Z T115.heap r97 (own_n z4) (own_b z4) := (T97_0.keep0 K115)
        have F121 : Old Z n0 T115.heap := (F102.keep K115 all0)
        have F122 : Exa Z T115.heap b10 "com/example/shallow_history/shallowhistory/policy/MethodReference" := (F103.keep K115)
        have F123 : Exa Z T115.heap r15 "java/lang/String" := (F104.keep K115)
        have F124 : Exa Z T115.heap r21 "java/lang/String" := (F105.keep K115)
        have F125 : Exa Z T115.heap r29 "java/lang/String" := (F106.keep K115)
        have F126 : Fld Z T115.heap b10 "com/example/shallow_history/shallowhistory/policy/MethodReference" "owner" "Ljava/lang/String;" (.ref r15) := (F107.keep K115 nin0)
        have F127 : Fld Z T115.heap b10 "com/example/shallow_history/shallowhistory/policy/MethodReference" "name" "Ljava/lang/String;" (.ref r21) := (F108.keep K115 nin0)
        have F128 : Fld Z T115.heap b10 "com/example/shallow_history/shallowhistory/policy/MethodReference" "descriptor" "Ljava/lang/String;" (.ref r29) := (F109.keep K115 nin0)
        have F129 : Exa Z T115.heap b66 "com/example/shallow_history/shallowhistory/policy/MethodReference" := (F110.keep K115)
        have F130 : Fld Z T115.heap b66 "com/example/shallow_history/shallowhistory/policy/MethodReference" "owner" "Ljava/lang/String;" .null := (F111.keep K115 nin0)
        have F131 : Fld Z T115.heap b66 "com/example/shallow_history/shallowhistory/policy/MethodReference" "name" "Ljava/lang/String;" .null := (F112.keep K115 nin0)
        have F132 : Fld Z T115.heap b66 "com/example/shallow_history/shallowhistory/policy/MethodReference" "descriptor" "Ljava/lang/String;" .null := (F113.keep K115 nin0)
        have F133 : Exa Z T115.heap r81 "java/lang/String" := (F114.keep K115)
        have F134 : Exa Z T115.heap r97 "java/lang/String" := (T97_0.1.keep K115)
        refine own_goW (fun _ k => st115.trans k) ?_
        show own_EndsW _ _ _ _ _ _ _ _ _ (T115.setTop (mkF m 157 #[.val (.int p0), .val (.int p1), .val (.int p2), .val (.int p3), .val (.int p4), .val (.int p5), .val (.int z1), .val (.int z4), .val (.int z7), .val (.ref b10), .val (.int (((p3.toUInt32 >>> ((3 : Int32) &&& 31).toUInt32).toInt32) &&& (3 : Int32))), .unset, .unset] [(.ref r115), (.ref r97), (.ref r81), (.ref b66), (.ref b66)]))
        obtain ⟨_, _, ⟨T135, L135, k135, n135⟩, -, X135', hS135, gg135, ⟨Lc135, hQ135, l135, y135, z135, C135⟩, st135⟩ := X115.specialBackS hx (y := (⟨"com/example/shallow_history/shallowhistory/policy/MethodReference", "<init>", "(Ljava/lang/String;Ljava/lang/String;Ljava/lang/String;)V"⟩ : MethodName)) rfl hown (mvT hZ (hw _ (List.mem_of_getElem? (i := 40) rfl))) (mvT hZ (hw _ (List.mem_of_getElem? (i := 41) rfl))) (mvT hZ (hw _ (List.mem_of_getElem? (i := 42) rfl))) (by decide) (backOfSH (W := 1) (rmmri l Z ar hw [] b66 r81 r97 r115 T115.heap n0 F121 F129 g_b66 F130 F131 F132 F133 F134 T115_0.1) hZ (hw _ (List.mem_of_getElem? (i := 42) rfl)) (hw _ (List.mem_of_getElem? (i := 2) rfl)) (by decide) (by decide) (own_EW hw) Wd115.ch) (g := (mkF m 157 #[.val (.int p0), .val (.int p1), .val (.int p2), .val (.int p3), .val (.int p4), .val (.int p5), .val (.int z1), .val (.int z4), .val (.int z7), .val (.ref b10), .val (.int (((p3.toUInt32 >>> ((3 : Int32) &&& 31).toUInt32).toInt32) &&& (3 : Int32))), .unset, .unset] [(.ref r115), (.ref r97), (.ref r81), (.ref b66), (.ref b66)])) rfl (by rw [hml]; rfl) (Steps.refl _) (a := b66) (argsL := [(.ref r81), (.ref r97), (.ref r115)]) (rest := [(.ref b66)]) (lenOf pd0_1 rfl) rfl (by show 2 * 0 + _ ≤ _; exact Nat.le_of_eq rfl) (hb hby at_157) (fun _ _ => ⟨rfl, rfl, (by decide : 44 + 6 ≤ _), (by decide : 226 + 148 ≤ _)⟩)
        dsimp only [Pt.U, Pt.locs, Pt.cells, Pt.slots] at X135' hS135 gg135 l135 y135 z135 st135 hQ135 C135
        subst l135 y135 z135
        obtain ⟨X135, Wd135, hZ, hown⟩ := own_fold Wd115 rfl X135' hS135 gg135 C135 hZ hown
        obtain ⟨rfl, N135q, K135, E135_0, F135_0, F135_1, F135_2⟩ := hQ135
        have N135 := Fr.app N115 N135q
        have F136 : own_Str Z T135.heap r15 (own_n p0) (own_b p0) := (F116.keep1 K135 F129 (by decide) (hw _ (List.mem_of_getElem? (i := 1) rfl)))
        have F137 : own_Str Z T135.heap r21 (own_n p1) (own_b p1) := (F117.keep1 K135 F129 (by decide) (hw _ (List.mem_of_getElem? (i := 1) rfl)))
        have F138 : own_Str Z T135.heap r29 (own_n p2) (own_b p2) := (F118.keep1 K135 F129 (by decide) (hw _ (List.mem_of_getElem? (i := 1) rfl)))
        have F139 : own_Str Z T135.heap r81 (own_n z1) (own_b z1) := (F119.keep1 K135 F129 (by decide) (hw _ (List.mem_of_getElem? (i := 1) rfl)))
        have F140 : own_Str Z T135.heap r97 (own_n z4) (own_b z4) := (F120.keep1 K135 F129 (by decide) (hw _ (List.mem_of_getElem? (i := 1) rfl)))
        have F141 : own_Str Z T135.heap r115 (own_n z7) (own_b z7) := (T115_0.keep1 K135 F129 (by decide) (hw _ (List.mem_of_getElem? (i := 1) rfl)))
        have F142 : Old Z n0 T135.heap := (F121.keep K135 (allS g_b66 all0))
        have F143 : Exa Z T135.heap b10 "com/example/shallow_history/shallowhistory/policy/MethodReference" := (F122.keep K135)
        have F144 : Exa Z T135.heap r15 "java/lang/String" := (F123.keep K135)
        have F145 : Exa Z T135.heap r21 "java/lang/String" := (F124.keep K135)
        have F146 : Exa Z T135.heap r29 "java/lang/String" := (F125.keep K135)
        have F147 : Fld Z T135.heap b10 "com/example/shallow_history/shallowhistory/policy/MethodReference" "owner" "Ljava/lang/String;" (.ref r15) := (F126.keep K135 (ninS ne_b10_b66 nin0))
        have F148 : Fld Z T135.heap b10 "com/example/shallow_history/shallowhistory/policy/MethodReference" "name" "Ljava/lang/String;" (.ref r21) := (F127.keep K135 (ninS ne_b10_b66 nin0))
        have F149 : Fld Z T135.heap b10 "com/example/shallow_history/shallowhistory/policy/MethodReference" "descriptor" "Ljava/lang/String;" (.ref r29) := (F128.keep K135 (ninS ne_b10_b66 nin0))
        have F150 : Exa Z T135.heap b66 "com/example/shallow_history/shallowhistory/policy/MethodReference" := (F129.keep K135)
        have F151 : Exa Z T135.heap r81 "java/lang/String" := (F133.keep K135)
        have F152 : Exa Z T135.heap r97 "java/lang/String" := (F134.keep K135)
        have F153 : Exa Z T135.heap r115 "java/lang/String" := (T115_0.1.keep K135)
        refine own_goW (fun _ k => st135.trans k) ?_
        show own_EndsW _ _ _ _ _ _ _ _ _ (T135.setTop (mkF m 160 #[.val (.int p0), .val (.int p1), .val (.int p2), .val (.int p3), .val (.int p4), .val (.int p5), .val (.int z1), .val (.int z4), .val (.int z7), .val (.ref b10), .val (.int (((p3.toUInt32 >>> ((3 : Int32) &&& 31).toUInt32).toInt32) &&& (3 : Int32))), .unset, .unset] [(.ref b66)]))
        refine own_goW (fun _ k => XS.astore X135.here hx rfl (hb hby at_160) rfl rfl (l' := #[.val (.int p0), .val (.int p1), .val (.int p2), .val (.int p3), .val (.int p4), .val (.int p5), .val (.int z1), .val (.int z4), .val (.int z7), .val (.ref b10), .val (.int (((p3.toUInt32 >>> ((3 : Int32) &&& 31).toUInt32).toInt32) &&& (3 : Int32))), .val (.ref b66), .unset]) rfl k) ?_
        show own_EndsW _ _ _ _ _ _ _ _ _ (T135.setTop (mkF m 162 #[.val (.int p0), .val (.int p1), .val (.int p2), .val (.int p3), .val (.int p4), .val (.int p5), .val (.int z1), .val (.int z4), .val (.int z7), .val (.ref b10), .val (.int (((p3.toUInt32 >>> ((3 : Int32) &&& 31).toUInt32).toInt32) &&& (3 : Int32))), .val (.ref b66), .unset] []))
        refine own_goW (fun _ k => XS.iloadN X135.here hx rfl (hb hby at_162) rfl k) ?_
        show own_EndsW _ _ _ _ _ _ _ _ _ (T135.setTop (mkF m 163 #[.val (.int p0), .val (.int p1), .val (.int p2), .val (.int p3), .val (.int p4), .val (.int p5), .val (.int z1), .val (.int z4), .val (.int z7), .val (.ref b10), .val (.int (((p3.toUInt32 >>> ((3 : Int32) &&& 31).toUInt32).toInt32) &&& (3 : Int32))), .val (.ref b66), .unset] [(.int p0)]))
        obtain ⟨_, _, ⟨T154, L154, k154, n154⟩, -, X154, ⟨Lc154, hQ154, l154, y154, z154⟩, st154⟩ := Jvm.LawKit.callS X135 hx (y := (⟨"com/example/shallow_history/shallowhistory/policy/MethodReferenceEqualsPinLaw", "key", "(I)I"⟩ : MethodName)) hown (mvT hZ (hw _ (List.mem_of_getElem? (i := 58) rfl))) (mvT hZ (hw _ (List.mem_of_getElem? (i := 59) rfl))) (mvT hZ (hw _ (List.mem_of_getElem? (i := 5) rfl))) (mvT hZ (hw _ (List.mem_of_getElem? (i := 60) rfl))) (by decide) (backOf (W := 0) (rmkey l Z ar hw [] p0 T135.heap n0 F142) hZ (hw _ (List.mem_of_getElem? (i := 60) rfl)) (hw _ (List.mem_of_getElem? (i := 5) rfl)) (by decide) (by decide)) (g := (mkF m 163 #[.val (.int p0), .val (.int p1), .val (.int p2), .val (.int p3), .val (.int p4), .val (.int p5), .val (.int z1), .val (.int z4), .val (.int z7), .val (.ref b10), .val (.int (((p3.toUInt32 >>> ((3 : Int32) &&& 31).toUInt32).toInt32) &&& (3 : Int32))), .val (.ref b66), .unset] [(.int p0)])) rfl (by rw [hml]; rfl) (argsL := [(.int p0)]) (rest := []) (lenOf pd0_3 rfl) rfl (by show 2 * 0 + _ ≤ _; exact Nat.le_of_eq rfl) (hb hby at_163) (fun _ _ => ⟨rfl, rfl, (by decide : 50 + 0 ≤ _), (by decide : 374 + 0 ≤ _)⟩)
        dsimp only [Pt.U, Pt.locs, Pt.cells, Pt.slots] at X154 l154 y154 z154 st154 hQ154
        subst l154 y154 z154
        obtain ⟨rfl, N154q, eq154⟩ := hQ154
        have e154 : T154.heap = T135.heap := eq154
        have N154 := Fr.app N135 N154q
        refine own_goW (fun _ k => st154 _ k) ?_
        show own_EndsW _ _ _ _ _ _ _ _ _ (T154.setTop (mkF m 166 #[.val (.int p0), .val (.int p1), .val (.int p2), .val (.int p3), .val (.int p4), .val (.int p5), .val (.int z1), .val (.int z4), .val (.int z7), .val (.ref b10), .val (.int (((p3.toUInt32 >>> ((3 : Int32) &&& 31).toUInt32).toInt32) &&& (3 : Int32))), .val (.ref b66), .unset] [(.int (fkey p0))]))
        refine own_goW (fun _ k => XS.iload X154.here hx rfl (hb hby at_166) rfl k) ?_
        show own_EndsW _ _ _ _ _ _ _ _ _ (T154.setTop (mkF m 168 #[.val (.int p0), .val (.int p1), .val (.int p2), .val (.int p3), .val (.int p4), .val (.int p5), .val (.int z1), .val (.int z4), .val (.int z7), .val (.ref b10), .val (.int (((p3.toUInt32 >>> ((3 : Int32) &&& 31).toUInt32).toInt32) &&& (3 : Int32))), .val (.ref b66), .unset] [(.int z1), (.int (fkey p0))]))
        obtain ⟨_, _, ⟨T155, L155, k155, n155⟩, -, X155, ⟨Lc155, hQ155, l155, y155, z155⟩, st155⟩ := Jvm.LawKit.callS X154 hx (y := (⟨"com/example/shallow_history/shallowhistory/policy/MethodReferenceEqualsPinLaw", "key", "(I)I"⟩ : MethodName)) hown (mvT hZ (hw _ (List.mem_of_getElem? (i := 58) rfl))) (mvT hZ (hw _ (List.mem_of_getElem? (i := 59) rfl))) (mvT hZ (hw _ (List.mem_of_getElem? (i := 5) rfl))) (mvT hZ (hw _ (List.mem_of_getElem? (i := 60) rfl))) (by decide) (backOf (W := 1) (rmkey l Z ar hw [] z1 T135.heap n0 F142) hZ (hw _ (List.mem_of_getElem? (i := 60) rfl)) (hw _ (List.mem_of_getElem? (i := 5) rfl)) (by decide) (by decide)) (g := (mkF m 168 #[.val (.int p0), .val (.int p1), .val (.int p2), .val (.int p3), .val (.int p4), .val (.int p5), .val (.int z1), .val (.int z4), .val (.int z7), .val (.ref b10), .val (.int (((p3.toUInt32 >>> ((3 : Int32) &&& 31).toUInt32).toInt32) &&& (3 : Int32))), .val (.ref b66), .unset] [(.int z1), (.int (fkey p0))])) rfl (by rw [hml]; rfl) (argsL := [(.int z1)]) (rest := [(.int (fkey p0))]) (lenOf pd0_3 rfl) rfl (by show 2 * 0 + _ ≤ _; exact Nat.le_of_eq rfl) (hb hby at_168) (fun _ _ => ⟨rfl, e154, (by decide : 50 + 0 ≤ _), (by decide : 374 + 0 ≤ _)⟩)
        dsimp only [Pt.U, Pt.locs, Pt.cells, Pt.slots] at X155 l155 y155 z155 st155 hQ155
        subst l155 y155 z155
        obtain ⟨rfl, N155q, eq155⟩ := hQ155
        have e155 : T155.heap = T135.heap := eq155
        have N155 := Fr.app N154 N155q
        refine own_goW (fun _ k => st155 _ k) ?_
        show own_EndsW _ _ _ _ _ _ _ _ _ (T155.setTop (mkF m 171 #[.val (.int p0), .val (.int p1), .val (.int p2), .val (.int p3), .val (.int p4), .val (.int p5), .val (.int z1), .val (.int z4), .val (.int z7), .val (.ref b10), .val (.int (((p3.toUInt32 >>> ((3 : Int32) &&& 31).toUInt32).toInt32) &&& (3 : Int32))), .val (.ref b66), .unset] [(.int (fkey z1)), (.int (fkey p0))]))
        by_cases hc156 : (fkey p0) = (fkey z1)
        · refine own_goW (fun _ k => XS.icmpNo X155.here hx rfl (hb hby at_171) rfl (teq hc156).2 k) ?_
          show own_EndsW _ _ _ _ _ _ _ _ _ (T155.setTop (mkF m 174 #[.val (.int p0), .val (.int p1), .val (.int p2), .val (.int p3), .val (.int p4), .val (.int p5), .val (.int z1), .val (.int z4), .val (.int z7), .val (.ref b10), .val (.int (((p3.toUInt32 >>> ((3 : Int32) &&& 31).toUInt32).toInt32) &&& (3 : Int32))), .val (.ref b66), .unset] []))
          refine own_goW (fun _ k => XS.iloadN X155.here hx rfl (hb hby at_174) rfl k) ?_
          show own_EndsW _ _ _ _ _ _ _ _ _ (T155.setTop (mkF m 175 #[.val (.int p0), .val (.int p1), .val (.int p2), .val (.int p3), .val (.int p4), .val (.int p5), .val (.int z1), .val (.int z4), .val (.int z7), .val (.ref b10), .val (.int (((p3.toUInt32 >>> ((3 : Int32) &&& 31).toUInt32).toInt32) &&& (3 : Int32))), .val (.ref b66), .unset] [(.int p1)]))
          obtain ⟨_, _, ⟨T157, L157, k157, n157⟩, -, X157, ⟨Lc157, hQ157, l157, y157, z157⟩, st157⟩ := Jvm.LawKit.callS X155 hx (y := (⟨"com/example/shallow_history/shallowhistory/policy/MethodReferenceEqualsPinLaw", "key", "(I)I"⟩ : MethodName)) hown (mvT hZ (hw _ (List.mem_of_getElem? (i := 58) rfl))) (mvT hZ (hw _ (List.mem_of_getElem? (i := 59) rfl))) (mvT hZ (hw _ (List.mem_of_getElem? (i := 5) rfl))) (mvT hZ (hw _ (List.mem_of_getElem? (i := 60) rfl))) (by decide) (backOf (W := 0) (rmkey l Z ar hw [] p1 T135.heap n0 F142) hZ (hw _ (List.mem_of_getElem? (i := 60) rfl)) (hw _ (List.mem_of_getElem? (i := 5) rfl)) (by decide) (by decide)) (g := (mkF m 175 #[.val (.int p0), .val (.int p1), .val (.int p2), .val (.int p3), .val (.int p4), .val (.int p5), .val (.int z1), .val (.int z4), .val (.int z7), .val (.ref b10), .val (.int (((p3.toUInt32 >>> ((3 : Int32) &&& 31).toUInt32).toInt32) &&& (3 : Int32))), .val (.ref b66), .unset] [(.int p1)])) rfl (by rw [hml]; rfl) (argsL := [(.int p1)]) (rest := []) (lenOf pd0_3 rfl) rfl (by show 2 * 0 + _ ≤ _; exact Nat.le_of_eq rfl) (hb hby at_175) (fun _ _ => ⟨rfl, e155, (by decide : 50 + 0 ≤ _), (by decide : 374 + 0 ≤ _)⟩)
          dsimp only [Pt.U, Pt.locs, Pt.cells, Pt.slots] at X157 l157 y157 z157 st157 hQ157
          subst l157 y157 z157
          obtain ⟨rfl, N157q, eq157⟩ := hQ157
          have e157 : T157.heap = T135.heap := eq157
          have N157 := Fr.app N155 N157q
          refine own_goW (fun _ k => st157 _ k) ?_
          show own_EndsW _ _ _ _ _ _ _ _ _ (T157.setTop (mkF m 178 #[.val (.int p0), .val (.int p1), .val (.int p2), .val (.int p3), .val (.int p4), .val (.int p5), .val (.int z1), .val (.int z4), .val (.int z7), .val (.ref b10), .val (.int (((p3.toUInt32 >>> ((3 : Int32) &&& 31).toUInt32).toInt32) &&& (3 : Int32))), .val (.ref b66), .unset] [(.int (fkey p1))]))
          refine own_goW (fun _ k => XS.iload X157.here hx rfl (hb hby at_178) rfl k) ?_
          show own_EndsW _ _ _ _ _ _ _ _ _ (T157.setTop (mkF m 180 #[.val (.int p0), .val (.int p1), .val (.int p2), .val (.int p3), .val (.int p4), .val (.int p5), .val (.int z1), .val (.int z4), .val (.int z7), .val (.ref b10), .val (.int (((p3.toUInt32 >>> ((3 : Int32) &&& 31).toUInt32).toInt32) &&& (3 : Int32))), .val (.ref b66), .unset] [(.int z4), (.int (fkey p1))]))
          obtain ⟨_, _, ⟨T158, L158, k158, n158⟩, -, X158, ⟨Lc158, hQ158, l158, y158, z158⟩, st158⟩ := Jvm.LawKit.callS X157 hx (y := (⟨"com/example/shallow_history/shallowhistory/policy/MethodReferenceEqualsPinLaw", "key", "(I)I"⟩ : MethodName)) hown (mvT hZ (hw _ (List.mem_of_getElem? (i := 58) rfl))) (mvT hZ (hw _ (List.mem_of_getElem? (i := 59) rfl))) (mvT hZ (hw _ (List.mem_of_getElem? (i := 5) rfl))) (mvT hZ (hw _ (List.mem_of_getElem? (i := 60) rfl))) (by decide) (backOf (W := 1) (rmkey l Z ar hw [] z4 T135.heap n0 F142) hZ (hw _ (List.mem_of_getElem? (i := 60) rfl)) (hw _ (List.mem_of_getElem? (i := 5) rfl)) (by decide) (by decide)) (g := (mkF m 180 #[.val (.int p0), .val (.int p1), .val (.int p2), .val (.int p3), .val (.int p4), .val (.int p5), .val (.int z1), .val (.int z4), .val (.int z7), .val (.ref b10), .val (.int (((p3.toUInt32 >>> ((3 : Int32) &&& 31).toUInt32).toInt32) &&& (3 : Int32))), .val (.ref b66), .unset] [(.int z4), (.int (fkey p1))])) rfl (by rw [hml]; rfl) (argsL := [(.int z4)]) (rest := [(.int (fkey p1))]) (lenOf pd0_3 rfl) rfl (by show 2 * 0 + _ ≤ _; exact Nat.le_of_eq rfl) (hb hby at_180) (fun _ _ => ⟨rfl, e157, (by decide : 50 + 0 ≤ _), (by decide : 374 + 0 ≤ _)⟩)
          dsimp only [Pt.U, Pt.locs, Pt.cells, Pt.slots] at X158 l158 y158 z158 st158 hQ158
          subst l158 y158 z158
          obtain ⟨rfl, N158q, eq158⟩ := hQ158
          have e158 : T158.heap = T135.heap := eq158
          have N158 := Fr.app N157 N158q
          refine own_goW (fun _ k => st158 _ k) ?_
          show own_EndsW _ _ _ _ _ _ _ _ _ (T158.setTop (mkF m 183 #[.val (.int p0), .val (.int p1), .val (.int p2), .val (.int p3), .val (.int p4), .val (.int p5), .val (.int z1), .val (.int z4), .val (.int z7), .val (.ref b10), .val (.int (((p3.toUInt32 >>> ((3 : Int32) &&& 31).toUInt32).toInt32) &&& (3 : Int32))), .val (.ref b66), .unset] [(.int (fkey z4)), (.int (fkey p1))]))
          by_cases hc159 : (fkey p1) = (fkey z4)
          · refine own_goW (fun _ k => XS.icmpNo X158.here hx rfl (hb hby at_183) rfl (teq hc159).2 k) ?_
            show own_EndsW _ _ _ _ _ _ _ _ _ (T158.setTop (mkF m 186 #[.val (.int p0), .val (.int p1), .val (.int p2), .val (.int p3), .val (.int p4), .val (.int p5), .val (.int z1), .val (.int z4), .val (.int z7), .val (.ref b10), .val (.int (((p3.toUInt32 >>> ((3 : Int32) &&& 31).toUInt32).toInt32) &&& (3 : Int32))), .val (.ref b66), .unset] []))
            refine own_goW (fun _ k => XS.iloadN X158.here hx rfl (hb hby at_186) rfl k) ?_
            show own_EndsW _ _ _ _ _ _ _ _ _ (T158.setTop (mkF m 187 #[.val (.int p0), .val (.int p1), .val (.int p2), .val (.int p3), .val (.int p4), .val (.int p5), .val (.int z1), .val (.int z4), .val (.int z7), .val (.ref b10), .val (.int (((p3.toUInt32 >>> ((3 : Int32) &&& 31).toUInt32).toInt32) &&& (3 : Int32))), .val (.ref b66), .unset] [(.int p2)]))
            obtain ⟨_, _, ⟨T160, L160, k160, n160⟩, -, X160, ⟨Lc160, hQ160, l160, y160, z160⟩, st160⟩ := Jvm.LawKit.callS X158 hx (y := (⟨"com/example/shallow_history/shallowhistory/policy/MethodReferenceEqualsPinLaw", "key", "(I)I"⟩ : MethodName)) hown (mvT hZ (hw _ (List.mem_of_getElem? (i := 58) rfl))) (mvT hZ (hw _ (List.mem_of_getElem? (i := 59) rfl))) (mvT hZ (hw _ (List.mem_of_getElem? (i := 5) rfl))) (mvT hZ (hw _ (List.mem_of_getElem? (i := 60) rfl))) (by decide) (backOf (W := 0) (rmkey l Z ar hw [] p2 T135.heap n0 F142) hZ (hw _ (List.mem_of_getElem? (i := 60) rfl)) (hw _ (List.mem_of_getElem? (i := 5) rfl)) (by decide) (by decide)) (g := (mkF m 187 #[.val (.int p0), .val (.int p1), .val (.int p2), .val (.int p3), .val (.int p4), .val (.int p5), .val (.int z1), .val (.int z4), .val (.int z7), .val (.ref b10), .val (.int (((p3.toUInt32 >>> ((3 : Int32) &&& 31).toUInt32).toInt32) &&& (3 : Int32))), .val (.ref b66), .unset] [(.int p2)])) rfl (by rw [hml]; rfl) (argsL := [(.int p2)]) (rest := []) (lenOf pd0_3 rfl) rfl (by show 2 * 0 + _ ≤ _; exact Nat.le_of_eq rfl) (hb hby at_187) (fun _ _ => ⟨rfl, e158, (by decide : 50 + 0 ≤ _), (by decide : 374 + 0 ≤ _)⟩)
            dsimp only [Pt.U, Pt.locs, Pt.cells, Pt.slots] at X160 l160 y160 z160 st160 hQ160
            subst l160 y160 z160
            obtain ⟨rfl, N160q, eq160⟩ := hQ160
            have e160 : T160.heap = T135.heap := eq160
            have N160 := Fr.app N158 N160q
            refine own_goW (fun _ k => st160 _ k) ?_
            show own_EndsW _ _ _ _ _ _ _ _ _ (T160.setTop (mkF m 190 #[.val (.int p0), .val (.int p1), .val (.int p2), .val (.int p3), .val (.int p4), .val (.int p5), .val (.int z1), .val (.int z4), .val (.int z7), .val (.ref b10), .val (.int (((p3.toUInt32 >>> ((3 : Int32) &&& 31).toUInt32).toInt32) &&& (3 : Int32))), .val (.ref b66), .unset] [(.int (fkey p2))]))
            refine own_goW (fun _ k => XS.iload X160.here hx rfl (hb hby at_190) rfl k) ?_
            show own_EndsW _ _ _ _ _ _ _ _ _ (T160.setTop (mkF m 192 #[.val (.int p0), .val (.int p1), .val (.int p2), .val (.int p3), .val (.int p4), .val (.int p5), .val (.int z1), .val (.int z4), .val (.int z7), .val (.ref b10), .val (.int (((p3.toUInt32 >>> ((3 : Int32) &&& 31).toUInt32).toInt32) &&& (3 : Int32))), .val (.ref b66), .unset] [(.int z7), (.int (fkey p2))]))
            obtain ⟨_, _, ⟨T161, L161, k161, n161⟩, -, X161, ⟨Lc161, hQ161, l161, y161, z161⟩, st161⟩ := Jvm.LawKit.callS X160 hx (y := (⟨"com/example/shallow_history/shallowhistory/policy/MethodReferenceEqualsPinLaw", "key", "(I)I"⟩ : MethodName)) hown (mvT hZ (hw _ (List.mem_of_getElem? (i := 58) rfl))) (mvT hZ (hw _ (List.mem_of_getElem? (i := 59) rfl))) (mvT hZ (hw _ (List.mem_of_getElem? (i := 5) rfl))) (mvT hZ (hw _ (List.mem_of_getElem? (i := 60) rfl))) (by decide) (backOf (W := 1) (rmkey l Z ar hw [] z7 T135.heap n0 F142) hZ (hw _ (List.mem_of_getElem? (i := 60) rfl)) (hw _ (List.mem_of_getElem? (i := 5) rfl)) (by decide) (by decide)) (g := (mkF m 192 #[.val (.int p0), .val (.int p1), .val (.int p2), .val (.int p3), .val (.int p4), .val (.int p5), .val (.int z1), .val (.int z4), .val (.int z7), .val (.ref b10), .val (.int (((p3.toUInt32 >>> ((3 : Int32) &&& 31).toUInt32).toInt32) &&& (3 : Int32))), .val (.ref b66), .unset] [(.int z7), (.int (fkey p2))])) rfl (by rw [hml]; rfl) (argsL := [(.int z7)]) (rest := [(.int (fkey p2))]) (lenOf pd0_3 rfl) rfl (by show 2 * 0 + _ ≤ _; exact Nat.le_of_eq rfl) (hb hby at_192) (fun _ _ => ⟨rfl, e160, (by decide : 50 + 0 ≤ _), (by decide : 374 + 0 ≤ _)⟩)
            dsimp only [Pt.U, Pt.locs, Pt.cells, Pt.slots] at X161 l161 y161 z161 st161 hQ161
            subst l161 y161 z161
            obtain ⟨rfl, N161q, eq161⟩ := hQ161
            have e161 : T161.heap = T135.heap := eq161
            have N161 := Fr.app N160 N161q
            refine own_goW (fun _ k => st161 _ k) ?_
            show own_EndsW _ _ _ _ _ _ _ _ _ (T161.setTop (mkF m 195 #[.val (.int p0), .val (.int p1), .val (.int p2), .val (.int p3), .val (.int p4), .val (.int p5), .val (.int z1), .val (.int z4), .val (.int z7), .val (.ref b10), .val (.int (((p3.toUInt32 >>> ((3 : Int32) &&& 31).toUInt32).toInt32) &&& (3 : Int32))), .val (.ref b66), .unset] [(.int (fkey z7)), (.int (fkey p2))]))
            by_cases hc162 : (fkey p2) = (fkey z7)
            · refine own_goW (fun _ k => XS.icmpNo X161.here hx rfl (hb hby at_195) rfl (teq hc162).2 k) ?_
              show own_EndsW _ _ _ _ _ _ _ _ _ (T161.setTop (mkF m 198 #[.val (.int p0), .val (.int p1), .val (.int p2), .val (.int p3), .val (.int p4), .val (.int p5), .val (.int z1), .val (.int z4), .val (.int z7), .val (.ref b10), .val (.int (((p3.toUInt32 >>> ((3 : Int32) &&& 31).toUInt32).toInt32) &&& (3 : Int32))), .val (.ref b66), .unset] []))
              refine own_goW (fun _ k => XS.iconst X161.here hx rfl (hb hby at_198) k) ?_
              show own_EndsW _ _ _ _ _ _ _ _ _ (T161.setTop (mkF m 199 #[.val (.int p0), .val (.int p1), .val (.int p2), .val (.int p3), .val (.int p4), .val (.int p5), .val (.int z1), .val (.int z4), .val (.int z7), .val (.ref b10), .val (.int (((p3.toUInt32 >>> ((3 : Int32) &&& 31).toUInt32).toInt32) &&& (3 : Int32))), .val (.ref b66), .unset] [(.int (1 : Int32))]))
              refine own_goW (fun _ k => XS.goto X161.here hx rfl (pc0 := 199) (pc' := 203) rfl (hb hby at_199) (by decide) (by decide) k) ?_
              show own_EndsW _ _ _ _ _ _ _ _ _ (T161.setTop (mkF m 203 #[.val (.int p0), .val (.int p1), .val (.int p2), .val (.int p3), .val (.int p4), .val (.int p5), .val (.int z1), .val (.int z4), .val (.int z7), .val (.ref b10), .val (.int (((p3.toUInt32 >>> ((3 : Int32) &&& 31).toUInt32).toInt32) &&& (3 : Int32))), .val (.ref b66), .unset] [(.int (1 : Int32))]))
              refine own_goW (fun _ k => XS.istore X161.here hx rfl (hb hby at_203) rfl (l' := #[.val (.int p0), .val (.int p1), .val (.int p2), .val (.int p3), .val (.int p4), .val (.int p5), .val (.int z1), .val (.int z4), .val (.int z7), .val (.ref b10), .val (.int (((p3.toUInt32 >>> ((3 : Int32) &&& 31).toUInt32).toInt32) &&& (3 : Int32))), .val (.ref b66), .val (.int (1 : Int32))]) rfl k) ?_
              show own_EndsW _ _ _ _ _ _ _ _ _ (T161.setTop (mkF m 205 #[.val (.int p0), .val (.int p1), .val (.int p2), .val (.int p3), .val (.int p4), .val (.int p5), .val (.int z1), .val (.int z4), .val (.int z7), .val (.ref b10), .val (.int (((p3.toUInt32 >>> ((3 : Int32) &&& 31).toUInt32).toInt32) &&& (3 : Int32))), .val (.ref b66), .val (.int (1 : Int32))] []))
              refine own_goW (fun _ k => XS.aload X161.here hx rfl (hb hby at_205) rfl rfl k) ?_
              show own_EndsW _ _ _ _ _ _ _ _ _ (T161.setTop (mkF m 207 #[.val (.int p0), .val (.int p1), .val (.int p2), .val (.int p3), .val (.int p4), .val (.int p5), .val (.int z1), .val (.int z4), .val (.int z7), .val (.ref b10), .val (.int (((p3.toUInt32 >>> ((3 : Int32) &&& 31).toUInt32).toInt32) &&& (3 : Int32))), .val (.ref b66), .val (.int (1 : Int32))] [(.ref b10)]))
              refine own_goW (fun _ k => XS.aload X161.here hx rfl (hb hby at_207) rfl rfl k) ?_
              show own_EndsW _ _ _ _ _ _ _ _ _ (T161.setTop (mkF m 209 #[.val (.int p0), .val (.int p1), .val (.int p2), .val (.int p3), .val (.int p4), .val (.int p5), .val (.int z1), .val (.int z4), .val (.int z7), .val (.ref b10), .val (.int (((p3.toUInt32 >>> ((3 : Int32) &&& 31).toUInt32).toInt32) &&& (3 : Int32))), .val (.ref b66), .val (.int (1 : Int32))] [(.ref b66), (.ref b10)]))
              obtain ⟨cq163, kq163, q163a, q163b, q163c⟩ := isOf hZ e161 F143
              obtain ⟨_, _, ⟨T163, L163, k163, n163⟩, -, X163, ⟨Lc163, hQ163, l163, y163, z163⟩, st163⟩ := X161.virtualBack hx (y := (⟨"com/example/shallow_history/shallowhistory/policy/MethodReference", "equals", "(Ljava/lang/Object;)Z"⟩ : MethodName)) (z := (⟨"com/example/shallow_history/shallowhistory/policy/MethodReference", "equals", "(Ljava/lang/Object;)Z"⟩ : MethodName)) hown (mvT hZ (hw _ (List.mem_of_getElem? (i := 63) rfl))) (mvT hZ (hw _ (List.mem_of_getElem? (i := 64) rfl))) (notFace_of_selects (args := #[]) (mvT hZ (hw _ (List.mem_of_getElem? (i := 66) rfl)))) (mvT hZ (hw _ (List.mem_of_getElem? (i := 66) rfl))) (mvT hZ (hw _ (List.mem_of_getElem? (i := 65) rfl))) (by decide) (backOf (W := 0) (rmmeM l Z ar hw [] b10 b66 r15 (own_n p0) (own_b p0) r21 (own_n p1) (own_b p1) r29 (own_n p2) (own_b p2) r81 (own_n z1) (own_b z1) r97 (own_n z4) (own_b z4) r115 (own_n z7) (own_b z7) w_COMPACT_STRINGS T135.heap n0 F142 E135_0 F147 F136 (own_nlt _) F148 F137 (own_nlt _) F149 F138 (own_nlt _) F135_0 F139 (own_nlt _) F135_1 F140 (own_nlt _) F135_2 F141 (own_nlt _) hCS S_COMPACT_STRINGS) hZ (hw _ (List.mem_of_getElem? (i := 67) rfl)) (hw _ (List.mem_of_getElem? (i := 2) rfl)) (by decide) (by decide)) q163a q163c (g := (mkF m 209 #[.val (.int p0), .val (.int p1), .val (.int p2), .val (.int p3), .val (.int p4), .val (.int p5), .val (.int z1), .val (.int z4), .val (.int z7), .val (.ref b10), .val (.int (((p3.toUInt32 >>> ((3 : Int32) &&& 31).toUInt32).toInt32) &&& (3 : Int32))), .val (.ref b66), .val (.int (1 : Int32))] [(.ref b66), (.ref b10)])) rfl (by rw [hml]; rfl) (Steps.refl _) (argsL := [(.ref b66)]) (rest := []) (lenOf pd0_2 rfl) rfl (by show 2 * 0 + _ ≤ _; exact Nat.le_of_eq rfl) (hb hby at_209) (fun _ _ => ⟨rfl, e161, (by decide : 50 + 0 ≤ _), (by decide : 374 + 0 ≤ _)⟩)
              dsimp only [Pt.U, Pt.locs, Pt.cells, Pt.slots] at X163 l163 y163 z163 st163 hQ163
              subst l163 y163 z163
              obtain ⟨z163, rfl, hz163, N163q, eq163⟩ := hQ163
              have e163 : T163.heap = T135.heap := eq163
              have N163 := Fr.app N161 N163q
              refine own_goW (fun _ k => st163.trans k) ?_
              show own_EndsW _ _ _ _ _ _ _ _ _ (T163.setTop (mkF m 212 #[.val (.int p0), .val (.int p1), .val (.int p2), .val (.int p3), .val (.int p4), .val (.int p5), .val (.int z1), .val (.int z4), .val (.int z7), .val (.ref b10), .val (.int (((p3.toUInt32 >>> ((3 : Int32) &&& 31).toUInt32).toInt32) &&& (3 : Int32))), .val (.ref b66), .val (.int (1 : Int32))] [(.int z163)]))
              refine own_goW (fun _ k => XS.iload X163.here hx rfl (hb hby at_212) rfl k) ?_
              show own_EndsW _ _ _ _ _ _ _ _ _ (T163.setTop (mkF m 214 #[.val (.int p0), .val (.int p1), .val (.int p2), .val (.int p3), .val (.int p4), .val (.int p5), .val (.int z1), .val (.int z4), .val (.int z7), .val (.ref b10), .val (.int (((p3.toUInt32 >>> ((3 : Int32) &&& 31).toUInt32).toInt32) &&& (3 : Int32))), .val (.ref b66), .val (.int (1 : Int32))] [(.int (1 : Int32)), (.int z163)]))
              refine own_goW (fun _ k => XS.icmpNo X163.here hx rfl (hb hby at_214) rfl (teq (own_ans.yes hz163 ⟨((own_key _ _).mpr hc156), ((own_key _ _).mpr hc159), ((own_key _ _).mpr hc162)⟩)).2 k) ?_
              show own_EndsW _ _ _ _ _ _ _ _ _ (T163.setTop (mkF m 217 #[.val (.int p0), .val (.int p1), .val (.int p2), .val (.int p3), .val (.int p4), .val (.int p5), .val (.int z1), .val (.int z4), .val (.int z7), .val (.ref b10), .val (.int (((p3.toUInt32 >>> ((3 : Int32) &&& 31).toUInt32).toInt32) &&& (3 : Int32))), .val (.ref b66), .val (.int (1 : Int32))] []))
              refine own_goW (fun _ k => XS.aload X163.here hx rfl (hb hby at_217) rfl rfl k) ?_
              show own_EndsW _ _ _ _ _ _ _ _ _ (T163.setTop (mkF m 219 #[.val (.int p0), .val (.int p1), .val (.int p2), .val (.int p3), .val (.int p4), .val (.int p5), .val (.int z1), .val (.int z4), .val (.int z7), .val (.ref b10), .val (.int (((p3.toUInt32 >>> ((3 : Int32) &&& 31).toUInt32).toInt32) &&& (3 : Int32))), .val (.ref b66), .val (.int (1 : Int32))] [(.ref b66)]))
              refine own_goW (fun _ k => XS.aload X163.here hx rfl (hb hby at_219) rfl rfl k) ?_
              show own_EndsW _ _ _ _ _ _ _ _ _ (T163.setTop (mkF m 221 #[.val (.int p0), .val (.int p1), .val (.int p2), .val (.int p3), .val (.int p4), .val (.int p5), .val (.int z1), .val (.int z4), .val (.int z7), .val (.ref b10), .val (.int (((p3.toUInt32 >>> ((3 : Int32) &&& 31).toUInt32).toInt32) &&& (3 : Int32))), .val (.ref b66), .val (.int (1 : Int32))] [(.ref b10), (.ref b66)]))
              obtain ⟨cq164, kq164, q164a, q164b, q164c⟩ := isOf hZ e163 E135_0
              obtain ⟨_, _, ⟨T164, L164, k164, n164⟩, -, X164, ⟨Lc164, hQ164, l164, y164, z164⟩, st164⟩ := X163.virtualBack hx (y := (⟨"com/example/shallow_history/shallowhistory/policy/MethodReference", "equals", "(Ljava/lang/Object;)Z"⟩ : MethodName)) (z := (⟨"com/example/shallow_history/shallowhistory/policy/MethodReference", "equals", "(Ljava/lang/Object;)Z"⟩ : MethodName)) hown (mvT hZ (hw _ (List.mem_of_getElem? (i := 63) rfl))) (mvT hZ (hw _ (List.mem_of_getElem? (i := 64) rfl))) (notFace_of_selects (args := #[]) (mvT hZ (hw _ (List.mem_of_getElem? (i := 66) rfl)))) (mvT hZ (hw _ (List.mem_of_getElem? (i := 66) rfl))) (mvT hZ (hw _ (List.mem_of_getElem? (i := 65) rfl))) (by decide) (backOf (W := 0) (rmmeM l Z ar hw [] b66 b10 r81 (own_n z1) (own_b z1) r97 (own_n z4) (own_b z4) r115 (own_n z7) (own_b z7) r15 (own_n p0) (own_b p0) r21 (own_n p1) (own_b p1) r29 (own_n p2) (own_b p2) w_COMPACT_STRINGS T135.heap n0 F142 F143 F135_0 F139 (own_nlt _) F135_1 F140 (own_nlt _) F135_2 F141 (own_nlt _) F147 F136 (own_nlt _) F148 F137 (own_nlt _) F149 F138 (own_nlt _) hCS S_COMPACT_STRINGS) hZ (hw _ (List.mem_of_getElem? (i := 67) rfl)) (hw _ (List.mem_of_getElem? (i := 2) rfl)) (by decide) (by decide)) q164a q164c (g := (mkF m 221 #[.val (.int p0), .val (.int p1), .val (.int p2), .val (.int p3), .val (.int p4), .val (.int p5), .val (.int z1), .val (.int z4), .val (.int z7), .val (.ref b10), .val (.int (((p3.toUInt32 >>> ((3 : Int32) &&& 31).toUInt32).toInt32) &&& (3 : Int32))), .val (.ref b66), .val (.int (1 : Int32))] [(.ref b10), (.ref b66)])) rfl (by rw [hml]; rfl) (Steps.refl _) (argsL := [(.ref b10)]) (rest := []) (lenOf pd0_2 rfl) rfl (by show 2 * 0 + _ ≤ _; exact Nat.le_of_eq rfl) (hb hby at_221) (fun _ _ => ⟨rfl, e163, (by decide : 50 + 0 ≤ _), (by decide : 374 + 0 ≤ _)⟩)
              dsimp only [Pt.U, Pt.locs, Pt.cells, Pt.slots] at X164 l164 y164 z164 st164 hQ164
              subst l164 y164 z164
              obtain ⟨z164, rfl, hz164, N164q, eq164⟩ := hQ164
              have e164 : T164.heap = T135.heap := eq164
              have N164 := Fr.app N163 N164q
              refine own_goW (fun _ k => st164.trans k) ?_
              show own_EndsW _ _ _ _ _ _ _ _ _ (T164.setTop (mkF m 224 #[.val (.int p0), .val (.int p1), .val (.int p2), .val (.int p3), .val (.int p4), .val (.int p5), .val (.int z1), .val (.int z4), .val (.int z7), .val (.ref b10), .val (.int (((p3.toUInt32 >>> ((3 : Int32) &&& 31).toUInt32).toInt32) &&& (3 : Int32))), .val (.ref b66), .val (.int (1 : Int32))] [(.int z164)]))
              refine own_goW (fun _ k => XS.iload X164.here hx rfl (hb hby at_224) rfl k) ?_
              show own_EndsW _ _ _ _ _ _ _ _ _ (T164.setTop (mkF m 226 #[.val (.int p0), .val (.int p1), .val (.int p2), .val (.int p3), .val (.int p4), .val (.int p5), .val (.int z1), .val (.int z4), .val (.int z7), .val (.ref b10), .val (.int (((p3.toUInt32 >>> ((3 : Int32) &&& 31).toUInt32).toInt32) &&& (3 : Int32))), .val (.ref b66), .val (.int (1 : Int32))] [(.int (1 : Int32)), (.int z164)]))
              refine own_goW (fun _ k => XS.icmpNo X164.here hx rfl (hb hby at_226) rfl (teq (own_ans.yes hz164 ⟨(own_eq.symm ((own_key _ _).mpr hc156)), (own_eq.symm ((own_key _ _).mpr hc159)), (own_eq.symm ((own_key _ _).mpr hc162))⟩)).2 k) ?_
              show own_EndsW _ _ _ _ _ _ _ _ _ (T164.setTop (mkF m 229 #[.val (.int p0), .val (.int p1), .val (.int p2), .val (.int p3), .val (.int p4), .val (.int p5), .val (.int z1), .val (.int z4), .val (.int z7), .val (.ref b10), .val (.int (((p3.toUInt32 >>> ((3 : Int32) &&& 31).toUInt32).toInt32) &&& (3 : Int32))), .val (.ref b66), .val (.int (1 : Int32))] []))
              refine own_goW (fun _ k => XS.iconst X164.here hx rfl (hb hby at_229) k) ?_
              show own_EndsW _ _ _ _ _ _ _ _ _ (T164.setTop (mkF m 230 #[.val (.int p0), .val (.int p1), .val (.int p2), .val (.int p3), .val (.int p4), .val (.int p5), .val (.int z1), .val (.int z4), .val (.int z7), .val (.ref b10), .val (.int (((p3.toUInt32 >>> ((3 : Int32) &&& 31).toUInt32).toInt32) &&& (3 : Int32))), .val (.ref b66), .val (.int (1 : Int32))] [(.int (1 : Int32))]))
              refine own_goW (fun _ k => XS.goto X164.here hx rfl (pc0 := 230) (pc' := 234) rfl (hb hby at_230) (by decide) (by decide) k) ?_
              show own_EndsW _ _ _ _ _ _ _ _ _ (T164.setTop (mkF m 234 #[.val (.int p0), .val (.int p1), .val (.int p2), .val (.int p3), .val (.int p4), .val (.int p5), .val (.int z1), .val (.int z4), .val (.int z7), .val (.ref b10), .val (.int (((p3.toUInt32 >>> ((3 : Int32) &&& 31).toUInt32).toInt32) &&& (3 : Int32))), .val (.ref b66), .val (.int (1 : Int32))] [(.int (1 : Int32))]))
              exact own_retNW X164 hx hlk e164 Wd135 hZ (own_EW hw) (t := .boolean) Bd.returns (by simp) (hb hby at_234) (by decide) (by decide) ⟨rfl, N164⟩
            · refine own_goW (fun _ k => XS.icmpYes X161.here hx rfl (pc0 := 195) (pc' := 202) rfl (hb hby at_195) rfl (feq hc162).2 (by decide) (by decide) k) ?_
              show own_EndsW _ _ _ _ _ _ _ _ _ (T161.setTop (mkF m 202 #[.val (.int p0), .val (.int p1), .val (.int p2), .val (.int p3), .val (.int p4), .val (.int p5), .val (.int z1), .val (.int z4), .val (.int z7), .val (.ref b10), .val (.int (((p3.toUInt32 >>> ((3 : Int32) &&& 31).toUInt32).toInt32) &&& (3 : Int32))), .val (.ref b66), .unset] []))
              refine own_goW (fun _ k => XS.iconst X161.here hx rfl (hb hby at_202) k) ?_
              show own_EndsW _ _ _ _ _ _ _ _ _ (T161.setTop (mkF m 203 #[.val (.int p0), .val (.int p1), .val (.int p2), .val (.int p3), .val (.int p4), .val (.int p5), .val (.int z1), .val (.int z4), .val (.int z7), .val (.ref b10), .val (.int (((p3.toUInt32 >>> ((3 : Int32) &&& 31).toUInt32).toInt32) &&& (3 : Int32))), .val (.ref b66), .unset] [(.int (0 : Int32))]))
              refine own_goW (fun _ k => XS.istore X161.here hx rfl (hb hby at_203) rfl (l' := #[.val (.int p0), .val (.int p1), .val (.int p2), .val (.int p3), .val (.int p4), .val (.int p5), .val (.int z1), .val (.int z4), .val (.int z7), .val (.ref b10), .val (.int (((p3.toUInt32 >>> ((3 : Int32) &&& 31).toUInt32).toInt32) &&& (3 : Int32))), .val (.ref b66), .val (.int (0 : Int32))]) rfl k) ?_
              show own_EndsW _ _ _ _ _ _ _ _ _ (T161.setTop (mkF m 205 #[.val (.int p0), .val (.int p1), .val (.int p2), .val (.int p3), .val (.int p4), .val (.int p5), .val (.int z1), .val (.int z4), .val (.int z7), .val (.ref b10), .val (.int (((p3.toUInt32 >>> ((3 : Int32) &&& 31).toUInt32).toInt32) &&& (3 : Int32))), .val (.ref b66), .val (.int (0 : Int32))] []))
              refine own_goW (fun _ k => XS.aload X161.here hx rfl (hb hby at_205) rfl rfl k) ?_
              show own_EndsW _ _ _ _ _ _ _ _ _ (T161.setTop (mkF m 207 #[.val (.int p0), .val (.int p1), .val (.int p2), .val (.int p3), .val (.int p4), .val (.int p5), .val (.int z1), .val (.int z4), .val (.int z7), .val (.ref b10), .val (.int (((p3.toUInt32 >>> ((3 : Int32) &&& 31).toUInt32).toInt32) &&& (3 : Int32))), .val (.ref b66), .val (.int (0 : Int32))] [(.ref b10)]))
              refine own_goW (fun _ k => XS.aload X161.here hx rfl (hb hby at_207) rfl rfl k) ?_
              show own_EndsW _ _ _ _ _ _ _ _ _ (T161.setTop (mkF m 209 #[.val (.int p0), .val (.int p1), .val (.int p2), .val (.int p3), .val (.int p4), .val (.int p5), .val (.int z1), .val (.int z4), .val (.int z7), .val (.ref b10), .val (.int (((p3.toUInt32 >>> ((3 : Int32) &&& 31).toUInt32).toInt32) &&& (3 : Int32))), .val (.ref b66), .val (.int (0 : Int32))] [(.ref b66), (.ref b10)]))
              obtain ⟨cq165, kq165, q165a, q165b, q165c⟩ := isOf hZ e161 F143
              obtain ⟨_, _, ⟨T165, L165, k165, n165⟩, -, X165, ⟨Lc165, hQ165, l165, y165, z165⟩, st165⟩ := X161.virtualBack hx (y := (⟨"com/example/shallow_history/shallowhistory/policy/MethodReference", "equals", "(Ljava/lang/Object;)Z"⟩ : MethodName)) (z := (⟨"com/example/shallow_history/shallowhistory/policy/MethodReference", "equals", "(Ljava/lang/Object;)Z"⟩ : MethodName)) hown (mvT hZ (hw _ (List.mem_of_getElem? (i := 63) rfl))) (mvT hZ (hw _ (List.mem_of_getElem? (i := 64) rfl))) (notFace_of_selects (args := #[]) (mvT hZ (hw _ (List.mem_of_getElem? (i := 66) rfl)))) (mvT hZ (hw _ (List.mem_of_getElem? (i := 66) rfl))) (mvT hZ (hw _ (List.mem_of_getElem? (i := 65) rfl))) (by decide) (backOf (W := 0) (rmmeM l Z ar hw [] b10 b66 r15 (own_n p0) (own_b p0) r21 (own_n p1) (own_b p1) r29 (own_n p2) (own_b p2) r81 (own_n z1) (own_b z1) r97 (own_n z4) (own_b z4) r115 (own_n z7) (own_b z7) w_COMPACT_STRINGS T135.heap n0 F142 E135_0 F147 F136 (own_nlt _) F148 F137 (own_nlt _) F149 F138 (own_nlt _) F135_0 F139 (own_nlt _) F135_1 F140 (own_nlt _) F135_2 F141 (own_nlt _) hCS S_COMPACT_STRINGS) hZ (hw _ (List.mem_of_getElem? (i := 67) rfl)) (hw _ (List.mem_of_getElem? (i := 2) rfl)) (by decide) (by decide)) q165a q165c (g := (mkF m 209 #[.val (.int p0), .val (.int p1), .val (.int p2), .val (.int p3), .val (.int p4), .val (.int p5), .val (.int z1), .val (.int z4), .val (.int z7), .val (.ref b10), .val (.int (((p3.toUInt32 >>> ((3 : Int32) &&& 31).toUInt32).toInt32) &&& (3 : Int32))), .val (.ref b66), .val (.int (0 : Int32))] [(.ref b66), (.ref b10)])) rfl (by rw [hml]; rfl) (Steps.refl _) (argsL := [(.ref b66)]) (rest := []) (lenOf pd0_2 rfl) rfl (by show 2 * 0 + _ ≤ _; exact Nat.le_of_eq rfl) (hb hby at_209) (fun _ _ => ⟨rfl, e161, (by decide : 50 + 0 ≤ _), (by decide : 374 + 0 ≤ _)⟩)
              dsimp only [Pt.U, Pt.locs, Pt.cells, Pt.slots] at X165 l165 y165 z165 st165 hQ165
              subst l165 y165 z165
              obtain ⟨z165, rfl, hz165, N165q, eq165⟩ := hQ165
              have e165 : T165.heap = T135.heap := eq165
              have N165 := Fr.app N161 N165q
              refine own_goW (fun _ k => st165.trans k) ?_
              show own_EndsW _ _ _ _ _ _ _ _ _ (T165.setTop (mkF m 212 #[.val (.int p0), .val (.int p1), .val (.int p2), .val (.int p3), .val (.int p4), .val (.int p5), .val (.int z1), .val (.int z4), .val (.int z7), .val (.ref b10), .val (.int (((p3.toUInt32 >>> ((3 : Int32) &&& 31).toUInt32).toInt32) &&& (3 : Int32))), .val (.ref b66), .val (.int (0 : Int32))] [(.int z165)]))
              refine own_goW (fun _ k => XS.iload X165.here hx rfl (hb hby at_212) rfl k) ?_
              show own_EndsW _ _ _ _ _ _ _ _ _ (T165.setTop (mkF m 214 #[.val (.int p0), .val (.int p1), .val (.int p2), .val (.int p3), .val (.int p4), .val (.int p5), .val (.int z1), .val (.int z4), .val (.int z7), .val (.ref b10), .val (.int (((p3.toUInt32 >>> ((3 : Int32) &&& 31).toUInt32).toInt32) &&& (3 : Int32))), .val (.ref b66), .val (.int (0 : Int32))] [(.int (0 : Int32)), (.int z165)]))
              refine own_goW (fun _ k => XS.icmpNo X165.here hx rfl (hb hby at_214) rfl (teq (own_ans.no hz165 (fun q => hc162 ((own_key _ _).mp q.2.2)))).2 k) ?_
              show own_EndsW _ _ _ _ _ _ _ _ _ (T165.setTop (mkF m 217 #[.val (.int p0), .val (.int p1), .val (.int p2), .val (.int p3), .val (.int p4), .val (.int p5), .val (.int z1), .val (.int z4), .val (.int z7), .val (.ref b10), .val (.int (((p3.toUInt32 >>> ((3 : Int32) &&& 31).toUInt32).toInt32) &&& (3 : Int32))), .val (.ref b66), .val (.int (0 : Int32))] []))
              refine own_goW (fun _ k => XS.aload X165.here hx rfl (hb hby at_217) rfl rfl k) ?_
              show own_EndsW _ _ _ _ _ _ _ _ _ (T165.setTop (mkF m 219 #[.val (.int p0), .val (.int p1), .val (.int p2), .val (.int p3), .val (.int p4), .val (.int p5), .val (.int z1), .val (.int z4), .val (.int z7), .val (.ref b10), .val (.int (((p3.toUInt32 >>> ((3 : Int32) &&& 31).toUInt32).toInt32) &&& (3 : Int32))), .val (.ref b66), .val (.int (0 : Int32))] [(.ref b66)]))
              refine own_goW (fun _ k => XS.aload X165.here hx rfl (hb hby at_219) rfl rfl k) ?_
              show own_EndsW _ _ _ _ _ _ _ _ _ (T165.setTop (mkF m 221 #[.val (.int p0), .val (.int p1), .val (.int p2), .val (.int p3), .val (.int p4), .val (.int p5), .val (.int z1), .val (.int z4), .val (.int z7), .val (.ref b10), .val (.int (((p3.toUInt32 >>> ((3 : Int32) &&& 31).toUInt32).toInt32) &&& (3 : Int32))), .val (.ref b66), .val (.int (0 : Int32))] [(.ref b10), (.ref b66)]))
              obtain ⟨cq166, kq166, q166a, q166b, q166c⟩ := isOf hZ e165 E135_0
              obtain ⟨_, _, ⟨T166, L166, k166, n166⟩, -, X166, ⟨Lc166, hQ166, l166, y166, z166⟩, st166⟩ := X165.virtualBack hx (y := (⟨"com/example/shallow_history/shallowhistory/policy/MethodReference", "equals", "(Ljava/lang/Object;)Z"⟩ : MethodName)) (z := (⟨"com/example/shallow_history/shallowhistory/policy/MethodReference", "equals", "(Ljava/lang/Object;)Z"⟩ : MethodName)) hown (mvT hZ (hw _ (List.mem_of_getElem? (i := 63) rfl))) (mvT hZ (hw _ (List.mem_of_getElem? (i := 64) rfl))) (notFace_of_selects (args := #[]) (mvT hZ (hw _ (List.mem_of_getElem? (i := 66) rfl)))) (mvT hZ (hw _ (List.mem_of_getElem? (i := 66) rfl))) (mvT hZ (hw _ (List.mem_of_getElem? (i := 65) rfl))) (by decide) (backOf (W := 0) (rmmeM l Z ar hw [] b66 b10 r81 (own_n z1) (own_b z1) r97 (own_n z4) (own_b z4) r115 (own_n z7) (own_b z7) r15 (own_n p0) (own_b p0) r21 (own_n p1) (own_b p1) r29 (own_n p2) (own_b p2) w_COMPACT_STRINGS T135.heap n0 F142 F143 F135_0 F139 (own_nlt _) F135_1 F140 (own_nlt _) F135_2 F141 (own_nlt _) F147 F136 (own_nlt _) F148 F137 (own_nlt _) F149 F138 (own_nlt _) hCS S_COMPACT_STRINGS) hZ (hw _ (List.mem_of_getElem? (i := 67) rfl)) (hw _ (List.mem_of_getElem? (i := 2) rfl)) (by decide) (by decide)) q166a q166c (g := (mkF m 221 #[.val (.int p0), .val (.int p1), .val (.int p2), .val (.int p3), .val (.int p4), .val (.int p5), .val (.int z1), .val (.int z4), .val (.int z7), .val (.ref b10), .val (.int (((p3.toUInt32 >>> ((3 : Int32) &&& 31).toUInt32).toInt32) &&& (3 : Int32))), .val (.ref b66), .val (.int (0 : Int32))] [(.ref b10), (.ref b66)])) rfl (by rw [hml]; rfl) (Steps.refl _) (argsL := [(.ref b10)]) (rest := []) (lenOf pd0_2 rfl) rfl (by show 2 * 0 + _ ≤ _; exact Nat.le_of_eq rfl) (hb hby at_221) (fun _ _ => ⟨rfl, e165, (by decide : 50 + 0 ≤ _), (by decide : 374 + 0 ≤ _)⟩)
              dsimp only [Pt.U, Pt.locs, Pt.cells, Pt.slots] at X166 l166 y166 z166 st166 hQ166
              subst l166 y166 z166
              obtain ⟨z166, rfl, hz166, N166q, eq166⟩ := hQ166
              have e166 : T166.heap = T135.heap := eq166
              have N166 := Fr.app N165 N166q
              refine own_goW (fun _ k => st166.trans k) ?_
              show own_EndsW _ _ _ _ _ _ _ _ _ (T166.setTop (mkF m 224 #[.val (.int p0), .val (.int p1), .val (.int p2), .val (.int p3), .val (.int p4), .val (.int p5), .val (.int z1), .val (.int z4), .val (.int z7), .val (.ref b10), .val (.int (((p3.toUInt32 >>> ((3 : Int32) &&& 31).toUInt32).toInt32) &&& (3 : Int32))), .val (.ref b66), .val (.int (0 : Int32))] [(.int z166)]))
              refine own_goW (fun _ k => XS.iload X166.here hx rfl (hb hby at_224) rfl k) ?_
              show own_EndsW _ _ _ _ _ _ _ _ _ (T166.setTop (mkF m 226 #[.val (.int p0), .val (.int p1), .val (.int p2), .val (.int p3), .val (.int p4), .val (.int p5), .val (.int z1), .val (.int z4), .val (.int z7), .val (.ref b10), .val (.int (((p3.toUInt32 >>> ((3 : Int32) &&& 31).toUInt32).toInt32) &&& (3 : Int32))), .val (.ref b66), .val (.int (0 : Int32))] [(.int (0 : Int32)), (.int z166)]))
              refine own_goW (fun _ k => XS.icmpNo X166.here hx rfl (hb hby at_226) rfl (teq (own_ans.no hz166 (fun q => hc162 ((own_key _ _).mp (own_eq.symm q.2.2))))).2 k) ?_
              show own_EndsW _ _ _ _ _ _ _ _ _ (T166.setTop (mkF m 229 #[.val (.int p0), .val (.int p1), .val (.int p2), .val (.int p3), .val (.int p4), .val (.int p5), .val (.int z1), .val (.int z4), .val (.int z7), .val (.ref b10), .val (.int (((p3.toUInt32 >>> ((3 : Int32) &&& 31).toUInt32).toInt32) &&& (3 : Int32))), .val (.ref b66), .val (.int (0 : Int32))] []))
              refine own_goW (fun _ k => XS.iconst X166.here hx rfl (hb hby at_229) k) ?_
              show own_EndsW _ _ _ _ _ _ _ _ _ (T166.setTop (mkF m 230 #[.val (.int p0), .val (.int p1), .val (.int p2), .val (.int p3), .val (.int p4), .val (.int p5), .val (.int z1), .val (.int z4), .val (.int z7), .val (.ref b10), .val (.int (((p3.toUInt32 >>> ((3 : Int32) &&& 31).toUInt32).toInt32) &&& (3 : Int32))), .val (.ref b66), .val (.int (0 : Int32))] [(.int (1 : Int32))]))
              refine own_goW (fun _ k => XS.goto X166.here hx rfl (pc0 := 230) (pc' := 234) rfl (hb hby at_230) (by decide) (by decide) k) ?_
              show own_EndsW _ _ _ _ _ _ _ _ _ (T166.setTop (mkF m 234 #[.val (.int p0), .val (.int p1), .val (.int p2), .val (.int p3), .val (.int p4), .val (.int p5), .val (.int z1), .val (.int z4), .val (.int z7), .val (.ref b10), .val (.int (((p3.toUInt32 >>> ((3 : Int32) &&& 31).toUInt32).toInt32) &&& (3 : Int32))), .val (.ref b66), .val (.int (0 : Int32))] [(.int (1 : Int32))]))
              exact own_retNW X166 hx hlk e166 Wd135 hZ (own_EW hw) (t := .boolean) Bd.returns (by simp) (hb hby at_234) (by decide) (by decide) ⟨rfl, N166⟩
          · refine own_goW (fun _ k => XS.icmpYes X158.here hx rfl (pc0 := 183) (pc' := 202) rfl (hb hby at_183) rfl (feq hc159).2 (by decide) (by decide) k) ?_
            show own_EndsW _ _ _ _ _ _ _ _ _ (T158.setTop (mkF m 202 #[.val (.int p0), .val (.int p1), .val (.int p2), .val (.int p3), .val (.int p4), .val (.int p5), .val (.int z1), .val (.int z4), .val (.int z7), .val (.ref b10), .val (.int (((p3.toUInt32 >>> ((3 : Int32) &&& 31).toUInt32).toInt32) &&& (3 : Int32))), .val (.ref b66), .unset] []))
            refine own_goW (fun _ k => XS.iconst X158.here hx rfl (hb hby at_202) k) ?_
            show own_EndsW _ _ _ _ _ _ _ _ _ (T158.setTop (mkF m 203 #[.val (.int p0), .val (.int p1), .val (.int p2), .val (.int p3), .val (.int p4), .val (.int p5), .val (.int z1), .val (.int z4), .val (.int z7), .val (.ref b10), .val (.int (((p3.toUInt32 >>> ((3 : Int32) &&& 31).toUInt32).toInt32) &&& (3 : Int32))), .val (.ref b66), .unset] [(.int (0 : Int32))]))
            refine own_goW (fun _ k => XS.istore X158.here hx rfl (hb hby at_203) rfl (l' := #[.val (.int p0), .val (.int p1), .val (.int p2), .val (.int p3), .val (.int p4), .val (.int p5), .val (.int z1), .val (.int z4), .val (.int z7), .val (.ref b10), .val (.int (((p3.toUInt32 >>> ((3 : Int32) &&& 31).toUInt32).toInt32) &&& (3 : Int32))), .val (.ref b66), .val (.int (0 : Int32))]) rfl k) ?_
            show own_EndsW _ _ _ _ _ _ _ _ _ (T158.setTop (mkF m 205 #[.val (.int p0), .val (.int p1), .val (.int p2), .val (.int p3), .val (.int p4), .val (.int p5), .val (.int z1), .val (.int z4), .val (.int z7), .val (.ref b10), .val (.int (((p3.toUInt32 >>> ((3 : Int32) &&& 31).toUInt32).toInt32) &&& (3 : Int32))), .val (.ref b66), .val (.int (0 : Int32))] []))
            refine own_goW (fun _ k => XS.aload X158.here hx rfl (hb hby at_205) rfl rfl k) ?_
            show own_EndsW _ _ _ _ _ _ _ _ _ (T158.setTop (mkF m 207 #[.val (.int p0), .val (.int p1), .val (.int p2), .val (.int p3), .val (.int p4), .val (.int p5), .val (.int z1), .val (.int z4), .val (.int z7), .val (.ref b10), .val (.int (((p3.toUInt32 >>> ((3 : Int32) &&& 31).toUInt32).toInt32) &&& (3 : Int32))), .val (.ref b66), .val (.int (0 : Int32))] [(.ref b10)]))
            refine own_goW (fun _ k => XS.aload X158.here hx rfl (hb hby at_207) rfl rfl k) ?_
            show own_EndsW _ _ _ _ _ _ _ _ _ (T158.setTop (mkF m 209 #[.val (.int p0), .val (.int p1), .val (.int p2), .val (.int p3), .val (.int p4), .val (.int p5), .val (.int z1), .val (.int z4), .val (.int z7), .val (.ref b10), .val (.int (((p3.toUInt32 >>> ((3 : Int32) &&& 31).toUInt32).toInt32) &&& (3 : Int32))), .val (.ref b66), .val (.int (0 : Int32))] [(.ref b66), (.ref b10)]))
            obtain ⟨cq167, kq167, q167a, q167b, q167c⟩ := isOf hZ e158 F143
            obtain ⟨_, _, ⟨T167, L167, k167, n167⟩, -, X167, ⟨Lc167, hQ167, l167, y167, z167⟩, st167⟩ := X158.virtualBack hx (y := (⟨"com/example/shallow_history/shallowhistory/policy/MethodReference", "equals", "(Ljava/lang/Object;)Z"⟩ : MethodName)) (z := (⟨"com/example/shallow_history/shallowhistory/policy/MethodReference", "equals", "(Ljava/lang/Object;)Z"⟩ : MethodName)) hown (mvT hZ (hw _ (List.mem_of_getElem? (i := 63) rfl))) (mvT hZ (hw _ (List.mem_of_getElem? (i := 64) rfl))) (notFace_of_selects (args := #[]) (mvT hZ (hw _ (List.mem_of_getElem? (i := 66) rfl)))) (mvT hZ (hw _ (List.mem_of_getElem? (i := 66) rfl))) (mvT hZ (hw _ (List.mem_of_getElem? (i := 65) rfl))) (by decide) (backOf (W := 0) (rmmeM l Z ar hw [] b10 b66 r15 (own_n p0) (own_b p0) r21 (own_n p1) (own_b p1) r29 (own_n p2) (own_b p2) r81 (own_n z1) (own_b z1) r97 (own_n z4) (own_b z4) r115 (own_n z7) (own_b z7) w_COMPACT_STRINGS T135.heap n0 F142 E135_0 F147 F136 (own_nlt _) F148 F137 (own_nlt _) F149 F138 (own_nlt _) F135_0 F139 (own_nlt _) F135_1 F140 (own_nlt _) F135_2 F141 (own_nlt _) hCS S_COMPACT_STRINGS) hZ (hw _ (List.mem_of_getElem? (i := 67) rfl)) (hw _ (List.mem_of_getElem? (i := 2) rfl)) (by decide) (by decide)) q167a q167c (g := (mkF m 209 #[.val (.int p0), .val (.int p1), .val (.int p2), .val (.int p3), .val (.int p4), .val (.int p5), .val (.int z1), .val (.int z4), .val (.int z7), .val (.ref b10), .val (.int (((p3.toUInt32 >>> ((3 : Int32) &&& 31).toUInt32).toInt32) &&& (3 : Int32))), .val (.ref b66), .val (.int (0 : Int32))] [(.ref b66), (.ref b10)])) rfl (by rw [hml]; rfl) (Steps.refl _) (argsL := [(.ref b66)]) (rest := []) (lenOf pd0_2 rfl) rfl (by show 2 * 0 + _ ≤ _; exact Nat.le_of_eq rfl) (hb hby at_209) (fun _ _ => ⟨rfl, e158, (by decide : 50 + 0 ≤ _), (by decide : 374 + 0 ≤ _)⟩)
            dsimp only [Pt.U, Pt.locs, Pt.cells, Pt.slots] at X167 l167 y167 z167 st167 hQ167
            subst l167 y167 z167
            obtain ⟨z167, rfl, hz167, N167q, eq167⟩ := hQ167
            have e167 : T167.heap = T135.heap := eq167
            have N167 := Fr.app N158 N167q
            refine own_goW (fun _ k => st167.trans k) ?_
            show own_EndsW _ _ _ _ _ _ _ _ _ (T167.setTop (mkF m 212 #[.val (.int p0), .val (.int p1), .val (.int p2), .val (.int p3), .val (.int p4), .val (.int p5), .val (.int z1), .val (.int z4), .val (.int z7), .val (.ref b10), .val (.int (((p3.toUInt32 >>> ((3 : Int32) &&& 31).toUInt32).toInt32) &&& (3 : Int32))), .val (.ref b66), .val (.int (0 : Int32))] [(.int z167)]))
            refine own_goW (fun _ k => XS.iload X167.here hx rfl (hb hby at_212) rfl k) ?_
            show own_EndsW _ _ _ _ _ _ _ _ _ (T167.setTop (mkF m 214 #[.val (.int p0), .val (.int p1), .val (.int p2), .val (.int p3), .val (.int p4), .val (.int p5), .val (.int z1), .val (.int z4), .val (.int z7), .val (.ref b10), .val (.int (((p3.toUInt32 >>> ((3 : Int32) &&& 31).toUInt32).toInt32) &&& (3 : Int32))), .val (.ref b66), .val (.int (0 : Int32))] [(.int (0 : Int32)), (.int z167)]))
            refine own_goW (fun _ k => XS.icmpNo X167.here hx rfl (hb hby at_214) rfl (teq (own_ans.no hz167 (fun q => hc159 ((own_key _ _).mp q.2.1)))).2 k) ?_
            show own_EndsW _ _ _ _ _ _ _ _ _ (T167.setTop (mkF m 217 #[.val (.int p0), .val (.int p1), .val (.int p2), .val (.int p3), .val (.int p4), .val (.int p5), .val (.int z1), .val (.int z4), .val (.int z7), .val (.ref b10), .val (.int (((p3.toUInt32 >>> ((3 : Int32) &&& 31).toUInt32).toInt32) &&& (3 : Int32))), .val (.ref b66), .val (.int (0 : Int32))] []))
            refine own_goW (fun _ k => XS.aload X167.here hx rfl (hb hby at_217) rfl rfl k) ?_
            show own_EndsW _ _ _ _ _ _ _ _ _ (T167.setTop (mkF m 219 #[.val (.int p0), .val (.int p1), .val (.int p2), .val (.int p3), .val (.int p4), .val (.int p5), .val (.int z1), .val (.int z4), .val (.int z7), .val (.ref b10), .val (.int (((p3.toUInt32 >>> ((3 : Int32) &&& 31).toUInt32).toInt32) &&& (3 : Int32))), .val (.ref b66), .val (.int (0 : Int32))] [(.ref b66)]))
            refine own_goW (fun _ k => XS.aload X167.here hx rfl (hb hby at_219) rfl rfl k) ?_
            show own_EndsW _ _ _ _ _ _ _ _ _ (T167.setTop (mkF m 221 #[.val (.int p0), .val (.int p1), .val (.int p2), .val (.int p3), .val (.int p4), .val (.int p5), .val (.int z1), .val (.int z4), .val (.int z7), .val (.ref b10), .val (.int (((p3.toUInt32 >>> ((3 : Int32) &&& 31).toUInt32).toInt32) &&& (3 : Int32))), .val (.ref b66), .val (.int (0 : Int32))] [(.ref b10), (.ref b66)]))
            obtain ⟨cq168, kq168, q168a, q168b, q168c⟩ := isOf hZ e167 E135_0
            obtain ⟨_, _, ⟨T168, L168, k168, n168⟩, -, X168, ⟨Lc168, hQ168, l168, y168, z168⟩, st168⟩ := X167.virtualBack hx (y := (⟨"com/example/shallow_history/shallowhistory/policy/MethodReference", "equals", "(Ljava/lang/Object;)Z"⟩ : MethodName)) (z := (⟨"com/example/shallow_history/shallowhistory/policy/MethodReference", "equals", "(Ljava/lang/Object;)Z"⟩ : MethodName)) hown (mvT hZ (hw _ (List.mem_of_getElem? (i := 63) rfl))) (mvT hZ (hw _ (List.mem_of_getElem? (i := 64) rfl))) (notFace_of_selects (args := #[]) (mvT hZ (hw _ (List.mem_of_getElem? (i := 66) rfl)))) (mvT hZ (hw _ (List.mem_of_getElem? (i := 66) rfl))) (mvT hZ (hw _ (List.mem_of_getElem? (i := 65) rfl))) (by decide) (backOf (W := 0) (rmmeM l Z ar hw [] b66 b10 r81 (own_n z1) (own_b z1) r97 (own_n z4) (own_b z4) r115 (own_n z7) (own_b z7) r15 (own_n p0) (own_b p0) r21 (own_n p1) (own_b p1) r29 (own_n p2) (own_b p2) w_COMPACT_STRINGS T135.heap n0 F142 F143 F135_0 F139 (own_nlt _) F135_1 F140 (own_nlt _) F135_2 F141 (own_nlt _) F147 F136 (own_nlt _) F148 F137 (own_nlt _) F149 F138 (own_nlt _) hCS S_COMPACT_STRINGS) hZ (hw _ (List.mem_of_getElem? (i := 67) rfl)) (hw _ (List.mem_of_getElem? (i := 2) rfl)) (by decide) (by decide)) q168a q168c (g := (mkF m 221 #[.val (.int p0), .val (.int p1), .val (.int p2), .val (.int p3), .val (.int p4), .val (.int p5), .val (.int z1), .val (.int z4), .val (.int z7), .val (.ref b10), .val (.int (((p3.toUInt32 >>> ((3 : Int32) &&& 31).toUInt32).toInt32) &&& (3 : Int32))), .val (.ref b66), .val (.int (0 : Int32))] [(.ref b10), (.ref b66)])) rfl (by rw [hml]; rfl) (Steps.refl _) (argsL := [(.ref b10)]) (rest := []) (lenOf pd0_2 rfl) rfl (by show 2 * 0 + _ ≤ _; exact Nat.le_of_eq rfl) (hb hby at_221) (fun _ _ => ⟨rfl, e167, (by decide : 50 + 0 ≤ _), (by decide : 374 + 0 ≤ _)⟩)
            dsimp only [Pt.U, Pt.locs, Pt.cells, Pt.slots] at X168 l168 y168 z168 st168 hQ168
            subst l168 y168 z168
            obtain ⟨z168, rfl, hz168, N168q, eq168⟩ := hQ168
            have e168 : T168.heap = T135.heap := eq168
            have N168 := Fr.app N167 N168q
            refine own_goW (fun _ k => st168.trans k) ?_
            show own_EndsW _ _ _ _ _ _ _ _ _ (T168.setTop (mkF m 224 #[.val (.int p0), .val (.int p1), .val (.int p2), .val (.int p3), .val (.int p4), .val (.int p5), .val (.int z1), .val (.int z4), .val (.int z7), .val (.ref b10), .val (.int (((p3.toUInt32 >>> ((3 : Int32) &&& 31).toUInt32).toInt32) &&& (3 : Int32))), .val (.ref b66), .val (.int (0 : Int32))] [(.int z168)]))
            refine own_goW (fun _ k => XS.iload X168.here hx rfl (hb hby at_224) rfl k) ?_
            show own_EndsW _ _ _ _ _ _ _ _ _ (T168.setTop (mkF m 226 #[.val (.int p0), .val (.int p1), .val (.int p2), .val (.int p3), .val (.int p4), .val (.int p5), .val (.int z1), .val (.int z4), .val (.int z7), .val (.ref b10), .val (.int (((p3.toUInt32 >>> ((3 : Int32) &&& 31).toUInt32).toInt32) &&& (3 : Int32))), .val (.ref b66), .val (.int (0 : Int32))] [(.int (0 : Int32)), (.int z168)]))
            refine own_goW (fun _ k => XS.icmpNo X168.here hx rfl (hb hby at_226) rfl (teq (own_ans.no hz168 (fun q => hc159 ((own_key _ _).mp (own_eq.symm q.2.1))))).2 k) ?_
            show own_EndsW _ _ _ _ _ _ _ _ _ (T168.setTop (mkF m 229 #[.val (.int p0), .val (.int p1), .val (.int p2), .val (.int p3), .val (.int p4), .val (.int p5), .val (.int z1), .val (.int z4), .val (.int z7), .val (.ref b10), .val (.int (((p3.toUInt32 >>> ((3 : Int32) &&& 31).toUInt32).toInt32) &&& (3 : Int32))), .val (.ref b66), .val (.int (0 : Int32))] []))
            refine own_goW (fun _ k => XS.iconst X168.here hx rfl (hb hby at_229) k) ?_
            show own_EndsW _ _ _ _ _ _ _ _ _ (T168.setTop (mkF m 230 #[.val (.int p0), .val (.int p1), .val (.int p2), .val (.int p3), .val (.int p4), .val (.int p5), .val (.int z1), .val (.int z4), .val (.int z7), .val (.ref b10), .val (.int (((p3.toUInt32 >>> ((3 : Int32) &&& 31).toUInt32).toInt32) &&& (3 : Int32))), .val (.ref b66), .val (.int (0 : Int32))] [(.int (1 : Int32))]))
            refine own_goW (fun _ k => XS.goto X168.here hx rfl (pc0 := 230) (pc' := 234) rfl (hb hby at_230) (by decide) (by decide) k) ?_
            show own_EndsW _ _ _ _ _ _ _ _ _ (T168.setTop (mkF m 234 #[.val (.int p0), .val (.int p1), .val (.int p2), .val (.int p3), .val (.int p4), .val (.int p5), .val (.int z1), .val (.int z4), .val (.int z7), .val (.ref b10), .val (.int (((p3.toUInt32 >>> ((3 : Int32) &&& 31).toUInt32).toInt32) &&& (3 : Int32))), .val (.ref b66), .val (.int (0 : Int32))] [(.int (1 : Int32))]))
            exact own_retNW X168 hx hlk e168 Wd135 hZ (own_EW hw) (t := .boolean) Bd.returns (by simp) (hb hby at_234) (by decide) (by decide) ⟨rfl, N168⟩
        · refine own_goW (fun _ k => XS.icmpYes X155.here hx rfl (pc0 := 171) (pc' := 202) rfl (hb hby at_171) rfl (feq hc156).2 (by decide) (by decide) k) ?_
          show own_EndsW _ _ _ _ _ _ _ _ _ (T155.setTop (mkF m 202 #[.val (.int p0), .val (.int p1), .val (.int p2), .val (.int p3), .val (.int p4), .val (.int p5), .val (.int z1), .val (.int z4), .val (.int z7), .val (.ref b10), .val (.int (((p3.toUInt32 >>> ((3 : Int32) &&& 31).toUInt32).toInt32) &&& (3 : Int32))), .val (.ref b66), .unset] []))
          refine own_goW (fun _ k => XS.iconst X155.here hx rfl (hb hby at_202) k) ?_
          show own_EndsW _ _ _ _ _ _ _ _ _ (T155.setTop (mkF m 203 #[.val (.int p0), .val (.int p1), .val (.int p2), .val (.int p3), .val (.int p4), .val (.int p5), .val (.int z1), .val (.int z4), .val (.int z7), .val (.ref b10), .val (.int (((p3.toUInt32 >>> ((3 : Int32) &&& 31).toUInt32).toInt32) &&& (3 : Int32))), .val (.ref b66), .unset] [(.int (0 : Int32))]))
          refine own_goW (fun _ k => XS.istore X155.here hx rfl (hb hby at_203) rfl (l' := #[.val (.int p0), .val (.int p1), .val (.int p2), .val (.int p3), .val (.int p4), .val (.int p5), .val (.int z1), .val (.int z4), .val (.int z7), .val (.ref b10), .val (.int (((p3.toUInt32 >>> ((3 : Int32) &&& 31).toUInt32).toInt32) &&& (3 : Int32))), .val (.ref b66), .val (.int (0 : Int32))]) rfl k) ?_
          show own_EndsW _ _ _ _ _ _ _ _ _ (T155.setTop (mkF m 205 #[.val (.int p0), .val (.int p1), .val (.int p2), .val (.int p3), .val (.int p4), .val (.int p5), .val (.int z1), .val (.int z4), .val (.int z7), .val (.ref b10), .val (.int (((p3.toUInt32 >>> ((3 : Int32) &&& 31).toUInt32).toInt32) &&& (3 : Int32))), .val (.ref b66), .val (.int (0 : Int32))] []))
          refine own_goW (fun _ k => XS.aload X155.here hx rfl (hb hby at_205) rfl rfl k) ?_
          show own_EndsW _ _ _ _ _ _ _ _ _ (T155.setTop (mkF m 207 #[.val (.int p0), .val (.int p1), .val (.int p2), .val (.int p3), .val (.int p4), .val (.int p5), .val (.int z1), .val (.int z4), .val (.int z7), .val (.ref b10), .val (.int (((p3.toUInt32 >>> ((3 : Int32) &&& 31).toUInt32).toInt32) &&& (3 : Int32))), .val (.ref b66), .val (.int (0 : Int32))] [(.ref b10)]))
          refine own_goW (fun _ k => XS.aload X155.here hx rfl (hb hby at_207) rfl rfl k) ?_
          show own_EndsW _ _ _ _ _ _ _ _ _ (T155.setTop (mkF m 209 #[.val (.int p0), .val (.int p1), .val (.int p2), .val (.int p3), .val (.int p4), .val (.int p5), .val (.int z1), .val (.int z4), .val (.int z7), .val (.ref b10), .val (.int (((p3.toUInt32 >>> ((3 : Int32) &&& 31).toUInt32).toInt32) &&& (3 : Int32))), .val (.ref b66), .val (.int (0 : Int32))] [(.ref b66), (.ref b10)]))
          obtain ⟨cq169, kq169, q169a, q169b, q169c⟩ := isOf hZ e155 F143
          obtain ⟨_, _, ⟨T169, L169, k169, n169⟩, -, X169, ⟨Lc169, hQ169, l169, y169, z169⟩, st169⟩ := X155.virtualBack hx (y := (⟨"com/example/shallow_history/shallowhistory/policy/MethodReference", "equals", "(Ljava/lang/Object;)Z"⟩ : MethodName)) (z := (⟨"com/example/shallow_history/shallowhistory/policy/MethodReference", "equals", "(Ljava/lang/Object;)Z"⟩ : MethodName)) hown (mvT hZ (hw _ (List.mem_of_getElem? (i := 63) rfl))) (mvT hZ (hw _ (List.mem_of_getElem? (i := 64) rfl))) (notFace_of_selects (args := #[]) (mvT hZ (hw _ (List.mem_of_getElem? (i := 66) rfl)))) (mvT hZ (hw _ (List.mem_of_getElem? (i := 66) rfl))) (mvT hZ (hw _ (List.mem_of_getElem? (i := 65) rfl))) (by decide) (backOf (W := 0) (rmmeM l Z ar hw [] b10 b66 r15 (own_n p0) (own_b p0) r21 (own_n p1) (own_b p1) r29 (own_n p2) (own_b p2) r81 (own_n z1) (own_b z1) r97 (own_n z4) (own_b z4) r115 (own_n z7) (own_b z7) w_COMPACT_STRINGS T135.heap n0 F142 E135_0 F147 F136 (own_nlt _) F148 F137 (own_nlt _) F149 F138 (own_nlt _) F135_0 F139 (own_nlt _) F135_1 F140 (own_nlt _) F135_2 F141 (own_nlt _) hCS S_COMPACT_STRINGS) hZ (hw _ (List.mem_of_getElem? (i := 67) rfl)) (hw _ (List.mem_of_getElem? (i := 2) rfl)) (by decide) (by decide)) q169a q169c (g := (mkF m 209 #[.val (.int p0), .val (.int p1), .val (.int p2), .val (.int p3), .val (.int p4), .val (.int p5), .val (.int z1), .val (.int z4), .val (.int z7), .val (.ref b10), .val (.int (((p3.toUInt32 >>> ((3 : Int32) &&& 31).toUInt32).toInt32) &&& (3 : Int32))), .val (.ref b66), .val (.int (0 : Int32))] [(.ref b66), (.ref b10)])) rfl (by rw [hml]; rfl) (Steps.refl _) (argsL := [(.ref b66)]) (rest := []) (lenOf pd0_2 rfl) rfl (by show 2 * 0 + _ ≤ _; exact Nat.le_of_eq rfl) (hb hby at_209) (fun _ _ => ⟨rfl, e155, (by decide : 50 + 0 ≤ _), (by decide : 374 + 0 ≤ _)⟩)
          dsimp only [Pt.U, Pt.locs, Pt.cells, Pt.slots] at X169 l169 y169 z169 st169 hQ169
          subst l169 y169 z169
          obtain ⟨z169, rfl, hz169, N169q, eq169⟩ := hQ169
          have e169 : T169.heap = T135.heap := eq169
          have N169 := Fr.app N155 N169q
          refine own_goW (fun _ k => st169.trans k) ?_
          show own_EndsW _ _ _ _ _ _ _ _ _ (T169.setTop (mkF m 212 #[.val (.int p0), .val (.int p1), .val (.int p2), .val (.int p3), .val (.int p4), .val (.int p5), .val (.int z1), .val (.int z4), .val (.int z7), .val (.ref b10), .val (.int (((p3.toUInt32 >>> ((3 : Int32) &&& 31).toUInt32).toInt32) &&& (3 : Int32))), .val (.ref b66), .val (.int (0 : Int32))] [(.int z169)]))
          refine own_goW (fun _ k => XS.iload X169.here hx rfl (hb hby at_212) rfl k) ?_
          show own_EndsW _ _ _ _ _ _ _ _ _ (T169.setTop (mkF m 214 #[.val (.int p0), .val (.int p1), .val (.int p2), .val (.int p3), .val (.int p4), .val (.int p5), .val (.int z1), .val (.int z4), .val (.int z7), .val (.ref b10), .val (.int (((p3.toUInt32 >>> ((3 : Int32) &&& 31).toUInt32).toInt32) &&& (3 : Int32))), .val (.ref b66), .val (.int (0 : Int32))] [(.int (0 : Int32)), (.int z169)]))
          refine own_goW (fun _ k => XS.icmpNo X169.here hx rfl (hb hby at_214) rfl (teq (own_ans.no hz169 (fun q => hc156 ((own_key _ _).mp q.1)))).2 k) ?_
          show own_EndsW _ _ _ _ _ _ _ _ _ (T169.setTop (mkF m 217 #[.val (.int p0), .val (.int p1), .val (.int p2), .val (.int p3), .val (.int p4), .val (.int p5), .val (.int z1), .val (.int z4), .val (.int z7), .val (.ref b10), .val (.int (((p3.toUInt32 >>> ((3 : Int32) &&& 31).toUInt32).toInt32) &&& (3 : Int32))), .val (.ref b66), .val (.int (0 : Int32))] []))
          refine own_goW (fun _ k => XS.aload X169.here hx rfl (hb hby at_217) rfl rfl k) ?_
          show own_EndsW _ _ _ _ _ _ _ _ _ (T169.setTop (mkF m 219 #[.val (.int p0), .val (.int p1), .val (.int p2), .val (.int p3), .val (.int p4), .val (.int p5), .val (.int z1), .val (.int z4), .val (.int z7), .val (.ref b10), .val (.int (((p3.toUInt32 >>> ((3 : Int32) &&& 31).toUInt32).toInt32) &&& (3 : Int32))), .val (.ref b66), .val (.int (0 : Int32))] [(.ref b66)]))
          refine own_goW (fun _ k => XS.aload X169.here hx rfl (hb hby at_219) rfl rfl k) ?_
          show own_EndsW _ _ _ _ _ _ _ _ _ (T169.setTop (mkF m 221 #[.val (.int p0), .val (.int p1), .val (.int p2), .val (.int p3), .val (.int p4), .val (.int p5), .val (.int z1), .val (.int z4), .val (.int z7), .val (.ref b10), .val (.int (((p3.toUInt32 >>> ((3 : Int32) &&& 31).toUInt32).toInt32) &&& (3 : Int32))), .val (.ref b66), .val (.int (0 : Int32))] [(.ref b10), (.ref b66)]))
          obtain ⟨cq170, kq170, q170a, q170b, q170c⟩ := isOf hZ e169 E135_0
          obtain ⟨_, _, ⟨T170, L170, k170, n170⟩, -, X170, ⟨Lc170, hQ170, l170, y170, z170⟩, st170⟩ := X169.virtualBack hx (y := (⟨"com/example/shallow_history/shallowhistory/policy/MethodReference", "equals", "(Ljava/lang/Object;)Z"⟩ : MethodName)) (z := (⟨"com/example/shallow_history/shallowhistory/policy/MethodReference", "equals", "(Ljava/lang/Object;)Z"⟩ : MethodName)) hown (mvT hZ (hw _ (List.mem_of_getElem? (i := 63) rfl))) (mvT hZ (hw _ (List.mem_of_getElem? (i := 64) rfl))) (notFace_of_selects (args := #[]) (mvT hZ (hw _ (List.mem_of_getElem? (i := 66) rfl)))) (mvT hZ (hw _ (List.mem_of_getElem? (i := 66) rfl))) (mvT hZ (hw _ (List.mem_of_getElem? (i := 65) rfl))) (by decide) (backOf (W := 0) (rmmeM l Z ar hw [] b66 b10 r81 (own_n z1) (own_b z1) r97 (own_n z4) (own_b z4) r115 (own_n z7) (own_b z7) r15 (own_n p0) (own_b p0) r21 (own_n p1) (own_b p1) r29 (own_n p2) (own_b p2) w_COMPACT_STRINGS T135.heap n0 F142 F143 F135_0 F139 (own_nlt _) F135_1 F140 (own_nlt _) F135_2 F141 (own_nlt _) F147 F136 (own_nlt _) F148 F137 (own_nlt _) F149 F138 (own_nlt _) hCS S_COMPACT_STRINGS) hZ (hw _ (List.mem_of_getElem? (i := 67) rfl)) (hw _ (List.mem_of_getElem? (i := 2) rfl)) (by decide) (by decide)) q170a q170c (g := (mkF m 221 #[.val (.int p0), .val (.int p1), .val (.int p2), .val (.int p3), .val (.int p4), .val (.int p5), .val (.int z1), .val (.int z4), .val (.int z7), .val (.ref b10), .val (.int (((p3.toUInt32 >>> ((3 : Int32) &&& 31).toUInt32).toInt32) &&& (3 : Int32))), .val (.ref b66), .val (.int (0 : Int32))] [(.ref b10), (.ref b66)])) rfl (by rw [hml]; rfl) (Steps.refl _) (argsL := [(.ref b10)]) (rest := []) (lenOf pd0_2 rfl) rfl (by show 2 * 0 + _ ≤ _; exact Nat.le_of_eq rfl) (hb hby at_221) (fun _ _ => ⟨rfl, e169, (by decide : 50 + 0 ≤ _), (by decide : 374 + 0 ≤ _)⟩)
          dsimp only [Pt.U, Pt.locs, Pt.cells, Pt.slots] at X170 l170 y170 z170 st170 hQ170
          subst l170 y170 z170
          obtain ⟨z170, rfl, hz170, N170q, eq170⟩ := hQ170
          have e170 : T170.heap = T135.heap := eq170
          have N170 := Fr.app N169 N170q
          refine own_goW (fun _ k => st170.trans k) ?_
          show own_EndsW _ _ _ _ _ _ _ _ _ (T170.setTop (mkF m 224 #[.val (.int p0), .val (.int p1), .val (.int p2), .val (.int p3), .val (.int p4), .val (.int p5), .val (.int z1), .val (.int z4), .val (.int z7), .val (.ref b10), .val (.int (((p3.toUInt32 >>> ((3 : Int32) &&& 31).toUInt32).toInt32) &&& (3 : Int32))), .val (.ref b66), .val (.int (0 : Int32))] [(.int z170)]))
          refine own_goW (fun _ k => XS.iload X170.here hx rfl (hb hby at_224) rfl k) ?_
          show own_EndsW _ _ _ _ _ _ _ _ _ (T170.setTop (mkF m 226 #[.val (.int p0), .val (.int p1), .val (.int p2), .val (.int p3), .val (.int p4), .val (.int p5), .val (.int z1), .val (.int z4), .val (.int z7), .val (.ref b10), .val (.int (((p3.toUInt32 >>> ((3 : Int32) &&& 31).toUInt32).toInt32) &&& (3 : Int32))), .val (.ref b66), .val (.int (0 : Int32))] [(.int (0 : Int32)), (.int z170)]))
          refine own_goW (fun _ k => XS.icmpNo X170.here hx rfl (hb hby at_226) rfl (teq (own_ans.no hz170 (fun q => hc156 ((own_key _ _).mp (own_eq.symm q.1))))).2 k) ?_
          show own_EndsW _ _ _ _ _ _ _ _ _ (T170.setTop (mkF m 229 #[.val (.int p0), .val (.int p1), .val (.int p2), .val (.int p3), .val (.int p4), .val (.int p5), .val (.int z1), .val (.int z4), .val (.int z7), .val (.ref b10), .val (.int (((p3.toUInt32 >>> ((3 : Int32) &&& 31).toUInt32).toInt32) &&& (3 : Int32))), .val (.ref b66), .val (.int (0 : Int32))] []))
          refine own_goW (fun _ k => XS.iconst X170.here hx rfl (hb hby at_229) k) ?_
          show own_EndsW _ _ _ _ _ _ _ _ _ (T170.setTop (mkF m 230 #[.val (.int p0), .val (.int p1), .val (.int p2), .val (.int p3), .val (.int p4), .val (.int p5), .val (.int z1), .val (.int z4), .val (.int z7), .val (.ref b10), .val (.int (((p3.toUInt32 >>> ((3 : Int32) &&& 31).toUInt32).toInt32) &&& (3 : Int32))), .val (.ref b66), .val (.int (0 : Int32))] [(.int (1 : Int32))]))
          refine own_goW (fun _ k => XS.goto X170.here hx rfl (pc0 := 230) (pc' := 234) rfl (hb hby at_230) (by decide) (by decide) k) ?_
          show own_EndsW _ _ _ _ _ _ _ _ _ (T170.setTop (mkF m 234 #[.val (.int p0), .val (.int p1), .val (.int p2), .val (.int p3), .val (.int p4), .val (.int p5), .val (.int z1), .val (.int z4), .val (.int z7), .val (.ref b10), .val (.int (((p3.toUInt32 >>> ((3 : Int32) &&& 31).toUInt32).toInt32) &&& (3 : Int32))), .val (.ref b66), .val (.int (0 : Int32))] [(.int (1 : Int32))]))
          exact own_retNW X170 hx hlk e170 Wd135 hZ (own_EW hw) (t := .boolean) Bd.returns (by simp) (hb hby at_234) (by decide) (by decide) ⟨rfl, N170⟩
set_option maxRecDepth 65536 in
set_option maxHeartbeats 40000000 in
theorem comes_1 {Post : Tables → Env → Array Value → State → Outcome → State → Prop} (hpost : ∀ tb e args s v u, (limb_1_1.after args s (.returned v) u = true ∧ limb_1_2.after args s (.returned v) u = true ∧ True) → ReturnedEndW s (.returned v) u (Jvm.fieldLocs frame_1_writes args s ++ Jvm.arrayLocs frame_1_arrays args s ++ Jvm.staticLocs frame_1_statics s) 56 4352 → Post tb e args s (.returned v) u) :
    ArmFor flags0 classFile x code maxLocals ret World_1 tables_1 room_1 Calls_1 rest_1 Pre_1 Post := by
  intro l hfl _ _ p e ha hc hk s m args below hf hA hF happ hP
  obtain ⟨hcalls, hrest, hpre⟩ := hP
  obtain ⟨-, -, -, hnamed, -, -, -, hat⟩ := (Spec.applies_iff hf).mp happ
  obtain ⟨hg, hn⟩ := and_e (Cond.before_iff.mp (show (Jvm.Cond.and given_1 narrow_1).before args s = true from hpre))
  obtain ⟨hcount, hg0⟩ := and_e hg
  obtain ⟨ga0, hg1⟩ := and_e hg0
  obtain ⟨ga1, hg2⟩ := and_e hg1
  obtain ⟨ga2, hg3⟩ := and_e hg2
  obtain ⟨ga3, hg4⟩ := and_e hg3
  obtain ⟨ga4, hg5⟩ := and_e hg4
  obtain ⟨w0, w1, w2, w3, w4, w5, rfl⟩ : ∃ w0 w1 w2 w3 w4 w5 : Value, args = #[w0, w1, w2, w3, w4, w5] := by
    have hs : args.size = 6 := by simpa [Cond.value, given_1] using hcount
    obtain ⟨L⟩ := args
    match L, hs with
    | [w0, w1, w2, w3, w4, w5], _ => exact ⟨w0, w1, w2, w3, w4, w5, rfl⟩
  have hw := fun d (hd : d ∈ tables_1) => atoms_spec (ws := Jvm.Cond.code x code maxLocals ret :: tables_1) hat d (List.mem_cons_of_mem _ hd)
  have hfit : Fit s := fun {y c} hc i hi => by
    obtain ⟨ha, rfl⟩ := Array.getElem?_eq_some_iff.mp hc
    have q := List.all_eq_true.mp ((Array.all_eq_true_iff_forall_mem.mp hF) _ (Array.getElem_mem ha)) i (List.mem_range.mpr hi)
    simpa [Array.getElem?_eq_getElem hi] using q
  obtain ⟨hsets, hown0⟩ := atoms_of _ (rest_1_c_eq ▸ (show rest_1_c.before _ s = true from hrest))
  have hr0 := Cond.before_iff.mp hown0
  obtain ⟨p0, ei0⟩ := is_v ga0
  obtain rfl : w0 = (.int p0) := Option.some.inj ei0
  obtain ⟨p1, ei1⟩ := is_v ga1
  obtain rfl : w1 = (.int p1) := Option.some.inj ei1
  obtain ⟨p2, ei2⟩ := is_v ga2
  obtain rfl : w2 = (.int p2) := Option.some.inj ei2
  obtain ⟨p3, ei3⟩ := is_v ga3
  obtain rfl : w3 = (.int p3) := Option.some.inj ei3
  obtain ⟨p4, ei4⟩ := is_v ga4
  obtain rfl : w4 = (.int p4) := Option.some.inj ei4
  obtain ⟨p5, ei5⟩ := is_v hg5
  obtain rfl : w5 = (.int p5) := Option.some.inj ei5
  obtain ⟨w_COMPACT_STRINGS, ev_CS⟩ := is_v (Cond.before_iff.mp (hsets _ (List.mem_of_getElem? (i := 1) rfl)))
  have S_COMPACT_STRINGS : Sta s s.heap "java/lang/String" "COMPACT_STRINGS" "Z" (.int w_COMPACT_STRINGS) := Sta.start ev_CS (Or.inl (hsets _ (List.mem_of_getElem? (i := 0) rfl)))
  have hCS : ¬ w_COMPACT_STRINGS = (0 : Int32) := gotF (Cond.eq_ints ev_CS (rfl : (Jvm.Term.int (0 : Int32)).eval _ s none [] s = some (.int 0))) (not_v (Cond.before_iff.mp (hsets _ (List.mem_of_getElem? (i := 2) rfl))))
  obtain ⟨n, o, h1, h2, h3, _, L, rfl, ⟨rfl, N⟩, -, hq⟩ := rm0 l s _ hw tables_1 p0 p1 p2 p3 p4 p5 w_COMPACT_STRINGS s.heap s.heap.size (Old.start s) hCS S_COMPACT_STRINGS p e ha hc hk s m _ below hf ((Spec.applies_iff_loose hf).mp happ).1 ⟨rfl, State.Warmed39.refl s, rfl, (CHv.start (own_EW hw) (fun q hq => hcalls.1 q hq) (hsets _ (List.mem_of_getElem? (i := 2) rfl)) (hw _ (List.mem_of_getElem? (i := 22) rfl)) (hw _ (List.mem_of_getElem? (i := 8) rfl)))⟩ trivial
  refine ⟨n, _, h1, h2, h3, hpost _ _ _ _ _ _ ⟨Cond.after_iff.mpr rfl, Cond.after_iff.mpr (eq_i res_at (Term.int_eval (1)) rfl), trivial⟩ ⟨hq.1, hq.2.1, hq.2.2.1, (hq.2.2.2.sift fun y hy => Or.inr (N y hy)).mono (by decide) (by decide)⟩⟩
theorem main_1_1 : Claimed_1_1 := comes_1 fun _ _ _ _ _ _ h hF => ⟨h.1, hF⟩
theorem main_1_2 : Claimed_1_2 := comes_1 fun _ _ _ _ _ _ h hF => ⟨h.2.1, hF⟩
end Jvm.Pilot.@@N@@
namespace Jvm.Pilot.@@N@@
open Jvm Jvm.ClassFile Sem Op Lib Jvm.Free Jvm.Stand Jvm.Pilot.@@N@@.Jvm.D
/-! MADE BY PROGRAM (witnessworld.py) out of the Statement's table words and the real class files: 21 classes; the members and pool entries that the words name. The judged class is class 1, her method 3. -/
namespace start1
open Jvm.ClassFile
def u (s : String) : CpInfo := .utf8 (stringToUtf16 s)
/-- a pool by its gaps: so many unusable entries, then the entry; so many at the end -/
def gap : Nat → List CpInfo → List CpInfo
  | 0, r => r
  | n + 1, r => .unusable :: gap n r
def poolList (es : List (Nat × CpInfo)) (last : Nat) : List CpInfo := es.foldr (fun e r => gap e.1 (e.2 :: r)) (gap last [])
def pool (es : List (Nat × CpInfo)) (last : Nat) : Array CpInfo := ⟨poolList es last⟩
def fileOf (pool : Array CpInfo) (this : Nat) (attrs : Array Attribute := #[]) (ms : Array MethodInfo := #[]) (fl : Nat := 33) (sup : Nat := 0) (ifs : Array Nat := #[]) (fds : Array FieldInfo := #[]) : ClassFile where
  minorVersion := 0
  majorVersion := 65
  constantPool := pool
  accessFlags := fl
  thisClass := this
  superClass := sup
  interfaces := ifs
  fields := fds
  methods := ms
  attributes := attrs
def plain (name : String) (sup : Option ClassId) : Class where
  name := name
  kind := .ordinary
  loader := none
  accessFlags := 33
  super := sup
  interfaces := #[]
  cf := none
  fields := #[]
  methods := #[]
  instanceTypes := #[]
  staticTypes := #[]
  resolved := #[]
  callSites := []
  init := .initialized
  statics := none
  mirror := none

def pool0 : Array CpInfo := pool [(5, u "<init>"), (0, u "()V"), (1, .class_ 10), (1, u "java/lang/Object")] 113

def k0c0 : Code := { maxStack := 0, maxLocals := 1, code := object_method_1_code, exceptionTable := #[], attributes := #[] }
def k0m0 : Method := { name := "<init>", desc := "()V", sig := { parameters := [], returnType := none }, accessFlags := 1, code := some k0c0 }
/-- java/lang/Object -/
def k0 : Class := { plain "java/lang/Object" none with
  accessFlags := 33
  interfaces := #[]
  cf := some (fileOf pool0 8 #[] #[{ accessFlags := 1, nameIndex := 5, descriptorIndex := 6, attributes := #[] }] 33 0 #[] #[])
  fields := #[]
  methods := #[k0m0]
  instanceTypes := #[]
  staticTypes := #[]
  resolved := Array.replicate 124 none
  statics := none }

def pool1 : Array CpInfo := pool [(2, .class_ 4), (1, u "java/lang/Object"), (0, u "<init>"), (0, u "()V"), (0, .class_ 8), (0, u "java/lang/String"), (0, .methodref 7 10), (0, .nameAndType 5 11), (0, u "([C)V"), (0, .integer 262143), (0, .integer 67108863), (0, .class_ 15), (0, u "com/example/shallow_history/shallowhistory/policy/MethodReference"), (0, .methodref 17 18), (0, .class_ 19), (0, .nameAndType 20 21), (0, u "com/example/shallow_history/shallowhistory/policy/MethodReferenceEqualsPinLaw"), (0, u "str"), (0, u "(I)Ljava/lang/String;"), (0, .methodref 14 23), (0, .nameAndType 5 24), (0, u "(Ljava/lang/String;Ljava/lang/String;Ljava/lang/String;)V"), (0, .methodref 14 26), (0, .nameAndType 27 28), (0, u "equals"), (0, u "(Ljava/lang/Object;)Z"), (0, .methodref 17 30), (0, .nameAndType 31 32), (0, u "key"), (0, u "(I)I"), (3, u "law"), (0, u "(IIIIII)Z")] 2

def k1m0 : Method := { name := "<init>", desc := "()V", sig := { parameters := [], returnType := none }, accessFlags := 1, code := none }
def k1c1 : Code := { maxStack := 6, maxLocals := 5, code := method_2_code, exceptionTable := #[], attributes := #[] }
def k1m1 : Method := { name := "str", desc := "(I)Ljava/lang/String;", sig := { parameters := [.int], returnType := some (.object "java/lang/String") }, accessFlags := 10, code := some k1c1 }
def k1c2 : Code := { maxStack := 2, maxLocals := 2, code := method_3_code, exceptionTable := #[], attributes := #[] }
def k1m2 : Method := { name := "key", desc := "(I)I", sig := { parameters := [.int], returnType := some .int }, accessFlags := 10, code := some k1c2 }
def k1c3 : Code := { maxStack := 5, maxLocals := 13, code := code, exceptionTable := #[], attributes := #[] }
def k1m3 : Method := { name := "law", desc := "(IIIIII)Z", sig := { parameters := [.int, .int, .int, .int, .int, .int], returnType := some .boolean }, accessFlags := 9, code := some k1c3 }
/-- com/example/shallow_history/shallowhistory/policy/MethodReferenceEqualsPinLaw -/
def k1 : Class := { plain "com/example/shallow_history/shallowhistory/policy/MethodReferenceEqualsPinLaw" (some 0) with
  accessFlags := 49
  interfaces := #[]
  cf := some (fileOf pool1 17 #[] #[{ accessFlags := 1, nameIndex := 5, descriptorIndex := 6, attributes := #[] }, { accessFlags := 10, nameIndex := 20, descriptorIndex := 21, attributes := #[] }, { accessFlags := 10, nameIndex := 31, descriptorIndex := 32, attributes := #[] }, { accessFlags := 9, nameIndex := 36, descriptorIndex := 37, attributes := #[] }] 49 2 #[] #[])
  fields := #[]
  methods := #[k1m0, k1m1, k1m2, k1m3]
  instanceTypes := #[]
  staticTypes := #[]
  resolved := Array.replicate 40 none
  statics := none }

def pool2 : Array CpInfo := pool [(1, .class_ 2), (0, u "com/example/shallow_history/shallowhistory/policy/MethodReference"), (0, .methodref 4 5), (0, .class_ 6), (0, .nameAndType 7 8), (0, u "java/lang/Object"), (0, u "<init>"), (0, u "()V"), (0, .string 10), (0, u "Null owner"), (0, .methodref 12 13), (0, .class_ 14), (0, .nameAndType 15 16), (0, u "java/util/Objects"), (0, u "requireNonNull"), (0, u "(Ljava/lang/Object;Ljava/lang/String;)Ljava/lang/Object;"), (0, .class_ 18), (0, u "java/lang/String"), (0, .fieldref 1 20), (0, .nameAndType 21 22), (0, u "owner"), (0, u "Ljava/lang/String;"), (0, .string 24), (0, u "Null name"), (0, .fieldref 1 26), (0, .nameAndType 27 22), (0, u "name"), (0, .string 29), (0, u "Null descriptor"), (0, .fieldref 1 31), (0, .nameAndType 32 22), (0, u "descriptor"), (33, u "(Ljava/lang/String;Ljava/lang/String;Ljava/lang/String;)V"), (12, .methodref 17 80), (0, .nameAndType 81 82), (0, u "equals"), (0, u "(Ljava/lang/Object;)Z"), (56, u "STATIC_INITIALIZER"), (1, u "NOT_IN_CLASS_NAME"), (0, u "NOT_IN_METHOD_NAME")] 40

def k2c0 : Code := { maxStack := 3, maxLocals := 4, code := prog_20_method_1_code, exceptionTable := #[], attributes := #[] }
def k2m0 : Method := { name := "<init>", desc := "(Ljava/lang/String;Ljava/lang/String;Ljava/lang/String;)V", sig := { parameters := [(.object "java/lang/String"), (.object "java/lang/String"), (.object "java/lang/String")], returnType := none }, accessFlags := 1, code := some k2c0 }
def k2c1 : Code := { maxStack := 2, maxLocals := 3, code := prog_20_method_7_code, exceptionTable := #[], attributes := #[] }
def k2m1 : Method := { name := "equals", desc := "(Ljava/lang/Object;)Z", sig := { parameters := [(.object "java/lang/Object")], returnType := some .boolean }, accessFlags := 1, code := some k2c1 }
/-- com/example/shallow_history/shallowhistory/policy/MethodReference -/
def k2 : Class := { plain "com/example/shallow_history/shallowhistory/policy/MethodReference" (some 0) with
  accessFlags := 33
  interfaces := #[]
  cf := some (fileOf pool2 1 #[] #[{ accessFlags := 1, nameIndex := 7, descriptorIndex := 66, attributes := #[] }, { accessFlags := 1, nameIndex := 81, descriptorIndex := 82, attributes := #[] }] 33 4 #[] #[{ accessFlags := 24, nameIndex := 139, descriptorIndex := 22, attributes := #[] }, { accessFlags := 26, nameIndex := 141, descriptorIndex := 22, attributes := #[] }, { accessFlags := 26, nameIndex := 142, descriptorIndex := 22, attributes := #[] }, { accessFlags := 18, nameIndex := 21, descriptorIndex := 22, attributes := #[] }, { accessFlags := 18, nameIndex := 27, descriptorIndex := 22, attributes := #[] }, { accessFlags := 18, nameIndex := 32, descriptorIndex := 22, attributes := #[] }])
  fields := #[{ name := "STATIC_INITIALIZER", type := (.object "java/lang/String"), accessFlags := 24, slot := 0, constantValue := 0 }, { name := "NOT_IN_CLASS_NAME", type := (.object "java/lang/String"), accessFlags := 26, slot := 1, constantValue := 0 }, { name := "NOT_IN_METHOD_NAME", type := (.object "java/lang/String"), accessFlags := 26, slot := 2, constantValue := 0 }, { name := "owner", type := (.object "java/lang/String"), accessFlags := 18, slot := 0, constantValue := 0 }, { name := "name", type := (.object "java/lang/String"), accessFlags := 18, slot := 1, constantValue := 0 }, { name := "descriptor", type := (.object "java/lang/String"), accessFlags := 18, slot := 2, constantValue := 0 }]
  methods := #[k2m0, k2m1]
  instanceTypes := #[(.object "java/lang/String"), (.object "java/lang/String"), (.object "java/lang/String")]
  staticTypes := #[(.object "java/lang/String"), (.object "java/lang/String"), (.object "java/lang/String")]
  resolved := Array.replicate 183 none
  statics := none }

def pool3 : Array CpInfo := pool [(1, .class_ 2), (0, u "java/io/Serializable"), (0, .class_ 4), (0, u "java/lang/Object")] 2

/-- java/io/Serializable -/
def k3 : Class := { plain "java/io/Serializable" (some 0) with
  accessFlags := 1537
  interfaces := #[]
  cf := some (fileOf pool3 1 #[] #[] 1537 3 #[] #[])
  fields := #[]
  methods := #[]
  instanceTypes := #[]
  staticTypes := #[]
  resolved := Array.replicate 7 none
  statics := none }

def pool4 : Array CpInfo := pool [(1, .class_ 2), (0, u "java/lang/Comparable"), (0, .class_ 4), (0, u "java/lang/Object")] 7

/-- java/lang/Comparable -/
def k4 : Class := { plain "java/lang/Comparable" (some 0) with
  accessFlags := 1537
  interfaces := #[]
  cf := some (fileOf pool4 1 #[] #[] 1537 3 #[] #[])
  fields := #[]
  methods := #[]
  instanceTypes := #[]
  staticTypes := #[]
  resolved := Array.replicate 12 none
  statics := none }

def pool5 : Array CpInfo := pool [(2, .class_ 4), (1, u "java/lang/CharSequence"), (42, .class_ 48), (0, u "java/lang/CharSequence$1CodePointIterator"), (10, .class_ 60), (0, u "java/lang/CharSequence$1CharIterator"), (5, .class_ 67), (0, u "java/lang/Object")] 63

/-- java/lang/CharSequence -/
def k5 : Class := { plain "java/lang/CharSequence" (some 0) with
  accessFlags := 1537
  interfaces := #[]
  cf := some (fileOf pool5 2 #[.nestMembers #[47, 59]] #[] 1537 66 #[] #[])
  fields := #[]
  methods := #[]
  instanceTypes := #[]
  staticTypes := #[]
  resolved := Array.replicate 131 none
  statics := none }

def pool6 : Array CpInfo := pool [(1, .class_ 2), (0, u "java/lang/constant/Constable"), (0, .class_ 4), (0, u "java/lang/Object")] 6

/-- java/lang/constant/Constable -/
def k6 : Class := { plain "java/lang/constant/Constable" (some 0) with
  accessFlags := 1537
  interfaces := #[]
  cf := some (fileOf pool6 1 #[] #[] 1537 3 #[] #[])
  fields := #[]
  methods := #[]
  instanceTypes := #[]
  staticTypes := #[]
  resolved := Array.replicate 11 none
  statics := none }

def pool7 : Array CpInfo := pool [(1, .class_ 2), (0, u "java/lang/constant/ConstantDesc"), (0, .class_ 4), (0, u "java/lang/Object")] 32

/-- java/lang/constant/ConstantDesc -/
def k7 : Class := { plain "java/lang/constant/ConstantDesc" (some 0) with
  accessFlags := 1537
  interfaces := #[]
  cf := some (fileOf pool7 1 #[] #[] 1537 3 #[] #[])
  fields := #[]
  methods := #[]
  instanceTypes := #[]
  staticTypes := #[]
  resolved := Array.replicate 37 none
  statics := none }

def pool8 : Array CpInfo := pool [(1, .methodref 2 3), (0, .class_ 4), (0, .nameAndType 5 6), (0, u "java/lang/Object"), (0, u "<init>"), (0, u "()V"), (0, .string 8), (0, u ""), (0, .fieldref 10 11), (0, .class_ 12), (0, .nameAndType 13 14), (0, u "java/lang/String"), (0, u "value"), (0, u "[B"), (0, .fieldref 10 16), (0, .nameAndType 17 18), (0, u "coder"), (0, u "B"), (2, u "hash"), (0, u "I"), (2, u "hashIsZero"), (0, u "Z"), (0, .methodref 10 28), (0, .nameAndType 5 29), (0, u "([CIILjava/lang/Void;)V"), (8, .fieldref 10 39), (0, .nameAndType 40 26), (0, u "COMPACT_STRINGS"), (1, .class_ 44), (1, u "java/lang/StringUTF16"), (0, u "compress"), (1, .methodref 42 48), (0, .nameAndType 49 50), (0, u "coderFromArrayLen"), (0, u "([BI)B"), (56, .class_ 109), (1, u "java/lang/StringLatin1"), (67, .methodref 42 178), (0, .nameAndType 45 179), (0, u "([CII)[B"), (361, .methodref 107 542), (0, .nameAndType 543 544), (0, u "equals"), (0, u "([B[B)Z"), (28, u "(Ljava/lang/Object;)Z"), (1, .class_ 576), (0, u "java/lang/CharSequence"), (22, u "CASE_INSENSITIVE_ORDER"), (0, u "Ljava/util/Comparator;"), (409, u "([C)V"), (90, u "serialPersistentFields"), (0, u "[Ljava/io/ObjectStreamField;"), (0, .class_ 1104), (0, u "java/lang/String$CaseInsensitiveComparator"), (1, .class_ 1107), (0, u "java/io/Serializable"), (0, .class_ 1109), (0, u "java/lang/Comparable"), (0, .class_ 1111), (0, u "java/lang/constant/Constable"), (0, .class_ 1113), (0, u "java/lang/constant/ConstantDesc"), (2, u "serialVersionUID"), (0, u "J"), (3, u "REPL"), (0, u "C"), (2, u "LATIN1"), (1, u "UTF16")] 323

def k8m0 : Method := { name := "<init>", desc := "()V", sig := { parameters := [], returnType := none }, accessFlags := 1, code := none }
def k8c1 : Code := { maxStack := 5, maxLocals := 2, code := jdk_42_method_3_code, exceptionTable := #[], attributes := #[] }
def k8m1 : Method := { name := "<init>", desc := "([C)V", sig := { parameters := [(.array .char)], returnType := none }, accessFlags := 1, code := some k8c1 }
def k8c2 : Code := { maxStack := 2, maxLocals := 3, code := jdk_42_method_66_code, exceptionTable := #[], attributes := #[] }
def k8m2 : Method := { name := "equals", desc := "(Ljava/lang/Object;)Z", sig := { parameters := [(.object "java/lang/Object")], returnType := some .boolean }, accessFlags := 1, code := some k8c2 }
def k8c3 : Code := { maxStack := 4, maxLocals := 6, code := jdk_42_method_149_code, exceptionTable := #[], attributes := #[] }
def k8m3 : Method := { name := "<init>", desc := "([CIILjava/lang/Void;)V", sig := { parameters := [(.array .char), .int, .int, (.object "java/lang/Void")], returnType := none }, accessFlags := 2, code := some k8c3 }
/-- java/lang/String -/
def k8 : Class := { plain "java/lang/String" (some 0) with
  accessFlags := 49
  interfaces := #[3, 4, 5, 6, 7]
  cf := some (fileOf pool8 10 #[.nestMembers #[1103]] #[{ accessFlags := 1, nameIndex := 5, descriptorIndex := 6, attributes := #[] }, { accessFlags := 1, nameIndex := 5, descriptorIndex := 1010, attributes := #[] }, { accessFlags := 1, nameIndex := 543, descriptorIndex := 573, attributes := #[] }, { accessFlags := 2, nameIndex := 5, descriptorIndex := 29, attributes := #[] }] 49 2 #[1106, 1108, 575, 1110, 1112] #[{ accessFlags := 18, nameIndex := 13, descriptorIndex := 14, attributes := #[] }, { accessFlags := 18, nameIndex := 17, descriptorIndex := 18, attributes := #[] }, { accessFlags := 2, nameIndex := 21, descriptorIndex := 22, attributes := #[] }, { accessFlags := 2, nameIndex := 25, descriptorIndex := 26, attributes := #[] }, { accessFlags := 26, nameIndex := 1116, descriptorIndex := 1117, attributes := #[] }, { accessFlags := 24, nameIndex := 40, descriptorIndex := 26, attributes := #[] }, { accessFlags := 26, nameIndex := 1101, descriptorIndex := 1102, attributes := #[] }, { accessFlags := 26, nameIndex := 1121, descriptorIndex := 1122, attributes := #[] }, { accessFlags := 25, nameIndex := 599, descriptorIndex := 600, attributes := #[] }, { accessFlags := 24, nameIndex := 1125, descriptorIndex := 18, attributes := #[] }, { accessFlags := 24, nameIndex := 1127, descriptorIndex := 18, attributes := #[] }])
  fields := #[{ name := "value", type := (.array .byte), accessFlags := 18, slot := 0, constantValue := 0 }, { name := "coder", type := .byte, accessFlags := 18, slot := 1, constantValue := 0 }, { name := "hash", type := .int, accessFlags := 2, slot := 2, constantValue := 0 }, { name := "hashIsZero", type := .boolean, accessFlags := 2, slot := 3, constantValue := 0 }, { name := "serialVersionUID", type := .long, accessFlags := 26, slot := 0, constantValue := 0 }, { name := "COMPACT_STRINGS", type := .boolean, accessFlags := 24, slot := 1, constantValue := 0 }, { name := "serialPersistentFields", type := (.array (.object "java/io/ObjectStreamField")), accessFlags := 26, slot := 2, constantValue := 0 }, { name := "REPL", type := .char, accessFlags := 26, slot := 3, constantValue := 0 }, { name := "CASE_INSENSITIVE_ORDER", type := (.object "java/util/Comparator"), accessFlags := 25, slot := 4, constantValue := 0 }, { name := "LATIN1", type := .byte, accessFlags := 24, slot := 5, constantValue := 0 }, { name := "UTF16", type := .byte, accessFlags := 24, slot := 6, constantValue := 0 }]
  methods := #[k8m0, k8m1, k8m2, k8m3]
  instanceTypes := #[(.array .byte), .byte, .int, .boolean]
  staticTypes := #[.long, .boolean, (.array (.object "java/io/ObjectStreamField")), .char, (.object "java/util/Comparator"), .byte, .byte]
  resolved := Array.replicate 1451 none
  statics := some 0 }

def pool9 : Array CpInfo := pool [(6, .class_ 8), (1, u "java/lang/Object"), (0, u "<init>"), (0, u "()V"), (1, .class_ 14), (1, u "java/lang/StringUTF16"), (31, u "$assertionsDisabled"), (0, u "Z"), (13, u "HI_BYTE_SHIFT"), (0, u "I"), (2, u "LO_BYTE_SHIFT"), (49, .methodref 12 116), (0, .nameAndType 117 118), (0, u "compress"), (0, u "([CI[BII)I"), (3, u "([CII)[B"), (138, u "coderFromArrayLen"), (0, u "([BI)B"), (106, .class_ 371), (1, u "java/lang/StringUTF16$LinesSpliterator"), (58, u "MAX_LENGTH"), (196, .class_ 628), (0, u "java/lang/StringUTF16$CodePointsSpliterator"), (0, .class_ 630), (0, u "java/lang/StringUTF16$CharsSpliterator")] 4

def k9m0 : Method := { name := "<init>", desc := "()V", sig := { parameters := [], returnType := none }, accessFlags := 0, code := none }
def k9c1 : Code := { maxStack := 2, maxLocals := 2, code := jdk_52_method_15_code, exceptionTable := #[], attributes := #[] }
def k9m1 : Method := { name := "coderFromArrayLen", desc := "([BI)B", sig := { parameters := [(.array .byte), .int], returnType := some .byte }, accessFlags := 8, code := some k9c1 }
def k9c2 : Code := { maxStack := 5, maxLocals := 6, code := jdk_52_method_16_code, exceptionTable := #[], attributes := #[] }
def k9m2 : Method := { name := "compress", desc := "([CII)[B", sig := { parameters := [(.array .char), .int, .int], returnType := some (.array .byte) }, accessFlags := 9, code := some k9c2 }
def k9c3 : Code := { maxStack := 3, maxLocals := 7, code := jdk_52_method_21_code, exceptionTable := #[], attributes := #[] }
def k9m3 : Method := { name := "compress", desc := "([CI[BII)I", sig := { parameters := [(.array .char), .int, (.array .byte), .int, .int], returnType := some .int }, accessFlags := 9, code := some k9c3 }
/-- java/lang/StringUTF16 -/
def k9 : Class := { plain "java/lang/StringUTF16" (some 0) with
  accessFlags := 48
  interfaces := #[]
  cf := some (fileOf pool9 12 #[.nestMembers #[627, 629, 369]] #[{ accessFlags := 0, nameIndex := 9, descriptorIndex := 10, attributes := #[] }, { accessFlags := 8, nameIndex := 261, descriptorIndex := 262, attributes := #[] }, { accessFlags := 9, nameIndex := 117, descriptorIndex := 122, attributes := #[] }, { accessFlags := 9, nameIndex := 117, descriptorIndex := 118, attributes := #[] }] 48 6 #[] #[{ accessFlags := 26, nameIndex := 61, descriptorIndex := 62, attributes := #[] }, { accessFlags := 26, nameIndex := 65, descriptorIndex := 62, attributes := #[] }, { accessFlags := 24, nameIndex := 430, descriptorIndex := 62, attributes := #[] }, { accessFlags := 4120, nameIndex := 46, descriptorIndex := 47, attributes := #[] }])
  fields := #[{ name := "HI_BYTE_SHIFT", type := .int, accessFlags := 26, slot := 0, constantValue := 0 }, { name := "LO_BYTE_SHIFT", type := .int, accessFlags := 26, slot := 1, constantValue := 0 }, { name := "MAX_LENGTH", type := .int, accessFlags := 24, slot := 2, constantValue := 0 }, { name := "$assertionsDisabled", type := .boolean, accessFlags := 4120, slot := 3, constantValue := 0 }]
  methods := #[k9m0, k9m1, k9m2, k9m3]
  instanceTypes := #[]
  staticTypes := #[.int, .int, .int, .boolean]
  resolved := Array.replicate 635 none
  statics := none }

def pool10 : Array CpInfo := pool [(2, .class_ 4), (1, u "java/lang/Object"), (0, u "<init>"), (0, u "()V"), (35, .class_ 44), (1, u "java/util/Objects"), (0, u "requireNonNull"), (48, u "(Ljava/lang/Object;Ljava/lang/String;)Ljava/lang/Object;")] 89

def k10m0 : Method := { name := "<init>", desc := "()V", sig := { parameters := [], returnType := none }, accessFlags := 2, code := none }
def k10c1 : Code := { maxStack := 3, maxLocals := 2, code := jdk_31_method_11_code, exceptionTable := #[], attributes := #[] }
def k10m1 : Method := { name := "requireNonNull", desc := "(Ljava/lang/Object;Ljava/lang/String;)Ljava/lang/Object;", sig := { parameters := [(.object "java/lang/Object"), (.object "java/lang/String")], returnType := some (.object "java/lang/Object") }, accessFlags := 9, code := some k10c1 }
/-- java/util/Objects -/
def k10 : Class := { plain "java/util/Objects" (some 0) with
  accessFlags := 49
  interfaces := #[]
  cf := some (fileOf pool10 42 #[] #[{ accessFlags := 2, nameIndex := 5, descriptorIndex := 6, attributes := #[] }, { accessFlags := 9, nameIndex := 45, descriptorIndex := 94, attributes := #[] }] 49 2 #[] #[])
  fields := #[]
  methods := #[k10m0, k10m1]
  instanceTypes := #[]
  staticTypes := #[]
  resolved := Array.replicate 184 none
  statics := none }

def pool11 : Array CpInfo := pool [(4, .class_ 6), (1, u "java/lang/Object"), (0, u "<init>"), (0, u "()V"), (5, .class_ 16), (1, u "java/lang/StringLatin1"), (104, u "$assertionsDisabled"), (0, u "Z"), (98, .class_ 223), (1, u "java/lang/StringLatin1$LinesSpliterator"), (57, u "equals"), (0, u "([B[B)Z"), (107, .class_ 391), (0, u "java/lang/StringLatin1$CharsSpliterator")] 3

def k11m0 : Method := { name := "<init>", desc := "()V", sig := { parameters := [], returnType := none }, accessFlags := 0, code := none }
def k11c1 : Code := { maxStack := 3, maxLocals := 3, code := jdk_43_method_13_code, exceptionTable := #[], attributes := #[] }
def k11m1 : Method := { name := "equals", desc := "([B[B)Z", sig := { parameters := [(.array .byte), (.array .byte)], returnType := some .boolean }, accessFlags := 9, code := some k11c1 }
/-- java/lang/StringLatin1 -/
def k11 : Class := { plain "java/lang/StringLatin1" (some 0) with
  accessFlags := 48
  interfaces := #[]
  cf := some (fileOf pool11 14 #[.nestMembers #[390, 221]] #[{ accessFlags := 0, nameIndex := 7, descriptorIndex := 8, attributes := #[] }, { accessFlags := 9, nameIndex := 281, descriptorIndex := 282, attributes := #[] }] 48 4 #[] #[{ accessFlags := 4120, nameIndex := 121, descriptorIndex := 122, attributes := #[] }])
  fields := #[{ name := "$assertionsDisabled", type := .boolean, accessFlags := 4120, slot := 0, constantValue := 0 }]
  methods := #[k11m0, k11m1]
  instanceTypes := #[]
  staticTypes := #[.boolean]
  resolved := Array.replicate 395 none
  statics := none }

def pool12 : Array CpInfo := pool [(2, .class_ 4), (1, u "java/lang/Object"), (0, u "<init>"), (0, u "()V"), (17, .class_ 26), (1, u "jdk/internal/util/Preconditions"), (28, .class_ 56), (0, u "jdk/internal/util/Preconditions$4"), (57, .class_ 115), (0, u "jdk/internal/util/Preconditions$1"), (7, u "SIOOBE_FORMATTER"), (0, u "Ljava/util/function/BiFunction;"), (0, .class_ 126), (0, u "jdk/internal/util/Preconditions$2"), (3, u "AIOOBE_FORMATTER"), (0, .class_ 132), (0, u "jdk/internal/util/Preconditions$3"), (3, u "IOOBE_FORMATTER")] 57

def k12m0 : Method := { name := "<init>", desc := "()V", sig := { parameters := [], returnType := none }, accessFlags := 1, code := none }
/-- jdk/internal/util/Preconditions -/
def k12 : Class := { plain "jdk/internal/util/Preconditions" (some 0) with
  accessFlags := 33
  interfaces := #[]
  cf := some (fileOf pool12 24 #[.nestMembers #[55, 131, 125, 114]] #[{ accessFlags := 1, nameIndex := 5, descriptorIndex := 6, attributes := #[] }] 33 2 #[] #[{ accessFlags := 25, nameIndex := 123, descriptorIndex := 124, attributes := #[] }, { accessFlags := 25, nameIndex := 130, descriptorIndex := 124, attributes := #[] }, { accessFlags := 25, nameIndex := 136, descriptorIndex := 124, attributes := #[] }])
  fields := #[{ name := "SIOOBE_FORMATTER", type := (.object "java/util/function/BiFunction"), accessFlags := 25, slot := 0, constantValue := 0 }, { name := "AIOOBE_FORMATTER", type := (.object "java/util/function/BiFunction"), accessFlags := 25, slot := 1, constantValue := 0 }, { name := "IOOBE_FORMATTER", type := (.object "java/util/function/BiFunction"), accessFlags := 25, slot := 2, constantValue := 0 }]
  methods := #[k12m0]
  instanceTypes := #[]
  staticTypes := #[(.object "java/util/function/BiFunction"), (.object "java/util/function/BiFunction"), (.object "java/util/function/BiFunction")]
  resolved := Array.replicate 194 none
  statics := some 1 }

def pool13 : Array CpInfo := pool [(9, u "<init>"), (6, .class_ 18), (1, u "java/lang/Object"), (0, u "()V"), (1, .class_ 23), (1, u "jdk/internal/util/ArraysSupport"), (0, u "LOG2_ARRAY_LONG_INDEX_SCALE"), (0, u "I"), (2, u "U"), (0, u "Ljdk/internal/misc/Unsafe;"), (8, u "BIG_ENDIAN"), (0, u "Z"), (8, u "LOG2_BYTE_BIT_SIZE"), (4, u "LOG2_ARRAY_INT_INDEX_SCALE"), (54, u "JLA"), (0, u "Ljdk/internal/access/JavaLangAccess;"), (11, u "LOG2_ARRAY_BOOLEAN_INDEX_SCALE"), (9, u "LOG2_ARRAY_BYTE_INDEX_SCALE"), (5, u "LOG2_ARRAY_CHAR_INDEX_SCALE"), (5, u "LOG2_ARRAY_SHORT_INDEX_SCALE"), (18, u "LOG2_ARRAY_FLOAT_INDEX_SCALE"), (24, u "LOG2_ARRAY_DOUBLE_INDEX_SCALE"), (89, u "T_BOOLEAN"), (2, u "T_CHAR"), (1, u "T_FLOAT"), (1, u "T_DOUBLE"), (1, u "T_BYTE"), (1, u "T_SHORT"), (1, u "T_INT"), (1, u "T_LONG"), (1, u "SOFT_MAX_ARRAY_LENGTH")] 83

def k13m0 : Method := { name := "<init>", desc := "()V", sig := { parameters := [], returnType := none }, accessFlags := 2, code := none }
/-- jdk/internal/util/ArraysSupport -/
def k13 : Class := { plain "jdk/internal/util/ArraysSupport" (some 0) with
  accessFlags := 33
  interfaces := #[]
  cf := some (fileOf pool13 21 #[] #[{ accessFlags := 2, nameIndex := 9, descriptorIndex := 19, attributes := #[] }] 33 16 #[] #[{ accessFlags := 24, nameIndex := 28, descriptorIndex := 29, attributes := #[] }, { accessFlags := 26, nameIndex := 38, descriptorIndex := 39, attributes := #[] }, { accessFlags := 25, nameIndex := 121, descriptorIndex := 25, attributes := #[] }, { accessFlags := 25, nameIndex := 131, descriptorIndex := 25, attributes := #[] }, { accessFlags := 25, nameIndex := 137, descriptorIndex := 25, attributes := #[] }, { accessFlags := 25, nameIndex := 143, descriptorIndex := 25, attributes := #[] }, { accessFlags := 25, nameIndex := 53, descriptorIndex := 25, attributes := #[] }, { accessFlags := 25, nameIndex := 24, descriptorIndex := 25, attributes := #[] }, { accessFlags := 25, nameIndex := 162, descriptorIndex := 25, attributes := #[] }, { accessFlags := 25, nameIndex := 187, descriptorIndex := 25, attributes := #[] }, { accessFlags := 26, nameIndex := 48, descriptorIndex := 25, attributes := #[] }, { accessFlags := 25, nameIndex := 277, descriptorIndex := 25, attributes := #[] }, { accessFlags := 25, nameIndex := 280, descriptorIndex := 25, attributes := #[] }, { accessFlags := 25, nameIndex := 282, descriptorIndex := 25, attributes := #[] }, { accessFlags := 25, nameIndex := 284, descriptorIndex := 25, attributes := #[] }, { accessFlags := 25, nameIndex := 286, descriptorIndex := 25, attributes := #[] }, { accessFlags := 25, nameIndex := 288, descriptorIndex := 25, attributes := #[] }, { accessFlags := 25, nameIndex := 290, descriptorIndex := 25, attributes := #[] }, { accessFlags := 25, nameIndex := 292, descriptorIndex := 25, attributes := #[] }, { accessFlags := 26, nameIndex := 108, descriptorIndex := 109, attributes := #[] }, { accessFlags := 25, nameIndex := 294, descriptorIndex := 25, attributes := #[] }])
  fields := #[{ name := "U", type := (.object "jdk/internal/misc/Unsafe"), accessFlags := 24, slot := 0, constantValue := 0 }, { name := "BIG_ENDIAN", type := .boolean, accessFlags := 26, slot := 1, constantValue := 0 }, { name := "LOG2_ARRAY_BOOLEAN_INDEX_SCALE", type := .int, accessFlags := 25, slot := 2, constantValue := 0 }, { name := "LOG2_ARRAY_BYTE_INDEX_SCALE", type := .int, accessFlags := 25, slot := 3, constantValue := 0 }, { name := "LOG2_ARRAY_CHAR_INDEX_SCALE", type := .int, accessFlags := 25, slot := 4, constantValue := 0 }, { name := "LOG2_ARRAY_SHORT_INDEX_SCALE", type := .int, accessFlags := 25, slot := 5, constantValue := 0 }, { name := "LOG2_ARRAY_INT_INDEX_SCALE", type := .int, accessFlags := 25, slot := 6, constantValue := 0 }, { name := "LOG2_ARRAY_LONG_INDEX_SCALE", type := .int, accessFlags := 25, slot := 7, constantValue := 0 }, { name := "LOG2_ARRAY_FLOAT_INDEX_SCALE", type := .int, accessFlags := 25, slot := 8, constantValue := 0 }, { name := "LOG2_ARRAY_DOUBLE_INDEX_SCALE", type := .int, accessFlags := 25, slot := 9, constantValue := 0 }, { name := "LOG2_BYTE_BIT_SIZE", type := .int, accessFlags := 26, slot := 10, constantValue := 0 }, { name := "T_BOOLEAN", type := .int, accessFlags := 25, slot := 11, constantValue := 0 }, { name := "T_CHAR", type := .int, accessFlags := 25, slot := 12, constantValue := 0 }, { name := "T_FLOAT", type := .int, accessFlags := 25, slot := 13, constantValue := 0 }, { name := "T_DOUBLE", type := .int, accessFlags := 25, slot := 14, constantValue := 0 }, { name := "T_BYTE", type := .int, accessFlags := 25, slot := 15, constantValue := 0 }, { name := "T_SHORT", type := .int, accessFlags := 25, slot := 16, constantValue := 0 }, { name := "T_INT", type := .int, accessFlags := 25, slot := 17, constantValue := 0 }, { name := "T_LONG", type := .int, accessFlags := 25, slot := 18, constantValue := 0 }, { name := "JLA", type := (.object "jdk/internal/access/JavaLangAccess"), accessFlags := 26, slot := 19, constantValue := 0 }, { name := "SOFT_MAX_ARRAY_LENGTH", type := .int, accessFlags := 25, slot := 20, constantValue := 0 }]
  methods := #[k13m0]
  instanceTypes := #[]
  staticTypes := #[(.object "jdk/internal/misc/Unsafe"), .boolean, .int, .int, .int, .int, .int, .int, .int, .int, .int, .int, .int, .int, .int, .int, .int, .int, .int, (.object "jdk/internal/access/JavaLangAccess"), .int]
  resolved := Array.replicate 378 none
  statics := none }

def pool14 : Array CpInfo := pool [(1, u "java/lang/Cloneable"), (0, .class_ 1), (0, u "java/lang/Object"), (0, .class_ 3)] 3

/-- java/lang/Cloneable -/
def k14 : Class := { plain "java/lang/Cloneable" (some 0) with
  accessFlags := 1537
  interfaces := #[]
  cf := some (fileOf pool14 2 #[] #[] 1537 4 #[] #[])
  fields := #[]
  methods := #[]
  instanceTypes := #[]
  staticTypes := #[]
  resolved := Array.replicate 8 none
  statics := none }

/-- the primitive byte -/
def k15 : Class := { plain "byte" none with kind := .primitive 'B', accessFlags := 0x411 }
/-- [B -/
def k16 : Class := { plain "[B" (some 0) with kind := .array 15 .byte, interfaces := #[14, 3], accessFlags := 1041 }

/-- the primitive char -/
def k17 : Class := { plain "char" none with kind := .primitive 'C', accessFlags := 0x411 }
/-- [C -/
def k18 : Class := { plain "[C" (some 0) with kind := .array 17 .char, interfaces := #[14, 3], accessFlags := 1041 }

/-- the primitive int -/
def k19 : Class := { plain "int" none with kind := .primitive 'I', accessFlags := 0x411 }
/-- [I -/
def k20 : Class := { plain "[I" (some 0) with kind := .array 19 .int, interfaces := #[14, 3], accessFlags := 1041 }

def heap : Heap := #[{ cls := 8, slots := #[.long 0, .int 1, .null, .int 0, .null, .int 0, .int 0], vm := .statics 8 },
  { cls := 12, slots := #[.null, .null, .null], vm := .statics 12 }]
def classes : Array Class := #[k0, k1, k2, k3, k4, k5, k6, k7, k8, k9, k10, k11, k12, k13, k14, k15, k16, k17, k18, k19, k20]
def interned : List (Array UInt16 × Addr) := []
def slotsUsed : Nat := 10
def theMethod : MethodId := ⟨1, 3⟩
def args0 : Array Value := #[.int 5, .int 3, .int 7, .int 20, .int 9, .int 3]
def aboutOver (below : List Frame) : State where
  vm := { classes := classes, interned := interned.toArray }
  heap := heap
  slotsUsed := slotsUsed
  threads := #[{ frames := .invoking theMethod args0 :: below }]
def below0 : List Frame := [.native { method := ⟨0, 0⟩, args := #[] }]
def about1 : State := aboutOver below0
def p0 : Program := .bare "" "" ""
def e0 : Env := launch0.env 0 0 0
theorem w_frames : about1.frames = Frame.invoking theMethod args0 :: below0 := rfl
set_option maxRecDepth 65536 in
theorem w_args : argsFit about1.vm theMethod args0 = true := by decide +kernel
set_option maxRecDepth 65536 in
theorem w_heap : heapFits about1 = true := by decide +kernel
set_option maxRecDepth 65536 in
theorem w_runnable : about1.curStatus? = some .runnable := by decide +kernel
set_option maxRecDepth 65536 in
theorem w_alone : about1.alone = true := by decide +kernel
set_option maxRecDepth 65536 in
theorem w_named : about1.methodNamed? x = some theMethod := by decide +kernel
set_option maxRecDepth 65536 in
theorem w_hears : about1.hears theMethod below0 = true := by decide +kernel
set_option maxRecDepth 65536 in
theorem w_ripe : about1.ripe theMethod args0 below0 = true := by decide +kernel
theorem w_running : about1.status = .running := rfl
set_option maxRecDepth 65536 in
theorem w_room : about1.hasRoom e0.platform room_1 = true :=
  launch0.hasRoom_least _ room_1 (by decide +kernel) (by decide +kernel) (by decide +kernel) (by decide +kernel) (by decide +kernel) (by decide +kernel)
theorem allAtoms_all (ts : List Jvm.Cond) (a : Array Jvm.Value) (st : Jvm.State) : (allAtoms ts).before a st = ts.all (fun c => c.before a st) := by
  induction ts with
  | nil => rfl
  | cons c t ih =>
    show (Jvm.Cond.and c (allAtoms t)).before a st = _
    rw [Jvm.Cond.before_and, ih, List.all_cons]
def words1 : List Jvm.Cond := Jvm.Cond.code x code maxLocals ret :: tables_1
/-- a 'code' word, met by the world's own term for the bytes: nothing is compared byte by byte -/
theorem code_word {y : MethodName} {bytes : ByteArray} {mx : Nat} {rt : Option FieldType} {a : Array Value} {s : State} {m : MethodId} {meth : Method} {c : Code} (h1 : s.methodNamed? y = some m) (h2 : s.vm.method? m = some meth) (h3 : meth.code = some c) (h4 : c.code = bytes)
    (h5 : (c.maxLocals == mx && c.exceptionTable.isEmpty && decide (c.maxStack ≤ mostOperands) && decide (meth.sig.returnType = rt) && !meth.locks && decide (parseMethodDescriptor y.desc = some meth.sig)) = true) : (Jvm.Cond.code y bytes mx rt).before a s = true := by
  simp only [Bool.and_eq_true, beq_iff_eq, Bool.not_eq_true', decide_eq_true_eq] at h5
  obtain ⟨⟨⟨⟨⟨g1, g2⟩, g3⟩, g4⟩, g5⟩, g6⟩ := h5
  simp [Cond.before, Cond.holds, Cond.value, h1, h2, h3, h4, g1, g2, g3, g4, g5, g6]
def isCode : Jvm.Cond → Bool
  | .code _ _ _ _ => true
  | _ => false
theorem all_split {L : List Jvm.Cond} {P : Jvm.Cond → Bool} (h1 : L.all (fun c => isCode c || P c) = true) (h2 : ∀ c ∈ L.filter isCode, P c = true) : L.all P = true := by
  refine List.all_eq_true.mpr fun c hc => ?_
  have h := List.all_eq_true.mp h1 c hc
  rcases Bool.eq_false_or_eq_true (isCode c) with hi | hi
  · exact h2 c (List.mem_filter.mpr ⟨hc, hi⟩)
  · simpa [hi] using h
set_option maxRecDepth 65536 in
theorem w_c0 : (Jvm.Cond.code x code maxLocals ret).before args0 about1 = true := code_word (m := ⟨1, 3⟩) (meth := k1m3) (c := k1c3) (by decide +kernel) rfl rfl rfl (by decide +kernel)
set_option maxRecDepth 65536 in
theorem w_c1 : (Jvm.Cond.code ({ cls := "com/example/shallow_history/shallowhistory/policy/MethodReferenceEqualsPinLaw", name := "str", desc := "(I)Ljava/lang/String;" } : Jvm.MethodName) method_2_code (5 : Nat) (Option.some (Jvm.ClassFile.FieldType.object "java/lang/String"))).before args0 about1 = true := code_word (m := ⟨1, 1⟩) (meth := k1m1) (c := k1c1) (by decide +kernel) rfl rfl rfl (by decide +kernel)
set_option maxRecDepth 65536 in
theorem w_c2 : (Jvm.Cond.code ({ cls := "java/lang/String", name := "<init>", desc := "([C)V" } : Jvm.MethodName) jdk_42_method_3_code (2 : Nat) (Option.none : Option Jvm.ClassFile.FieldType)).before args0 about1 = true := code_word (m := ⟨8, 1⟩) (meth := k8m1) (c := k8c1) (by decide +kernel) rfl rfl rfl (by decide +kernel)
set_option maxRecDepth 65536 in
theorem w_c3 : (Jvm.Cond.code ({ cls := "java/lang/String", name := "<init>", desc := "([CIILjava/lang/Void;)V" } : Jvm.MethodName) jdk_42_method_149_code (6 : Nat) (Option.none : Option Jvm.ClassFile.FieldType)).before args0 about1 = true := code_word (m := ⟨8, 3⟩) (meth := k8m3) (c := k8c3) (by decide +kernel) rfl rfl rfl (by decide +kernel)
set_option maxRecDepth 65536 in
theorem w_c4 : (Jvm.Cond.code ({ cls := "java/lang/Object", name := "<init>", desc := "()V" } : Jvm.MethodName) object_method_1_code (1 : Nat) (Option.none : Option Jvm.ClassFile.FieldType)).before args0 about1 = true := code_word (m := ⟨0, 0⟩) (meth := k0m0) (c := k0c0) (by decide +kernel) rfl rfl rfl (by decide +kernel)
set_option maxRecDepth 65536 in
theorem w_c5 : (Jvm.Cond.code ({ cls := "java/lang/StringUTF16", name := "compress", desc := "([CII)[B" } : Jvm.MethodName) jdk_52_method_16_code (6 : Nat) (Option.some (Jvm.ClassFile.FieldType.array Jvm.ClassFile.FieldType.byte))).before args0 about1 = true := code_word (m := ⟨9, 2⟩) (meth := k9m2) (c := k9c2) (by decide +kernel) rfl rfl rfl (by decide +kernel)
set_option maxRecDepth 65536 in
theorem w_c6 : (Jvm.Cond.code ({ cls := "java/lang/StringUTF16", name := "compress", desc := "([CI[BII)I" } : Jvm.MethodName) jdk_52_method_21_code (7 : Nat) (Option.some Jvm.ClassFile.FieldType.int)).before args0 about1 = true := code_word (m := ⟨9, 3⟩) (meth := k9m3) (c := k9c3) (by decide +kernel) rfl rfl rfl (by decide +kernel)
set_option maxRecDepth 65536 in
theorem w_c7 : (Jvm.Cond.code ({ cls := "java/lang/StringUTF16", name := "coderFromArrayLen", desc := "([BI)B" } : Jvm.MethodName) jdk_52_method_15_code (2 : Nat) (Option.some Jvm.ClassFile.FieldType.byte)).before args0 about1 = true := code_word (m := ⟨9, 1⟩) (meth := k9m1) (c := k9c1) (by decide +kernel) rfl rfl rfl (by decide +kernel)
set_option maxRecDepth 65536 in
theorem w_c8 : (Jvm.Cond.code ({ cls := "com/example/shallow_history/shallowhistory/policy/MethodReference", name := "<init>", desc := "(Ljava/lang/String;Ljava/lang/String;Ljava/lang/String;)V" } : Jvm.MethodName) prog_20_method_1_code (4 : Nat) (Option.none : Option Jvm.ClassFile.FieldType)).before args0 about1 = true := code_word (m := ⟨2, 0⟩) (meth := k2m0) (c := k2c0) (by decide +kernel) rfl rfl rfl (by decide +kernel)
set_option maxRecDepth 65536 in
theorem w_c9 : (Jvm.Cond.code ({ cls := "java/util/Objects", name := "requireNonNull", desc := "(Ljava/lang/Object;Ljava/lang/String;)Ljava/lang/Object;" } : Jvm.MethodName) jdk_31_method_11_code (2 : Nat) (Option.some (Jvm.ClassFile.FieldType.object "java/lang/Object"))).before args0 about1 = true := code_word (m := ⟨10, 1⟩) (meth := k10m1) (c := k10c1) (by decide +kernel) rfl rfl rfl (by decide +kernel)
set_option maxRecDepth 65536 in
theorem w_c10 : (Jvm.Cond.code ({ cls := "com/example/shallow_history/shallowhistory/policy/MethodReferenceEqualsPinLaw", name := "key", desc := "(I)I" } : Jvm.MethodName) method_3_code (2 : Nat) (Option.some Jvm.ClassFile.FieldType.int)).before args0 about1 = true := code_word (m := ⟨1, 2⟩) (meth := k1m2) (c := k1c2) (by decide +kernel) rfl rfl rfl (by decide +kernel)
set_option maxRecDepth 65536 in
theorem w_c11 : (Jvm.Cond.code ({ cls := "com/example/shallow_history/shallowhistory/policy/MethodReference", name := "equals", desc := "(Ljava/lang/Object;)Z" } : Jvm.MethodName) prog_20_method_7_code (3 : Nat) (Option.some Jvm.ClassFile.FieldType.boolean)).before args0 about1 = true := code_word (m := ⟨2, 1⟩) (meth := k2m1) (c := k2c1) (by decide +kernel) rfl rfl rfl (by decide +kernel)
set_option maxRecDepth 65536 in
theorem w_c12 : (Jvm.Cond.code ({ cls := "java/lang/String", name := "equals", desc := "(Ljava/lang/Object;)Z" } : Jvm.MethodName) jdk_42_method_66_code (3 : Nat) (Option.some Jvm.ClassFile.FieldType.boolean)).before args0 about1 = true := code_word (m := ⟨8, 2⟩) (meth := k8m2) (c := k8c2) (by decide +kernel) rfl rfl rfl (by decide +kernel)
set_option maxRecDepth 65536 in
theorem w_c13 : (Jvm.Cond.code ({ cls := "java/lang/StringLatin1", name := "equals", desc := "([B[B)Z" } : Jvm.MethodName) jdk_43_method_13_code (3 : Nat) (Option.some Jvm.ClassFile.FieldType.boolean)).before args0 about1 = true := code_word (m := ⟨11, 1⟩) (meth := k11m1) (c := k11c1) (by decide +kernel) rfl rfl rfl (by decide +kernel)
def codes1 : List Jvm.Cond := [Jvm.Cond.code x code maxLocals ret, Jvm.Cond.code ({ cls := "com/example/shallow_history/shallowhistory/policy/MethodReferenceEqualsPinLaw", name := "str", desc := "(I)Ljava/lang/String;" } : Jvm.MethodName) method_2_code (5 : Nat) (Option.some (Jvm.ClassFile.FieldType.object "java/lang/String")), Jvm.Cond.code ({ cls := "java/lang/String", name := "<init>", desc := "([C)V" } : Jvm.MethodName) jdk_42_method_3_code (2 : Nat) (Option.none : Option Jvm.ClassFile.FieldType), Jvm.Cond.code ({ cls := "java/lang/String", name := "<init>", desc := "([CIILjava/lang/Void;)V" } : Jvm.MethodName) jdk_42_method_149_code (6 : Nat) (Option.none : Option Jvm.ClassFile.FieldType), Jvm.Cond.code ({ cls := "java/lang/Object", name := "<init>", desc := "()V" } : Jvm.MethodName) object_method_1_code (1 : Nat) (Option.none : Option Jvm.ClassFile.FieldType), Jvm.Cond.code ({ cls := "java/lang/StringUTF16", name := "compress", desc := "([CII)[B" } : Jvm.MethodName) jdk_52_method_16_code (6 : Nat) (Option.some (Jvm.ClassFile.FieldType.array Jvm.ClassFile.FieldType.byte)), Jvm.Cond.code ({ cls := "java/lang/StringUTF16", name := "compress", desc := "([CI[BII)I" } : Jvm.MethodName) jdk_52_method_21_code (7 : Nat) (Option.some Jvm.ClassFile.FieldType.int), Jvm.Cond.code ({ cls := "java/lang/StringUTF16", name := "coderFromArrayLen", desc := "([BI)B" } : Jvm.MethodName) jdk_52_method_15_code (2 : Nat) (Option.some Jvm.ClassFile.FieldType.byte), Jvm.Cond.code ({ cls := "com/example/shallow_history/shallowhistory/policy/MethodReference", name := "<init>", desc := "(Ljava/lang/String;Ljava/lang/String;Ljava/lang/String;)V" } : Jvm.MethodName) prog_20_method_1_code (4 : Nat) (Option.none : Option Jvm.ClassFile.FieldType), Jvm.Cond.code ({ cls := "java/util/Objects", name := "requireNonNull", desc := "(Ljava/lang/Object;Ljava/lang/String;)Ljava/lang/Object;" } : Jvm.MethodName) jdk_31_method_11_code (2 : Nat) (Option.some (Jvm.ClassFile.FieldType.object "java/lang/Object")), Jvm.Cond.code ({ cls := "com/example/shallow_history/shallowhistory/policy/MethodReferenceEqualsPinLaw", name := "key", desc := "(I)I" } : Jvm.MethodName) method_3_code (2 : Nat) (Option.some Jvm.ClassFile.FieldType.int), Jvm.Cond.code ({ cls := "com/example/shallow_history/shallowhistory/policy/MethodReference", name := "equals", desc := "(Ljava/lang/Object;)Z" } : Jvm.MethodName) prog_20_method_7_code (3 : Nat) (Option.some Jvm.ClassFile.FieldType.boolean), Jvm.Cond.code ({ cls := "java/lang/String", name := "equals", desc := "(Ljava/lang/Object;)Z" } : Jvm.MethodName) jdk_42_method_66_code (3 : Nat) (Option.some Jvm.ClassFile.FieldType.boolean), Jvm.Cond.code ({ cls := "java/lang/StringLatin1", name := "equals", desc := "([B[B)Z" } : Jvm.MethodName) jdk_43_method_13_code (3 : Nat) (Option.some Jvm.ClassFile.FieldType.boolean)]
set_option maxRecDepth 65536 in
theorem codes_eq : words1.filter isCode = codes1 := rfl
theorem w_codes : ∀ c ∈ words1.filter isCode, c.before args0 about1 = true := by
  rw [codes_eq]
  intro c hc
  simp only [codes1, List.mem_cons, List.not_mem_nil, or_false] at hc
  rcases hc with rfl | rfl | rfl | rfl | rfl | rfl | rfl | rfl | rfl | rfl | rfl | rfl | rfl | rfl
  · exact w_c0
  · exact w_c1
  · exact w_c2
  · exact w_c3
  · exact w_c4
  · exact w_c5
  · exact w_c6
  · exact w_c7
  · exact w_c8
  · exact w_c9
  · exact w_c10
  · exact w_c11
  · exact w_c12
  · exact w_c13
set_option maxRecDepth 65536 in
theorem w_t1 : (words1.take 24).all (fun c => isCode c || c.before args0 about1) = true := by decide +kernel
set_option maxRecDepth 65536 in
theorem w_t2 : ((words1.drop 24).take 24).all (fun c => isCode c || c.before args0 about1) = true := by decide +kernel
set_option maxRecDepth 65536 in
theorem w_t3 : (((words1.drop 24).drop 24).take 24).all (fun c => isCode c || c.before args0 about1) = true := by decide +kernel
set_option maxRecDepth 65536 in
theorem w_t4 : (((words1.drop 24).drop 24).drop 24).all (fun c => isCode c || c.before args0 about1) = true := by decide +kernel
theorem w_tables : (allAtoms (Jvm.Cond.code x code maxLocals ret :: tables_1)).before args0 about1 = true := by
  rw [allAtoms_all]
  show words1.all (fun c => c.before args0 about1) = true
  refine all_split ?_ w_codes
  rw [← List.take_append_drop 24 words1, List.all_append, w_t1, ← List.take_append_drop 24 (words1.drop 24), List.all_append, w_t2, ← List.take_append_drop 24 ((words1.drop 24).drop 24), List.all_append, w_t3, w_t4]
  rfl
set_option maxRecDepth 65536 in
theorem w_rest : rest_1_c.before args0 about1 = true := by decide +kernel
set_option maxRecDepth 65536 in
theorem w_case : (Jvm.Cond.and given_1 narrow_1).before args0 about1 = true := by decide +kernel
set_option maxRecDepth 65536 in
theorem w_consts : constsHeld consts_1 about1 := Jvm.Lit.constsHeldB_iff.mp (by decide +kernel)
theorem w_applies : (headSpec (Jvm.Cond.code x code maxLocals ret :: tables_1) room_1).applies x e0.platform about1 = true :=
  (Spec.applies_iff w_frames).mpr ⟨w_running, w_runnable, w_alone, w_named, w_hears, w_ripe, w_room, w_tables⟩
theorem atStart : AtStart classFile x code maxLocals ret World_1 tables_1 room_1 Calls_1 rest_1 Pre_1 launch0 p0 e0 about1 theMethod args0 below0 :=
  ⟨lists_1, trivial, launch0.admits_env _ _ _, launch0.least_env, fairChoices_fair.cas, fairChoices_fair.clock, w_frames, w_args, w_heap, w_applies, ⟨w_consts, trivial⟩, w_rest, w_case⟩
end start1
theorem witness_1 : WitnessClaimed_1 := ⟨start1.p0, start1.e0, start1.about1, start1.theMethod, start1.args0, start1.below0, start1.atStart⟩
end Jvm.Pilot.@@N@@
