import JvmDerived
import JvmDerived.Pilot.@@N@@Statement
import JvmDerived.Pilot.@@N@@Code
set_option linter.unusedVariables false
set_option linter.unusedSimpArgs false
@@BLOCK:NumsL.lean.txt@@
namespace Jvm.Pilot.@@N@@
open Jvm Jvm.ClassFile Sem Op Lib Jvm.Free Jvm.Stand Jvm.LawKit Jvm.RoadKit Bundle Jvm.Pilot.@@N@@.Jvm.D
theorem own_ne {k : Int32} {n : Int} (z : Int32) (hl : z.toInt = n) (h : ¬ k = z) : n ≠ k.toInt := fun e => h (Int32.toInt_inj.mp (by rw [hl]; exact e.symm))
theorem own_ext {Z : State} {n0 : Nat} {h : Heap} (O : Old Z n0 h) : Ext Z.heap h := O.2
theorem own_sz {Z : State} {n0 : Nat} {h : Heap} (O : Old Z n0 h) : n0 ≤ h.size := by have := O.2.1; rw [O.1] at this; exact this
def own_Ends (p : Program) (e : Env) (below : List Frame) (s : State) (Q : Option Value → Heap → List Loc → Prop) (k n : Nat) (A : State) : Prop :=
  ∃ (U : State) (o : Outcome), Steps p.tables e below A U ∧ U.status = .running ∧ Ended U below o ∧ ∃ v L, o = .returned v ∧ Q v U.heap L ∧ FrameEnd s o U L k n
section OwnKit
variable {p : Program} {l : Launch} {e : Env} {R : Room} {s : State} {m : MethodId} {args : Array Value} {below : List Frame} {meth : Method} {c : Code} {T : State} {locs : List Loc} {cells slots k n : Nat} {Q : Option Value → Heap → List Loc → Prop} {A B : State}
theorem own_go (h : ∀ t, Steps p.tables e below B t → Steps p.tables e below A t) (K : own_Ends p e below s Q k n B) : own_Ends p e below s Q k n A := by
  obtain ⟨U, o, h1, r⟩ := K
  exact ⟨U, o, h U h1, r⟩
theorem own_ret (X : Stand p l e R s m args below meth c T locs cells slots) (hx : p.tables.exec = Jvm.exec) (hlk : meth.locks = false) {pc : Nat} {Ls : Array Slot} {w : Value} {t : FieldType} {i : Instr} {rest : List Value} (hret : meth.sig.returnType = some t) (hn : narrow t w = w)
    (hi : (i = .ireturn ∧ (t = .int ∨ t = .boolean ∨ t = .byte ∨ t = .char ∨ t = .short) ∧ ∃ z, w = .int z) ∨ (i = .lreturn ∧ t = .long ∧ ∃ z, w = .long z) ∨ (i = .dreturn ∧ t = .double ∧ ∃ z, w = .double z) ∨ (i = .freturn ∧ t = .float ∧ ∃ z, w = .float z) ∨ (i = .areturn ∧ t.isReference = true ∧ w.isRef = true))
    (hd : decode c.code pc = .ok (i, 1)) (hk : cells ≤ k) (hs : slots ≤ n) (hQ : Q (some w) T.heap locs) : own_Ends p e below s Q k n (T.setTop (mkF m pc Ls (w :: rest))) := by
  obtain ⟨fs, hr, hrun, hended, hW, hsame⟩ := X.leave (v := some w) (fun h => by rw [hret] at h; cases h) hlk
  exact ⟨_, _, retOut X hx hret hn hi hd hr, hrun, hended, _, _, rfl, hQ, ⟨_, rfl⟩, hW, hsame.mono hk hs⟩
theorem own_retI (X : Stand p l e R s m args below meth c T locs cells slots) (hx : p.tables.exec = Jvm.exec) (hlk : meth.locks = false) {pc : Nat} {Ls : Array Slot} {z : Int32} {rest : List Value} (hret : meth.sig.returnType = some .int) (hd : decode c.code pc = .ok (.ireturn, 1)) (hk : cells ≤ k) (hs : slots ≤ n) (hQ : Q (some (.int z)) T.heap locs) : own_Ends p e below s Q k n (T.setTop (mkF m pc Ls (.int z :: rest))) :=
  own_ret X hx hlk hret rfl (Or.inl ⟨rfl, Or.inl rfl, _, rfl⟩) hd hk hs hQ
theorem own_retJ (X : Stand p l e R s m args below meth c T locs cells slots) (hx : p.tables.exec = Jvm.exec) (hlk : meth.locks = false) {pc : Nat} {Ls : Array Slot} {z : Int64} {rest : List Value} (hret : meth.sig.returnType = some .long) (hd : decode c.code pc = .ok (.lreturn, 1)) (hk : cells ≤ k) (hs : slots ≤ n) (hQ : Q (some (.long z)) T.heap locs) : own_Ends p e below s Q k n (T.setTop (mkF m pc Ls (.long z :: rest))) :=
  own_ret X hx hlk hret rfl (Or.inr (Or.inl ⟨rfl, rfl, _, rfl⟩)) hd hk hs hQ
theorem own_retD (X : Stand p l e R s m args below meth c T locs cells slots) (hx : p.tables.exec = Jvm.exec) (hlk : meth.locks = false) {pc : Nat} {Ls : Array Slot} {z : UInt64} {rest : List Value} (hret : meth.sig.returnType = some .double) (hd : decode c.code pc = .ok (.dreturn, 1)) (hk : cells ≤ k) (hs : slots ≤ n) (hQ : Q (some (.double z)) T.heap locs) : own_Ends p e below s Q k n (T.setTop (mkF m pc Ls (.double z :: rest))) :=
  own_ret X hx hlk hret rfl (Or.inr (Or.inr (Or.inl ⟨rfl, rfl, _, rfl⟩))) hd hk hs hQ
theorem own_retA (X : Stand p l e R s m args below meth c T locs cells slots) (hx : p.tables.exec = Jvm.exec) (hlk : meth.locks = false) {pc : Nat} {Ls : Array Slot} {w : Value} {t : FieldType} {rest : List Value} (hret : meth.sig.returnType = some t) (ht : t.isReference = true) (hw : w.isRef = true) (hn : narrow t w = w) (hd : decode c.code pc = .ok (.areturn, 1)) (hk : cells ≤ k) (hs : slots ≤ n) (hQ : Q (some w) T.heap locs) : own_Ends p e below s Q k n (T.setTop (mkF m pc Ls (w :: rest))) :=
  own_ret X hx hlk hret hn (Or.inr (Or.inr (Or.inr (Or.inr ⟨rfl, ht, hw⟩)))) hd hk hs hQ
theorem own_retN (X : Stand p l e R s m args below meth c T locs cells slots) (hx : p.tables.exec = Jvm.exec) (hlk : meth.locks = false) {pc : Nat} {Ls : Array Slot} {z : Int32} {t : FieldType} {rest : List Value} (hret : meth.sig.returnType = some t) (ht : t = .boolean ∨ t = .byte ∨ t = .char ∨ t = .short) (hd : decode c.code pc = .ok (.ireturn, 1)) (hk : cells ≤ k) (hs : slots ≤ n) (hQ : Q (some (.int (nar t z))) T.heap locs) : own_Ends p e below s Q k n (T.setTop (mkF m pc Ls (.int z :: rest))) := by
  obtain ⟨fs, hr, hrun, hended, hW, hsame⟩ := X.leave (v := some (.int (nar t z))) (fun h => by rw [hret] at h; cases h) hlk
  exact ⟨_, _, retN X hx hret ht hd hr, hrun, hended, _, _, rfl, hQ, ⟨_, rfl⟩, hW, hsame.mono hk hs⟩
theorem own_retV (X : Stand p l e R s m args below meth c T locs cells slots) (hx : p.tables.exec = Jvm.exec) (hlk : meth.locks = false) {pc : Nat} {Ls : Array Slot} (hret : meth.sig.returnType = none) (hd : decode c.code pc = .ok (.return_, 1)) (hk : cells ≤ k) (hs : slots ≤ n) (hQ : Q none T.heap locs) : own_Ends p e below s Q k n (T.setTop (mkF m pc Ls [])) := by
  obtain ⟨fs, hr, hrun, hended, hW, hsame⟩ := X.leave (v := none) (fun _ => rfl) hlk
  exact ⟨_, _, X.returnOut hx hret hd hr, hrun, hended, _, _, rfl, hQ, ⟨_, rfl⟩, hW, hsame.mono hk hs⟩
end OwnKit

def own_Ar (Z : State) (h : Heap) (a : Addr) (ty : FieldType) (n : Nat) (f : Nat → Value) : Prop := ∃ c : Cell, Arr Z h a c ty ∧ c.slots.size = n ∧ ∀ i, i < n → c.slots[i]? = some (f i)
section OwnArr
variable {Z : State} {h h' : Heap} {a b : Addr} {ty : FieldType} {n sl : Nat} {f : Nat → Value} {v : Value} {ws : List Addr}
theorem own_Ar.lt (F : own_Ar Z h a ty n f) : a < h.size := by obtain ⟨c, A, -⟩ := F; exact A.lt
theorem own_Ar.ext (F : own_Ar Z h a ty n f) (E : Ext h h') : own_Ar Z h' a ty n f := by obtain ⟨c, A, r⟩ := F; exact ⟨c, A.ext E, r⟩
theorem own_Ar.other (F : own_Ar Z h b ty n f) (W : Wr h h' a sl v) (q : b ≠ a) : own_Ar Z h' b ty n f := by obtain ⟨c, A, r⟩ := F; exact ⟨c, A.other W q, r⟩
theorem own_Ar.keep (F : own_Ar Z h a ty n f) (K : Keep h h' ws) (q : a ∉ ws) : own_Ar Z h' a ty n f := by obtain ⟨c, A, r⟩ := F; exact ⟨c, ⟨K.2.1 a c A.1 q, A.2⟩, r⟩
theorem own_Ar.at (F : own_Ar Z h a ty n f) (j : Int32) (h0 : ¬ j < 0) (h1 : j.toNatClampNeg < n) : ∃ c : Cell, Arr Z h a c ty ∧ ¬ (j < 0 ∨ c.slots.size ≤ j.toNatClampNeg) ∧ c.slots[j.toNatClampNeg]? = some (f j.toNatClampNeg) := by
  obtain ⟨c, A, e, r⟩ := F
  exact ⟨c, A, fun q => q.elim h0 (fun z => by omega), r _ h1⟩
theorem own_Ar.len (F : own_Ar Z h a ty n f) : ∃ c : Cell, Arr Z h a c ty ∧ c.slots.size.toInt32 = Int32.ofNat n := by
  obtain ⟨c, A, e, r⟩ := F
  exact ⟨c, A, by rw [e]⟩
theorem own_Ar.newI {k : ClassId} {z : Int32} (A : Arr Z h a (newA k ty z) ty) (hz : z.toNatClampNeg = n) (hd : defaultValue ty = .int 0) : own_Ar Z h a ty n (fun _ => .int 0) :=
  ⟨_, A, by rw [sz_new]; exact hz, fun i hi => by simp [newA, hz, hi, hd]⟩
theorem own_Ar.newJ {k : ClassId} {z : Int32} (A : Arr Z h a (newA k .long z) .long) (hz : z.toNatClampNeg = n) : own_Ar Z h a .long n (fun _ => .long 0) :=
  ⟨_, A, by rw [sz_new]; exact hz, fun i hi => by simp [newA, hz, hi, defaultValue]⟩
theorem own_Ar.set (F : own_Ar Z h a ty n f) (W : Wr h h' a sl v) {f' : Nat → Value} (hf : ∀ i, i < n → f' i = if i = sl then v else f i) : own_Ar Z h' a ty n f' := by
  obtain ⟨c, A, e, r⟩ := F
  refine ⟨_, A.same W, by simp [Cell.setSlot, e], fun i hi => ?_⟩
  obtain ⟨c', w1, -, w3, w4⟩ := W
  cases A.1.symm.trans w1
  rw [hf i hi]
  by_cases q : i = sl
  · subst q; simp [Cell.setSlot, w3]
  · rw [if_neg q, ← r i hi]; exact Array.getElem?_setIfInBounds_ne (Ne.symm q)
theorem own_Ar.setI {G : Nat → Int32} {x : Int32} (F : own_Ar Z h a ty n (fun i => .int (G i))) (W : Wr h h' a sl (.int x)) : own_Ar Z h' a ty n (fun i => .int (if i = sl then x else G i)) :=
  F.set W fun i _ => by by_cases q : i = sl <;> simp [q]
theorem own_Ar.setJ {G : Nat → Int64} {x : Int64} (F : own_Ar Z h a ty n (fun i => .long (G i))) (W : Wr h h' a sl (.long x)) : own_Ar Z h' a ty n (fun i => .long (if i = sl then x else G i)) :=
  F.set W fun i _ => by by_cases q : i = sl <;> simp [q]
theorem own_Ar.cong (F : own_Ar Z h a ty n f) {f' : Nat → Value} (hf : ∀ i, i < n → f' i = f i) : own_Ar Z h a ty n f' := by
  obtain ⟨c, A, e, r⟩ := F
  exact ⟨c, A, e, fun i hi => by rw [hf i hi]; exact r i hi⟩
end OwnArr
/-- as own_Ends, for a body that may load String constants cold -/
def own_EndsW (p : Program) (e : Env) (below : List Frame) (s Z : State) (EL : List (String × Nat)) (Q : Option Value → Heap → List Loc → Prop) (k n : Nat) (A : State) : Prop :=
  ∃ (U : State) (o : Outcome), Steps p.tables e below A U ∧ U.status = .running ∧ Ended U below o ∧ ∃ v L, o = .returned v ∧ Q v U.heap L ∧ CHr Z EL s.vm s.heap U.vm U.heap ∧ ReturnedEndW s o U L k n
/-- what such a walk bears: the tables vm0 at hand come from the start, and the held constants say their texts -/
def own_Wd (s Z : State) (EL : List (String × Nat)) (vm0 : Vm) (h : Heap) : Prop := (∃ k0, s.Since vm0 k0 ∧ k0 ≤ h.size) ∧ CHr Z EL s.vm s.heap vm0 h
section OwnWide
variable {p : Program} {l : Launch} {e : Env} {R : Room} {s : State} {m : MethodId} {args : Array Value} {below : List Frame} {meth : Method} {c : Code} {T : State} {locs : List Loc} {cells slots k n : Nat} {Q : Option Value → Heap → List Loc → Prop} {A B : State}
variable {Z : State} {EL : List (String × Nat)} {vm0 : Vm} {h h' : Heap} {ws : List Addr} {a0 : Array Value}
theorem own_goW (q : ∀ t, Steps p.tables e below B t → Steps p.tables e below A t) (K : own_EndsW p e below s Z EL Q k n B) : own_EndsW p e below s Z EL Q k n A := by
  obtain ⟨U, o, h1, r⟩ := K
  exact ⟨U, o, q U h1, r⟩
theorem own_Wd.start (hh : s.heap = h) (H : CHv Z EL s.vm h) : own_Wd s Z EL s.vm h := by
  subst hh
  exact ⟨⟨s.heap.size, (State.WarmedH.refl s).since _, Nat.le_refl _⟩, CHr.refl H⟩
theorem own_Wd.ch (W : own_Wd s Z EL vm0 h) : CHv Z EL vm0 h := W.2.1
theorem own_Wd.step (W : own_Wd s Z EL vm0 h) (C : CHr Z EL vm0 h vm0 h') : own_Wd s Z EL vm0 h' := by
  obtain ⟨⟨k0, h1, h2⟩, h3⟩ := W
  exact ⟨⟨k0, h1, Nat.le_trans h2 C.2.1⟩, h3.trans C⟩
theorem own_Wd.ext (W : own_Wd s Z EL vm0 h) (E : Ext h h') : own_Wd s Z EL vm0 h' := W.step (CHr.ext E W.ch)
theorem own_Wd.wr {a : Addr} {sl : Nat} {v : Value} (W : own_Wd s Z EL vm0 h) (w : Wr h h' a sl v) (S : Safe Z EL vm0 h a) : own_Wd s Z EL vm0 h' := W.step (CHr.wr w S W.ch)
theorem own_Wd.keep (W : own_Wd s Z EL vm0 h) (K : Keep h h' ws) (hs : ∀ x ∈ ws, Safe Z EL vm0 h x) : own_Wd s Z EL vm0 h' := W.step (CHr.keep K hs W.ch)
theorem own_retW (X : Stand p l e R (s.setVm vm0) m args below meth c T locs cells slots) (hx : p.tables.exec = Jvm.exec) (hlk : meth.locks = false) (eT : T.heap = h) (W : own_Wd s Z EL vm0 h) (hZ : Z.Warmed39 (s.setVm vm0).vm) (hEL : EW Z a0 EL) {pc : Nat} {Ls : Array Slot} {w : Value} {t : FieldType} {i : Instr} {rest : List Value} (hret : meth.sig.returnType = some t) (hn : narrow t w = w)
    (hi : (i = .ireturn ∧ (t = .int ∨ t = .boolean ∨ t = .byte ∨ t = .char ∨ t = .short) ∧ ∃ z, w = .int z) ∨ (i = .lreturn ∧ t = .long ∧ ∃ z, w = .long z) ∨ (i = .dreturn ∧ t = .double ∧ ∃ z, w = .double z) ∨ (i = .freturn ∧ t = .float ∧ ∃ z, w = .float z) ∨ (i = .areturn ∧ t.isReference = true ∧ w.isRef = true))
    (hd : decode c.code pc = .ok (i, 1)) (hk : cells ≤ k) (hs : slots ≤ n) (hQ : Q (some w) T.heap locs) : own_EndsW p e below s Z EL Q k n (T.setTop (mkF m pc Ls (w :: rest))) := by
  subst eT
  obtain ⟨⟨k0, h1, h2⟩, h3⟩ := W
  have hA : CHr Z EL s.vm s.heap T.vm T.heap := h3.trans (CHv.at X hZ hEL h3.1)
  obtain ⟨fs, hr, hrun, hended, q1, q2, q3, q4⟩ := X.leaveW h1 h2 (v := some w) (fun h => by rw [hret] at h; cases h) hlk
  exact ⟨_, _, retOut X hx hret hn hi hd hr, hrun, hended, _, _, rfl, hQ, hA, q1, q2, q3, q4.mono hk hs⟩
theorem own_retAW (X : Stand p l e R (s.setVm vm0) m args below meth c T locs cells slots) (hx : p.tables.exec = Jvm.exec) (hlk : meth.locks = false) (eT : T.heap = h) (W : own_Wd s Z EL vm0 h) (hZ : Z.Warmed39 (s.setVm vm0).vm) (hEL : EW Z a0 EL) {pc : Nat} {Ls : Array Slot} {w : Value} {t : FieldType} {rest : List Value} (hret : meth.sig.returnType = some t) (ht : t.isReference = true) (hw : w.isRef = true) (hn : narrow t w = w) (hd : decode c.code pc = .ok (.areturn, 1)) (hk : cells ≤ k) (hs : slots ≤ n) (hQ : Q (some w) T.heap locs) : own_EndsW p e below s Z EL Q k n (T.setTop (mkF m pc Ls (w :: rest))) :=
  own_retW X hx hlk eT W hZ hEL hret hn (Or.inr (Or.inr (Or.inr (Or.inr ⟨rfl, ht, hw⟩)))) hd hk hs hQ
theorem own_retNW (X : Stand p l e R (s.setVm vm0) m args below meth c T locs cells slots) (hx : p.tables.exec = Jvm.exec) (hlk : meth.locks = false) (eT : T.heap = h) (W : own_Wd s Z EL vm0 h) (hZ : Z.Warmed39 (s.setVm vm0).vm) (hEL : EW Z a0 EL) {pc : Nat} {Ls : Array Slot} {z : Int32} {t : FieldType} {rest : List Value} (hret : meth.sig.returnType = some t) (ht : t = .boolean ∨ t = .byte ∨ t = .char ∨ t = .short) (hd : decode c.code pc = .ok (.ireturn, 1)) (hk : cells ≤ k) (hs : slots ≤ n) (hQ : Q (some (.int (nar t z))) T.heap locs) : own_EndsW p e below s Z EL Q k n (T.setTop (mkF m pc Ls (.int z :: rest))) := by
  subst eT
  obtain ⟨⟨k0, h1, h2⟩, h3⟩ := W
  have hA : CHr Z EL s.vm s.heap T.vm T.heap := h3.trans (CHv.at X hZ hEL h3.1)
  obtain ⟨fs, hr, hrun, hended, q1, q2, q3, q4⟩ := X.leaveW h1 h2 (v := some (.int (nar t z))) (fun h => by rw [hret] at h; cases h) hlk
  exact ⟨_, _, retN X hx hret ht hd hr, hrun, hended, _, _, rfl, hQ, hA, q1, q2, q3, q4.mono hk hs⟩
theorem own_retVW (X : Stand p l e R (s.setVm vm0) m args below meth c T locs cells slots) (hx : p.tables.exec = Jvm.exec) (hlk : meth.locks = false) (eT : T.heap = h) (W : own_Wd s Z EL vm0 h) (hZ : Z.Warmed39 (s.setVm vm0).vm) (hEL : EW Z a0 EL) {pc : Nat} {Ls : Array Slot} (hret : meth.sig.returnType = none) (hd : decode c.code pc = .ok (.return_, 1)) (hk : cells ≤ k) (hs : slots ≤ n) (hQ : Q none T.heap locs) : own_EndsW p e below s Z EL Q k n (T.setTop (mkF m pc Ls [])) := by
  subst eT
  obtain ⟨⟨k0, h1, h2⟩, h3⟩ := W
  have hA : CHr Z EL s.vm s.heap T.vm T.heap := h3.trans (CHv.at X hZ hEL h3.1)
  obtain ⟨fs, hr, hrun, hended, q1, q2, q3, q4⟩ := X.leaveW h1 h2 (v := none) (fun _ => rfl) hlk
  exact ⟨_, _, X.returnOut hx hret hd hr, hrun, hended, _, _, rfl, hQ, hA, q1, q2, q3, q4.mono hk hs⟩
theorem own_ldcO (X : Stand p l e R (s.setVm vm0) m args below meth c T locs cells slots) (hx : p.tables.exec = Jvm.exec) (hZ : Z.Warmed39 (s.setVm vm0).vm) {own text : String} {index : Nat} (hown : (s.setVm vm0).vm.findClass own = some m.cls) (w : (Cond.stringLink own index text).before a0 Z = true) (wS : ∀ a ∈ Bundle.stringAtoms, a.before a0 Z = true) (eT : T.heap = h) (W : own_Wd s Z EL vm0 h) (hEL : EW Z a0 EL)
    {g : JFrame} (hg : g.method = m) (hd : decode c.code g.pc = .ok (.ldc index, 2)) {n : Nat} (hn : 4 * text.toList.length ≤ n) (hbig : n ≤ 536870912) (hc : cells + 2 ≤ R.cells) (hl' : slots + (n + 4) ≤ R.slots) :
    ∃ (a : Addr) (T' : State) (h' : Heap), Stand p l e R (s.setVm T'.vm) m args below meth c T' locs (cells + 2) (slots + (n + 4)) ∧ T'.heap = h' ∧ Ext h h' ∧ own_Wd s Z EL T'.vm h' ∧ Z.Warmed39 (s.setVm T'.vm).vm ∧ (s.setVm T'.vm).vm.findClass own = some m.cls ∧
      ∀ target, Steps p.tables e below (T'.setTop { g with pc := g.pc + 2, stack := .ref a :: g.stack }) target → Steps p.tables e below (T.setTop g) target := by
  obtain ⟨⟨k0, h1, h2⟩, h3⟩ := W
  obtain ⟨a, T', h', k1, X', e', E, hS, hk, hZ', hf, C, -, st⟩ := ldcOH X hx hZ hown w wS eT h1 h2 hEL h3.1 hg hd hn hbig hc hl'
  exact ⟨a, T', h', X', e', E, ⟨⟨k1, hS, hk⟩, h3.trans C⟩, hZ', hf, st⟩
/-- ldc of the empty text, read; x: an object that stays safe -/
theorem own_ldcE (X : Stand p l e R (s.setVm vm0) m args below meth c T locs cells slots) (hx : p.tables.exec = Jvm.exec) (hZ : Z.Warmed39 (s.setVm vm0).vm) {own : String} {index : Nat} (hown : (s.setVm vm0).vm.findClass own = some m.cls) (w : (Cond.stringLink own index "").before a0 Z = true) (wS : ∀ a ∈ Bundle.stringAtoms, a.before a0 Z = true) (eT : T.heap = h) (W : own_Wd s Z EL vm0 h) (hEL : EW Z a0 EL) (hmem : (own, index) ∈ EL) {x : Addr} (hlt : x < h.size) (S : Safe Z EL vm0 h x)
    {g : JFrame} (hg : g.method = m) (hd : decode c.code g.pc = .ok (.ldc index, 2)) (hc : cells + 2 ≤ R.cells) (hl' : slots + (0 + 4) ≤ R.slots) :
    ∃ (a : Addr) (T' : State) (h' : Heap) (b : Addr), Stand p l e R (s.setVm T'.vm) m args below meth c T' locs (cells + 2) (slots + (0 + 4)) ∧ T'.heap = h' ∧ Ext h h' ∧ own_Wd s Z EL T'.vm h' ∧ Z.Warmed39 (s.setVm T'.vm).vm ∧ (s.setVm T'.vm).vm.findClass own = some m.cls ∧
      Fld Z h' a "java/lang/String" "coder" "B" (.int 0) ∧ Fld Z h' a "java/lang/String" "value" "[B" (.ref b) ∧ own_Ar Z h' b .byte 0 (fun _ => .int (0 : Int32)) ∧ Safe Z EL T'.vm h' x ∧ x ≠ a ∧ x ≠ b ∧
      ∀ target, Steps p.tables e below (T'.setTop { g with pc := g.pc + 2, stack := .ref a :: g.stack }) target → Steps p.tables e below (T.setTop g) target := by
  obtain ⟨⟨k0, h1, h2⟩, h3⟩ := W
  obtain ⟨a, T', h', k1, b, kk, X', e', E, hS, hk, hZ', hf, Ea, Fc, Fv, Ab, -, -, C, -, ne, st⟩ := ldcCH (vs := []) (z := 0) (n := 0) X hx hZ hown w wS eT h1 h2 hEL hmem h3.1 ⟨fun c hc => by simp at hc, by simp⟩ (by decide) rfl hg hd (by simp) (by decide) hc hl'
  have S' : Safe Z EL T'.vm h' x := C.safe hlt S
  obtain ⟨n1, n2⟩ := ne x S'
  obtain ⟨cb, A1, -, A2, -⟩ := Ab
  exact ⟨a, T', h', b, X', e', E, ⟨⟨k1, hS, hk⟩, h3.trans C⟩, hZ', hf, Fc, Fv, ⟨cb, A1, A2, fun i hi => absurd hi (Nat.not_lt_zero _)⟩, S', n1, n2, st⟩
theorem own_fold {own : String} {T' : State} {locs' : List Loc} {cells' slots' : Nat} (W : own_Wd s Z EL vm0 h) (eT : T.heap = h) (X : Stand p l e R ((s.setVm vm0).setVm T'.vm) m args below meth c T' locs' cells' slots') (h2 : (s.setVm vm0).Since T'.vm T'.heap.size) (g : T.heap.size ≤ T'.heap.size) (C : CHr Z EL vm0 h T'.vm T'.heap) (hZ : Z.Warmed39 (s.setVm vm0).vm) (hown : (s.setVm vm0).vm.findClass own = some m.cls) :
    Stand p l e R (s.setVm T'.vm) m args below meth c T' locs' cells' slots' ∧ own_Wd s Z EL T'.vm T'.heap ∧ Z.Warmed39 (s.setVm T'.vm).vm ∧ (s.setVm T'.vm).vm.findClass own = some m.cls := by
  subst eT
  obtain ⟨⟨k0, h1, h3⟩, h4⟩ := W
  obtain ⟨a, b, c', d⟩ := rebS h1 h3 X h2 g hZ hown
  exact ⟨a, ⟨⟨_, b, Nat.le_refl _⟩, h4.trans C⟩, c', d⟩
end OwnWide
section OwnStr
variable {Z : State} {EL : List (String × Nat)} {vm : Vm} {h h' : Heap} {a0 : Array Value} {x r b : Addr} {C : String} {ty : FieldType} {n k : Nat} {f : Nat → Value} {G : Nat → Int32}
theorem own_safeAr (hal : Z.vm.Alike vm) (F : own_Ar Z h x ty n f) (ht : ty ≠ .byte) : Safe Z EL vm h x := by obtain ⟨c, A, -⟩ := F; exact Safe.arr hal A ht
theorem own_neAr (E : Exa Z h x C) (F : own_Ar Z h b ty n f) (w : (Cond.instantiable C k).before a0 Z = true) : x ≠ b := fun q => by
  subst q
  obtain ⟨c1, k1, e1, f1, g1, -⟩ := E
  obtain ⟨c2, ⟨e2, ⟨-, kk, hk, comp, hkind⟩, -⟩, -⟩ := F
  cases e1.symm.trans e2
  obtain ⟨c3, k3, f3, g3, ho, -⟩ := Cond.instantiable_spec w
  cases f1.symm.trans f3
  cases g1.symm.trans g3
  cases g1.symm.trans hk
  rw [ho] at hkind; cases hkind
theorem own_safeStr (hal : Z.vm.Alike vm) (E : Exa Z h x "java/lang/String") (V : Fld Z h x "java/lang/String" "value" "[B" .null) : Safe Z EL vm h x := fun B => by
  obtain ⟨p, -, u, a, -, q, hq, F, e⟩ := B
  rcases e with rfl | rfl
  · obtain ⟨cS, ⟨⟨s1, s2, s3, ⟨cv, kv, iv, s4, s4'⟩, -, s6, s7, s8, -⟩, -⟩, -⟩ := F
    obtain ⟨cell, cf, kf, i, fl, v1, v2, v3, v4, v5, v6, v7⟩ := V
    cases (show h[q.sa]? = some q.sC from s1).symm.trans v1
    obtain ⟨kv', z4⟩ := ff_back (U := Wst Z vm h) hal s4
    have e1 := v2.symm.trans z4
    simp only [Option.some.injEq, Prod.mk.injEq] at e1
    rw [e1.2.2.2, s8] at v7
    cases v7
  · obtain ⟨cell, kE, e1, e2, e3, -, -⟩ := E
    cases (show h[q.sd]? = some q.SA from F.hd).symm.trans e1
    obtain ⟨cS, -, -, fB, -⟩ := F
    have fB : vm.findClass "[B" = some q.SA.cls := fB
    rw [hal.findClass] at fB
    obtain ⟨k1, q1, q2⟩ := Vm.findClass_spec fB
    obtain ⟨k2, q3, q4⟩ := Vm.findClass_spec e2
    cases q1.symm.trans q3
    exact absurd (q2.symm.trans q4) (by decide)
/-- r is a Latin-1 String of n bytes G -/
def own_Str (Z : State) (h : Heap) (r : Addr) (n : Nat) (G : Nat → Int32) : Prop := Exa Z h r "java/lang/String" ∧ Fld Z h r "java/lang/String" "coder" "B" (.int (0 : Int32)) ∧ ∃ b, Fld Z h r "java/lang/String" "value" "[B" (.ref b) ∧ own_Ar Z h b .byte n (fun i => .int (G i))
theorem own_Str.lt (F : own_Str Z h r n G) : r < h.size := F.1.lt
theorem own_Str.ext (F : own_Str Z h r n G) (E : Ext h h') : own_Str Z h' r n G := by
  obtain ⟨E1, F1, b, F2, A⟩ := F
  exact ⟨Exa.ext E E1, Fld.ext E F1, b, Fld.ext E F2, A.ext E⟩
theorem own_Str.keep0 (F : own_Str Z h r n G) (K : Keep h h' []) : own_Str Z h' r n G := by
  obtain ⟨E1, F1, b, F2, A⟩ := F
  exact ⟨E1.keep K, F1.keep K nin0, b, F2.keep K nin0, A.keep K nin0⟩
theorem own_Str.keep1 (F : own_Str Z h r n G) (K : Keep h h' [x]) (E : Exa Z h x C) (hC : C ≠ "java/lang/String") (w : (Cond.instantiable C k).before a0 Z = true) : own_Str Z h' r n G := by
  obtain ⟨E1, F1, b, F2, A⟩ := F
  have n1 : r ≠ x := (Exa.ne E E1 hC).symm
  have n2 : b ≠ x := (own_neAr E A w).symm
  exact ⟨E1.keep K, F1.keep K (ninS n1 nin0), b, F2.keep K (ninS n1 nin0), A.keep K (ninS n2 nin0)⟩
theorem own_Str.cong (F : own_Str Z h r n G) {n' : Nat} {G' : Nat → Int32} (hn : n' = n) (hG : ∀ i, i < n → G' i = G i) : own_Str Z h r n' G' := by
  subst hn
  obtain ⟨E1, F1, b, F2, A⟩ := F
  exact ⟨E1, F1, b, F2, A.cong fun i hi => by rw [hG i hi]⟩
theorem own_Ar.same {m : Nat} {g : Nat → Value} (F : own_Ar Z h b ty n f) (F' : own_Ar Z h b ty m g) : n = m ∧ ∀ i, i < n → f i = g i := by
  obtain ⟨c, A, e, q⟩ := F
  obtain ⟨c', A', e', q'⟩ := F'
  cases A.1.symm.trans A'.1
  exact ⟨e.symm.trans e', fun i hi => Option.some.inj ((q i hi).symm.trans (q' i (by omega)))⟩
theorem own_Fld.same {O d nm : String} {v v' : Value} (F : Fld Z h x O nm d v) (F' : Fld Z h x O nm d v') : v = v' := by
  obtain ⟨c, cf, kf, i, fl, h1, h2, -, -, -, -, h7⟩ := F
  obtain ⟨c', cf', kf', i', fl', h1', h2', -, -, -, -, h7'⟩ := F'
  cases h1.symm.trans h1'
  cases h2.symm.trans h2'
  exact Option.some.inj (h7.symm.trans h7')
theorem own_Str.same {m : Nat} {H : Nat → Int32} (F : own_Str Z h r n G) (F' : own_Str Z h r m H) : n = m ∧ ∀ i, i < n → G i = H i := by
  obtain ⟨-, -, b, F2, A⟩ := F
  obtain ⟨-, -, b', F2', A'⟩ := F'
  have e := Value.ref.inj (own_Fld.same F2 F2')
  subst e
  obtain ⟨q1, q2⟩ := own_Ar.same A A'
  exact ⟨q1, fun i hi => Value.int.inj (q2 i hi)⟩
/-- an exact object of class C isn't one of class K, C being a child of the root -/
theorem own_notInst {O K : String} {k : Nat} (w : (Cond.superclass C O).before a0 Z = true) (wo : (Cond.noSuperclass O).before a0 Z = true) (wc : (Cond.instantiable C n).before a0 Z = true) (wk : (Cond.instantiable K k).before a0 Z = true) (n1 : C ≠ K) (n2 : O ≠ K) : ∃ c t, Z.vm.findClass C = some c ∧ Z.vm.findClass K = some t ∧ Z.vm.assignable c t = false := by
  obtain ⟨c, kc, f1, g1, o1, -⟩ := Cond.instantiable_spec wc
  obtain ⟨t, kt, f2, g2, o2, i2, -⟩ := Cond.instantiable_spec wk
  obtain ⟨po, kp, kpo, f3, g3, g4, u3, -, -, -⟩ := Cond.superclass_spec f1 w
  obtain ⟨po', kr, f5, g5, u5, -, -⟩ := Cond.noSuperclass_spec wo
  cases f3.symm.trans f5
  cases g4.symm.trans g5
  cases g1.symm.trans g3
  have e1 : c ≠ t := ids_ne f1 f2 n1
  have e2 : po ≠ t := ids_ne f3 f2 n2
  refine ⟨c, t, f1, f2, ?_⟩
  have i2' : kt.isInterface = false := by cases hq : kt.isInterface with
    | false => rfl
    | true => rw [hq] at i2; cases i2
  have s0 : ∀ fuel, Z.vm.isSubclassAux fuel po t = false := fun fuel => by
    cases fuel with
    | zero => rfl
    | succ q => simp [Vm.isSubclassAux, e2, g4, u5]
  have s1 : ∀ fuel, Z.vm.isSubclassAux fuel c t = false := fun fuel => by
    cases fuel with
    | zero => rfl
    | succ q => simp [Vm.isSubclassAux, e1, g1, u3, s0]
  show Z.vm.assignableAux (255 + 1) c t = false
  simp [Vm.assignableAux, e1, g1, g2, o1, o2, i2', Vm.isSubclass, s1]
end OwnStr
theorem own_SA {Z : State} {ar : Array Value} (hw : ∀ d ∈ tables_1, d.before ar Z = true) : ∀ a ∈ Bundle.stringAtoms, a.before ar Z = true := fun a ha => by
  simp only [Bundle.stringAtoms, List.mem_cons, List.not_mem_nil, or_false] at ha
  rcases ha with rfl | rfl | rfl | rfl | rfl | rfl | rfl
  · exact (hw _ (List.mem_of_getElem? (i := 16) rfl))
  · exact (hw _ (List.mem_of_getElem? (i := 15) rfl))
  · exact (hw _ (List.mem_of_getElem? (i := 32) rfl))
  · exact (hw _ (List.mem_of_getElem? (i := 42) rfl))
  · exact (hw _ (List.mem_of_getElem? (i := 40) rfl))
  · exact (hw _ (List.mem_of_getElem? (i := 48) rfl))
  · exact (hw _ (List.mem_of_getElem? (i := 49) rfl))
theorem own_EW {Z : State} {ar : Array Value} (hw : ∀ d ∈ tables_1, d.before ar Z = true) : EW Z ar consts_1 := (EW.cons (hw _ (List.mem_of_getElem? (i := 47) rfl)) (by first | decide | decide +kernel) (EW.cons (hw _ (List.mem_of_getElem? (i := 57) rfl)) (by first | decide | decide +kernel) (EW.cons (hw _ (List.mem_of_getElem? (i := 62) rfl)) (by first | decide | decide +kernel) EW.nil)))
abbrev own_by (x : Int32) : Int32 := nar .byte (x.toInt8.toInt32)
def own_eq (n m : Nat) (G H : Nat → Int32) : Prop := n = m ∧ ∀ i, i < n → G i = H i
theorem own_eq.refl (n : Nat) (G : Nat → Int32) : own_eq n n G G := ⟨rfl, fun _ _ => rfl⟩
theorem own_eq.symm {n m : Nat} {G H : Nat → Int32} (h : own_eq n m G H) : own_eq m n H G := ⟨h.1.symm, fun i hi => (h.2 i (by have := h.1; omega)).symm⟩
def own_ans (z : Int32) (P : Prop) : Prop := (z = 1 ∧ P) ∨ (z = 0 ∧ ¬ P)
theorem own_ans.pos {z : Int32} {P : Prop} (h : own_ans z P) (q : ¬ z = (0 : Int32)) : P := by
  rcases h with ⟨-, p⟩ | ⟨p, -⟩
  · exact p
  · exact absurd p q
theorem own_ans.neg {z : Int32} {P : Prop} (h : own_ans z P) (q : z = (0 : Int32)) : ¬ P := by
  rcases h with ⟨p, -⟩ | ⟨-, p⟩
  · rw [q] at p; exact absurd p (by decide)
  · exact p
theorem own_ans.yes {z : Int32} {P : Prop} (h : own_ans z P) (p : P) : z = (1 : Int32) := by
  rcases h with ⟨q, -⟩ | ⟨-, q⟩
  · exact q
  · exact absurd p q
theorem own_ans.no {z : Int32} {P : Prop} (h : own_ans z P) (p : ¬ P) : z = (0 : Int32) := by
  rcases h with ⟨-, q⟩ | ⟨q, -⟩
  · exact absurd q p
  · exact q
theorem own_c32 {i : Nat} (h : i < 2147483648) : (Int32.ofNat i).toInt = (i : Int) := Int32.toInt_ofNat_of_lt h
theorem own_tn {x : Int32} : x.toNatClampNeg = x.toInt.toNat := rfl
theorem own_cn {i : Nat} (h : i < 2147483648) : (Int32.ofNat i).toNatClampNeg = i := by rw [own_tn, own_c32 h]; rfl
theorem own_succ {i : Nat} : Int32.ofNat i + (1 : Int32) = Int32.ofNat (i + 1) := (Int32.ofNat_add i 1).symm
theorem own_nn0 {i : Nat} (h : i < 2147483648) : ¬ Int32.ofNat i < 0 := by
  rw [Int32.lt_iff_toInt_lt, own_c32 h, show (0 : Int32).toInt = 0 by decide]; omega
theorem own_ltn {i n : Nat} (h : i < n) (hn : n < 1000) : (Int32.ofNat i).toNatClampNeg < n := by rw [own_cn (by omega)]; exact h
theorem own_ilt {i n : Nat} (h : i < n) (hn : n < 1000) : Int32.ofNat i < Int32.ofNat n := by
  rw [Int32.lt_iff_toInt_lt, own_c32 (by omega), own_c32 (by omega)]; omega
theorem own_ige {i n : Nat} (h : i = n) : ¬ Int32.ofNat i < Int32.ofNat n := by rw [h]; exact Int32.lt_irrefl
theorem own_of32 {n m : Nat} (hn : n < 1000) (hm : m < 1000) (h : Int32.ofNat n = Int32.ofNat m) : n = m := by
  have := congrArg Int32.toInt h
  rw [own_c32 (by omega), own_c32 (by omega)] at this; omega
theorem own_grow {i : Nat} {G H : Nat → Int32} (hi : i < 1000) (hno : ∀ j, j < i → G j = H j) (h : G (Int32.ofNat i).toNatClampNeg = H (Int32.ofNat i).toNatClampNeg) : ∀ j, j < i + 1 → G j = H j := fun j hj => by
  rw [own_cn (by omega)] at h
  rcases Nat.lt_or_ge j i with q | q
  · exact hno j q
  · have : j = i := by omega
    subst this; exact h
theorem own_bad {i n m : Nat} {G H : Nat → Int32} (hi : i < n) (hn : n < 1000) (h : ¬ G (Int32.ofNat i).toNatClampNeg = H (Int32.ofNat i).toNatClampNeg) : ¬ own_eq n m G H := fun q => by
  rw [own_cn (by omega)] at h
  exact h (q.2 i hi)
theorem dsiB0_0 : decode jdk_42_method_149_code 0 = .ok (.aload_n 0, 1) := by decide +kernel
theorem dsiB0_1 : decode jdk_42_method_149_code 1 = .ok (.invokespecial 1, 3) := by decide +kernel
theorem dsiB0_4 : decode jdk_42_method_149_code 4 = .ok (.iload_n 3, 1) := by decide +kernel
theorem dsiB0_5 : decode jdk_42_method_149_code 5 = .ok (.ifCond .ne 22, 3) := by decide +kernel
theorem dsiB0_8 : decode jdk_42_method_149_code 8 = .ok (.aload_n 0, 1) := by decide +kernel
theorem dsiB0_9 : decode jdk_42_method_149_code 9 = .ok (.ldc 7, 2) := by decide +kernel
theorem dsiB0_11 : decode jdk_42_method_149_code 11 = .ok (.getfield 9, 3) := by decide +kernel
theorem dsiB0_14 : decode jdk_42_method_149_code 14 = .ok (.putfield 9, 3) := by decide +kernel
theorem dsiB0_17 : decode jdk_42_method_149_code 17 = .ok (.aload_n 0, 1) := by decide +kernel
theorem dsiB0_18 : decode jdk_42_method_149_code 18 = .ok (.ldc 7, 2) := by decide +kernel
theorem dsiB0_20 : decode jdk_42_method_149_code 20 = .ok (.getfield 15, 3) := by decide +kernel
theorem dsiB0_23 : decode jdk_42_method_149_code 23 = .ok (.putfield 15, 3) := by decide +kernel
theorem dsiB0_26 : decode jdk_42_method_149_code 26 = .ok (.return_, 1) := by decide +kernel
theorem pnsiB0 : plainName "java/lang/String" = true := by first | (simp [plainName, overriddenIn]; done) | decide +kernel
theorem efsiB0 (m : MethodId) (a0 : Addr) (a1 : Addr) : entryFrame m #[(.ref a0), (.ref a1), (.int (0 : Int32)), (.int (0 : Int32)), .null] 6 = mkF m 0 #[.val (.ref a0), .val (.ref a1), .val (.int (0 : Int32)), .val (.int (0 : Int32)), .val .null, .unset] [] := by first | (simp [entryFrame, mkF, argsToLocals, Value.category]; done) | rfl
def QsiB0 (Z : State) (a0 : Addr) (a1 : Addr) (h0 : Heap) (n0 : Nat) (v : Option Value) (h : Heap) (L : List Loc) : Prop := v = none ∧ Fr n0 L ∧ Keep h0 h [a0] ∧ own_Str Z h a0 0 (fun _ => (0 : Int32))
set_option maxRecDepth 65536 in
set_option maxHeartbeats 40000000 in
theorem rmsiB0 (l : Launch) (Z : State) (ar : Array Value) (hw : ∀ d ∈ tables_1, d.before ar Z = true) (ws : List Jvm.Cond) (a0 : Addr) (a1 : Addr) (h0 : Heap) (n0 : Nat) (O0 : Old Z n0 h0) (E_a0 : Exa Z h0 a0 "java/lang/String") (g_a0 : n0 ≤ a0) (F_value_a0 : Fld Z h0 a0 "java/lang/String" "value" "[B" .null) (F_coder_a0 : Fld Z h0 a0 "java/lang/String" "coder" "B" (.int (0 : Int32))) :
    MetFree l (⟨"java/lang/String", "<init>", "([CIILjava/lang/Void;)V"⟩ : MethodName) (head1 (Jvm.Cond.code (⟨"java/lang/String", "<init>", "([CIILjava/lang/Void;)V"⟩ : MethodName) jdk_42_method_149_code 6 none :: ws) ({ frames := 1, cells := 4, slots := 8, locals := 12 } : Room)) (fun a U => a = #[(.ref a0), (.ref a1), (.int (0 : Int32)), (.int (0 : Int32)), .null] ∧ Z.Warmed39 U.vm ∧ U.heap = h0 ∧ CHv Z consts_1 U.vm h0) (fun _ _ _ _ _ => True) (fun _ U o U' => ∃ v L, o = .returned v ∧ QsiB0 Z a0 a1 h0 n0 v U'.heap L ∧ CHr Z consts_1 U.vm U.heap U'.vm U'.heap ∧ ReturnedEndW U o U' L ({ frames := 1, cells := 4, slots := 8, locals := 12 } : Room).cells ({ frames := 1, cells := 4, slots := 8, locals := 12 } : Room).slots) := by
  refine MetFree.of_bodySF (plainFor_of_name pnsiB0) hisR ?_
  intro p e s m args below meth c s₁ Bd hml0 hP hK
  obtain ⟨rfl, hZ, hh, hCH⟩ := hP
  have hx := Bd.exec
  have hby := Bd.bytes
  have hml : c.maxLocals = 6 := hml0
  have hown : s.vm.findClass "java/lang/String" = some m.cls := findClass_of_methodNamed Bd.named
  have hnm := (name_of_methodNamed Bd.named Bd.method).1
  have hlk : meth.locks = false := BodyLoose.notSynchronized Bd
  have X0 : Stand p l e ({ frames := 1, cells := 4, slots := 8, locals := 12 } : Room) (s.setVm s.vm) m #[(.ref a0), (.ref a1), (.int (0 : Int32)), (.int (0 : Int32)), .null] below meth c s₁ [] 0 0 := Stand.of_body Bd
  have e0 : s₁.heap = h0 := by rw [← hh, Bd.state]; rfl
  have N0 := Fr.nil n0
  have Wd0 : own_Wd s Z consts_1 s.vm h0 := own_Wd.start hh hCH
  suffices hmain : own_EndsW p e below s Z consts_1 (QsiB0 Z a0 a1 h0 n0) 4 8 (s₁.setTop (mkF m 0 #[.val (.ref a0), .val (.ref a1), .val (.int (0 : Int32)), .val (.int (0 : Int32)), .val .null, .unset] [])) by
    obtain ⟨U, o, h1, r⟩ := hmain
    exact ⟨U, o, castTop (efsiB0 m a0 a1) h1, r⟩
  show own_EndsW _ _ _ _ _ _ _ _ _ (s₁.setTop (mkF m 0 #[.val (.ref a0), .val (.ref a1), .val (.int (0 : Int32)), .val (.int (0 : Int32)), .val .null, .unset] []))
  refine own_goW (fun _ k => XS.aloadN X0.here hx rfl (hb hby dsiB0_0) rfl rfl k) ?_
  show own_EndsW _ _ _ _ _ _ _ _ _ (s₁.setTop (mkF m 1 #[.val (.ref a0), .val (.ref a1), .val (.int (0 : Int32)), .val (.int (0 : Int32)), .val .null, .unset] [(.ref a0)]))
  obtain ⟨T1, X1, e1, st1⟩ := initO X0 hx hZ hown (hw _ (List.mem_of_getElem? (i := 24) rfl)) (hw _ (List.mem_of_getElem? (i := 25) rfl)) (hw _ (List.mem_of_getElem? (i := 26) rfl)) e0 (g := (mkF m 1 #[.val (.ref a0), .val (.ref a1), .val (.int (0 : Int32)), .val (.int (0 : Int32)), .val .null, .unset] [(.ref a0)])) rfl (by rw [hml]; rfl) rfl (hb hby dsiB0_1) (by decide) (W := 0) (by show 2 * 0 + _ ≤ _; exact Nat.le_of_eq rfl) (by decide)
  refine own_goW (fun _ k => st1 _ k) ?_
  show own_EndsW _ _ _ _ _ _ _ _ _ (T1.setTop (mkF m 4 #[.val (.ref a0), .val (.ref a1), .val (.int (0 : Int32)), .val (.int (0 : Int32)), .val .null, .unset] []))
  refine own_goW (fun _ k => XS.iloadN X1.here hx rfl (hb hby dsiB0_4) rfl k) ?_
  show own_EndsW _ _ _ _ _ _ _ _ _ (T1.setTop (mkF m 5 #[.val (.ref a0), .val (.ref a1), .val (.int (0 : Int32)), .val (.int (0 : Int32)), .val .null, .unset] [(.int (0 : Int32))]))
  refine own_goW (fun _ k => XS.ifNo X1.here hx rfl (hb hby dsiB0_5) rfl ((if0 _ _).trans (teq (by decide)).2) k) ?_
  have Sf0 : Safe Z consts_1 s.vm h0 a0 := own_safeStr hZ.alike E_a0 F_value_a0
  show own_EndsW _ _ _ _ _ _ _ _ _ (T1.setTop (mkF m 8 #[.val (.ref a0), .val (.ref a1), .val (.int (0 : Int32)), .val (.int (0 : Int32)), .val .null, .unset] []))
  refine own_goW (fun _ k => XS.aloadN X1.here hx rfl (hb hby dsiB0_8) rfl rfl k) ?_
  show own_EndsW _ _ _ _ _ _ _ _ _ (T1.setTop (mkF m 9 #[.val (.ref a0), .val (.ref a1), .val (.int (0 : Int32)), .val (.int (0 : Int32)), .val .null, .unset] [(.ref a0)]))
  obtain ⟨b2, T2, h2, vb2, X2, e2, E2, Wd2, hZ, hown, Fc2, Fv2, Av2, Sf2, nx2, ny2, st2⟩ := own_ldcE X1 hx hZ hown (hw _ (List.mem_of_getElem? (i := 62) rfl)) (own_SA hw) e1 Wd0 (own_EW hw) (List.mem_of_getElem? (i := 2) rfl) E_a0.lt Sf0 (g := (mkF m 9 #[.val (.ref a0), .val (.ref a1), .val (.int (0 : Int32)), .val (.int (0 : Int32)), .val .null, .unset] [(.ref a0)])) rfl (hb hby dsiB0_9) (by decide) (by decide)
  refine own_goW (fun _ k => st2 _ k) ?_
  have F3 : Exa Z h2 a0 "java/lang/String" := (Exa.ext E2 E_a0)
  have F4 : Fld Z h2 a0 "java/lang/String" "value" "[B" .null := (Fld.ext E2 F_value_a0)
  have F5 : Fld Z h2 a0 "java/lang/String" "coder" "B" (.int (0 : Int32)) := (Fld.ext E2 F_coder_a0)
  have F6 : Old Z n0 h2 := (O0.ext E2)
  have K7 : Keep h0 h2 [a0] := (Keep.refl h0 [a0]).ext E2
  show own_EndsW _ _ _ _ _ _ _ _ _ (T2.setTop (mkF m 11 #[.val (.ref a0), .val (.ref a1), .val (.int (0 : Int32)), .val (.int (0 : Int32)), .val .null, .unset] [(.ref b2), (.ref a0)]))
  obtain ⟨T8, X8, e8, st8⟩ := getF X2 hx hZ hown (host := "") (Or.inl (hw _ (List.mem_of_getElem? (i := 41) rfl))) Via.refl e2 Fv2 (g := (mkF m 11 #[.val (.ref a0), .val (.ref a1), .val (.int (0 : Int32)), .val (.int (0 : Int32)), .val .null, .unset] [(.ref b2), (.ref a0)])) rfl rfl (hb hby dsiB0_11)
  refine own_goW (fun _ k => st8 _ k) ?_
  show own_EndsW _ _ _ _ _ _ _ _ _ (T8.setTop (mkF m 14 #[.val (.ref a0), .val (.ref a1), .val (.int (0 : Int32)), .val (.int (0 : Int32)), .val .null, .unset] [(.ref vb2), (.ref a0)]))
  obtain ⟨T9, h9, X9, e9, W9, st9⟩ := putF X8 hx hZ hown (host := "") (Or.inl (hw _ (List.mem_of_getElem? (i := 41) rfl))) Via.refl e8 F4 F3 (Or.inr ⟨(hw _ (List.mem_of_getElem? (i := 42) rfl)), rfl, hnm⟩) (hw _ (List.mem_of_getElem? (i := 15) rfl)) (ty := (.array .byte)) (by decide) rfl rfl (g := (mkF m 14 #[.val (.ref a0), .val (.ref a1), .val (.int (0 : Int32)), .val (.int (0 : Int32)), .val .null, .unset] [(.ref vb2), (.ref a0)])) rfl rfl (hb hby dsiB0_14)
  refine own_goW (fun _ k => st9 _ k) ?_
  have N9 := Fr.snoc X9 N0 g_a0
  have Sf10 : Safe Z consts_1 T2.vm h9 a0 := Safe.wr W9 Sf2 Wd2.ch Sf2
  have Wd9 : own_Wd s Z consts_1 T2.vm h9 := Wd2.wr W9 Sf2
  have F11 : Exa Z h9 a0 "java/lang/String" := (Exa.wr W9 F3)
  have F12 : Fld Z h9 a0 "java/lang/String" "coder" "B" (.int (0 : Int32)) := (Fld.other W9 F5 (Or.inr (slot_ne (Or.inr (hw _ (List.mem_of_getElem? (i := 40) rfl))) (Or.inr (hw _ (List.mem_of_getElem? (i := 42) rfl))) (by decide) (t := .byte) (t' := (.array .byte)) (by decide) (by decide))))
  have F13 : Old Z n0 h9 := (F6.wr W9 g_a0)
  have F14 : Fld Z h9 b2 "java/lang/String" "coder" "B" (.int 0) := (Fld.other W9 Fc2 (Or.inl (Ne.symm nx2)))
  have F15 : Fld Z h9 b2 "java/lang/String" "value" "[B" (.ref vb2) := (Fld.other W9 Fv2 (Or.inl (Ne.symm nx2)))
  have F16 : own_Ar Z h9 vb2 .byte 0 (fun i => .int ((fun _ => (0 : Int32)) i)) := (Av2.other W9 (Ne.symm ny2))
  have F17 : Fld Z h9 a0 "java/lang/String" "value" "[B" (.ref vb2) := Fld.same W9 F4
  have K18 : Keep h0 h9 [a0] := K7.wr W9 (Or.inl (List.mem_of_getElem? (i := 0) rfl))
  show own_EndsW _ _ _ _ _ _ _ _ _ (T9.setTop (mkF m 17 #[.val (.ref a0), .val (.ref a1), .val (.int (0 : Int32)), .val (.int (0 : Int32)), .val .null, .unset] []))
  refine own_goW (fun _ k => XS.aloadN X9.here hx rfl (hb hby dsiB0_17) rfl rfl k) ?_
  show own_EndsW _ _ _ _ _ _ _ _ _ (T9.setTop (mkF m 18 #[.val (.ref a0), .val (.ref a1), .val (.int (0 : Int32)), .val (.int (0 : Int32)), .val .null, .unset] [(.ref a0)]))
  obtain ⟨b19, T19, h19, vb19, X19, e19, E19, Wd19, hZ, hown, Fc19, Fv19, Av19, Sf19, nx19, ny19, st19⟩ := own_ldcE X9 hx hZ hown (hw _ (List.mem_of_getElem? (i := 62) rfl)) (own_SA hw) e9 Wd9 (own_EW hw) (List.mem_of_getElem? (i := 2) rfl) F11.lt Sf10 (g := (mkF m 18 #[.val (.ref a0), .val (.ref a1), .val (.int (0 : Int32)), .val (.int (0 : Int32)), .val .null, .unset] [(.ref a0)])) rfl (hb hby dsiB0_18) (by decide) (by decide)
  refine own_goW (fun _ k => st19 _ k) ?_
  have F20 : Exa Z h19 a0 "java/lang/String" := (Exa.ext E19 F11)
  have F21 : Fld Z h19 a0 "java/lang/String" "value" "[B" (.ref vb2) := (Fld.ext E19 F17)
  have F22 : Fld Z h19 a0 "java/lang/String" "coder" "B" (.int (0 : Int32)) := (Fld.ext E19 F12)
  have F23 : Old Z n0 h19 := (F13.ext E19)
  have F24 : Fld Z h19 b2 "java/lang/String" "coder" "B" (.int 0) := (Fld.ext E19 F14)
  have F25 : Fld Z h19 b2 "java/lang/String" "value" "[B" (.ref vb2) := (Fld.ext E19 F15)
  have F26 : own_Ar Z h19 vb2 .byte 0 (fun i => .int ((fun _ => (0 : Int32)) i)) := (F16.ext E19)
  have K27 : Keep h0 h19 [a0] := K18.ext E19
  show own_EndsW _ _ _ _ _ _ _ _ _ (T19.setTop (mkF m 20 #[.val (.ref a0), .val (.ref a1), .val (.int (0 : Int32)), .val (.int (0 : Int32)), .val .null, .unset] [(.ref b19), (.ref a0)]))
  obtain ⟨T28, X28, e28, st28⟩ := getF X19 hx hZ hown (host := "") (Or.inl (hw _ (List.mem_of_getElem? (i := 39) rfl))) Via.refl e19 Fc19 (g := (mkF m 20 #[.val (.ref a0), .val (.ref a1), .val (.int (0 : Int32)), .val (.int (0 : Int32)), .val .null, .unset] [(.ref b19), (.ref a0)])) rfl rfl (hb hby dsiB0_20)
  refine own_goW (fun _ k => st28 _ k) ?_
  show own_EndsW _ _ _ _ _ _ _ _ _ (T28.setTop (mkF m 23 #[.val (.ref a0), .val (.ref a1), .val (.int (0 : Int32)), .val (.int (0 : Int32)), .val .null, .unset] [(.int (0 : Int32)), (.ref a0)]))
  obtain ⟨T29, h29, X29, e29, W29, st29⟩ := putFN X28 hx hZ hown (hw _ (List.mem_of_getElem? (i := 39) rfl)) Via.refl e28 F22 F20 (Or.inr ⟨(hw _ (List.mem_of_getElem? (i := 40) rfl)), rfl, hnm⟩) (hw _ (List.mem_of_getElem? (i := 15) rfl)) (ty := .byte) (v' := (.int (0 : Int32))) (by decide) rfl rfl (g := (mkF m 23 #[.val (.ref a0), .val (.ref a1), .val (.int (0 : Int32)), .val (.int (0 : Int32)), .val .null, .unset] [(.int (0 : Int32)), (.ref a0)])) rfl rfl (hb hby dsiB0_23)
  refine own_goW (fun _ k => st29 _ k) ?_
  have N29 := Fr.snoc X29 N9 g_a0
  have Sf30 : Safe Z consts_1 T19.vm h29 a0 := Safe.wr W29 Sf19 Wd19.ch Sf19
  have Wd29 : own_Wd s Z consts_1 T19.vm h29 := Wd19.wr W29 Sf19
  have F31 : Exa Z h29 a0 "java/lang/String" := (Exa.wr W29 F20)
  have F32 : Fld Z h29 a0 "java/lang/String" "value" "[B" (.ref vb2) := (Fld.other W29 F21 (Or.inr (slot_ne (Or.inr (hw _ (List.mem_of_getElem? (i := 42) rfl))) (Or.inr (hw _ (List.mem_of_getElem? (i := 40) rfl))) (by decide) (t := (.array .byte)) (t' := .byte) (by decide) (by decide))))
  have F33 : Old Z n0 h29 := (F23.wr W29 g_a0)
  have F34 : Fld Z h29 b2 "java/lang/String" "coder" "B" (.int 0) := (Fld.other W29 F24 (Or.inl (Ne.symm nx2)))
  have F35 : Fld Z h29 b2 "java/lang/String" "value" "[B" (.ref vb2) := (Fld.other W29 F25 (Or.inl (Ne.symm nx2)))
  have F36 : own_Ar Z h29 vb2 .byte 0 (fun i => .int ((fun _ => (0 : Int32)) i)) := (F26.other W29 (Ne.symm ny2))
  have F37 : Fld Z h29 b19 "java/lang/String" "coder" "B" (.int 0) := (Fld.other W29 Fc19 (Or.inl (Ne.symm nx19)))
  have F38 : Fld Z h29 b19 "java/lang/String" "value" "[B" (.ref vb19) := (Fld.other W29 Fv19 (Or.inl (Ne.symm nx19)))
  have F39 : own_Ar Z h29 vb19 .byte 0 (fun i => .int ((fun _ => (0 : Int32)) i)) := (Av19.other W29 (Ne.symm ny19))
  have F40 : Fld Z h29 a0 "java/lang/String" "coder" "B" (.int (0 : Int32)) := Fld.same W29 F22
  have K41 : Keep h0 h29 [a0] := K27.wr W29 (Or.inl (List.mem_of_getElem? (i := 0) rfl))
  show own_EndsW _ _ _ _ _ _ _ _ _ (T29.setTop (mkF m 26 #[.val (.ref a0), .val (.ref a1), .val (.int (0 : Int32)), .val (.int (0 : Int32)), .val .null, .unset] []))
  exact own_retVW X29 hx hlk e29 Wd29 hZ (own_EW hw) Bd.returns (hb hby dsiB0_26) (by decide) (by decide) (by rw [e29]; exact ⟨rfl, N29, K41, ⟨F31, F40, vb2, F32, F36⟩⟩)
theorem dsiA0_0 : decode jdk_42_method_3_code 0 = .ok (.aload_n 0, 1) := by decide +kernel
theorem dsiA0_1 : decode jdk_42_method_3_code 1 = .ok (.aload_n 1, 1) := by decide +kernel
theorem dsiA0_2 : decode jdk_42_method_3_code 2 = .ok (.iconst 0, 1) := by decide +kernel
theorem dsiA0_3 : decode jdk_42_method_3_code 3 = .ok (.aload_n 1, 1) := by decide +kernel
theorem dsiA0_4 : decode jdk_42_method_3_code 4 = .ok (.arraylength, 1) := by decide +kernel
theorem dsiA0_5 : decode jdk_42_method_3_code 5 = .ok (.aconst_null, 1) := by decide +kernel
theorem dsiA0_6 : decode jdk_42_method_3_code 6 = .ok (.invokespecial 27, 3) := by decide +kernel
theorem dsiA0_9 : decode jdk_42_method_3_code 9 = .ok (.return_, 1) := by decide +kernel
theorem pnsiA0 : plainName "java/lang/String" = true := by first | (simp [plainName, overriddenIn]; done) | decide +kernel
theorem pdsiA0_0 : parseMethodDescriptor "([CIILjava/lang/Void;)V" = some ⟨[(.array .char), .int, .int, (.object "java/lang/Void")], none⟩ := by decide +kernel
theorem efsiA0 (m : MethodId) (a0 : Addr) (a1 : Addr) : entryFrame m #[(.ref a0), (.ref a1)] 2 = mkF m 0 #[.val (.ref a0), .val (.ref a1)] [] := by first | (simp [entryFrame, mkF, argsToLocals, Value.category]; done) | rfl
def QsiA0 (Z : State) (a0 : Addr) (a1 : Addr) (h0 : Heap) (n0 : Nat) (v : Option Value) (h : Heap) (L : List Loc) : Prop := v = none ∧ Fr n0 L ∧ Keep h0 h [a0] ∧ own_Str Z h a0 0 (fun _ => (0 : Int32))
set_option maxRecDepth 65536 in
set_option maxHeartbeats 40000000 in
theorem rmsiA0 (l : Launch) (Z : State) (ar : Array Value) (hw : ∀ d ∈ tables_1, d.before ar Z = true) (ws : List Jvm.Cond) (a0 : Addr) (a1 : Addr) (h0 : Heap) (n0 : Nat) (O0 : Old Z n0 h0) (E_a0 : Exa Z h0 a0 "java/lang/String") (g_a0 : n0 ≤ a0) (F_value_a0 : Fld Z h0 a0 "java/lang/String" "value" "[B" .null) (F_coder_a0 : Fld Z h0 a0 "java/lang/String" "coder" "B" (.int (0 : Int32))) (A_a1 : own_Ar Z h0 a1 .char 0 (fun _ => .int (0 : Int32))) :
    MetFree l (⟨"java/lang/String", "<init>", "([C)V"⟩ : MethodName) (head1 (Jvm.Cond.code (⟨"java/lang/String", "<init>", "([C)V"⟩ : MethodName) jdk_42_method_3_code 2 none :: ws) ({ frames := 2, cells := 4, slots := 8, locals := 29 } : Room)) (fun a U => a = #[(.ref a0), (.ref a1)] ∧ Z.Warmed39 U.vm ∧ U.heap = h0 ∧ CHv Z consts_1 U.vm h0) (fun _ _ _ _ _ => True) (fun _ U o U' => ∃ v L, o = .returned v ∧ QsiA0 Z a0 a1 h0 n0 v U'.heap L ∧ CHr Z consts_1 U.vm U.heap U'.vm U'.heap ∧ ReturnedEndW U o U' L ({ frames := 2, cells := 4, slots := 8, locals := 29 } : Room).cells ({ frames := 2, cells := 4, slots := 8, locals := 29 } : Room).slots) := by
  refine MetFree.of_bodySF (plainFor_of_name pnsiA0) hisR ?_
  intro p e s m args below meth c s₁ Bd hml0 hP hK
  obtain ⟨rfl, hZ, hh, hCH⟩ := hP
  have hx := Bd.exec
  have hby := Bd.bytes
  have hml : c.maxLocals = 2 := hml0
  have hown : s.vm.findClass "java/lang/String" = some m.cls := findClass_of_methodNamed Bd.named
  have hnm := (name_of_methodNamed Bd.named Bd.method).1
  have hlk : meth.locks = false := BodyLoose.notSynchronized Bd
  have X0 : Stand p l e ({ frames := 2, cells := 4, slots := 8, locals := 29 } : Room) (s.setVm s.vm) m #[(.ref a0), (.ref a1)] below meth c s₁ [] 0 0 := Stand.of_body Bd
  have e0 : s₁.heap = h0 := by rw [← hh, Bd.state]; rfl
  have N0 := Fr.nil n0
  have Wd0 : own_Wd s Z consts_1 s.vm h0 := own_Wd.start hh hCH
  suffices hmain : own_EndsW p e below s Z consts_1 (QsiA0 Z a0 a1 h0 n0) 4 8 (s₁.setTop (mkF m 0 #[.val (.ref a0), .val (.ref a1)] [])) by
    obtain ⟨U, o, h1, r⟩ := hmain
    exact ⟨U, o, castTop (efsiA0 m a0 a1) h1, r⟩
  show own_EndsW _ _ _ _ _ _ _ _ _ (s₁.setTop (mkF m 0 #[.val (.ref a0), .val (.ref a1)] []))
  refine own_goW (fun _ k => XS.aloadN X0.here hx rfl (hb hby dsiA0_0) rfl rfl k) ?_
  show own_EndsW _ _ _ _ _ _ _ _ _ (s₁.setTop (mkF m 1 #[.val (.ref a0), .val (.ref a1)] [(.ref a0)]))
  refine own_goW (fun _ k => XS.aloadN X0.here hx rfl (hb hby dsiA0_1) rfl rfl k) ?_
  show own_EndsW _ _ _ _ _ _ _ _ _ (s₁.setTop (mkF m 2 #[.val (.ref a0), .val (.ref a1)] [(.ref a1), (.ref a0)]))
  refine own_goW (fun _ k => XS.iconst X0.here hx rfl (hb hby dsiA0_2) k) ?_
  show own_EndsW _ _ _ _ _ _ _ _ _ (s₁.setTop (mkF m 3 #[.val (.ref a0), .val (.ref a1)] [(.int (0 : Int32)), (.ref a1), (.ref a0)]))
  refine own_goW (fun _ k => XS.aloadN X0.here hx rfl (hb hby dsiA0_3) rfl rfl k) ?_
  show own_EndsW _ _ _ _ _ _ _ _ _ (s₁.setTop (mkF m 4 #[.val (.ref a0), .val (.ref a1)] [(.ref a1), (.int (0 : Int32)), (.ref a1), (.ref a0)]))
  obtain ⟨c1, A1, l1⟩ := own_Ar.len A_a1
  refine own_goW (fun _ k => X0.arraylength hx (by rw [e0]; exact A1.1) (State.isArrayOf_alike hZ.alike A1.2.1) (g := (mkF m 4 #[.val (.ref a0), .val (.ref a1)] [(.ref a1), (.int (0 : Int32)), (.ref a1), (.ref a0)])) rfl rfl (hb hby dsiA0_4) _ k) ?_
  rw [l1]
  show own_EndsW _ _ _ _ _ _ _ _ _ (s₁.setTop (mkF m 5 #[.val (.ref a0), .val (.ref a1)] [(.int (0 : Int32)), (.int (0 : Int32)), (.ref a1), (.ref a0)]))
  refine own_goW (fun _ k => XS.aconstNull X0.here hx rfl (hb hby dsiA0_5) k) ?_
  show own_EndsW _ _ _ _ _ _ _ _ _ (s₁.setTop (mkF m 6 #[.val (.ref a0), .val (.ref a1)] [.null, (.int (0 : Int32)), (.int (0 : Int32)), (.ref a1), (.ref a0)]))
  obtain ⟨_, _, ⟨T2, L2, k2, n2⟩, -, X2', hS2, gg2, ⟨Lc2, hQ2, l2, y2, z2, C2⟩, st2⟩ := X0.specialBackS hx (y := (⟨"java/lang/String", "<init>", "([CIILjava/lang/Void;)V"⟩ : MethodName)) rfl hown (mvT hZ (hw _ (List.mem_of_getElem? (i := 20) rfl))) (mvT hZ (hw _ (List.mem_of_getElem? (i := 21) rfl))) (mvT hZ (hw _ (List.mem_of_getElem? (i := 23) rfl))) (by decide) (backOfSH (W := 0) (rmsiB0 l Z ar hw [] a0 a1 h0 n0 O0 E_a0 g_a0 F_value_a0 F_coder_a0) hZ (hw _ (List.mem_of_getElem? (i := 23) rfl)) (hw _ (List.mem_of_getElem? (i := 16) rfl)) (by decide) (by decide) (own_EW hw) Wd0.ch) (g := (mkF m 6 #[.val (.ref a0), .val (.ref a1)] [.null, (.int (0 : Int32)), (.int (0 : Int32)), (.ref a1), (.ref a0)])) rfl (by rw [hml]; rfl) (Steps.refl _) (a := a0) (argsL := [(.ref a1), (.int (0 : Int32)), (.int (0 : Int32)), .null]) (rest := []) (lenOf pdsiA0_0 rfl) rfl (by show 2 * 0 + _ ≤ _; exact Nat.le_of_eq rfl) (hb hby dsiA0_6) (fun _ _ => ⟨rfl, e0, (by decide : 0 + 4 ≤ _), (by decide : 0 + 8 ≤ _)⟩)
  dsimp only [Pt.U, Pt.locs, Pt.cells, Pt.slots] at X2' hS2 gg2 l2 y2 z2 st2 hQ2 C2
  subst l2 y2 z2
  obtain ⟨X2, Wd2, hZ, hown⟩ := own_fold Wd0 e0 X2' hS2 gg2 C2 hZ hown
  obtain ⟨rfl, N2q, K2, T2_0⟩ := hQ2
  have N2 := Fr.app N0 N2q
  have F3 : Exa Z T2.heap a0 "java/lang/String" := (E_a0.keep K2)
  have F4 : Old Z n0 T2.heap := (O0.keep K2 (allS g_a0 all0))
  have K5 : Keep h0 T2.heap [a0] := (Keep.refl h0 [a0]).trans K2 (allS (Or.inl (List.mem_of_getElem? (i := 0) rfl)) all0)
  refine own_goW (fun _ k => st2.trans k) ?_
  show own_EndsW _ _ _ _ _ _ _ _ _ (T2.setTop (mkF m 9 #[.val (.ref a0), .val (.ref a1)] []))
  exact own_retVW X2 hx hlk rfl Wd2 hZ (own_EW hw) Bd.returns (hb hby dsiA0_9) (by decide) (by decide) (by rw [show T2.heap = T2.heap from rfl]; exact ⟨rfl, N2, K5, T2_0⟩)
theorem dcmA2_0 : decode jdk_52_method_21_code 0 = .ok (.iconst 0, 1) := by decide +kernel
theorem dcmA2_1 : decode jdk_52_method_21_code 1 = .ok (.istore 5, 2) := by decide +kernel
theorem dcmA2_3 : decode jdk_52_method_21_code 3 = .ok (.iload 5, 2) := by decide +kernel
theorem dcmA2_5 : decode jdk_52_method_21_code 5 = .ok (.iload 4, 2) := by decide +kernel
theorem dcmA2_7 : decode jdk_52_method_21_code 7 = .ok (.if_icmp .ge 37, 3) := by decide +kernel
theorem dcmA2_10 : decode jdk_52_method_21_code 10 = .ok (.aload_n 0, 1) := by decide +kernel
theorem dcmA2_11 : decode jdk_52_method_21_code 11 = .ok (.iload_n 1, 1) := by decide +kernel
theorem dcmA2_12 : decode jdk_52_method_21_code 12 = .ok (.caload, 1) := by decide +kernel
theorem dcmA2_13 : decode jdk_52_method_21_code 13 = .ok (.istore 6, 2) := by decide +kernel
theorem dcmA2_15 : decode jdk_52_method_21_code 15 = .ok (.iload 6, 2) := by decide +kernel
theorem dcmA2_17 : decode jdk_52_method_21_code 17 = .ok (.sipush 255, 3) := by decide +kernel
theorem dcmA2_20 : decode jdk_52_method_21_code 20 = .ok (.if_icmp .le 6, 3) := by decide +kernel
theorem dcmA2_26 : decode jdk_52_method_21_code 26 = .ok (.aload_n 2, 1) := by decide +kernel
theorem dcmA2_27 : decode jdk_52_method_21_code 27 = .ok (.iload_n 3, 1) := by decide +kernel
theorem dcmA2_28 : decode jdk_52_method_21_code 28 = .ok (.iload 6, 2) := by decide +kernel
theorem dcmA2_30 : decode jdk_52_method_21_code 30 = .ok (.i2b, 1) := by decide +kernel
theorem dcmA2_31 : decode jdk_52_method_21_code 31 = .ok (.bastore, 1) := by decide +kernel
theorem dcmA2_32 : decode jdk_52_method_21_code 32 = .ok (.iinc 1 1, 3) := by decide +kernel
theorem dcmA2_35 : decode jdk_52_method_21_code 35 = .ok (.iinc 3 1, 3) := by decide +kernel
theorem dcmA2_38 : decode jdk_52_method_21_code 38 = .ok (.iinc 5 1, 3) := by decide +kernel
theorem dcmA2_41 : decode jdk_52_method_21_code 41 = .ok (.goto (-38), 3) := by decide +kernel
theorem dcmA2_44 : decode jdk_52_method_21_code 44 = .ok (.iload 4, 2) := by decide +kernel
theorem dcmA2_46 : decode jdk_52_method_21_code 46 = .ok (.ireturn, 1) := by decide +kernel
theorem pncmA2 : plainName "java/lang/StringUTF16" = true := by first | (simp [plainName, overriddenIn]; done) | decide +kernel
theorem efcmA2 (m : MethodId) (a0 : Addr) (a2 : Addr) : entryFrame m #[(.ref a0), (.int (0 : Int32)), (.ref a2), (.int (0 : Int32)), (.int (2 : Int32))] 7 = mkF m 0 #[.val (.ref a0), .val (.int (0 : Int32)), .val (.ref a2), .val (.int (0 : Int32)), .val (.int (2 : Int32)), .unset, .unset] [] := by first | (simp [entryFrame, mkF, argsToLocals, Value.category]; done) | rfl
def QcmA2 (Z : State) (a0 : Addr) (a2 : Addr) (GG : Nat → Int32) (HH : Nat → Int32) (h0 : Heap) (n0 : Nat) (v : Option Value) (h : Heap) (L : List Loc) : Prop := v = some (.int (2 : Int32)) ∧ Fr n0 L ∧ Keep h0 h [a2] ∧ own_Ar Z h a2 .byte 2 (fun i => .int ((fun i => own_by (GG i)) i))
set_option maxRecDepth 65536 in
set_option maxHeartbeats 40000000 in
theorem rmcmA2 (l : Launch) (Z : State) (ar : Array Value) (hw : ∀ d ∈ tables_1, d.before ar Z = true) (ws : List Jvm.Cond) (a0 : Addr) (a2 : Addr) (GG : Nat → Int32) (HH : Nat → Int32) (h0 : Heap) (n0 : Nat) (O0 : Old Z n0 h0) (A_a0 : own_Ar Z h0 a0 .char 2 (fun i => .int (GG i))) (A_a2 : own_Ar Z h0 a2 .byte 2 (fun i => .int (HH i))) (g_a2 : n0 ≤ a2) (ne02 : a0 ≠ a2) (hr : ∀ i, i < 2 → ¬ (255 : Int32) < GG i) :
    MetFree l (⟨"java/lang/StringUTF16", "compress", "([CI[BII)I"⟩ : MethodName) (head1 (Jvm.Cond.code (⟨"java/lang/StringUTF16", "compress", "([CI[BII)I"⟩ : MethodName) jdk_52_method_21_code 7 (some .int) :: ws) ({ frames := 0, cells := 0, slots := 0, locals := 0 } : Room)) (fun a U => a = #[(.ref a0), (.int (0 : Int32)), (.ref a2), (.int (0 : Int32)), (.int (2 : Int32))] ∧ Z.Warmed39 U.vm ∧ U.heap = h0) (fun _ _ _ _ _ => True) (fun _ U o U' => ∃ v L, o = .returned v ∧ QcmA2 Z a0 a2 GG HH h0 n0 v U'.heap L ∧ FrameEnd U o U' L ({ frames := 0, cells := 0, slots := 0, locals := 0 } : Room).cells ({ frames := 0, cells := 0, slots := 0, locals := 0 } : Room).slots) := by
  refine MetFree.of_bodySF (plainFor_of_name pncmA2) hisR ?_
  intro p e s m args below meth c s₁ Bd hml0 hP hK
  obtain ⟨rfl, hZ, hh⟩ := hP
  have hx := Bd.exec
  have hby := Bd.bytes
  have hml : c.maxLocals = 7 := hml0
  have hown : s.vm.findClass "java/lang/StringUTF16" = some m.cls := findClass_of_methodNamed Bd.named
  have hnm := (name_of_methodNamed Bd.named Bd.method).1
  have hlk : meth.locks = false := BodyLoose.notSynchronized Bd
  have X0 : Stand p l e ({ frames := 0, cells := 0, slots := 0, locals := 0 } : Room) s m #[(.ref a0), (.int (0 : Int32)), (.ref a2), (.int (0 : Int32)), (.int (2 : Int32))] below meth c s₁ [] 0 0 := Stand.of_body Bd
  have e0 : s₁.heap = h0 := by rw [← hh, Bd.state]; rfl
  have N0 := Fr.nil n0
  suffices hmain : own_Ends p e below s (QcmA2 Z a0 a2 GG HH h0 n0) 0 0 (s₁.setTop (mkF m 0 #[.val (.ref a0), .val (.int (0 : Int32)), .val (.ref a2), .val (.int (0 : Int32)), .val (.int (2 : Int32)), .unset, .unset] [])) by
    obtain ⟨U, o, h1, r⟩ := hmain
    exact ⟨U, o, castTop (efcmA2 m a0 a2) h1, r⟩
  show own_Ends _ _ _ _ _ _ _ (s₁.setTop (mkF m 0 #[.val (.ref a0), .val (.int (0 : Int32)), .val (.ref a2), .val (.int (0 : Int32)), .val (.int (2 : Int32)), .unset, .unset] []))
  refine own_go (fun _ k => XS.iconst X0.here hx rfl (hb hby dcmA2_0) k) ?_
  show own_Ends _ _ _ _ _ _ _ (s₁.setTop (mkF m 1 #[.val (.ref a0), .val (.int (0 : Int32)), .val (.ref a2), .val (.int (0 : Int32)), .val (.int (2 : Int32)), .unset, .unset] [(.int (0 : Int32))]))
  refine own_go (fun _ k => XS.istore X0.here hx rfl (hb hby dcmA2_1) rfl (l' := #[.val (.ref a0), .val (.int (0 : Int32)), .val (.ref a2), .val (.int (0 : Int32)), .val (.int (2 : Int32)), .val (.int (0 : Int32)), .unset]) rfl k) ?_
  show own_Ends _ _ _ _ _ _ _ (s₁.setTop (mkF m 3 #[.val (.ref a0), .val (.int (0 : Int32)), .val (.ref a2), .val (.int (0 : Int32)), .val (.int (2 : Int32)), .val (.int (0 : Int32)), .unset] []))
  refine own_go (fun _ k => XS.iload X0.here hx rfl (hb hby dcmA2_3) rfl k) ?_
  show own_Ends _ _ _ _ _ _ _ (s₁.setTop (mkF m 5 #[.val (.ref a0), .val (.int (0 : Int32)), .val (.ref a2), .val (.int (0 : Int32)), .val (.int (2 : Int32)), .val (.int (0 : Int32)), .unset] [(.int (0 : Int32))]))
  refine own_go (fun _ k => XS.iload X0.here hx rfl (hb hby dcmA2_5) rfl k) ?_
  show own_Ends _ _ _ _ _ _ _ (s₁.setTop (mkF m 7 #[.val (.ref a0), .val (.int (0 : Int32)), .val (.ref a2), .val (.int (0 : Int32)), .val (.int (2 : Int32)), .val (.int (0 : Int32)), .unset] [(.int (2 : Int32)), (.int (0 : Int32))]))
  refine own_go (fun _ k => XS.icmpNo X0.here hx rfl (hb hby dcmA2_7) rfl (tlt (by decide)).2.1 k) ?_
  show own_Ends _ _ _ _ _ _ _ (s₁.setTop (mkF m 10 #[.val (.ref a0), .val (.int (0 : Int32)), .val (.ref a2), .val (.int (0 : Int32)), .val (.int (2 : Int32)), .val (.int (0 : Int32)), .unset] []))
  refine own_go (fun _ k => XS.aloadN X0.here hx rfl (hb hby dcmA2_10) rfl rfl k) ?_
  show own_Ends _ _ _ _ _ _ _ (s₁.setTop (mkF m 11 #[.val (.ref a0), .val (.int (0 : Int32)), .val (.ref a2), .val (.int (0 : Int32)), .val (.int (2 : Int32)), .val (.int (0 : Int32)), .unset] [(.ref a0)]))
  refine own_go (fun _ k => XS.iloadN X0.here hx rfl (hb hby dcmA2_11) rfl k) ?_
  show own_Ends _ _ _ _ _ _ _ (s₁.setTop (mkF m 12 #[.val (.ref a0), .val (.int (0 : Int32)), .val (.ref a2), .val (.int (0 : Int32)), .val (.int (2 : Int32)), .val (.int (0 : Int32)), .unset] [(.int (0 : Int32)), (.ref a0)]))
  obtain ⟨c1, A1, i1, v1⟩ := own_Ar.at A_a0 (0 : Int32) (by decide) (by decide)
  refine own_go (fun _ k => X0.caload hx (by rw [e0]; exact A1.1) (State.isArrayOf_alike hZ.alike A1.2.1) A1.2.2 i1 v1 (g := (mkF m 12 #[.val (.ref a0), .val (.int (0 : Int32)), .val (.ref a2), .val (.int (0 : Int32)), .val (.int (2 : Int32)), .val (.int (0 : Int32)), .unset] [(.int (0 : Int32)), (.ref a0)])) rfl rfl (hb hby dcmA2_12) _ k) ?_
  show own_Ends _ _ _ _ _ _ _ (s₁.setTop (mkF m 13 #[.val (.ref a0), .val (.int (0 : Int32)), .val (.ref a2), .val (.int (0 : Int32)), .val (.int (2 : Int32)), .val (.int (0 : Int32)), .unset] [(.int (GG ((0 : Int32)).toNatClampNeg))]))
  refine own_go (fun _ k => XS.istore X0.here hx rfl (hb hby dcmA2_13) rfl (l' := #[.val (.ref a0), .val (.int (0 : Int32)), .val (.ref a2), .val (.int (0 : Int32)), .val (.int (2 : Int32)), .val (.int (0 : Int32)), .val (.int (GG ((0 : Int32)).toNatClampNeg))]) rfl k) ?_
  show own_Ends _ _ _ _ _ _ _ (s₁.setTop (mkF m 15 #[.val (.ref a0), .val (.int (0 : Int32)), .val (.ref a2), .val (.int (0 : Int32)), .val (.int (2 : Int32)), .val (.int (0 : Int32)), .val (.int (GG ((0 : Int32)).toNatClampNeg))] []))
  refine own_go (fun _ k => XS.iload X0.here hx rfl (hb hby dcmA2_15) rfl k) ?_
  show own_Ends _ _ _ _ _ _ _ (s₁.setTop (mkF m 17 #[.val (.ref a0), .val (.int (0 : Int32)), .val (.ref a2), .val (.int (0 : Int32)), .val (.int (2 : Int32)), .val (.int (0 : Int32)), .val (.int (GG ((0 : Int32)).toNatClampNeg))] [(.int (GG ((0 : Int32)).toNatClampNeg))]))
  refine own_go (fun _ k => XS.sipush X0.here hx rfl (hb hby dcmA2_17) k) ?_
  show own_Ends _ _ _ _ _ _ _ (s₁.setTop (mkF m 20 #[.val (.ref a0), .val (.int (0 : Int32)), .val (.ref a2), .val (.int (0 : Int32)), .val (.int (2 : Int32)), .val (.int (0 : Int32)), .val (.int (GG ((0 : Int32)).toNatClampNeg))] [(.int (255 : Int32)), (.int (GG ((0 : Int32)).toNatClampNeg))]))
  refine own_go (fun _ k => XS.icmpYes X0.here hx rfl (pc0 := 20) (pc' := 26) rfl (hb hby dcmA2_20) rfl (flt (hr _ (by decide))).2.2.2 (by decide) (by decide) k) ?_
  show own_Ends _ _ _ _ _ _ _ (s₁.setTop (mkF m 26 #[.val (.ref a0), .val (.int (0 : Int32)), .val (.ref a2), .val (.int (0 : Int32)), .val (.int (2 : Int32)), .val (.int (0 : Int32)), .val (.int (GG ((0 : Int32)).toNatClampNeg))] []))
  refine own_go (fun _ k => XS.aloadN X0.here hx rfl (hb hby dcmA2_26) rfl rfl k) ?_
  show own_Ends _ _ _ _ _ _ _ (s₁.setTop (mkF m 27 #[.val (.ref a0), .val (.int (0 : Int32)), .val (.ref a2), .val (.int (0 : Int32)), .val (.int (2 : Int32)), .val (.int (0 : Int32)), .val (.int (GG ((0 : Int32)).toNatClampNeg))] [(.ref a2)]))
  refine own_go (fun _ k => XS.iloadN X0.here hx rfl (hb hby dcmA2_27) rfl k) ?_
  show own_Ends _ _ _ _ _ _ _ (s₁.setTop (mkF m 28 #[.val (.ref a0), .val (.int (0 : Int32)), .val (.ref a2), .val (.int (0 : Int32)), .val (.int (2 : Int32)), .val (.int (0 : Int32)), .val (.int (GG ((0 : Int32)).toNatClampNeg))] [(.int (0 : Int32)), (.ref a2)]))
  refine own_go (fun _ k => XS.iload X0.here hx rfl (hb hby dcmA2_28) rfl k) ?_
  show own_Ends _ _ _ _ _ _ _ (s₁.setTop (mkF m 30 #[.val (.ref a0), .val (.int (0 : Int32)), .val (.ref a2), .val (.int (0 : Int32)), .val (.int (2 : Int32)), .val (.int (0 : Int32)), .val (.int (GG ((0 : Int32)).toNatClampNeg))] [(.int (GG ((0 : Int32)).toNatClampNeg)), (.int (0 : Int32)), (.ref a2)]))
  refine own_go (fun _ k => XS.i2b X0.here hx rfl (hb hby dcmA2_30) rfl k) ?_
  show own_Ends _ _ _ _ _ _ _ (s₁.setTop (mkF m 31 #[.val (.ref a0), .val (.int (0 : Int32)), .val (.ref a2), .val (.int (0 : Int32)), .val (.int (2 : Int32)), .val (.int (0 : Int32)), .val (.int (GG ((0 : Int32)).toNatClampNeg))] [(.int ((GG ((0 : Int32)).toNatClampNeg).toInt8.toInt32)), (.int (0 : Int32)), (.ref a2)]))
  obtain ⟨c2, A2, i2, -⟩ := own_Ar.at A_a2 (0 : Int32) (by decide) (by decide)
  obtain ⟨T2, h2, X2, e2, W2, st2⟩ := stB X0 hx hZ e0 A2 (j := (0 : Int32)) i2 (g := (mkF m 31 #[.val (.ref a0), .val (.int (0 : Int32)), .val (.ref a2), .val (.int (0 : Int32)), .val (.int (2 : Int32)), .val (.int (0 : Int32)), .val (.int (GG ((0 : Int32)).toNatClampNeg))] [(.int ((GG ((0 : Int32)).toNatClampNeg).toInt8.toInt32)), (.int (0 : Int32)), (.ref a2)])) rfl rfl (hb hby dcmA2_31)
  refine own_go (fun _ k => st2 _ k) ?_
  have N2 := Fr.snoc X2 N0 g_a2
  have F3 : own_Ar Z h2 a0 .char 2 (fun i => .int (GG i)) := (A_a0.other W2 ne02)
  have F4 : Old Z n0 h2 := (O0.wr W2 g_a2)
  have F5 : own_Ar Z h2 a2 .byte 2 (fun i => .int ((fun i => if i = ((0 : Int32)).toNatClampNeg then (nar .byte ((GG ((0 : Int32)).toNatClampNeg).toInt8.toInt32)) else HH i) i)) := own_Ar.setI A_a2 W2
  have K6 : Keep h0 h2 [a2] := (Keep.refl h0 [a2]).wr W2 (Or.inl (List.mem_of_getElem? (i := 0) rfl))
  show own_Ends _ _ _ _ _ _ _ (T2.setTop (mkF m 32 #[.val (.ref a0), .val (.int (0 : Int32)), .val (.ref a2), .val (.int (0 : Int32)), .val (.int (2 : Int32)), .val (.int (0 : Int32)), .val (.int (GG ((0 : Int32)).toNatClampNeg))] []))
  refine own_go (fun _ k => XS.iinc X2.here hx rfl (hb hby dcmA2_32) rfl (l' := #[.val (.ref a0), .val (.int (1 : Int32)), .val (.ref a2), .val (.int (0 : Int32)), .val (.int (2 : Int32)), .val (.int (0 : Int32)), .val (.int (GG ((0 : Int32)).toNatClampNeg))]) rfl k) ?_
  show own_Ends _ _ _ _ _ _ _ (T2.setTop (mkF m 35 #[.val (.ref a0), .val (.int (1 : Int32)), .val (.ref a2), .val (.int (0 : Int32)), .val (.int (2 : Int32)), .val (.int (0 : Int32)), .val (.int (GG ((0 : Int32)).toNatClampNeg))] []))
  refine own_go (fun _ k => XS.iinc X2.here hx rfl (hb hby dcmA2_35) rfl (l' := #[.val (.ref a0), .val (.int (1 : Int32)), .val (.ref a2), .val (.int (1 : Int32)), .val (.int (2 : Int32)), .val (.int (0 : Int32)), .val (.int (GG ((0 : Int32)).toNatClampNeg))]) rfl k) ?_
  show own_Ends _ _ _ _ _ _ _ (T2.setTop (mkF m 38 #[.val (.ref a0), .val (.int (1 : Int32)), .val (.ref a2), .val (.int (1 : Int32)), .val (.int (2 : Int32)), .val (.int (0 : Int32)), .val (.int (GG ((0 : Int32)).toNatClampNeg))] []))
  refine own_go (fun _ k => XS.iinc X2.here hx rfl (hb hby dcmA2_38) rfl (l' := #[.val (.ref a0), .val (.int (1 : Int32)), .val (.ref a2), .val (.int (1 : Int32)), .val (.int (2 : Int32)), .val (.int (1 : Int32)), .val (.int (GG ((0 : Int32)).toNatClampNeg))]) rfl k) ?_
  show own_Ends _ _ _ _ _ _ _ (T2.setTop (mkF m 41 #[.val (.ref a0), .val (.int (1 : Int32)), .val (.ref a2), .val (.int (1 : Int32)), .val (.int (2 : Int32)), .val (.int (1 : Int32)), .val (.int (GG ((0 : Int32)).toNatClampNeg))] []))
  refine own_go (fun _ k => XS.goto X2.here hx rfl (pc0 := 41) (pc' := 3) rfl (hb hby dcmA2_41) (by decide) (by decide) k) ?_
  show own_Ends _ _ _ _ _ _ _ (T2.setTop (mkF m 3 #[.val (.ref a0), .val (.int (1 : Int32)), .val (.ref a2), .val (.int (1 : Int32)), .val (.int (2 : Int32)), .val (.int (1 : Int32)), .val (.int (GG ((0 : Int32)).toNatClampNeg))] []))
  refine own_go (fun _ k => XS.iload X2.here hx rfl (hb hby dcmA2_3) rfl k) ?_
  show own_Ends _ _ _ _ _ _ _ (T2.setTop (mkF m 5 #[.val (.ref a0), .val (.int (1 : Int32)), .val (.ref a2), .val (.int (1 : Int32)), .val (.int (2 : Int32)), .val (.int (1 : Int32)), .val (.int (GG ((0 : Int32)).toNatClampNeg))] [(.int (1 : Int32))]))
  refine own_go (fun _ k => XS.iload X2.here hx rfl (hb hby dcmA2_5) rfl k) ?_
  show own_Ends _ _ _ _ _ _ _ (T2.setTop (mkF m 7 #[.val (.ref a0), .val (.int (1 : Int32)), .val (.ref a2), .val (.int (1 : Int32)), .val (.int (2 : Int32)), .val (.int (1 : Int32)), .val (.int (GG ((0 : Int32)).toNatClampNeg))] [(.int (2 : Int32)), (.int (1 : Int32))]))
  refine own_go (fun _ k => XS.icmpNo X2.here hx rfl (hb hby dcmA2_7) rfl (tlt (by decide)).2.1 k) ?_
  show own_Ends _ _ _ _ _ _ _ (T2.setTop (mkF m 10 #[.val (.ref a0), .val (.int (1 : Int32)), .val (.ref a2), .val (.int (1 : Int32)), .val (.int (2 : Int32)), .val (.int (1 : Int32)), .val (.int (GG ((0 : Int32)).toNatClampNeg))] []))
  refine own_go (fun _ k => XS.aloadN X2.here hx rfl (hb hby dcmA2_10) rfl rfl k) ?_
  show own_Ends _ _ _ _ _ _ _ (T2.setTop (mkF m 11 #[.val (.ref a0), .val (.int (1 : Int32)), .val (.ref a2), .val (.int (1 : Int32)), .val (.int (2 : Int32)), .val (.int (1 : Int32)), .val (.int (GG ((0 : Int32)).toNatClampNeg))] [(.ref a0)]))
  refine own_go (fun _ k => XS.iloadN X2.here hx rfl (hb hby dcmA2_11) rfl k) ?_
  show own_Ends _ _ _ _ _ _ _ (T2.setTop (mkF m 12 #[.val (.ref a0), .val (.int (1 : Int32)), .val (.ref a2), .val (.int (1 : Int32)), .val (.int (2 : Int32)), .val (.int (1 : Int32)), .val (.int (GG ((0 : Int32)).toNatClampNeg))] [(.int (1 : Int32)), (.ref a0)]))
  obtain ⟨c7, A7, i7, v7⟩ := own_Ar.at F3 (1 : Int32) (by decide) (by decide)
  refine own_go (fun _ k => X2.caload hx (by rw [e2]; exact A7.1) (State.isArrayOf_alike hZ.alike A7.2.1) A7.2.2 i7 v7 (g := (mkF m 12 #[.val (.ref a0), .val (.int (1 : Int32)), .val (.ref a2), .val (.int (1 : Int32)), .val (.int (2 : Int32)), .val (.int (1 : Int32)), .val (.int (GG ((0 : Int32)).toNatClampNeg))] [(.int (1 : Int32)), (.ref a0)])) rfl rfl (hb hby dcmA2_12) _ k) ?_
  show own_Ends _ _ _ _ _ _ _ (T2.setTop (mkF m 13 #[.val (.ref a0), .val (.int (1 : Int32)), .val (.ref a2), .val (.int (1 : Int32)), .val (.int (2 : Int32)), .val (.int (1 : Int32)), .val (.int (GG ((0 : Int32)).toNatClampNeg))] [(.int (GG ((1 : Int32)).toNatClampNeg))]))
  refine own_go (fun _ k => XS.istore X2.here hx rfl (hb hby dcmA2_13) rfl (l' := #[.val (.ref a0), .val (.int (1 : Int32)), .val (.ref a2), .val (.int (1 : Int32)), .val (.int (2 : Int32)), .val (.int (1 : Int32)), .val (.int (GG ((1 : Int32)).toNatClampNeg))]) rfl k) ?_
  show own_Ends _ _ _ _ _ _ _ (T2.setTop (mkF m 15 #[.val (.ref a0), .val (.int (1 : Int32)), .val (.ref a2), .val (.int (1 : Int32)), .val (.int (2 : Int32)), .val (.int (1 : Int32)), .val (.int (GG ((1 : Int32)).toNatClampNeg))] []))
  refine own_go (fun _ k => XS.iload X2.here hx rfl (hb hby dcmA2_15) rfl k) ?_
  show own_Ends _ _ _ _ _ _ _ (T2.setTop (mkF m 17 #[.val (.ref a0), .val (.int (1 : Int32)), .val (.ref a2), .val (.int (1 : Int32)), .val (.int (2 : Int32)), .val (.int (1 : Int32)), .val (.int (GG ((1 : Int32)).toNatClampNeg))] [(.int (GG ((1 : Int32)).toNatClampNeg))]))
  refine own_go (fun _ k => XS.sipush X2.here hx rfl (hb hby dcmA2_17) k) ?_
  show own_Ends _ _ _ _ _ _ _ (T2.setTop (mkF m 20 #[.val (.ref a0), .val (.int (1 : Int32)), .val (.ref a2), .val (.int (1 : Int32)), .val (.int (2 : Int32)), .val (.int (1 : Int32)), .val (.int (GG ((1 : Int32)).toNatClampNeg))] [(.int (255 : Int32)), (.int (GG ((1 : Int32)).toNatClampNeg))]))
  refine own_go (fun _ k => XS.icmpYes X2.here hx rfl (pc0 := 20) (pc' := 26) rfl (hb hby dcmA2_20) rfl (flt (hr _ (by decide))).2.2.2 (by decide) (by decide) k) ?_
  show own_Ends _ _ _ _ _ _ _ (T2.setTop (mkF m 26 #[.val (.ref a0), .val (.int (1 : Int32)), .val (.ref a2), .val (.int (1 : Int32)), .val (.int (2 : Int32)), .val (.int (1 : Int32)), .val (.int (GG ((1 : Int32)).toNatClampNeg))] []))
  refine own_go (fun _ k => XS.aloadN X2.here hx rfl (hb hby dcmA2_26) rfl rfl k) ?_
  show own_Ends _ _ _ _ _ _ _ (T2.setTop (mkF m 27 #[.val (.ref a0), .val (.int (1 : Int32)), .val (.ref a2), .val (.int (1 : Int32)), .val (.int (2 : Int32)), .val (.int (1 : Int32)), .val (.int (GG ((1 : Int32)).toNatClampNeg))] [(.ref a2)]))
  refine own_go (fun _ k => XS.iloadN X2.here hx rfl (hb hby dcmA2_27) rfl k) ?_
  show own_Ends _ _ _ _ _ _ _ (T2.setTop (mkF m 28 #[.val (.ref a0), .val (.int (1 : Int32)), .val (.ref a2), .val (.int (1 : Int32)), .val (.int (2 : Int32)), .val (.int (1 : Int32)), .val (.int (GG ((1 : Int32)).toNatClampNeg))] [(.int (1 : Int32)), (.ref a2)]))
  refine own_go (fun _ k => XS.iload X2.here hx rfl (hb hby dcmA2_28) rfl k) ?_
  show own_Ends _ _ _ _ _ _ _ (T2.setTop (mkF m 30 #[.val (.ref a0), .val (.int (1 : Int32)), .val (.ref a2), .val (.int (1 : Int32)), .val (.int (2 : Int32)), .val (.int (1 : Int32)), .val (.int (GG ((1 : Int32)).toNatClampNeg))] [(.int (GG ((1 : Int32)).toNatClampNeg)), (.int (1 : Int32)), (.ref a2)]))
  refine own_go (fun _ k => XS.i2b X2.here hx rfl (hb hby dcmA2_30) rfl k) ?_
  show own_Ends _ _ _ _ _ _ _ (T2.setTop (mkF m 31 #[.val (.ref a0), .val (.int (1 : Int32)), .val (.ref a2), .val (.int (1 : Int32)), .val (.int (2 : Int32)), .val (.int (1 : Int32)), .val (.int (GG ((1 : Int32)).toNatClampNeg))] [(.int ((GG ((1 : Int32)).toNatClampNeg).toInt8.toInt32)), (.int (1 : Int32)), (.ref a2)]))
  obtain ⟨c8, A8, i8, -⟩ := own_Ar.at F5 (1 : Int32) (by decide) (by decide)
  obtain ⟨T8, h8, X8, e8, W8, st8⟩ := stB X2 hx hZ e2 A8 (j := (1 : Int32)) i8 (g := (mkF m 31 #[.val (.ref a0), .val (.int (1 : Int32)), .val (.ref a2), .val (.int (1 : Int32)), .val (.int (2 : Int32)), .val (.int (1 : Int32)), .val (.int (GG ((1 : Int32)).toNatClampNeg))] [(.int ((GG ((1 : Int32)).toNatClampNeg).toInt8.toInt32)), (.int (1 : Int32)), (.ref a2)])) rfl rfl (hb hby dcmA2_31)
  refine own_go (fun _ k => st8 _ k) ?_
  have N8 := Fr.snoc X8 N2 g_a2
  have F9 : own_Ar Z h8 a0 .char 2 (fun i => .int (GG i)) := (F3.other W8 ne02)
  have F10 : Old Z n0 h8 := (F4.wr W8 g_a2)
  have F11 : own_Ar Z h8 a2 .byte 2 (fun i => .int ((fun i => if i = ((1 : Int32)).toNatClampNeg then (nar .byte ((GG ((1 : Int32)).toNatClampNeg).toInt8.toInt32)) else (fun i => if i = ((0 : Int32)).toNatClampNeg then (nar .byte ((GG ((0 : Int32)).toNatClampNeg).toInt8.toInt32)) else HH i) i) i)) := own_Ar.setI F5 W8
  have K12 : Keep h0 h8 [a2] := K6.wr W8 (Or.inl (List.mem_of_getElem? (i := 0) rfl))
  show own_Ends _ _ _ _ _ _ _ (T8.setTop (mkF m 32 #[.val (.ref a0), .val (.int (1 : Int32)), .val (.ref a2), .val (.int (1 : Int32)), .val (.int (2 : Int32)), .val (.int (1 : Int32)), .val (.int (GG ((1 : Int32)).toNatClampNeg))] []))
  refine own_go (fun _ k => XS.iinc X8.here hx rfl (hb hby dcmA2_32) rfl (l' := #[.val (.ref a0), .val (.int (2 : Int32)), .val (.ref a2), .val (.int (1 : Int32)), .val (.int (2 : Int32)), .val (.int (1 : Int32)), .val (.int (GG ((1 : Int32)).toNatClampNeg))]) rfl k) ?_
  show own_Ends _ _ _ _ _ _ _ (T8.setTop (mkF m 35 #[.val (.ref a0), .val (.int (2 : Int32)), .val (.ref a2), .val (.int (1 : Int32)), .val (.int (2 : Int32)), .val (.int (1 : Int32)), .val (.int (GG ((1 : Int32)).toNatClampNeg))] []))
  refine own_go (fun _ k => XS.iinc X8.here hx rfl (hb hby dcmA2_35) rfl (l' := #[.val (.ref a0), .val (.int (2 : Int32)), .val (.ref a2), .val (.int (2 : Int32)), .val (.int (2 : Int32)), .val (.int (1 : Int32)), .val (.int (GG ((1 : Int32)).toNatClampNeg))]) rfl k) ?_
  show own_Ends _ _ _ _ _ _ _ (T8.setTop (mkF m 38 #[.val (.ref a0), .val (.int (2 : Int32)), .val (.ref a2), .val (.int (2 : Int32)), .val (.int (2 : Int32)), .val (.int (1 : Int32)), .val (.int (GG ((1 : Int32)).toNatClampNeg))] []))
  refine own_go (fun _ k => XS.iinc X8.here hx rfl (hb hby dcmA2_38) rfl (l' := #[.val (.ref a0), .val (.int (2 : Int32)), .val (.ref a2), .val (.int (2 : Int32)), .val (.int (2 : Int32)), .val (.int (2 : Int32)), .val (.int (GG ((1 : Int32)).toNatClampNeg))]) rfl k) ?_
  show own_Ends _ _ _ _ _ _ _ (T8.setTop (mkF m 41 #[.val (.ref a0), .val (.int (2 : Int32)), .val (.ref a2), .val (.int (2 : Int32)), .val (.int (2 : Int32)), .val (.int (2 : Int32)), .val (.int (GG ((1 : Int32)).toNatClampNeg))] []))
  refine own_go (fun _ k => XS.goto X8.here hx rfl (pc0 := 41) (pc' := 3) rfl (hb hby dcmA2_41) (by decide) (by decide) k) ?_
  show own_Ends _ _ _ _ _ _ _ (T8.setTop (mkF m 3 #[.val (.ref a0), .val (.int (2 : Int32)), .val (.ref a2), .val (.int (2 : Int32)), .val (.int (2 : Int32)), .val (.int (2 : Int32)), .val (.int (GG ((1 : Int32)).toNatClampNeg))] []))
  refine own_go (fun _ k => XS.iload X8.here hx rfl (hb hby dcmA2_3) rfl k) ?_
  show own_Ends _ _ _ _ _ _ _ (T8.setTop (mkF m 5 #[.val (.ref a0), .val (.int (2 : Int32)), .val (.ref a2), .val (.int (2 : Int32)), .val (.int (2 : Int32)), .val (.int (2 : Int32)), .val (.int (GG ((1 : Int32)).toNatClampNeg))] [(.int (2 : Int32))]))
  refine own_go (fun _ k => XS.iload X8.here hx rfl (hb hby dcmA2_5) rfl k) ?_
  show own_Ends _ _ _ _ _ _ _ (T8.setTop (mkF m 7 #[.val (.ref a0), .val (.int (2 : Int32)), .val (.ref a2), .val (.int (2 : Int32)), .val (.int (2 : Int32)), .val (.int (2 : Int32)), .val (.int (GG ((1 : Int32)).toNatClampNeg))] [(.int (2 : Int32)), (.int (2 : Int32))]))
  refine own_go (fun _ k => XS.icmpYes X8.here hx rfl (pc0 := 7) (pc' := 44) rfl (hb hby dcmA2_7) rfl (flt (by decide)).2.1 (by decide) (by decide) k) ?_
  show own_Ends _ _ _ _ _ _ _ (T8.setTop (mkF m 44 #[.val (.ref a0), .val (.int (2 : Int32)), .val (.ref a2), .val (.int (2 : Int32)), .val (.int (2 : Int32)), .val (.int (2 : Int32)), .val (.int (GG ((1 : Int32)).toNatClampNeg))] []))
  refine own_go (fun _ k => XS.iload X8.here hx rfl (hb hby dcmA2_44) rfl k) ?_
  show own_Ends _ _ _ _ _ _ _ (T8.setTop (mkF m 46 #[.val (.ref a0), .val (.int (2 : Int32)), .val (.ref a2), .val (.int (2 : Int32)), .val (.int (2 : Int32)), .val (.int (2 : Int32)), .val (.int (GG ((1 : Int32)).toNatClampNeg))] [(.int (2 : Int32))]))
  exact own_retI X8 hx hlk Bd.returns (hb hby dcmA2_46) (by decide) (by decide) (by rw [e8]; exact ⟨rfl, N8, K12, F11.cong (fun i hi => by match i, hi with | 0, _ => rfl | 1, _ => rfl)⟩)
theorem dcmB2_0 : decode jdk_52_method_16_code 0 = .ok (.iload_n 2, 1) := by decide +kernel
theorem dcmB2_1 : decode jdk_52_method_16_code 1 = .ok (.newarray .byte, 2) := by decide +kernel
theorem dcmB2_3 : decode jdk_52_method_16_code 3 = .ok (.astore_n 3, 1) := by decide +kernel
theorem dcmB2_4 : decode jdk_52_method_16_code 4 = .ok (.aload_n 0, 1) := by decide +kernel
theorem dcmB2_5 : decode jdk_52_method_16_code 5 = .ok (.iload_n 1, 1) := by decide +kernel
theorem dcmB2_6 : decode jdk_52_method_16_code 6 = .ok (.aload_n 3, 1) := by decide +kernel
theorem dcmB2_7 : decode jdk_52_method_16_code 7 = .ok (.iconst 0, 1) := by decide +kernel
theorem dcmB2_8 : decode jdk_52_method_16_code 8 = .ok (.iload_n 2, 1) := by decide +kernel
theorem dcmB2_9 : decode jdk_52_method_16_code 9 = .ok (.invokestatic 115, 3) := by decide +kernel
theorem dcmB2_12 : decode jdk_52_method_16_code 12 = .ok (.istore 4, 2) := by decide +kernel
theorem dcmB2_14 : decode jdk_52_method_16_code 14 = .ok (.iload 4, 2) := by decide +kernel
theorem dcmB2_16 : decode jdk_52_method_16_code 16 = .ok (.iload_n 2, 1) := by decide +kernel
theorem dcmB2_17 : decode jdk_52_method_16_code 17 = .ok (.if_icmp .eq 40, 3) := by decide +kernel
theorem dcmB2_57 : decode jdk_52_method_16_code 57 = .ok (.aload_n 3, 1) := by decide +kernel
theorem dcmB2_58 : decode jdk_52_method_16_code 58 = .ok (.areturn, 1) := by decide +kernel
theorem pncmB2 : plainName "java/lang/StringUTF16" = true := by first | (simp [plainName, overriddenIn]; done) | decide +kernel
theorem pdcmB2_0 : parseMethodDescriptor "([CI[BII)I" = some ⟨[(.array .char), .int, (.array .byte), .int, .int], some .int⟩ := by decide +kernel
theorem efcmB2 (m : MethodId) (a0 : Addr) : entryFrame m #[(.ref a0), (.int (0 : Int32)), (.int (2 : Int32))] 6 = mkF m 0 #[.val (.ref a0), .val (.int (0 : Int32)), .val (.int (2 : Int32)), .unset, .unset, .unset] [] := by first | (simp [entryFrame, mkF, argsToLocals, Value.category]; done) | rfl
def QcmB2 (Z : State) (a0 : Addr) (GG : Nat → Int32) (h0 : Heap) (n0 : Nat) (v : Option Value) (h : Heap) (L : List Loc) : Prop := ∃ y, v = some (.ref y) ∧ Fr n0 L ∧ Keep h0 h [] ∧ h0.size ≤ y ∧ own_Ar Z h y .byte 2 (fun i => .int ((fun i => own_by (GG i)) i))
set_option maxRecDepth 65536 in
set_option maxHeartbeats 40000000 in
theorem rmcmB2 (l : Launch) (Z : State) (ar : Array Value) (hw : ∀ d ∈ tables_1, d.before ar Z = true) (ws : List Jvm.Cond) (a0 : Addr) (GG : Nat → Int32) (h0 : Heap) (n0 : Nat) (O0 : Old Z n0 h0) (A_a0 : own_Ar Z h0 a0 .char 2 (fun i => .int (GG i))) (hr : ∀ i, i < 2 → ¬ (255 : Int32) < GG i) :
    MetFree l (⟨"java/lang/StringUTF16", "compress", "([CII)[B"⟩ : MethodName) (head1 (Jvm.Cond.code (⟨"java/lang/StringUTF16", "compress", "([CII)[B"⟩ : MethodName) jdk_52_method_16_code 6 (some (.array .byte)) :: ws) ({ frames := 1, cells := 1, slots := 2, locals := 18 } : Room)) (fun a U => a = #[(.ref a0), (.int (0 : Int32)), (.int (2 : Int32))] ∧ Z.Warmed39 U.vm ∧ U.heap = h0) (fun _ _ _ _ _ => True) (fun _ U o U' => ∃ v L, o = .returned v ∧ QcmB2 Z a0 GG h0 n0 v U'.heap L ∧ FrameEnd U o U' L ({ frames := 1, cells := 1, slots := 2, locals := 18 } : Room).cells ({ frames := 1, cells := 1, slots := 2, locals := 18 } : Room).slots) := by
  refine MetFree.of_bodySF (plainFor_of_name pncmB2) hisR ?_
  intro p e s m args below meth c s₁ Bd hml0 hP hK
  obtain ⟨rfl, hZ, hh⟩ := hP
  have hx := Bd.exec
  have hby := Bd.bytes
  have hml : c.maxLocals = 6 := hml0
  have hown : s.vm.findClass "java/lang/StringUTF16" = some m.cls := findClass_of_methodNamed Bd.named
  have hnm := (name_of_methodNamed Bd.named Bd.method).1
  have hlk : meth.locks = false := BodyLoose.notSynchronized Bd
  have X0 : Stand p l e ({ frames := 1, cells := 1, slots := 2, locals := 18 } : Room) s m #[(.ref a0), (.int (0 : Int32)), (.int (2 : Int32))] below meth c s₁ [] 0 0 := Stand.of_body Bd
  have e0 : s₁.heap = h0 := by rw [← hh, Bd.state]; rfl
  have N0 := Fr.nil n0
  suffices hmain : own_Ends p e below s (QcmB2 Z a0 GG h0 n0) 1 2 (s₁.setTop (mkF m 0 #[.val (.ref a0), .val (.int (0 : Int32)), .val (.int (2 : Int32)), .unset, .unset, .unset] [])) by
    obtain ⟨U, o, h1, r⟩ := hmain
    exact ⟨U, o, castTop (efcmB2 m a0) h1, r⟩
  show own_Ends _ _ _ _ _ _ _ (s₁.setTop (mkF m 0 #[.val (.ref a0), .val (.int (0 : Int32)), .val (.int (2 : Int32)), .unset, .unset, .unset] []))
  refine own_go (fun _ k => XS.iloadN X0.here hx rfl (hb hby dcmB2_0) rfl k) ?_
  show own_Ends _ _ _ _ _ _ _ (s₁.setTop (mkF m 1 #[.val (.ref a0), .val (.int (0 : Int32)), .val (.int (2 : Int32)), .unset, .unset, .unset] [(.int (2 : Int32))]))
  obtain ⟨T1, h1, k1, X1, e1, E1, A1, st1⟩ := newP X0 hx hZ (hw _ (List.mem_of_getElem? (i := 32) rfl)) e0 (g := (mkF m 1 #[.val (.ref a0), .val (.int (0 : Int32)), .val (.int (2 : Int32)), .unset, .unset, .unset] [(.int (2 : Int32))])) rfl (hb hby dcmB2_1) rfl (by decide) (cap := 2) (by decide) (by decide) (by decide) (by decide)
  obtain ⟨b1, q_b1⟩ : ∃ z, z = h0.size := ⟨_, rfl⟩
  rw [← q_b1] at A1 st1
  have g_b1 : n0 ≤ b1 := Nat.le_trans (own_sz O0) (Nat.le_of_eq q_b1.symm)
  have ne_a0_b1 : a0 ≠ b1 := Nat.ne_of_lt (Nat.lt_of_lt_of_le A_a0.lt (Nat.le_of_eq q_b1.symm))
  refine own_go (fun _ k => st1 _ k) ?_
  have F2 : own_Ar Z h1 a0 .char 2 (fun i => .int (GG i)) := (A_a0.ext E1)
  have F3 : Old Z n0 h1 := (O0.ext E1)
  have gh_b1 : h0.size ≤ b1 := Nat.le_trans (Keep.refl h0 []).1 (Nat.le_of_eq q_b1.symm)
  have K4 : Keep h0 h1 [] := (Keep.refl h0 []).ext E1
  have F5 : own_Ar Z h1 b1 .byte 2 (fun i => .int ((fun _ => (0 : Int32)) i)) := own_Ar.newI A1 (by decide) rfl
  show own_Ends _ _ _ _ _ _ _ (T1.setTop (mkF m 3 #[.val (.ref a0), .val (.int (0 : Int32)), .val (.int (2 : Int32)), .unset, .unset, .unset] [(.ref b1)]))
  refine own_go (fun _ k => XS.astoreN X1.here hx rfl (hb hby dcmB2_3) rfl rfl (l' := #[.val (.ref a0), .val (.int (0 : Int32)), .val (.int (2 : Int32)), .val (.ref b1), .unset, .unset]) rfl k) ?_
  show own_Ends _ _ _ _ _ _ _ (T1.setTop (mkF m 4 #[.val (.ref a0), .val (.int (0 : Int32)), .val (.int (2 : Int32)), .val (.ref b1), .unset, .unset] []))
  refine own_go (fun _ k => XS.aloadN X1.here hx rfl (hb hby dcmB2_4) rfl rfl k) ?_
  show own_Ends _ _ _ _ _ _ _ (T1.setTop (mkF m 5 #[.val (.ref a0), .val (.int (0 : Int32)), .val (.int (2 : Int32)), .val (.ref b1), .unset, .unset] [(.ref a0)]))
  refine own_go (fun _ k => XS.iloadN X1.here hx rfl (hb hby dcmB2_5) rfl k) ?_
  show own_Ends _ _ _ _ _ _ _ (T1.setTop (mkF m 6 #[.val (.ref a0), .val (.int (0 : Int32)), .val (.int (2 : Int32)), .val (.ref b1), .unset, .unset] [(.int (0 : Int32)), (.ref a0)]))
  refine own_go (fun _ k => XS.aloadN X1.here hx rfl (hb hby dcmB2_6) rfl rfl k) ?_
  show own_Ends _ _ _ _ _ _ _ (T1.setTop (mkF m 7 #[.val (.ref a0), .val (.int (0 : Int32)), .val (.int (2 : Int32)), .val (.ref b1), .unset, .unset] [(.ref b1), (.int (0 : Int32)), (.ref a0)]))
  refine own_go (fun _ k => XS.iconst X1.here hx rfl (hb hby dcmB2_7) k) ?_
  show own_Ends _ _ _ _ _ _ _ (T1.setTop (mkF m 8 #[.val (.ref a0), .val (.int (0 : Int32)), .val (.int (2 : Int32)), .val (.ref b1), .unset, .unset] [(.int (0 : Int32)), (.ref b1), (.int (0 : Int32)), (.ref a0)]))
  refine own_go (fun _ k => XS.iloadN X1.here hx rfl (hb hby dcmB2_8) rfl k) ?_
  show own_Ends _ _ _ _ _ _ _ (T1.setTop (mkF m 9 #[.val (.ref a0), .val (.int (0 : Int32)), .val (.int (2 : Int32)), .val (.ref b1), .unset, .unset] [(.int (2 : Int32)), (.int (0 : Int32)), (.ref b1), (.int (0 : Int32)), (.ref a0)]))
  obtain ⟨_, _, ⟨T6, L6, k6, n6⟩, -, X6, ⟨Lc6, hQ6, l6, y6, z6⟩, st6⟩ := Jvm.LawKit.callS X1 hx (y := (⟨"java/lang/StringUTF16", "compress", "([CI[BII)I"⟩ : MethodName)) hown (mvT hZ (hw _ (List.mem_of_getElem? (i := 33) rfl))) (mvT hZ (hw _ (List.mem_of_getElem? (i := 34) rfl))) (mvT hZ (hw _ (List.mem_of_getElem? (i := 30) rfl))) (mvT hZ (hw _ (List.mem_of_getElem? (i := 35) rfl))) (by decide) (backOf (W := 0) (rmcmA2 l Z ar hw [] a0 b1 GG (fun _ => (0 : Int32)) h1 n0 F3 F2 F5 g_b1 ne_a0_b1 hr) hZ (hw _ (List.mem_of_getElem? (i := 35) rfl)) (hw _ (List.mem_of_getElem? (i := 30) rfl)) (by decide) (by decide)) (g := (mkF m 9 #[.val (.ref a0), .val (.int (0 : Int32)), .val (.int (2 : Int32)), .val (.ref b1), .unset, .unset] [(.int (2 : Int32)), (.int (0 : Int32)), (.ref b1), (.int (0 : Int32)), (.ref a0)])) rfl (by rw [hml]; rfl) (argsL := [(.ref a0), (.int (0 : Int32)), (.ref b1), (.int (0 : Int32)), (.int (2 : Int32))]) (rest := []) (lenOf pdcmB2_0 rfl) rfl (by show 2 * 0 + _ ≤ _; exact Nat.le_of_eq rfl) (hb hby dcmB2_9) (fun _ _ => ⟨rfl, e1, (by decide : 1 + 0 ≤ _), (by decide : 2 + 0 ≤ _)⟩)
  dsimp only [Pt.U, Pt.locs, Pt.cells, Pt.slots] at X6 l6 y6 z6 st6 hQ6
  subst l6 y6 z6
  obtain ⟨rfl, N6q, K6, A6_0⟩ := hQ6
  have N6 := Fr.app N0 N6q
  have F7 : own_Ar Z T6.heap a0 .char 2 (fun i => .int (GG i)) := (F2.keep K6 (ninS ne_a0_b1 nin0))
  have F8 : Old Z n0 T6.heap := (F3.keep K6 (allS g_b1 all0))
  have K9 : Keep h0 T6.heap [] := K4.trans K6 (allS (Or.inr gh_b1) all0)
  refine own_go (fun _ k => st6 _ k) ?_
  show own_Ends _ _ _ _ _ _ _ (T6.setTop (mkF m 12 #[.val (.ref a0), .val (.int (0 : Int32)), .val (.int (2 : Int32)), .val (.ref b1), .unset, .unset] [(.int (2 : Int32))]))
  refine own_go (fun _ k => XS.istore X6.here hx rfl (hb hby dcmB2_12) rfl (l' := #[.val (.ref a0), .val (.int (0 : Int32)), .val (.int (2 : Int32)), .val (.ref b1), .val (.int (2 : Int32)), .unset]) rfl k) ?_
  show own_Ends _ _ _ _ _ _ _ (T6.setTop (mkF m 14 #[.val (.ref a0), .val (.int (0 : Int32)), .val (.int (2 : Int32)), .val (.ref b1), .val (.int (2 : Int32)), .unset] []))
  refine own_go (fun _ k => XS.iload X6.here hx rfl (hb hby dcmB2_14) rfl k) ?_
  show own_Ends _ _ _ _ _ _ _ (T6.setTop (mkF m 16 #[.val (.ref a0), .val (.int (0 : Int32)), .val (.int (2 : Int32)), .val (.ref b1), .val (.int (2 : Int32)), .unset] [(.int (2 : Int32))]))
  refine own_go (fun _ k => XS.iloadN X6.here hx rfl (hb hby dcmB2_16) rfl k) ?_
  show own_Ends _ _ _ _ _ _ _ (T6.setTop (mkF m 17 #[.val (.ref a0), .val (.int (0 : Int32)), .val (.int (2 : Int32)), .val (.ref b1), .val (.int (2 : Int32)), .unset] [(.int (2 : Int32)), (.int (2 : Int32))]))
  refine own_go (fun _ k => XS.icmpYes X6.here hx rfl (pc0 := 17) (pc' := 57) rfl (hb hby dcmB2_17) rfl (teq (by decide)).1 (by decide) (by decide) k) ?_
  show own_Ends _ _ _ _ _ _ _ (T6.setTop (mkF m 57 #[.val (.ref a0), .val (.int (0 : Int32)), .val (.int (2 : Int32)), .val (.ref b1), .val (.int (2 : Int32)), .unset] []))
  refine own_go (fun _ k => XS.aloadN X6.here hx rfl (hb hby dcmB2_57) rfl rfl k) ?_
  show own_Ends _ _ _ _ _ _ _ (T6.setTop (mkF m 58 #[.val (.ref a0), .val (.int (0 : Int32)), .val (.int (2 : Int32)), .val (.ref b1), .val (.int (2 : Int32)), .unset] [(.ref b1)]))
  exact own_retA X6 hx hlk Bd.returns rfl rfl rfl (hb hby dcmB2_58) (by decide) (by decide) (by rw [show T6.heap = T6.heap from rfl]; exact ⟨b1, rfl, N6, K9, gh_b1, A6_0⟩)
theorem dcfa2_0 : decode jdk_52_method_15_code 0 = .ok (.iload_n 1, 1) := by decide +kernel
theorem dcfa2_1 : decode jdk_52_method_15_code 1 = .ok (.aload_n 0, 1) := by decide +kernel
theorem dcfa2_2 : decode jdk_52_method_15_code 2 = .ok (.arraylength, 1) := by decide +kernel
theorem dcfa2_3 : decode jdk_52_method_15_code 3 = .ok (.isub, 1) := by decide +kernel
theorem dcfa2_4 : decode jdk_52_method_15_code 4 = .ok (.bipush 31, 2) := by decide +kernel
theorem dcfa2_6 : decode jdk_52_method_15_code 6 = .ok (.iushr, 1) := by decide +kernel
theorem dcfa2_7 : decode jdk_52_method_15_code 7 = .ok (.i2b, 1) := by decide +kernel
theorem dcfa2_8 : decode jdk_52_method_15_code 8 = .ok (.ireturn, 1) := by decide +kernel
theorem pncfa2 : plainName "java/lang/StringUTF16" = true := by first | (simp [plainName, overriddenIn]; done) | decide +kernel
theorem efcfa2 (m : MethodId) (a0 : Addr) : entryFrame m #[(.ref a0), (.int (2 : Int32))] 2 = mkF m 0 #[.val (.ref a0), .val (.int (2 : Int32))] [] := by first | (simp [entryFrame, mkF, argsToLocals, Value.category]; done) | rfl
def Qcfa2 (Z : State) (a0 : Addr) (GG : Nat → Int32) (h0 : Heap) (n0 : Nat) (v : Option Value) (h : Heap) (L : List Loc) : Prop := v = some (.int (0 : Int32)) ∧ Fr n0 L ∧ h = h0
set_option maxRecDepth 65536 in
set_option maxHeartbeats 40000000 in
theorem rmcfa2 (l : Launch) (Z : State) (ar : Array Value) (hw : ∀ d ∈ tables_1, d.before ar Z = true) (ws : List Jvm.Cond) (a0 : Addr) (GG : Nat → Int32) (h0 : Heap) (n0 : Nat) (O0 : Old Z n0 h0) (A_a0 : own_Ar Z h0 a0 .byte 2 (fun i => .int (GG i))) :
    MetFree l (⟨"java/lang/StringUTF16", "coderFromArrayLen", "([BI)B"⟩ : MethodName) (head1 (Jvm.Cond.code (⟨"java/lang/StringUTF16", "coderFromArrayLen", "([BI)B"⟩ : MethodName) jdk_52_method_15_code 2 (some .byte) :: ws) ({ frames := 0, cells := 0, slots := 0, locals := 0 } : Room)) (fun a U => a = #[(.ref a0), (.int (2 : Int32))] ∧ Z.Warmed39 U.vm ∧ U.heap = h0) (fun _ _ _ _ _ => True) (fun _ U o U' => ∃ v L, o = .returned v ∧ Qcfa2 Z a0 GG h0 n0 v U'.heap L ∧ FrameEnd U o U' L ({ frames := 0, cells := 0, slots := 0, locals := 0 } : Room).cells ({ frames := 0, cells := 0, slots := 0, locals := 0 } : Room).slots) := by
  refine MetFree.of_bodySF (plainFor_of_name pncfa2) hisR ?_
  intro p e s m args below meth c s₁ Bd hml0 hP hK
  obtain ⟨rfl, hZ, hh⟩ := hP
  have hx := Bd.exec
  have hby := Bd.bytes
  have hml : c.maxLocals = 2 := hml0
  have hown : s.vm.findClass "java/lang/StringUTF16" = some m.cls := findClass_of_methodNamed Bd.named
  have hnm := (name_of_methodNamed Bd.named Bd.method).1
  have hlk : meth.locks = false := BodyLoose.notSynchronized Bd
  have X0 : Stand p l e ({ frames := 0, cells := 0, slots := 0, locals := 0 } : Room) s m #[(.ref a0), (.int (2 : Int32))] below meth c s₁ [] 0 0 := Stand.of_body Bd
  have e0 : s₁.heap = h0 := by rw [← hh, Bd.state]; rfl
  have N0 := Fr.nil n0
  suffices hmain : own_Ends p e below s (Qcfa2 Z a0 GG h0 n0) 0 0 (s₁.setTop (mkF m 0 #[.val (.ref a0), .val (.int (2 : Int32))] [])) by
    obtain ⟨U, o, h1, r⟩ := hmain
    exact ⟨U, o, castTop (efcfa2 m a0) h1, r⟩
  show own_Ends _ _ _ _ _ _ _ (s₁.setTop (mkF m 0 #[.val (.ref a0), .val (.int (2 : Int32))] []))
  refine own_go (fun _ k => XS.iloadN X0.here hx rfl (hb hby dcfa2_0) rfl k) ?_
  show own_Ends _ _ _ _ _ _ _ (s₁.setTop (mkF m 1 #[.val (.ref a0), .val (.int (2 : Int32))] [(.int (2 : Int32))]))
  refine own_go (fun _ k => XS.aloadN X0.here hx rfl (hb hby dcfa2_1) rfl rfl k) ?_
  show own_Ends _ _ _ _ _ _ _ (s₁.setTop (mkF m 2 #[.val (.ref a0), .val (.int (2 : Int32))] [(.ref a0), (.int (2 : Int32))]))
  obtain ⟨c1, A1, l1⟩ := own_Ar.len A_a0
  refine own_go (fun _ k => X0.arraylength hx (by rw [e0]; exact A1.1) (State.isArrayOf_alike hZ.alike A1.2.1) (g := (mkF m 2 #[.val (.ref a0), .val (.int (2 : Int32))] [(.ref a0), (.int (2 : Int32))])) rfl rfl (hb hby dcfa2_2) _ k) ?_
  rw [l1]
  show own_Ends _ _ _ _ _ _ _ (s₁.setTop (mkF m 3 #[.val (.ref a0), .val (.int (2 : Int32))] [(.int (2 : Int32)), (.int (2 : Int32))]))
  refine own_go (fun _ k => XS.isub X0.here hx rfl (hb hby dcfa2_3) rfl k) ?_
  show own_Ends _ _ _ _ _ _ _ (s₁.setTop (mkF m 4 #[.val (.ref a0), .val (.int (2 : Int32))] [(.int ((2 : Int32) - (2 : Int32)))]))
  refine own_go (fun _ k => XS.bipush X0.here hx rfl (hb hby dcfa2_4) k) ?_
  show own_Ends _ _ _ _ _ _ _ (s₁.setTop (mkF m 6 #[.val (.ref a0), .val (.int (2 : Int32))] [(.int (31 : Int32)), (.int ((2 : Int32) - (2 : Int32)))]))
  refine own_go (fun _ k => XS.iushr X0.here hx rfl (hb hby dcfa2_6) rfl k) ?_
  show own_Ends _ _ _ _ _ _ _ (s₁.setTop (mkF m 7 #[.val (.ref a0), .val (.int (2 : Int32))] [(.int ((((2 : Int32) - (2 : Int32)).toUInt32 >>> ((31 : Int32) &&& 31).toUInt32).toInt32))]))
  refine own_go (fun _ k => XS.i2b X0.here hx rfl (hb hby dcfa2_7) rfl k) ?_
  show own_Ends _ _ _ _ _ _ _ (s₁.setTop (mkF m 8 #[.val (.ref a0), .val (.int (2 : Int32))] [(.int (((((2 : Int32) - (2 : Int32)).toUInt32 >>> ((31 : Int32) &&& 31).toUInt32).toInt32).toInt8.toInt32))]))
  exact own_retN X0 hx hlk (t := .byte) Bd.returns (by simp) (hb hby dcfa2_8) (by decide) (by decide) ⟨by decide, N0, e0⟩
theorem dsiB2_0 : decode jdk_42_method_149_code 0 = .ok (.aload_n 0, 1) := by decide +kernel
theorem dsiB2_1 : decode jdk_42_method_149_code 1 = .ok (.invokespecial 1, 3) := by decide +kernel
theorem dsiB2_4 : decode jdk_42_method_149_code 4 = .ok (.iload_n 3, 1) := by decide +kernel
theorem dsiB2_5 : decode jdk_42_method_149_code 5 = .ok (.ifCond .ne 22, 3) := by decide +kernel
theorem dsiB2_27 : decode jdk_42_method_149_code 27 = .ok (.getstatic 38, 3) := by decide +kernel
theorem dsiB2_30 : decode jdk_42_method_149_code 30 = .ok (.ifCond .eq 28, 3) := by decide +kernel
theorem dsiB2_33 : decode jdk_42_method_149_code 33 = .ok (.aload_n 1, 1) := by decide +kernel
theorem dsiB2_34 : decode jdk_42_method_149_code 34 = .ok (.iload_n 2, 1) := by decide +kernel
theorem dsiB2_35 : decode jdk_42_method_149_code 35 = .ok (.iload_n 3, 1) := by decide +kernel
theorem dsiB2_36 : decode jdk_42_method_149_code 36 = .ok (.invokestatic 177, 3) := by decide +kernel
theorem dsiB2_39 : decode jdk_42_method_149_code 39 = .ok (.astore 5, 2) := by decide +kernel
theorem dsiB2_41 : decode jdk_42_method_149_code 41 = .ok (.aload_n 0, 1) := by decide +kernel
theorem dsiB2_42 : decode jdk_42_method_149_code 42 = .ok (.aload 5, 2) := by decide +kernel
theorem dsiB2_44 : decode jdk_42_method_149_code 44 = .ok (.iload_n 3, 1) := by decide +kernel
theorem dsiB2_45 : decode jdk_42_method_149_code 45 = .ok (.invokestatic 47, 3) := by decide +kernel
theorem dsiB2_48 : decode jdk_42_method_149_code 48 = .ok (.putfield 15, 3) := by decide +kernel
theorem dsiB2_51 : decode jdk_42_method_149_code 51 = .ok (.aload_n 0, 1) := by decide +kernel
theorem dsiB2_52 : decode jdk_42_method_149_code 52 = .ok (.aload 5, 2) := by decide +kernel
theorem dsiB2_54 : decode jdk_42_method_149_code 54 = .ok (.putfield 9, 3) := by decide +kernel
theorem dsiB2_57 : decode jdk_42_method_149_code 57 = .ok (.return_, 1) := by decide +kernel
theorem pnsiB2 : plainName "java/lang/String" = true := by first | (simp [plainName, overriddenIn]; done) | decide +kernel
theorem pdsiB2_0 : parseMethodDescriptor "([CII)[B" = some ⟨[(.array .char), .int, .int], some (.array .byte)⟩ := by decide +kernel
theorem pdsiB2_1 : parseMethodDescriptor "([BI)B" = some ⟨[(.array .byte), .int], some .byte⟩ := by decide +kernel
theorem efsiB2 (m : MethodId) (a0 : Addr) (a1 : Addr) : entryFrame m #[(.ref a0), (.ref a1), (.int (0 : Int32)), (.int (2 : Int32)), .null] 6 = mkF m 0 #[.val (.ref a0), .val (.ref a1), .val (.int (0 : Int32)), .val (.int (2 : Int32)), .val .null, .unset] [] := by first | (simp [entryFrame, mkF, argsToLocals, Value.category]; done) | rfl
def QsiB2 (Z : State) (a0 : Addr) (a1 : Addr) (GG : Nat → Int32) (w_COMPACT_STRINGS : Int32) (h0 : Heap) (n0 : Nat) (v : Option Value) (h : Heap) (L : List Loc) : Prop := v = none ∧ Fr n0 L ∧ Keep h0 h [a0] ∧ own_Str Z h a0 2 (fun i => own_by (GG i))
set_option maxRecDepth 65536 in
set_option maxHeartbeats 40000000 in
theorem rmsiB2 (l : Launch) (Z : State) (ar : Array Value) (hw : ∀ d ∈ tables_1, d.before ar Z = true) (ws : List Jvm.Cond) (a0 : Addr) (a1 : Addr) (GG : Nat → Int32) (w_COMPACT_STRINGS : Int32) (h0 : Heap) (n0 : Nat) (O0 : Old Z n0 h0) (E_a0 : Exa Z h0 a0 "java/lang/String") (g_a0 : n0 ≤ a0) (F_value_a0 : Fld Z h0 a0 "java/lang/String" "value" "[B" .null) (F_coder_a0 : Fld Z h0 a0 "java/lang/String" "coder" "B" (.int (0 : Int32))) (A_a1 : own_Ar Z h0 a1 .char 2 (fun i => .int (GG i))) (hr : ∀ i, i < 2 → ¬ (255 : Int32) < GG i) (ne01 : a0 ≠ a1) (hCS : ¬ w_COMPACT_STRINGS = (0 : Int32)) (S_COMPACT_STRINGS : Sta Z Z.heap "java/lang/String" "COMPACT_STRINGS" "Z" (.int w_COMPACT_STRINGS)) :
    MetFree l (⟨"java/lang/String", "<init>", "([CIILjava/lang/Void;)V"⟩ : MethodName) (head1 (Jvm.Cond.code (⟨"java/lang/String", "<init>", "([CIILjava/lang/Void;)V"⟩ : MethodName) jdk_42_method_149_code 6 none :: ws) ({ frames := 2, cells := 1, slots := 2, locals := 35 } : Room)) (fun a U => a = #[(.ref a0), (.ref a1), (.int (0 : Int32)), (.int (2 : Int32)), .null] ∧ Z.Warmed39 U.vm ∧ U.heap = h0) (fun _ _ _ _ _ => True) (fun _ U o U' => ∃ v L, o = .returned v ∧ QsiB2 Z a0 a1 GG w_COMPACT_STRINGS h0 n0 v U'.heap L ∧ FrameEnd U o U' L ({ frames := 2, cells := 1, slots := 2, locals := 35 } : Room).cells ({ frames := 2, cells := 1, slots := 2, locals := 35 } : Room).slots) := by
  refine MetFree.of_bodySF (plainFor_of_name pnsiB2) hisR ?_
  intro p e s m args below meth c s₁ Bd hml0 hP hK
  obtain ⟨rfl, hZ, hh⟩ := hP
  have hx := Bd.exec
  have hby := Bd.bytes
  have hml : c.maxLocals = 6 := hml0
  have hown : s.vm.findClass "java/lang/String" = some m.cls := findClass_of_methodNamed Bd.named
  have hnm := (name_of_methodNamed Bd.named Bd.method).1
  have hlk : meth.locks = false := BodyLoose.notSynchronized Bd
  have X0 : Stand p l e ({ frames := 2, cells := 1, slots := 2, locals := 35 } : Room) s m #[(.ref a0), (.ref a1), (.int (0 : Int32)), (.int (2 : Int32)), .null] below meth c s₁ [] 0 0 := Stand.of_body Bd
  have e0 : s₁.heap = h0 := by rw [← hh, Bd.state]; rfl
  have N0 := Fr.nil n0
  suffices hmain : own_Ends p e below s (QsiB2 Z a0 a1 GG w_COMPACT_STRINGS h0 n0) 1 2 (s₁.setTop (mkF m 0 #[.val (.ref a0), .val (.ref a1), .val (.int (0 : Int32)), .val (.int (2 : Int32)), .val .null, .unset] [])) by
    obtain ⟨U, o, h1, r⟩ := hmain
    exact ⟨U, o, castTop (efsiB2 m a0 a1) h1, r⟩
  show own_Ends _ _ _ _ _ _ _ (s₁.setTop (mkF m 0 #[.val (.ref a0), .val (.ref a1), .val (.int (0 : Int32)), .val (.int (2 : Int32)), .val .null, .unset] []))
  refine own_go (fun _ k => XS.aloadN X0.here hx rfl (hb hby dsiB2_0) rfl rfl k) ?_
  show own_Ends _ _ _ _ _ _ _ (s₁.setTop (mkF m 1 #[.val (.ref a0), .val (.ref a1), .val (.int (0 : Int32)), .val (.int (2 : Int32)), .val .null, .unset] [(.ref a0)]))
  obtain ⟨T1, X1, e1, st1⟩ := initO X0 hx hZ hown (hw _ (List.mem_of_getElem? (i := 24) rfl)) (hw _ (List.mem_of_getElem? (i := 25) rfl)) (hw _ (List.mem_of_getElem? (i := 26) rfl)) e0 (g := (mkF m 1 #[.val (.ref a0), .val (.ref a1), .val (.int (0 : Int32)), .val (.int (2 : Int32)), .val .null, .unset] [(.ref a0)])) rfl (by rw [hml]; rfl) rfl (hb hby dsiB2_1) (by decide) (W := 0) (by show 2 * 0 + _ ≤ _; exact Nat.le_of_eq rfl) (by decide)
  refine own_go (fun _ k => st1 _ k) ?_
  show own_Ends _ _ _ _ _ _ _ (T1.setTop (mkF m 4 #[.val (.ref a0), .val (.ref a1), .val (.int (0 : Int32)), .val (.int (2 : Int32)), .val .null, .unset] []))
  refine own_go (fun _ k => XS.iloadN X1.here hx rfl (hb hby dsiB2_4) rfl k) ?_
  show own_Ends _ _ _ _ _ _ _ (T1.setTop (mkF m 5 #[.val (.ref a0), .val (.ref a1), .val (.int (0 : Int32)), .val (.int (2 : Int32)), .val .null, .unset] [(.int (2 : Int32))]))
  refine own_go (fun _ k => XS.ifYes X1.here hx rfl (pc0 := 5) (pc' := 27) rfl (hb hby dsiB2_5) rfl ((if0 _ _).trans (feq (by decide)).2) (by decide) (by decide) k) ?_
  show own_Ends _ _ _ _ _ _ _ (T1.setTop (mkF m 27 #[.val (.ref a0), .val (.ref a1), .val (.int (0 : Int32)), .val (.int (2 : Int32)), .val .null, .unset] []))
  obtain ⟨T2, X2, e2, st2⟩ := getS2 X1 hx hZ hown (host := "") (Or.inl (hw _ (List.mem_of_getElem? (i := 27) rfl))) Via.refl e1 (Sta.ext (own_ext O0) S_COMPACT_STRINGS) (g := (mkF m 27 #[.val (.ref a0), .val (.ref a1), .val (.int (0 : Int32)), .val (.int (2 : Int32)), .val .null, .unset] [])) rfl (hb hby dsiB2_27)
  refine own_go (fun _ k => st2 _ k) ?_
  show own_Ends _ _ _ _ _ _ _ (T2.setTop (mkF m 30 #[.val (.ref a0), .val (.ref a1), .val (.int (0 : Int32)), .val (.int (2 : Int32)), .val .null, .unset] [(.int w_COMPACT_STRINGS)]))
  refine own_go (fun _ k => XS.ifNo X2.here hx rfl (hb hby dsiB2_30) rfl ((if0 _ _).trans (feq hCS).1) k) ?_
  show own_Ends _ _ _ _ _ _ _ (T2.setTop (mkF m 33 #[.val (.ref a0), .val (.ref a1), .val (.int (0 : Int32)), .val (.int (2 : Int32)), .val .null, .unset] []))
  refine own_go (fun _ k => XS.aloadN X2.here hx rfl (hb hby dsiB2_33) rfl rfl k) ?_
  show own_Ends _ _ _ _ _ _ _ (T2.setTop (mkF m 34 #[.val (.ref a0), .val (.ref a1), .val (.int (0 : Int32)), .val (.int (2 : Int32)), .val .null, .unset] [(.ref a1)]))
  refine own_go (fun _ k => XS.iloadN X2.here hx rfl (hb hby dsiB2_34) rfl k) ?_
  show own_Ends _ _ _ _ _ _ _ (T2.setTop (mkF m 35 #[.val (.ref a0), .val (.ref a1), .val (.int (0 : Int32)), .val (.int (2 : Int32)), .val .null, .unset] [(.int (0 : Int32)), (.ref a1)]))
  refine own_go (fun _ k => XS.iloadN X2.here hx rfl (hb hby dsiB2_35) rfl k) ?_
  show own_Ends _ _ _ _ _ _ _ (T2.setTop (mkF m 36 #[.val (.ref a0), .val (.ref a1), .val (.int (0 : Int32)), .val (.int (2 : Int32)), .val .null, .unset] [(.int (2 : Int32)), (.int (0 : Int32)), (.ref a1)]))
  obtain ⟨_, _, ⟨T3, L3, k3, n3⟩, -, X3, ⟨Lc3, hQ3, l3, y3, z3⟩, st3⟩ := Jvm.LawKit.callS X2 hx (y := (⟨"java/lang/StringUTF16", "compress", "([CII)[B"⟩ : MethodName)) hown (mvT hZ (hw _ (List.mem_of_getElem? (i := 28) rfl))) (mvT hZ (hw _ (List.mem_of_getElem? (i := 29) rfl))) (mvT hZ (hw _ (List.mem_of_getElem? (i := 30) rfl))) (mvT hZ (hw _ (List.mem_of_getElem? (i := 31) rfl))) (by decide) (backOf (W := 0) (rmcmB2 l Z ar hw [] a1 GG h0 n0 O0 A_a1 hr) hZ (hw _ (List.mem_of_getElem? (i := 31) rfl)) (hw _ (List.mem_of_getElem? (i := 30) rfl)) (by decide) (by decide)) (g := (mkF m 36 #[.val (.ref a0), .val (.ref a1), .val (.int (0 : Int32)), .val (.int (2 : Int32)), .val .null, .unset] [(.int (2 : Int32)), (.int (0 : Int32)), (.ref a1)])) rfl (by rw [hml]; rfl) (argsL := [(.ref a1), (.int (0 : Int32)), (.int (2 : Int32))]) (rest := []) (lenOf pdsiB2_0 rfl) rfl (by show 2 * 0 + _ ≤ _; exact Nat.le_of_eq rfl) (hb hby dsiB2_36) (fun _ _ => ⟨rfl, e2, (by decide : 0 + 1 ≤ _), (by decide : 0 + 2 ≤ _)⟩)
  dsimp only [Pt.U, Pt.locs, Pt.cells, Pt.slots] at X3 l3 y3 z3 st3 hQ3
  subst l3 y3 z3
  obtain ⟨y3, rfl, N3q, K3, gh_y3, A3_0⟩ := hQ3
  have N3 := Fr.app N0 N3q
  have ne_a0_y3 : a0 ≠ y3 := Nat.ne_of_lt (Nat.lt_of_lt_of_le E_a0.lt gh_y3)
  have ne_a1_y3 : a1 ≠ y3 := Nat.ne_of_lt (Nat.lt_of_lt_of_le A_a1.lt gh_y3)
  have F4 : Exa Z T3.heap a0 "java/lang/String" := (E_a0.keep K3)
  have F5 : Fld Z T3.heap a0 "java/lang/String" "value" "[B" .null := (F_value_a0.keep K3 nin0)
  have F6 : Fld Z T3.heap a0 "java/lang/String" "coder" "B" (.int (0 : Int32)) := (F_coder_a0.keep K3 nin0)
  have F7 : Old Z n0 T3.heap := (O0.keep K3 all0)
  have K8 : Keep h0 T3.heap [a0] := (Keep.refl h0 [a0]).trans K3 all0
  refine own_go (fun _ k => st3 _ k) ?_
  show own_Ends _ _ _ _ _ _ _ (T3.setTop (mkF m 39 #[.val (.ref a0), .val (.ref a1), .val (.int (0 : Int32)), .val (.int (2 : Int32)), .val .null, .unset] [(.ref y3)]))
  refine own_go (fun _ k => XS.astore X3.here hx rfl (hb hby dsiB2_39) rfl rfl (l' := #[.val (.ref a0), .val (.ref a1), .val (.int (0 : Int32)), .val (.int (2 : Int32)), .val .null, .val (.ref y3)]) rfl k) ?_
  show own_Ends _ _ _ _ _ _ _ (T3.setTop (mkF m 41 #[.val (.ref a0), .val (.ref a1), .val (.int (0 : Int32)), .val (.int (2 : Int32)), .val .null, .val (.ref y3)] []))
  refine own_go (fun _ k => XS.aloadN X3.here hx rfl (hb hby dsiB2_41) rfl rfl k) ?_
  show own_Ends _ _ _ _ _ _ _ (T3.setTop (mkF m 42 #[.val (.ref a0), .val (.ref a1), .val (.int (0 : Int32)), .val (.int (2 : Int32)), .val .null, .val (.ref y3)] [(.ref a0)]))
  refine own_go (fun _ k => XS.aload X3.here hx rfl (hb hby dsiB2_42) rfl rfl k) ?_
  show own_Ends _ _ _ _ _ _ _ (T3.setTop (mkF m 44 #[.val (.ref a0), .val (.ref a1), .val (.int (0 : Int32)), .val (.int (2 : Int32)), .val .null, .val (.ref y3)] [(.ref y3), (.ref a0)]))
  refine own_go (fun _ k => XS.iloadN X3.here hx rfl (hb hby dsiB2_44) rfl k) ?_
  show own_Ends _ _ _ _ _ _ _ (T3.setTop (mkF m 45 #[.val (.ref a0), .val (.ref a1), .val (.int (0 : Int32)), .val (.int (2 : Int32)), .val .null, .val (.ref y3)] [(.int (2 : Int32)), (.ref y3), (.ref a0)]))
  obtain ⟨_, _, ⟨T9, L9, k9, n9⟩, -, X9, ⟨Lc9, hQ9, l9, y9, z9⟩, st9⟩ := Jvm.LawKit.callS X3 hx (y := (⟨"java/lang/StringUTF16", "coderFromArrayLen", "([BI)B"⟩ : MethodName)) hown (mvT hZ (hw _ (List.mem_of_getElem? (i := 36) rfl))) (mvT hZ (hw _ (List.mem_of_getElem? (i := 37) rfl))) (mvT hZ (hw _ (List.mem_of_getElem? (i := 30) rfl))) (mvT hZ (hw _ (List.mem_of_getElem? (i := 38) rfl))) (by decide) (backOf (W := 1) (rmcfa2 l Z ar hw [] y3 (fun i => own_by (GG i)) T3.heap n0 F7 A3_0) hZ (hw _ (List.mem_of_getElem? (i := 38) rfl)) (hw _ (List.mem_of_getElem? (i := 30) rfl)) (by decide) (by decide)) (g := (mkF m 45 #[.val (.ref a0), .val (.ref a1), .val (.int (0 : Int32)), .val (.int (2 : Int32)), .val .null, .val (.ref y3)] [(.int (2 : Int32)), (.ref y3), (.ref a0)])) rfl (by rw [hml]; rfl) (argsL := [(.ref y3), (.int (2 : Int32))]) (rest := [(.ref a0)]) (lenOf pdsiB2_1 rfl) rfl (by show 2 * 0 + _ ≤ _; exact Nat.le_of_eq rfl) (hb hby dsiB2_45) (fun _ _ => ⟨rfl, rfl, (by decide : 1 + 0 ≤ _), (by decide : 2 + 0 ≤ _)⟩)
  dsimp only [Pt.U, Pt.locs, Pt.cells, Pt.slots] at X9 l9 y9 z9 st9 hQ9
  subst l9 y9 z9
  obtain ⟨rfl, N9q, eq9⟩ := hQ9
  have e9 : T9.heap = T3.heap := eq9
  have N9 := Fr.app N3 N9q
  refine own_go (fun _ k => st9 _ k) ?_
  show own_Ends _ _ _ _ _ _ _ (T9.setTop (mkF m 48 #[.val (.ref a0), .val (.ref a1), .val (.int (0 : Int32)), .val (.int (2 : Int32)), .val .null, .val (.ref y3)] [(.int (0 : Int32)), (.ref a0)]))
  obtain ⟨T10, h10, X10, e10, W10, st10⟩ := putFN X9 hx hZ hown (hw _ (List.mem_of_getElem? (i := 39) rfl)) Via.refl e9 F6 F4 (Or.inr ⟨(hw _ (List.mem_of_getElem? (i := 40) rfl)), rfl, hnm⟩) (hw _ (List.mem_of_getElem? (i := 15) rfl)) (ty := .byte) (v' := (.int (0 : Int32))) (by decide) rfl rfl (g := (mkF m 48 #[.val (.ref a0), .val (.ref a1), .val (.int (0 : Int32)), .val (.int (2 : Int32)), .val .null, .val (.ref y3)] [(.int (0 : Int32)), (.ref a0)])) rfl rfl (hb hby dsiB2_48)
  refine own_go (fun _ k => st10 _ k) ?_
  have N10 := Fr.snoc X10 N9 g_a0
  have F11 : Exa Z h10 a0 "java/lang/String" := (Exa.wr W10 F4)
  have F12 : Fld Z h10 a0 "java/lang/String" "value" "[B" .null := (Fld.other W10 F5 (Or.inr (slot_ne (Or.inr (hw _ (List.mem_of_getElem? (i := 42) rfl))) (Or.inr (hw _ (List.mem_of_getElem? (i := 40) rfl))) (by decide) (t := (.array .byte)) (t' := .byte) (by decide) (by decide))))
  have F13 : Old Z n0 h10 := (F7.wr W10 g_a0)
  have F14 : own_Ar Z h10 y3 .byte 2 (fun i => .int ((fun i => own_by (GG i)) i)) := (A3_0.other W10 (Ne.symm ne_a0_y3))
  have F15 : Fld Z h10 a0 "java/lang/String" "coder" "B" (.int (0 : Int32)) := Fld.same W10 F6
  have K16 : Keep h0 h10 [a0] := K8.wr W10 (Or.inl (List.mem_of_getElem? (i := 0) rfl))
  show own_Ends _ _ _ _ _ _ _ (T10.setTop (mkF m 51 #[.val (.ref a0), .val (.ref a1), .val (.int (0 : Int32)), .val (.int (2 : Int32)), .val .null, .val (.ref y3)] []))
  refine own_go (fun _ k => XS.aloadN X10.here hx rfl (hb hby dsiB2_51) rfl rfl k) ?_
  show own_Ends _ _ _ _ _ _ _ (T10.setTop (mkF m 52 #[.val (.ref a0), .val (.ref a1), .val (.int (0 : Int32)), .val (.int (2 : Int32)), .val .null, .val (.ref y3)] [(.ref a0)]))
  refine own_go (fun _ k => XS.aload X10.here hx rfl (hb hby dsiB2_52) rfl rfl k) ?_
  show own_Ends _ _ _ _ _ _ _ (T10.setTop (mkF m 54 #[.val (.ref a0), .val (.ref a1), .val (.int (0 : Int32)), .val (.int (2 : Int32)), .val .null, .val (.ref y3)] [(.ref y3), (.ref a0)]))
  obtain ⟨T17, h17, X17, e17, W17, st17⟩ := putF X10 hx hZ hown (host := "") (Or.inl (hw _ (List.mem_of_getElem? (i := 41) rfl))) Via.refl e10 F12 F11 (Or.inr ⟨(hw _ (List.mem_of_getElem? (i := 42) rfl)), rfl, hnm⟩) (hw _ (List.mem_of_getElem? (i := 15) rfl)) (ty := (.array .byte)) (by decide) rfl rfl (g := (mkF m 54 #[.val (.ref a0), .val (.ref a1), .val (.int (0 : Int32)), .val (.int (2 : Int32)), .val .null, .val (.ref y3)] [(.ref y3), (.ref a0)])) rfl rfl (hb hby dsiB2_54)
  refine own_go (fun _ k => st17 _ k) ?_
  have N17 := Fr.snoc X17 N10 g_a0
  have F18 : Exa Z h17 a0 "java/lang/String" := (Exa.wr W17 F11)
  have F19 : Fld Z h17 a0 "java/lang/String" "coder" "B" (.int (0 : Int32)) := (Fld.other W17 F15 (Or.inr (slot_ne (Or.inr (hw _ (List.mem_of_getElem? (i := 40) rfl))) (Or.inr (hw _ (List.mem_of_getElem? (i := 42) rfl))) (by decide) (t := .byte) (t' := (.array .byte)) (by decide) (by decide))))
  have F20 : Old Z n0 h17 := (F13.wr W17 g_a0)
  have F21 : own_Ar Z h17 y3 .byte 2 (fun i => .int ((fun i => own_by (GG i)) i)) := (F14.other W17 (Ne.symm ne_a0_y3))
  have F22 : Fld Z h17 a0 "java/lang/String" "value" "[B" (.ref y3) := Fld.same W17 F12
  have K23 : Keep h0 h17 [a0] := K16.wr W17 (Or.inl (List.mem_of_getElem? (i := 0) rfl))
  show own_Ends _ _ _ _ _ _ _ (T17.setTop (mkF m 57 #[.val (.ref a0), .val (.ref a1), .val (.int (0 : Int32)), .val (.int (2 : Int32)), .val .null, .val (.ref y3)] []))
  exact own_retV X17 hx hlk Bd.returns (hb hby dsiB2_57) (by decide) (by decide) (by rw [e17]; exact ⟨rfl, N17, K23, ⟨F18, F19, y3, F22, F21⟩⟩)
theorem dsiA2_0 : decode jdk_42_method_3_code 0 = .ok (.aload_n 0, 1) := by decide +kernel
theorem dsiA2_1 : decode jdk_42_method_3_code 1 = .ok (.aload_n 1, 1) := by decide +kernel
theorem dsiA2_2 : decode jdk_42_method_3_code 2 = .ok (.iconst 0, 1) := by decide +kernel
theorem dsiA2_3 : decode jdk_42_method_3_code 3 = .ok (.aload_n 1, 1) := by decide +kernel
theorem dsiA2_4 : decode jdk_42_method_3_code 4 = .ok (.arraylength, 1) := by decide +kernel
theorem dsiA2_5 : decode jdk_42_method_3_code 5 = .ok (.aconst_null, 1) := by decide +kernel
theorem dsiA2_6 : decode jdk_42_method_3_code 6 = .ok (.invokespecial 27, 3) := by decide +kernel
theorem dsiA2_9 : decode jdk_42_method_3_code 9 = .ok (.return_, 1) := by decide +kernel
theorem pnsiA2 : plainName "java/lang/String" = true := by first | (simp [plainName, overriddenIn]; done) | decide +kernel
theorem pdsiA2_0 : parseMethodDescriptor "([CIILjava/lang/Void;)V" = some ⟨[(.array .char), .int, .int, (.object "java/lang/Void")], none⟩ := by decide +kernel
theorem efsiA2 (m : MethodId) (a0 : Addr) (a1 : Addr) : entryFrame m #[(.ref a0), (.ref a1)] 2 = mkF m 0 #[.val (.ref a0), .val (.ref a1)] [] := by first | (simp [entryFrame, mkF, argsToLocals, Value.category]; done) | rfl
def QsiA2 (Z : State) (a0 : Addr) (a1 : Addr) (GG : Nat → Int32) (w_COMPACT_STRINGS : Int32) (h0 : Heap) (n0 : Nat) (v : Option Value) (h : Heap) (L : List Loc) : Prop := v = none ∧ Fr n0 L ∧ Keep h0 h [a0] ∧ own_Str Z h a0 2 (fun i => own_by (GG i))
set_option maxRecDepth 65536 in
set_option maxHeartbeats 40000000 in
theorem rmsiA2 (l : Launch) (Z : State) (ar : Array Value) (hw : ∀ d ∈ tables_1, d.before ar Z = true) (ws : List Jvm.Cond) (a0 : Addr) (a1 : Addr) (GG : Nat → Int32) (w_COMPACT_STRINGS : Int32) (h0 : Heap) (n0 : Nat) (O0 : Old Z n0 h0) (E_a0 : Exa Z h0 a0 "java/lang/String") (g_a0 : n0 ≤ a0) (F_value_a0 : Fld Z h0 a0 "java/lang/String" "value" "[B" .null) (F_coder_a0 : Fld Z h0 a0 "java/lang/String" "coder" "B" (.int (0 : Int32))) (A_a1 : own_Ar Z h0 a1 .char 2 (fun i => .int (GG i))) (hr : ∀ i, i < 2 → ¬ (255 : Int32) < GG i) (ne01 : a0 ≠ a1) (hCS : ¬ w_COMPACT_STRINGS = (0 : Int32)) (S_COMPACT_STRINGS : Sta Z Z.heap "java/lang/String" "COMPACT_STRINGS" "Z" (.int w_COMPACT_STRINGS)) :
    MetFree l (⟨"java/lang/String", "<init>", "([C)V"⟩ : MethodName) (head1 (Jvm.Cond.code (⟨"java/lang/String", "<init>", "([C)V"⟩ : MethodName) jdk_42_method_3_code 2 none :: ws) ({ frames := 3, cells := 1, slots := 2, locals := 52 } : Room)) (fun a U => a = #[(.ref a0), (.ref a1)] ∧ Z.Warmed39 U.vm ∧ U.heap = h0) (fun _ _ _ _ _ => True) (fun _ U o U' => ∃ v L, o = .returned v ∧ QsiA2 Z a0 a1 GG w_COMPACT_STRINGS h0 n0 v U'.heap L ∧ FrameEnd U o U' L ({ frames := 3, cells := 1, slots := 2, locals := 52 } : Room).cells ({ frames := 3, cells := 1, slots := 2, locals := 52 } : Room).slots) := by
  refine MetFree.of_bodySF (plainFor_of_name pnsiA2) hisR ?_
  intro p e s m args below meth c s₁ Bd hml0 hP hK
  obtain ⟨rfl, hZ, hh⟩ := hP
  have hx := Bd.exec
  have hby := Bd.bytes
  have hml : c.maxLocals = 2 := hml0
  have hown : s.vm.findClass "java/lang/String" = some m.cls := findClass_of_methodNamed Bd.named
  have hnm := (name_of_methodNamed Bd.named Bd.method).1
  have hlk : meth.locks = false := BodyLoose.notSynchronized Bd
  have X0 : Stand p l e ({ frames := 3, cells := 1, slots := 2, locals := 52 } : Room) s m #[(.ref a0), (.ref a1)] below meth c s₁ [] 0 0 := Stand.of_body Bd
  have e0 : s₁.heap = h0 := by rw [← hh, Bd.state]; rfl
  have N0 := Fr.nil n0
  suffices hmain : own_Ends p e below s (QsiA2 Z a0 a1 GG w_COMPACT_STRINGS h0 n0) 1 2 (s₁.setTop (mkF m 0 #[.val (.ref a0), .val (.ref a1)] [])) by
    obtain ⟨U, o, h1, r⟩ := hmain
    exact ⟨U, o, castTop (efsiA2 m a0 a1) h1, r⟩
  show own_Ends _ _ _ _ _ _ _ (s₁.setTop (mkF m 0 #[.val (.ref a0), .val (.ref a1)] []))
  refine own_go (fun _ k => XS.aloadN X0.here hx rfl (hb hby dsiA2_0) rfl rfl k) ?_
  show own_Ends _ _ _ _ _ _ _ (s₁.setTop (mkF m 1 #[.val (.ref a0), .val (.ref a1)] [(.ref a0)]))
  refine own_go (fun _ k => XS.aloadN X0.here hx rfl (hb hby dsiA2_1) rfl rfl k) ?_
  show own_Ends _ _ _ _ _ _ _ (s₁.setTop (mkF m 2 #[.val (.ref a0), .val (.ref a1)] [(.ref a1), (.ref a0)]))
  refine own_go (fun _ k => XS.iconst X0.here hx rfl (hb hby dsiA2_2) k) ?_
  show own_Ends _ _ _ _ _ _ _ (s₁.setTop (mkF m 3 #[.val (.ref a0), .val (.ref a1)] [(.int (0 : Int32)), (.ref a1), (.ref a0)]))
  refine own_go (fun _ k => XS.aloadN X0.here hx rfl (hb hby dsiA2_3) rfl rfl k) ?_
  show own_Ends _ _ _ _ _ _ _ (s₁.setTop (mkF m 4 #[.val (.ref a0), .val (.ref a1)] [(.ref a1), (.int (0 : Int32)), (.ref a1), (.ref a0)]))
  obtain ⟨c1, A1, l1⟩ := own_Ar.len A_a1
  refine own_go (fun _ k => X0.arraylength hx (by rw [e0]; exact A1.1) (State.isArrayOf_alike hZ.alike A1.2.1) (g := (mkF m 4 #[.val (.ref a0), .val (.ref a1)] [(.ref a1), (.int (0 : Int32)), (.ref a1), (.ref a0)])) rfl rfl (hb hby dsiA2_4) _ k) ?_
  rw [l1]
  show own_Ends _ _ _ _ _ _ _ (s₁.setTop (mkF m 5 #[.val (.ref a0), .val (.ref a1)] [(.int (2 : Int32)), (.int (0 : Int32)), (.ref a1), (.ref a0)]))
  refine own_go (fun _ k => XS.aconstNull X0.here hx rfl (hb hby dsiA2_5) k) ?_
  show own_Ends _ _ _ _ _ _ _ (s₁.setTop (mkF m 6 #[.val (.ref a0), .val (.ref a1)] [.null, (.int (2 : Int32)), (.int (0 : Int32)), (.ref a1), (.ref a0)]))
  obtain ⟨_, _, ⟨T2, L2, k2, n2⟩, -, X2, ⟨Lc2, hQ2, l2, y2, z2⟩, st2⟩ := X0.specialBack hx (y := (⟨"java/lang/String", "<init>", "([CIILjava/lang/Void;)V"⟩ : MethodName)) rfl hown (mvT hZ (hw _ (List.mem_of_getElem? (i := 20) rfl))) (mvT hZ (hw _ (List.mem_of_getElem? (i := 21) rfl))) (mvT hZ (hw _ (List.mem_of_getElem? (i := 23) rfl))) (by decide) (backOf (W := 0) (rmsiB2 l Z ar hw [] a0 a1 GG w_COMPACT_STRINGS h0 n0 O0 E_a0 g_a0 F_value_a0 F_coder_a0 A_a1 hr ne01 hCS S_COMPACT_STRINGS) hZ (hw _ (List.mem_of_getElem? (i := 23) rfl)) (hw _ (List.mem_of_getElem? (i := 16) rfl)) (by decide) (by decide)) (g := (mkF m 6 #[.val (.ref a0), .val (.ref a1)] [.null, (.int (2 : Int32)), (.int (0 : Int32)), (.ref a1), (.ref a0)])) rfl (by rw [hml]; rfl) (Steps.refl _) (a := a0) (argsL := [(.ref a1), (.int (0 : Int32)), (.int (2 : Int32)), .null]) (rest := []) (lenOf pdsiA2_0 rfl) rfl (by show 2 * 0 + _ ≤ _; exact Nat.le_of_eq rfl) (hb hby dsiA2_6) (fun _ _ => ⟨rfl, e0, (by decide : 0 + 1 ≤ _), (by decide : 0 + 2 ≤ _)⟩)
  dsimp only [Pt.U, Pt.locs, Pt.cells, Pt.slots] at X2 l2 y2 z2 st2 hQ2
  subst l2 y2 z2
  obtain ⟨rfl, N2q, K2, T2_0⟩ := hQ2
  have N2 := Fr.app N0 N2q
  have F3 : Exa Z T2.heap a0 "java/lang/String" := (E_a0.keep K2)
  have F4 : Old Z n0 T2.heap := (O0.keep K2 (allS g_a0 all0))
  have K5 : Keep h0 T2.heap [a0] := (Keep.refl h0 [a0]).trans K2 (allS (Or.inl (List.mem_of_getElem? (i := 0) rfl)) all0)
  refine own_go (fun _ k => st2.trans k) ?_
  show own_Ends _ _ _ _ _ _ _ (T2.setTop (mkF m 9 #[.val (.ref a0), .val (.ref a1)] []))
  exact own_retV X2 hx hlk Bd.returns (hb hby dsiA2_9) (by decide) (by decide) (by rw [show T2.heap = T2.heap from rfl]; exact ⟨rfl, N2, K5, T2_0⟩)
theorem dsleq_0 : decode jdk_43_method_13_code 0 = .ok (.aload_n 0, 1) := by decide +kernel
theorem dsleq_1 : decode jdk_43_method_13_code 1 = .ok (.arraylength, 1) := by decide +kernel
theorem dsleq_2 : decode jdk_43_method_13_code 2 = .ok (.aload_n 1, 1) := by decide +kernel
theorem dsleq_3 : decode jdk_43_method_13_code 3 = .ok (.arraylength, 1) := by decide +kernel
theorem dsleq_4 : decode jdk_43_method_13_code 4 = .ok (.if_icmp .ne 30, 3) := by decide +kernel
theorem dsleq_7 : decode jdk_43_method_13_code 7 = .ok (.iconst 0, 1) := by decide +kernel
theorem dsleq_8 : decode jdk_43_method_13_code 8 = .ok (.istore_n 2, 1) := by decide +kernel
theorem dsleq_9 : decode jdk_43_method_13_code 9 = .ok (.iload_n 2, 1) := by decide +kernel
theorem dsleq_10 : decode jdk_43_method_13_code 10 = .ok (.aload_n 0, 1) := by decide +kernel
theorem dsleq_11 : decode jdk_43_method_13_code 11 = .ok (.arraylength, 1) := by decide +kernel
theorem dsleq_12 : decode jdk_43_method_13_code 12 = .ok (.if_icmp .ge 20, 3) := by decide +kernel
theorem dsleq_15 : decode jdk_43_method_13_code 15 = .ok (.aload_n 0, 1) := by decide +kernel
theorem dsleq_16 : decode jdk_43_method_13_code 16 = .ok (.iload_n 2, 1) := by decide +kernel
theorem dsleq_17 : decode jdk_43_method_13_code 17 = .ok (.baload, 1) := by decide +kernel
theorem dsleq_18 : decode jdk_43_method_13_code 18 = .ok (.aload_n 1, 1) := by decide +kernel
theorem dsleq_19 : decode jdk_43_method_13_code 19 = .ok (.iload_n 2, 1) := by decide +kernel
theorem dsleq_20 : decode jdk_43_method_13_code 20 = .ok (.baload, 1) := by decide +kernel
theorem dsleq_21 : decode jdk_43_method_13_code 21 = .ok (.if_icmp .eq 5, 3) := by decide +kernel
theorem dsleq_24 : decode jdk_43_method_13_code 24 = .ok (.iconst 0, 1) := by decide +kernel
theorem dsleq_25 : decode jdk_43_method_13_code 25 = .ok (.ireturn, 1) := by decide +kernel
theorem dsleq_26 : decode jdk_43_method_13_code 26 = .ok (.iinc 2 1, 3) := by decide +kernel
theorem dsleq_29 : decode jdk_43_method_13_code 29 = .ok (.goto (-20), 3) := by decide +kernel
theorem dsleq_32 : decode jdk_43_method_13_code 32 = .ok (.iconst 1, 1) := by decide +kernel
theorem dsleq_33 : decode jdk_43_method_13_code 33 = .ok (.ireturn, 1) := by decide +kernel
theorem dsleq_34 : decode jdk_43_method_13_code 34 = .ok (.iconst 0, 1) := by decide +kernel
theorem dsleq_35 : decode jdk_43_method_13_code 35 = .ok (.ireturn, 1) := by decide +kernel
theorem pnsleq : plainName "java/lang/StringLatin1" = true := by first | (simp [plainName, overriddenIn]; done) | decide +kernel
theorem efsleq (m : MethodId) (a0 : Addr) (a1 : Addr) : entryFrame m #[(.ref a0), (.ref a1)] 3 = mkF m 0 #[.val (.ref a0), .val (.ref a1), .unset] [] := by first | (simp [entryFrame, mkF, argsToLocals, Value.category]; done) | rfl
def Qsleq (Z : State) (a0 : Addr) (a1 : Addr) (nn : Nat) (GG : Nat → Int32) (mm : Nat) (HH : Nat → Int32) (h0 : Heap) (n0 : Nat) (v : Option Value) (h : Heap) (L : List Loc) : Prop := ∃ z : Int32, v = some (.int z) ∧ own_ans z (own_eq nn mm GG HH) ∧ Fr n0 L ∧ h = h0
set_option maxRecDepth 65536 in
set_option maxHeartbeats 40000000 in
theorem rmsleq (l : Launch) (Z : State) (ar : Array Value) (hw : ∀ d ∈ tables_1, d.before ar Z = true) (ws : List Jvm.Cond) (a0 : Addr) (a1 : Addr) (nn : Nat) (GG : Nat → Int32) (mm : Nat) (HH : Nat → Int32) (h0 : Heap) (n0 : Nat) (O0 : Old Z n0 h0) (A_a0 : own_Ar Z h0 a0 .byte nn (fun i => .int (GG i))) (A_a1 : own_Ar Z h0 a1 .byte mm (fun i => .int (HH i))) (hl : nn < 1000 ∧ mm < 1000) :
    MetFree l (⟨"java/lang/StringLatin1", "equals", "([B[B)Z"⟩ : MethodName) (head1 (Jvm.Cond.code (⟨"java/lang/StringLatin1", "equals", "([B[B)Z"⟩ : MethodName) jdk_43_method_13_code 3 (some .boolean) :: ws) ({ frames := 0, cells := 0, slots := 0, locals := 0 } : Room)) (fun a U => a = #[(.ref a0), (.ref a1)] ∧ Z.Warmed39 U.vm ∧ U.heap = h0) (fun _ _ _ _ _ => True) (fun _ U o U' => ∃ v L, o = .returned v ∧ Qsleq Z a0 a1 nn GG mm HH h0 n0 v U'.heap L ∧ FrameEnd U o U' L ({ frames := 0, cells := 0, slots := 0, locals := 0 } : Room).cells ({ frames := 0, cells := 0, slots := 0, locals := 0 } : Room).slots) := by
  refine MetFree.of_bodySF (plainFor_of_name pnsleq) hisR ?_
  intro p e s m args below meth c s₁ Bd hml0 hP hK
  obtain ⟨rfl, hZ, hh⟩ := hP
  have hx := Bd.exec
  have hby := Bd.bytes
  have hml : c.maxLocals = 3 := hml0
  have hown : s.vm.findClass "java/lang/StringLatin1" = some m.cls := findClass_of_methodNamed Bd.named
  have hnm := (name_of_methodNamed Bd.named Bd.method).1
  have hlk : meth.locks = false := BodyLoose.notSynchronized Bd
  have X0 : Stand p l e ({ frames := 0, cells := 0, slots := 0, locals := 0 } : Room) s m #[(.ref a0), (.ref a1)] below meth c s₁ [] 0 0 := Stand.of_body Bd
  have e0 : s₁.heap = h0 := by rw [← hh, Bd.state]; rfl
  have N0 := Fr.nil n0
  suffices hmain : own_Ends p e below s (Qsleq Z a0 a1 nn GG mm HH h0 n0) 0 0 (s₁.setTop (mkF m 0 #[.val (.ref a0), .val (.ref a1), .unset] [])) by
    obtain ⟨U, o, h1, r⟩ := hmain
    exact ⟨U, o, castTop (efsleq m a0 a1) h1, r⟩
  show own_Ends _ _ _ _ _ _ _ (s₁.setTop (mkF m 0 #[.val (.ref a0), .val (.ref a1), .unset] []))
  refine own_go (fun _ k => XS.aloadN X0.here hx rfl (hb hby dsleq_0) rfl rfl k) ?_
  show own_Ends _ _ _ _ _ _ _ (s₁.setTop (mkF m 1 #[.val (.ref a0), .val (.ref a1), .unset] [(.ref a0)]))
  obtain ⟨c1, A1, l1⟩ := own_Ar.len A_a0
  refine own_go (fun _ k => X0.arraylength hx (by rw [e0]; exact A1.1) (State.isArrayOf_alike hZ.alike A1.2.1) (g := (mkF m 1 #[.val (.ref a0), .val (.ref a1), .unset] [(.ref a0)])) rfl rfl (hb hby dsleq_1) _ k) ?_
  rw [l1]
  show own_Ends _ _ _ _ _ _ _ (s₁.setTop (mkF m 2 #[.val (.ref a0), .val (.ref a1), .unset] [(.int (Int32.ofNat nn))]))
  refine own_go (fun _ k => XS.aloadN X0.here hx rfl (hb hby dsleq_2) rfl rfl k) ?_
  show own_Ends _ _ _ _ _ _ _ (s₁.setTop (mkF m 3 #[.val (.ref a0), .val (.ref a1), .unset] [(.ref a1), (.int (Int32.ofNat nn))]))
  obtain ⟨c2, A2, l2⟩ := own_Ar.len A_a1
  refine own_go (fun _ k => X0.arraylength hx (by rw [e0]; exact A2.1) (State.isArrayOf_alike hZ.alike A2.2.1) (g := (mkF m 3 #[.val (.ref a0), .val (.ref a1), .unset] [(.ref a1), (.int (Int32.ofNat nn))])) rfl rfl (hb hby dsleq_3) _ k) ?_
  rw [l2]
  show own_Ends _ _ _ _ _ _ _ (s₁.setTop (mkF m 4 #[.val (.ref a0), .val (.ref a1), .unset] [(.int (Int32.ofNat mm)), (.int (Int32.ofNat nn))]))
  by_cases hc3 : (Int32.ofNat nn) = (Int32.ofNat mm)
  · refine own_go (fun _ k => XS.icmpNo X0.here hx rfl (hb hby dsleq_4) rfl (teq hc3).2 k) ?_
    show own_Ends _ _ _ _ _ _ _ (s₁.setTop (mkF m 7 #[.val (.ref a0), .val (.ref a1), .unset] []))
    refine own_go (fun _ k => XS.iconst X0.here hx rfl (hb hby dsleq_7) k) ?_
    show own_Ends _ _ _ _ _ _ _ (s₁.setTop (mkF m 8 #[.val (.ref a0), .val (.ref a1), .unset] [(.int (0 : Int32))]))
    refine own_go (fun _ k => XS.istoreN X0.here hx rfl (hb hby dsleq_8) rfl (l' := #[.val (.ref a0), .val (.ref a1), .val (.int (0 : Int32))]) rfl k) ?_
    have enm := own_of32 hl.1 hl.2 hc3
    suffices hin : ∀ (kk i : Nat), i + kk = nn → (∀ j, j < i → GG j = HH j) → own_Ends p e below s (Qsleq Z a0 a1 nn GG mm HH h0 n0) 0 0 (s₁.setTop (mkF m 9 #[.val (.ref a0), .val (.ref a1), .val (.int (Int32.ofNat i))] [])) by
      exact hin nn 0 (by omega) (fun j hj => absurd hj (Nat.not_lt_zero _))
    intro kk
    induction kk with
    | zero =>
      intro i hi hno
      show own_Ends _ _ _ _ _ _ _ (s₁.setTop (mkF m 9 #[.val (.ref a0), .val (.ref a1), .val (.int (Int32.ofNat i))] []))
      refine own_go (fun _ k => XS.iloadN X0.here hx rfl (hb hby dsleq_9) rfl k) ?_
      show own_Ends _ _ _ _ _ _ _ (s₁.setTop (mkF m 10 #[.val (.ref a0), .val (.ref a1), .val (.int (Int32.ofNat i))] [(.int (Int32.ofNat i))]))
      refine own_go (fun _ k => XS.aloadN X0.here hx rfl (hb hby dsleq_10) rfl rfl k) ?_
      show own_Ends _ _ _ _ _ _ _ (s₁.setTop (mkF m 11 #[.val (.ref a0), .val (.ref a1), .val (.int (Int32.ofNat i))] [(.ref a0), (.int (Int32.ofNat i))]))
      obtain ⟨c4, A4, l4⟩ := own_Ar.len A_a0
      refine own_go (fun _ k => X0.arraylength hx (by rw [e0]; exact A4.1) (State.isArrayOf_alike hZ.alike A4.2.1) (g := (mkF m 11 #[.val (.ref a0), .val (.ref a1), .val (.int (Int32.ofNat i))] [(.ref a0), (.int (Int32.ofNat i))])) rfl rfl (hb hby dsleq_11) _ k) ?_
      rw [l4]
      show own_Ends _ _ _ _ _ _ _ (s₁.setTop (mkF m 12 #[.val (.ref a0), .val (.ref a1), .val (.int (Int32.ofNat i))] [(.int (Int32.ofNat nn)), (.int (Int32.ofNat i))]))
      refine own_go (fun _ k => XS.icmpYes X0.here hx rfl (pc0 := 12) (pc' := 32) rfl (hb hby dsleq_12) rfl (flt (own_ige (by omega))).2.1 (by decide) (by decide) k) ?_
      show own_Ends _ _ _ _ _ _ _ (s₁.setTop (mkF m 32 #[.val (.ref a0), .val (.ref a1), .val (.int (Int32.ofNat i))] []))
      refine own_go (fun _ k => XS.iconst X0.here hx rfl (hb hby dsleq_32) k) ?_
      show own_Ends _ _ _ _ _ _ _ (s₁.setTop (mkF m 33 #[.val (.ref a0), .val (.ref a1), .val (.int (Int32.ofNat i))] [(.int (1 : Int32))]))
      exact own_retN X0 hx hlk (t := .boolean) Bd.returns (by simp) (hb hby dsleq_33) (by decide) (by decide) ⟨_, rfl, Or.inl ⟨rfl, by omega, fun j hj => hno j (by omega)⟩, N0, e0⟩
    | succ kk ihk =>
      intro i hi hno
      show own_Ends _ _ _ _ _ _ _ (s₁.setTop (mkF m 9 #[.val (.ref a0), .val (.ref a1), .val (.int (Int32.ofNat i))] []))
      refine own_go (fun _ k => XS.iloadN X0.here hx rfl (hb hby dsleq_9) rfl k) ?_
      show own_Ends _ _ _ _ _ _ _ (s₁.setTop (mkF m 10 #[.val (.ref a0), .val (.ref a1), .val (.int (Int32.ofNat i))] [(.int (Int32.ofNat i))]))
      refine own_go (fun _ k => XS.aloadN X0.here hx rfl (hb hby dsleq_10) rfl rfl k) ?_
      show own_Ends _ _ _ _ _ _ _ (s₁.setTop (mkF m 11 #[.val (.ref a0), .val (.ref a1), .val (.int (Int32.ofNat i))] [(.ref a0), (.int (Int32.ofNat i))]))
      obtain ⟨c5, A5, l5⟩ := own_Ar.len A_a0
      refine own_go (fun _ k => X0.arraylength hx (by rw [e0]; exact A5.1) (State.isArrayOf_alike hZ.alike A5.2.1) (g := (mkF m 11 #[.val (.ref a0), .val (.ref a1), .val (.int (Int32.ofNat i))] [(.ref a0), (.int (Int32.ofNat i))])) rfl rfl (hb hby dsleq_11) _ k) ?_
      rw [l5]
      show own_Ends _ _ _ _ _ _ _ (s₁.setTop (mkF m 12 #[.val (.ref a0), .val (.ref a1), .val (.int (Int32.ofNat i))] [(.int (Int32.ofNat nn)), (.int (Int32.ofNat i))]))
      refine own_go (fun _ k => XS.icmpNo X0.here hx rfl (hb hby dsleq_12) rfl (tlt (own_ilt (by omega) (by omega))).2.1 k) ?_
      show own_Ends _ _ _ _ _ _ _ (s₁.setTop (mkF m 15 #[.val (.ref a0), .val (.ref a1), .val (.int (Int32.ofNat i))] []))
      refine own_go (fun _ k => XS.aloadN X0.here hx rfl (hb hby dsleq_15) rfl rfl k) ?_
      show own_Ends _ _ _ _ _ _ _ (s₁.setTop (mkF m 16 #[.val (.ref a0), .val (.ref a1), .val (.int (Int32.ofNat i))] [(.ref a0)]))
      refine own_go (fun _ k => XS.iloadN X0.here hx rfl (hb hby dsleq_16) rfl k) ?_
      show own_Ends _ _ _ _ _ _ _ (s₁.setTop (mkF m 17 #[.val (.ref a0), .val (.ref a1), .val (.int (Int32.ofNat i))] [(.int (Int32.ofNat i)), (.ref a0)]))
      obtain ⟨c6, A6, i6, v6⟩ := own_Ar.at A_a0 (Int32.ofNat i) (own_nn0 (by omega)) (own_ltn (by omega) (by omega))
      refine own_go (fun _ k => X0.baloadBytes hx (by rw [e0]; exact A6.1) (State.isArrayOf_alike hZ.alike A6.2.1) A6.2.2 i6 v6 (g := (mkF m 17 #[.val (.ref a0), .val (.ref a1), .val (.int (Int32.ofNat i))] [(.int (Int32.ofNat i)), (.ref a0)])) rfl rfl (hb hby dsleq_17) _ k) ?_
      show own_Ends _ _ _ _ _ _ _ (s₁.setTop (mkF m 18 #[.val (.ref a0), .val (.ref a1), .val (.int (Int32.ofNat i))] [(.int (GG ((Int32.ofNat i)).toNatClampNeg))]))
      refine own_go (fun _ k => XS.aloadN X0.here hx rfl (hb hby dsleq_18) rfl rfl k) ?_
      show own_Ends _ _ _ _ _ _ _ (s₁.setTop (mkF m 19 #[.val (.ref a0), .val (.ref a1), .val (.int (Int32.ofNat i))] [(.ref a1), (.int (GG ((Int32.ofNat i)).toNatClampNeg))]))
      refine own_go (fun _ k => XS.iloadN X0.here hx rfl (hb hby dsleq_19) rfl k) ?_
      show own_Ends _ _ _ _ _ _ _ (s₁.setTop (mkF m 20 #[.val (.ref a0), .val (.ref a1), .val (.int (Int32.ofNat i))] [(.int (Int32.ofNat i)), (.ref a1), (.int (GG ((Int32.ofNat i)).toNatClampNeg))]))
      obtain ⟨c7, A7, i7, v7⟩ := own_Ar.at A_a1 (Int32.ofNat i) (own_nn0 (by omega)) (own_ltn (by omega) (by omega))
      refine own_go (fun _ k => X0.baloadBytes hx (by rw [e0]; exact A7.1) (State.isArrayOf_alike hZ.alike A7.2.1) A7.2.2 i7 v7 (g := (mkF m 20 #[.val (.ref a0), .val (.ref a1), .val (.int (Int32.ofNat i))] [(.int (Int32.ofNat i)), (.ref a1), (.int (GG ((Int32.ofNat i)).toNatClampNeg))])) rfl rfl (hb hby dsleq_20) _ k) ?_
      show own_Ends _ _ _ _ _ _ _ (s₁.setTop (mkF m 21 #[.val (.ref a0), .val (.ref a1), .val (.int (Int32.ofNat i))] [(.int (HH ((Int32.ofNat i)).toNatClampNeg)), (.int (GG ((Int32.ofNat i)).toNatClampNeg))]))
      by_cases hc8 : (GG ((Int32.ofNat i)).toNatClampNeg) = (HH ((Int32.ofNat i)).toNatClampNeg)
      · refine own_go (fun _ k => XS.icmpYes X0.here hx rfl (pc0 := 21) (pc' := 26) rfl (hb hby dsleq_21) rfl (teq hc8).1 (by decide) (by decide) k) ?_
        show own_Ends _ _ _ _ _ _ _ (s₁.setTop (mkF m 26 #[.val (.ref a0), .val (.ref a1), .val (.int (Int32.ofNat i))] []))
        refine own_go (fun _ k => XS.iinc X0.here hx rfl (hb hby dsleq_26) rfl (l' := #[.val (.ref a0), .val (.ref a1), .val (.int ((Int32.ofNat i) + (1 : Int32)))]) rfl k) ?_
        show own_Ends _ _ _ _ _ _ _ (s₁.setTop (mkF m 29 #[.val (.ref a0), .val (.ref a1), .val (.int ((Int32.ofNat i) + (1 : Int32)))] []))
        refine own_go (fun _ k => XS.goto X0.here hx rfl (pc0 := 29) (pc' := 9) rfl (hb hby dsleq_29) (by decide) (by decide) k) ?_
        rw [own_succ]
        exact ihk (i + 1) (by omega) (own_grow (by omega) hno hc8)
      · refine own_go (fun _ k => XS.icmpNo X0.here hx rfl (hb hby dsleq_21) rfl (feq hc8).1 k) ?_
        show own_Ends _ _ _ _ _ _ _ (s₁.setTop (mkF m 24 #[.val (.ref a0), .val (.ref a1), .val (.int (Int32.ofNat i))] []))
        refine own_go (fun _ k => XS.iconst X0.here hx rfl (hb hby dsleq_24) k) ?_
        show own_Ends _ _ _ _ _ _ _ (s₁.setTop (mkF m 25 #[.val (.ref a0), .val (.ref a1), .val (.int (Int32.ofNat i))] [(.int (0 : Int32))]))
        exact own_retN X0 hx hlk (t := .boolean) Bd.returns (by simp) (hb hby dsleq_25) (by decide) (by decide) ⟨_, rfl, Or.inr ⟨rfl, own_bad (by omega) (by omega) hc8⟩, N0, e0⟩
  · refine own_go (fun _ k => XS.icmpYes X0.here hx rfl (pc0 := 4) (pc' := 34) rfl (hb hby dsleq_4) rfl (feq hc3).2 (by decide) (by decide) k) ?_
    show own_Ends _ _ _ _ _ _ _ (s₁.setTop (mkF m 34 #[.val (.ref a0), .val (.ref a1), .unset] []))
    refine own_go (fun _ k => XS.iconst X0.here hx rfl (hb hby dsleq_34) k) ?_
    show own_Ends _ _ _ _ _ _ _ (s₁.setTop (mkF m 35 #[.val (.ref a0), .val (.ref a1), .unset] [(.int (0 : Int32))]))
    exact own_retN X0 hx hlk (t := .boolean) Bd.returns (by simp) (hb hby dsleq_35) (by decide) (by decide) ⟨_, rfl, Or.inr ⟨rfl, fun q => hc3 (by rw [q.1])⟩, N0, e0⟩
theorem dstreq_0 : decode jdk_42_method_66_code 0 = .ok (.aload_n 0, 1) := by decide +kernel
theorem dstreq_1 : decode jdk_42_method_66_code 1 = .ok (.aload_n 1, 1) := by decide +kernel
theorem dstreq_2 : decode jdk_42_method_66_code 2 = .ok (.if_acmp .ne 5, 3) := by decide +kernel
theorem dstreq_5 : decode jdk_42_method_66_code 5 = .ok (.iconst 1, 1) := by decide +kernel
theorem dstreq_6 : decode jdk_42_method_66_code 6 = .ok (.ireturn, 1) := by decide +kernel
theorem dstreq_7 : decode jdk_42_method_66_code 7 = .ok (.aload_n 1, 1) := by decide +kernel
theorem dstreq_8 : decode jdk_42_method_66_code 8 = .ok (.instanceof 10, 3) := by decide +kernel
theorem dstreq_11 : decode jdk_42_method_66_code 11 = .ok (.ifCond .eq 43, 3) := by decide +kernel
theorem dstreq_14 : decode jdk_42_method_66_code 14 = .ok (.aload_n 1, 1) := by decide +kernel
theorem dstreq_15 : decode jdk_42_method_66_code 15 = .ok (.checkcast 10, 3) := by decide +kernel
theorem dstreq_18 : decode jdk_42_method_66_code 18 = .ok (.astore_n 2, 1) := by decide +kernel
theorem dstreq_19 : decode jdk_42_method_66_code 19 = .ok (.getstatic 38, 3) := by decide +kernel
theorem dstreq_22 : decode jdk_42_method_66_code 22 = .ok (.ifCond .eq 14, 3) := by decide +kernel
theorem dstreq_25 : decode jdk_42_method_66_code 25 = .ok (.aload_n 0, 1) := by decide +kernel
theorem dstreq_26 : decode jdk_42_method_66_code 26 = .ok (.getfield 15, 3) := by decide +kernel
theorem dstreq_29 : decode jdk_42_method_66_code 29 = .ok (.aload_n 2, 1) := by decide +kernel
theorem dstreq_30 : decode jdk_42_method_66_code 30 = .ok (.getfield 15, 3) := by decide +kernel
theorem dstreq_33 : decode jdk_42_method_66_code 33 = .ok (.if_icmp .ne 21, 3) := by decide +kernel
theorem dstreq_36 : decode jdk_42_method_66_code 36 = .ok (.aload_n 0, 1) := by decide +kernel
theorem dstreq_37 : decode jdk_42_method_66_code 37 = .ok (.getfield 9, 3) := by decide +kernel
theorem dstreq_40 : decode jdk_42_method_66_code 40 = .ok (.aload_n 2, 1) := by decide +kernel
theorem dstreq_41 : decode jdk_42_method_66_code 41 = .ok (.getfield 9, 3) := by decide +kernel
theorem dstreq_44 : decode jdk_42_method_66_code 44 = .ok (.invokestatic 541, 3) := by decide +kernel
theorem dstreq_47 : decode jdk_42_method_66_code 47 = .ok (.ifCond .eq 7, 3) := by decide +kernel
theorem dstreq_50 : decode jdk_42_method_66_code 50 = .ok (.iconst 1, 1) := by decide +kernel
theorem dstreq_51 : decode jdk_42_method_66_code 51 = .ok (.goto 4, 3) := by decide +kernel
theorem dstreq_54 : decode jdk_42_method_66_code 54 = .ok (.iconst 0, 1) := by decide +kernel
theorem dstreq_55 : decode jdk_42_method_66_code 55 = .ok (.ireturn, 1) := by decide +kernel
theorem pnstreq : plainName "java/lang/String" = true := by first | (simp [plainName, overriddenIn]; done) | decide +kernel
theorem pdstreq_0 : parseMethodDescriptor "([B[B)Z" = some ⟨[(.array .byte), (.array .byte)], some .boolean⟩ := by decide +kernel
theorem efstreq (m : MethodId) (a0 : Addr) (a1 : Addr) : entryFrame m #[(.ref a0), (.ref a1)] 3 = mkF m 0 #[.val (.ref a0), .val (.ref a1), .unset] [] := by first | (simp [entryFrame, mkF, argsToLocals, Value.category]; done) | rfl
def Qstreq (Z : State) (a0 : Addr) (a1 : Addr) (nn : Nat) (GG : Nat → Int32) (mm : Nat) (HH : Nat → Int32) (w_COMPACT_STRINGS : Int32) (h0 : Heap) (n0 : Nat) (v : Option Value) (h : Heap) (L : List Loc) : Prop := ∃ z : Int32, v = some (.int z) ∧ own_ans z (own_eq nn mm GG HH) ∧ Fr n0 L ∧ h = h0
set_option maxRecDepth 65536 in
set_option maxHeartbeats 40000000 in
theorem rmstreq (l : Launch) (Z : State) (ar : Array Value) (hw : ∀ d ∈ tables_1, d.before ar Z = true) (ws : List Jvm.Cond) (a0 : Addr) (a1 : Addr) (nn : Nat) (GG : Nat → Int32) (mm : Nat) (HH : Nat → Int32) (w_COMPACT_STRINGS : Int32) (h0 : Heap) (n0 : Nat) (O0 : Old Z n0 h0) (T_a0 : own_Str Z h0 a0 nn GG) (T_a1 : own_Str Z h0 a1 mm HH) (hl : nn < 1000 ∧ mm < 1000) (hCS : ¬ w_COMPACT_STRINGS = (0 : Int32)) (S_COMPACT_STRINGS : Sta Z Z.heap "java/lang/String" "COMPACT_STRINGS" "Z" (.int w_COMPACT_STRINGS)) :
    MetFree l (⟨"java/lang/String", "equals", "(Ljava/lang/Object;)Z"⟩ : MethodName) (head1 (Jvm.Cond.code (⟨"java/lang/String", "equals", "(Ljava/lang/Object;)Z"⟩ : MethodName) jdk_42_method_66_code 3 (some .boolean) :: ws) ({ frames := 1, cells := 0, slots := 0, locals := 14 } : Room)) (fun a U => a = #[(.ref a0), (.ref a1)] ∧ Z.Warmed39 U.vm ∧ U.heap = h0) (fun _ _ _ _ _ => True) (fun _ U o U' => ∃ v L, o = .returned v ∧ Qstreq Z a0 a1 nn GG mm HH w_COMPACT_STRINGS h0 n0 v U'.heap L ∧ FrameEnd U o U' L ({ frames := 1, cells := 0, slots := 0, locals := 14 } : Room).cells ({ frames := 1, cells := 0, slots := 0, locals := 14 } : Room).slots) := by
  refine MetFree.of_bodySF (plainFor_of_name pnstreq) hisR ?_
  intro p e s m args below meth c s₁ Bd hml0 hP hK
  obtain ⟨rfl, hZ, hh⟩ := hP
  have hx := Bd.exec
  have hby := Bd.bytes
  have hml : c.maxLocals = 3 := hml0
  have hown : s.vm.findClass "java/lang/String" = some m.cls := findClass_of_methodNamed Bd.named
  have hnm := (name_of_methodNamed Bd.named Bd.method).1
  have hlk : meth.locks = false := BodyLoose.notSynchronized Bd
  have X0 : Stand p l e ({ frames := 1, cells := 0, slots := 0, locals := 14 } : Room) s m #[(.ref a0), (.ref a1)] below meth c s₁ [] 0 0 := Stand.of_body Bd
  have e0 : s₁.heap = h0 := by rw [← hh, Bd.state]; rfl
  have N0 := Fr.nil n0
  suffices hmain : own_Ends p e below s (Qstreq Z a0 a1 nn GG mm HH w_COMPACT_STRINGS h0 n0) 0 0 (s₁.setTop (mkF m 0 #[.val (.ref a0), .val (.ref a1), .unset] [])) by
    obtain ⟨U, o, h1, r⟩ := hmain
    exact ⟨U, o, castTop (efstreq m a0 a1) h1, r⟩
  have q_a0 := T_a0
  obtain ⟨E_a0, Fc_a0, vb_a0, Fv_a0, Av_a0⟩ := q_a0
  have q_a1 := T_a1
  obtain ⟨E_a1, Fc_a1, vb_a1, Fv_a1, Av_a1⟩ := q_a1
  show own_Ends _ _ _ _ _ _ _ (s₁.setTop (mkF m 0 #[.val (.ref a0), .val (.ref a1), .unset] []))
  refine own_go (fun _ k => XS.aloadN X0.here hx rfl (hb hby dstreq_0) rfl rfl k) ?_
  show own_Ends _ _ _ _ _ _ _ (s₁.setTop (mkF m 1 #[.val (.ref a0), .val (.ref a1), .unset] [(.ref a0)]))
  refine own_go (fun _ k => XS.aloadN X0.here hx rfl (hb hby dstreq_1) rfl rfl k) ?_
  show own_Ends _ _ _ _ _ _ _ (s₁.setTop (mkF m 2 #[.val (.ref a0), .val (.ref a1), .unset] [(.ref a1), (.ref a0)]))
  by_cases ha1 : a0 = a1
  · refine own_go (fun _ k => Jvm.RoadKit.acmp (g := (mkF m 2 #[.val (.ref a0), .val (.ref a1), .unset] [(.ref a1), (.ref a0)])) X0 hx rfl rfl rfl (pc0 := 2) (pc' := 5) (same := true) rfl (hb hby dstreq_2) rfl (decide_eq_true (congrArg Value.ref ha1)) (by decide) (by decide) k) ?_
    show own_Ends _ _ _ _ _ _ _ (s₁.setTop (mkF m 5 #[.val (.ref a0), .val (.ref a1), .unset] []))
    refine own_go (fun _ k => XS.iconst X0.here hx rfl (hb hby dstreq_5) k) ?_
    show own_Ends _ _ _ _ _ _ _ (s₁.setTop (mkF m 6 #[.val (.ref a0), .val (.ref a1), .unset] [(.int (1 : Int32))]))
    exact own_retN X0 hx hlk (t := .boolean) Bd.returns (by simp) (hb hby dstreq_6) (by decide) (by decide) ⟨_, rfl, Or.inl ⟨rfl, by subst ha1; exact own_Str.same T_a0 T_a1⟩, N0, e0⟩
  · refine own_go (fun _ k => Jvm.RoadKit.acmp (g := (mkF m 2 #[.val (.ref a0), .val (.ref a1), .unset] [(.ref a1), (.ref a0)])) X0 hx rfl rfl rfl (pc0 := 2) (pc' := 7) (same := false) rfl (hb hby dstreq_2) rfl (decide_eq_false fun q => ha1 (Value.ref.inj q)) (by decide) (by decide) k) ?_
    show own_Ends _ _ _ _ _ _ _ (s₁.setTop (mkF m 7 #[.val (.ref a0), .val (.ref a1), .unset] []))
    refine own_go (fun _ k => XS.aloadN X0.here hx rfl (hb hby dstreq_7) rfl rfl k) ?_
    show own_Ends _ _ _ _ _ _ _ (s₁.setTop (mkF m 8 #[.val (.ref a0), .val (.ref a1), .unset] [(.ref a1)]))
    obtain ⟨T2, X2, e2, st2⟩ := instY X0 hx hZ hown (hw _ (List.mem_of_getElem? (i := 75) rfl)) e0 (Ins.self E_a1) (g := (mkF m 8 #[.val (.ref a0), .val (.ref a1), .unset] [(.ref a1)])) rfl rfl (hb hby dstreq_8)
    refine own_go (fun _ k => st2 _ k) ?_
    show own_Ends _ _ _ _ _ _ _ (T2.setTop (mkF m 11 #[.val (.ref a0), .val (.ref a1), .unset] [(.int (1 : Int32))]))
    refine own_go (fun _ k => XS.ifNo X2.here hx rfl (hb hby dstreq_11) rfl ((if0 _ _).trans (feq (by decide)).1) k) ?_
    show own_Ends _ _ _ _ _ _ _ (T2.setTop (mkF m 14 #[.val (.ref a0), .val (.ref a1), .unset] []))
    refine own_go (fun _ k => XS.aloadN X2.here hx rfl (hb hby dstreq_14) rfl rfl k) ?_
    show own_Ends _ _ _ _ _ _ _ (T2.setTop (mkF m 15 #[.val (.ref a0), .val (.ref a1), .unset] [(.ref a1)]))
    obtain ⟨T3, X3, e3, st3⟩ := castY X2 hx hZ hown (hw _ (List.mem_of_getElem? (i := 75) rfl)) e2 (Ins.self E_a1) (g := (mkF m 15 #[.val (.ref a0), .val (.ref a1), .unset] [(.ref a1)])) rfl rfl (hb hby dstreq_15)
    refine own_go (fun _ k => st3 _ k) ?_
    show own_Ends _ _ _ _ _ _ _ (T3.setTop (mkF m 18 #[.val (.ref a0), .val (.ref a1), .unset] [(.ref a1)]))
    refine own_go (fun _ k => XS.astoreN X3.here hx rfl (hb hby dstreq_18) rfl rfl (l' := #[.val (.ref a0), .val (.ref a1), .val (.ref a1)]) rfl k) ?_
    show own_Ends _ _ _ _ _ _ _ (T3.setTop (mkF m 19 #[.val (.ref a0), .val (.ref a1), .val (.ref a1)] []))
    obtain ⟨T4, X4, e4, st4⟩ := getS2 X3 hx hZ hown (host := "") (Or.inl (hw _ (List.mem_of_getElem? (i := 27) rfl))) Via.refl e3 (Sta.ext (own_ext O0) S_COMPACT_STRINGS) (g := (mkF m 19 #[.val (.ref a0), .val (.ref a1), .val (.ref a1)] [])) rfl (hb hby dstreq_19)
    refine own_go (fun _ k => st4 _ k) ?_
    show own_Ends _ _ _ _ _ _ _ (T4.setTop (mkF m 22 #[.val (.ref a0), .val (.ref a1), .val (.ref a1)] [(.int w_COMPACT_STRINGS)]))
    refine own_go (fun _ k => XS.ifNo X4.here hx rfl (hb hby dstreq_22) rfl ((if0 _ _).trans (feq hCS).1) k) ?_
    show own_Ends _ _ _ _ _ _ _ (T4.setTop (mkF m 25 #[.val (.ref a0), .val (.ref a1), .val (.ref a1)] []))
    refine own_go (fun _ k => XS.aloadN X4.here hx rfl (hb hby dstreq_25) rfl rfl k) ?_
    show own_Ends _ _ _ _ _ _ _ (T4.setTop (mkF m 26 #[.val (.ref a0), .val (.ref a1), .val (.ref a1)] [(.ref a0)]))
    obtain ⟨T5, X5, e5, st5⟩ := getF X4 hx hZ hown (host := "") (Or.inl (hw _ (List.mem_of_getElem? (i := 39) rfl))) Via.refl e4 Fc_a0 (g := (mkF m 26 #[.val (.ref a0), .val (.ref a1), .val (.ref a1)] [(.ref a0)])) rfl rfl (hb hby dstreq_26)
    refine own_go (fun _ k => st5 _ k) ?_
    show own_Ends _ _ _ _ _ _ _ (T5.setTop (mkF m 29 #[.val (.ref a0), .val (.ref a1), .val (.ref a1)] [(.int (0 : Int32))]))
    refine own_go (fun _ k => XS.aloadN X5.here hx rfl (hb hby dstreq_29) rfl rfl k) ?_
    show own_Ends _ _ _ _ _ _ _ (T5.setTop (mkF m 30 #[.val (.ref a0), .val (.ref a1), .val (.ref a1)] [(.ref a1), (.int (0 : Int32))]))
    obtain ⟨T6, X6, e6, st6⟩ := getF X5 hx hZ hown (host := "") (Or.inl (hw _ (List.mem_of_getElem? (i := 39) rfl))) Via.refl e5 Fc_a1 (g := (mkF m 30 #[.val (.ref a0), .val (.ref a1), .val (.ref a1)] [(.ref a1), (.int (0 : Int32))])) rfl rfl (hb hby dstreq_30)
    refine own_go (fun _ k => st6 _ k) ?_
    show own_Ends _ _ _ _ _ _ _ (T6.setTop (mkF m 33 #[.val (.ref a0), .val (.ref a1), .val (.ref a1)] [(.int (0 : Int32)), (.int (0 : Int32))]))
    refine own_go (fun _ k => XS.icmpNo X6.here hx rfl (hb hby dstreq_33) rfl (teq (by decide)).2 k) ?_
    show own_Ends _ _ _ _ _ _ _ (T6.setTop (mkF m 36 #[.val (.ref a0), .val (.ref a1), .val (.ref a1)] []))
    refine own_go (fun _ k => XS.aloadN X6.here hx rfl (hb hby dstreq_36) rfl rfl k) ?_
    show own_Ends _ _ _ _ _ _ _ (T6.setTop (mkF m 37 #[.val (.ref a0), .val (.ref a1), .val (.ref a1)] [(.ref a0)]))
    obtain ⟨T7, X7, e7, st7⟩ := getF X6 hx hZ hown (host := "") (Or.inl (hw _ (List.mem_of_getElem? (i := 41) rfl))) Via.refl e6 Fv_a0 (g := (mkF m 37 #[.val (.ref a0), .val (.ref a1), .val (.ref a1)] [(.ref a0)])) rfl rfl (hb hby dstreq_37)
    refine own_go (fun _ k => st7 _ k) ?_
    show own_Ends _ _ _ _ _ _ _ (T7.setTop (mkF m 40 #[.val (.ref a0), .val (.ref a1), .val (.ref a1)] [(.ref vb_a0)]))
    refine own_go (fun _ k => XS.aloadN X7.here hx rfl (hb hby dstreq_40) rfl rfl k) ?_
    show own_Ends _ _ _ _ _ _ _ (T7.setTop (mkF m 41 #[.val (.ref a0), .val (.ref a1), .val (.ref a1)] [(.ref a1), (.ref vb_a0)]))
    obtain ⟨T8, X8, e8, st8⟩ := getF X7 hx hZ hown (host := "") (Or.inl (hw _ (List.mem_of_getElem? (i := 41) rfl))) Via.refl e7 Fv_a1 (g := (mkF m 41 #[.val (.ref a0), .val (.ref a1), .val (.ref a1)] [(.ref a1), (.ref vb_a0)])) rfl rfl (hb hby dstreq_41)
    refine own_go (fun _ k => st8 _ k) ?_
    show own_Ends _ _ _ _ _ _ _ (T8.setTop (mkF m 44 #[.val (.ref a0), .val (.ref a1), .val (.ref a1)] [(.ref vb_a1), (.ref vb_a0)]))
    obtain ⟨_, _, ⟨T9, L9, k9, n9⟩, -, X9, ⟨Lc9, hQ9, l9, y9, z9⟩, st9⟩ := Jvm.LawKit.callS X8 hx (y := (⟨"java/lang/StringLatin1", "equals", "([B[B)Z"⟩ : MethodName)) hown (mvT hZ (hw _ (List.mem_of_getElem? (i := 76) rfl))) (mvT hZ (hw _ (List.mem_of_getElem? (i := 77) rfl))) (mvT hZ (hw _ (List.mem_of_getElem? (i := 78) rfl))) (mvT hZ (hw _ (List.mem_of_getElem? (i := 79) rfl))) (by decide) (backOf (W := 0) (rmsleq l Z ar hw [] vb_a0 vb_a1 nn GG mm HH h0 n0 O0 Av_a0 Av_a1 hl) hZ (hw _ (List.mem_of_getElem? (i := 79) rfl)) (hw _ (List.mem_of_getElem? (i := 78) rfl)) (by decide) (by decide)) (g := (mkF m 44 #[.val (.ref a0), .val (.ref a1), .val (.ref a1)] [(.ref vb_a1), (.ref vb_a0)])) rfl (by rw [hml]; rfl) (argsL := [(.ref vb_a0), (.ref vb_a1)]) (rest := []) (lenOf pdstreq_0 rfl) rfl (by show 2 * 0 + _ ≤ _; exact Nat.le_of_eq rfl) (hb hby dstreq_44) (fun _ _ => ⟨rfl, e8, (by decide : 0 + 0 ≤ _), (by decide : 0 + 0 ≤ _)⟩)
    dsimp only [Pt.U, Pt.locs, Pt.cells, Pt.slots] at X9 l9 y9 z9 st9 hQ9
    subst l9 y9 z9
    obtain ⟨z9, rfl, hz9, N9q, eq9⟩ := hQ9
    have e9 : T9.heap = h0 := eq9
    have N9 := Fr.app N0 N9q
    refine own_go (fun _ k => st9 _ k) ?_
    show own_Ends _ _ _ _ _ _ _ (T9.setTop (mkF m 47 #[.val (.ref a0), .val (.ref a1), .val (.ref a1)] [(.int z9)]))
    by_cases hc10 : z9 = (0 : Int32)
    · refine own_go (fun _ k => XS.ifYes X9.here hx rfl (pc0 := 47) (pc' := 54) rfl (hb hby dstreq_47) rfl ((if0 _ _).trans (teq hc10).1) (by decide) (by decide) k) ?_
      show own_Ends _ _ _ _ _ _ _ (T9.setTop (mkF m 54 #[.val (.ref a0), .val (.ref a1), .val (.ref a1)] []))
      refine own_go (fun _ k => XS.iconst X9.here hx rfl (hb hby dstreq_54) k) ?_
      show own_Ends _ _ _ _ _ _ _ (T9.setTop (mkF m 55 #[.val (.ref a0), .val (.ref a1), .val (.ref a1)] [(.int (0 : Int32))]))
      exact own_retN X9 hx hlk (t := .boolean) Bd.returns (by simp) (hb hby dstreq_55) (by decide) (by decide) ⟨_, rfl, Or.inr ⟨rfl, own_ans.neg hz9 hc10⟩, N9, e9⟩
    · refine own_go (fun _ k => XS.ifNo X9.here hx rfl (hb hby dstreq_47) rfl ((if0 _ _).trans (feq hc10).1) k) ?_
      show own_Ends _ _ _ _ _ _ _ (T9.setTop (mkF m 50 #[.val (.ref a0), .val (.ref a1), .val (.ref a1)] []))
      refine own_go (fun _ k => XS.iconst X9.here hx rfl (hb hby dstreq_50) k) ?_
      show own_Ends _ _ _ _ _ _ _ (T9.setTop (mkF m 51 #[.val (.ref a0), .val (.ref a1), .val (.ref a1)] [(.int (1 : Int32))]))
      refine own_go (fun _ k => XS.goto X9.here hx rfl (pc0 := 51) (pc' := 55) rfl (hb hby dstreq_51) (by decide) (by decide) k) ?_
      show own_Ends _ _ _ _ _ _ _ (T9.setTop (mkF m 55 #[.val (.ref a0), .val (.ref a1), .val (.ref a1)] [(.int (1 : Int32))]))
      exact own_retN X9 hx hlk (t := .boolean) Bd.returns (by simp) (hb hby dstreq_55) (by decide) (by decide) ⟨_, rfl, Or.inl ⟨rfl, own_ans.pos hz9 hc10⟩, N9, e9⟩
def own_n (l : Int32) : Nat := if l = (0 : Int32) then 0 else if l = (1 : Int32) then 1 else 2
def own_b (x y : Int32) : Nat → Int32 := fun i => own_by (if i = 0 then x else y)
theorem own_nlt (l : Int32) : own_n l < 1000 := by unfold own_n; split <;> (try split) <;> decide
def own_byte (x : Int32) : Prop := ∃ k : Fin 256, x = Int32.ofNat k.val
theorem own_b256 : ∀ k : Fin 256, nar .char (Int32.ofNat k.val) = Int32.ofNat k.val ∧ ¬ (255 : Int32) < Int32.ofNat k.val ∧ (own_by (Int32.ofNat k.val) &&& 255) = Int32.ofNat k.val ∧ (Int32.ofNat k.val).toUInt32.toUInt16.toUInt32.toInt32 = Int32.ofNat k.val := by decide +kernel
theorem own_byte.ch {x : Int32} (h : own_byte x) : nar .char x = x := by obtain ⟨k, rfl⟩ := h; exact (own_b256 k).1
theorem own_byte.le {x : Int32} (h : own_byte x) : ¬ (255 : Int32) < x := by obtain ⟨k, rfl⟩ := h; exact (own_b256 k).2.1
theorem own_byte.lec {x : Int32} (h : own_byte x) : ¬ (255 : Int32) < nar .char x := by rw [h.ch]; exact h.le
theorem own_byte.inj {x y : Int32} (h : own_byte x) (h' : own_byte y) : own_by x = own_by y ↔ x = y := by
  obtain ⟨k, rfl⟩ := h
  obtain ⟨k', rfl⟩ := h'
  constructor
  · intro e
    have a := (own_b256 k).2.2.1
    rw [e, (own_b256 k').2.2.1] at a; exact a.symm
  · intro e; rw [e]
theorem own_byte.mk (y : Int32) : own_byte ((y &&& (255 : Int32)).toUInt32.toUInt16.toUInt32.toInt32) := by
  have e : (y &&& 255).toInt = y.toInt % 2 ^ 8 := Jvm.Kit.i32_mask y 255 (k := 8) (by decide) (by decide)
  refine ⟨⟨(y.toInt % 256).toNat, by omega⟩, ?_⟩
  have q : (y &&& 255) = Int32.ofNat (y.toInt % 256).toNat := Int32.toInt_inj.mp (by rw [own_c32 (by omega), e]; omega)
  rw [q]; exact (own_b256 ⟨(y.toInt % 256).toNat, by omega⟩).2.2.2
theorem own_byte.of {y z : Int32} (h : z = (y &&& (255 : Int32)).toUInt32.toUInt16.toUInt32.toInt32) : own_byte z := by rw [h]; exact own_byte.mk y
theorem own_byte.ite {x z c y : Int32} (h : own_byte x) (e : z = (if c = (0 : Int32) then ((y &&& (255 : Int32)).toUInt32.toUInt16.toUInt32.toInt32) else x)) : own_byte z := by
  rw [e]; split
  · exact own_byte.mk y
  · exact h
theorem own_n_0 {l : Int32} (h : l = (0 : Int32)) : own_n l = 0 := if_pos h
theorem own_n_1 {l : Int32} (h : l = (1 : Int32)) : own_n l = 1 := by rw [h]; rfl
theorem own_n_2 {l : Int32} (h0 : ¬ l = (0 : Int32)) (h1 : ¬ l = (1 : Int32)) : own_n l = 2 := by unfold own_n; rw [if_neg h0, if_neg h1]
theorem own_len {y z : Int32} (h : z = ((y &&& (3 : Int32)) % (3 : Int32))) : z = 0 ∨ z = 1 ∨ z = 2 := by
  have e : (y &&& 3).toInt = y.toInt % 2 ^ 2 := Jvm.Kit.i32_mask y 3 (k := 2) (by decide) (by decide)
  have e0 : 0 ≤ (y &&& 3).toInt := by rw [e]; exact Int.emod_nonneg _ (by decide)
  have e1 : z.toInt = (y &&& 3).toInt % 3 := by rw [h, Jvm.Kit.i32_rem_nonneg e0]; rfl
  rcases (by omega : z.toInt = 0 ∨ z.toInt = 1 ∨ z.toInt = 2) with q | q | q
  · exact Or.inl (Int32.toInt_inj.mp q)
  · exact Or.inr (Or.inl (Int32.toInt_inj.mp q))
  · exact Or.inr (Or.inr (Int32.toInt_inj.mp q))
/-- the law's sameName -/
abbrev own_same (l1 l2 c10 c20 c11 c21 : Int32) : Prop := l1 = l2 ∧ (l1 < (1 : Int32) ∨ c10 = c20) ∧ (l1 < (2 : Int32) ∨ c11 = c21)
theorem own_name {l1 l2 c10 c20 c11 c21 : Int32} (h1 : l1 = 0 ∨ l1 = 1 ∨ l1 = 2) (h2 : l2 = 0 ∨ l2 = 1 ∨ l2 = 2) (b1 : own_byte c10) (b2 : own_byte c20) (b3 : own_byte c11) (b4 : own_byte c21) : own_eq (own_n l1) (own_n l2) (own_b c10 c11) (own_b c20 c21) ↔ own_same l1 l2 c10 c20 c11 c21 := by
  have f0 : own_b c10 c11 0 = own_b c20 c21 0 ↔ c10 = c20 := b1.inj b2
  have f1 : own_b c10 c11 1 = own_b c20 c21 1 ↔ c11 = c21 := b3.inj b4
  unfold own_eq own_same
  rcases h1 with rfl | rfl | rfl <;> rcases h2 with rfl | rfl | rfl
  · exact ⟨fun _ => ⟨rfl, Or.inl (by decide), Or.inl (by decide)⟩, fun _ => ⟨rfl, fun i hi => absurd hi (Nat.not_lt_zero _)⟩⟩
  · exact ⟨fun q => absurd q.1 (by decide), fun q => absurd q.1 (by decide)⟩
  · exact ⟨fun q => absurd q.1 (by decide), fun q => absurd q.1 (by decide)⟩
  · exact ⟨fun q => absurd q.1 (by decide), fun q => absurd q.1 (by decide)⟩
  · refine ⟨fun q => ⟨rfl, Or.inr (f0.mp (q.2 0 (by decide))), Or.inl (by decide)⟩, fun q => ⟨rfl, fun i hi => ?_⟩⟩
    have : i = 0 := by have : i < 1 := hi; omega
    subst this
    rcases q.2.1 with w | w
    · exact absurd w (by decide)
    · exact f0.mpr w
  · exact ⟨fun q => absurd q.1 (by decide), fun q => absurd q.1 (by decide)⟩
  · exact ⟨fun q => absurd q.1 (by decide), fun q => absurd q.1 (by decide)⟩
  · exact ⟨fun q => absurd q.1 (by decide), fun q => absurd q.1 (by decide)⟩
  · refine ⟨fun q => ⟨rfl, Or.inr (f0.mp (q.2 0 (by decide))), Or.inr (f1.mp (q.2 1 (by decide)))⟩, fun q => ⟨rfl, fun i hi => ?_⟩⟩
    have hi' : i < 2 := hi
    rcases q.2.1 with w | w
    · exact absurd w (by decide)
    · rcases q.2.2 with w' | w'
      · exact absurd w' (by decide)
      · rcases (by omega : i = 0 ∨ i = 1) with rfl | rfl
        · exact f0.mpr w
        · exact f1.mpr w'
theorem own_tvs {k1 k2 : Int32} {r1 r2 wF wT wU : Addr} (h1 : k1 = 0 ∨ k1 = 1 ∨ k1 = 2) (h2 : k2 = 0 ∨ k2 = 1 ∨ k2 = 2) (e1 : r1 = (if k1 = (0 : Int32) then wT else (if k1 = (1 : Int32) then wF else wU))) (e2 : r2 = (if k2 = (0 : Int32) then wT else (if k2 = (1 : Int32) then wF else wU))) (n1 : wT ≠ wF) (n2 : wT ≠ wU) (n3 : wF ≠ wU) : r1 = r2 ↔ k1 = k2 := by
  rw [e1, e2]
  rcases h1 with rfl | rfl | rfl <;> rcases h2 with rfl | rfl | rfl <;> simp [n1, n2, n3, Ne.symm n1, Ne.symm n2, Ne.symm n3]
theorem own_eqint {args : Array Value} {first s : State} {o : Option Outcome} {idx : List Nat} {a : Term} {y : Int32} (h : (Jvm.Cond.eq a (Jvm.Term.int y)).value args first o s idx = some true) : a.eval args first o idx s = some (.int y) := by
  cases ha : a.eval args first o idx s with
  | none => simp [Cond.value, ha] at h
  | some x => cases x <;> simp [Cond.value, ha, Term.eval] at h ⊢; exact h
theorem own_ord {Z : State} {h : Heap} {x y : Addr} {i j : Int32} (F : Fld Z h x "java/lang/Enum" "ordinal" "I" (.int i)) (F' : Fld Z h y "java/lang/Enum" "ordinal" "I" (.int j)) (n : i ≠ j) : x ≠ y := fun e => by
  subst e; exact n (Value.int.inj (own_Fld.same F F'))
theorem dcan_0 : decode jdk_43_method_3_code 0 = .ok (.iload_n 0, 1) := by decide +kernel
theorem dcan_1 : decode jdk_43_method_3_code 1 = .ok (.sipush 255, 3) := by decide +kernel
theorem dcan_4 : decode jdk_43_method_3_code 4 = .ok (.if_icmp .gt 7, 3) := by decide +kernel
theorem dcan_7 : decode jdk_43_method_3_code 7 = .ok (.iconst 1, 1) := by decide +kernel
theorem dcan_8 : decode jdk_43_method_3_code 8 = .ok (.goto 4, 3) := by decide +kernel
theorem dcan_12 : decode jdk_43_method_3_code 12 = .ok (.ireturn, 1) := by decide +kernel
theorem pncan : plainName "java/lang/StringLatin1" = true := by first | (simp [plainName, overriddenIn]; done) | decide +kernel
theorem efcan (m : MethodId) (p0 : Int32) : entryFrame m #[(.int p0)] 1 = mkF m 0 #[.val (.int p0)] [] := by first | (simp [entryFrame, mkF, argsToLocals, Value.category]; done) | rfl
def Qcan (Z : State) (p0 : Int32) (h0 : Heap) (n0 : Nat) (v : Option Value) (h : Heap) (L : List Loc) : Prop := v = some (.int (1 : Int32)) ∧ Fr n0 L ∧ h = h0
set_option maxRecDepth 65536 in
set_option maxHeartbeats 40000000 in
theorem rmcan (l : Launch) (Z : State) (ar : Array Value) (hw : ∀ d ∈ tables_1, d.before ar Z = true) (ws : List Jvm.Cond) (p0 : Int32) (h0 : Heap) (n0 : Nat) (O0 : Old Z n0 h0) (hp : ¬ (255 : Int32) < p0) :
    MetFree l (⟨"java/lang/StringLatin1", "canEncode", "(C)Z"⟩ : MethodName) (head1 (Jvm.Cond.code (⟨"java/lang/StringLatin1", "canEncode", "(C)Z"⟩ : MethodName) jdk_43_method_3_code 1 (some .boolean) :: ws) ({ frames := 0, cells := 0, slots := 0, locals := 0 } : Room)) (fun a U => a = #[(.int p0)] ∧ Z.Warmed39 U.vm ∧ U.heap = h0) (fun _ _ _ _ _ => True) (fun _ U o U' => ∃ v L, o = .returned v ∧ Qcan Z p0 h0 n0 v U'.heap L ∧ FrameEnd U o U' L ({ frames := 0, cells := 0, slots := 0, locals := 0 } : Room).cells ({ frames := 0, cells := 0, slots := 0, locals := 0 } : Room).slots) := by
  refine MetFree.of_bodySF (plainFor_of_name pncan) hisR ?_
  intro p e s m args below meth c s₁ Bd hml0 hP hK
  obtain ⟨rfl, hZ, hh⟩ := hP
  have hx := Bd.exec
  have hby := Bd.bytes
  have hml : c.maxLocals = 1 := hml0
  have hown : s.vm.findClass "java/lang/StringLatin1" = some m.cls := findClass_of_methodNamed Bd.named
  have hnm := (name_of_methodNamed Bd.named Bd.method).1
  have hlk : meth.locks = false := BodyLoose.notSynchronized Bd
  have X0 : Stand p l e ({ frames := 0, cells := 0, slots := 0, locals := 0 } : Room) s m #[(.int p0)] below meth c s₁ [] 0 0 := Stand.of_body Bd
  have e0 : s₁.heap = h0 := by rw [← hh, Bd.state]; rfl
  have N0 := Fr.nil n0
  suffices hmain : own_Ends p e below s (Qcan Z p0 h0 n0) 0 0 (s₁.setTop (mkF m 0 #[.val (.int p0)] [])) by
    obtain ⟨U, o, h1, r⟩ := hmain
    exact ⟨U, o, castTop (efcan m p0) h1, r⟩
  show own_Ends _ _ _ _ _ _ _ (s₁.setTop (mkF m 0 #[.val (.int p0)] []))
  refine own_go (fun _ k => XS.iloadN X0.here hx rfl (hb hby dcan_0) rfl k) ?_
  show own_Ends _ _ _ _ _ _ _ (s₁.setTop (mkF m 1 #[.val (.int p0)] [(.int p0)]))
  refine own_go (fun _ k => XS.sipush X0.here hx rfl (hb hby dcan_1) k) ?_
  show own_Ends _ _ _ _ _ _ _ (s₁.setTop (mkF m 4 #[.val (.int p0)] [(.int (255 : Int32)), (.int p0)]))
  refine own_go (fun _ k => XS.icmpNo X0.here hx rfl (hb hby dcan_4) rfl (flt hp).2.2.1 k) ?_
  show own_Ends _ _ _ _ _ _ _ (s₁.setTop (mkF m 7 #[.val (.int p0)] []))
  refine own_go (fun _ k => XS.iconst X0.here hx rfl (hb hby dcan_7) k) ?_
  show own_Ends _ _ _ _ _ _ _ (s₁.setTop (mkF m 8 #[.val (.int p0)] [(.int (1 : Int32))]))
  refine own_go (fun _ k => XS.goto X0.here hx rfl (pc0 := 8) (pc' := 12) rfl (hb hby dcan_8) (by decide) (by decide) k) ?_
  show own_Ends _ _ _ _ _ _ _ (s₁.setTop (mkF m 12 #[.val (.int p0)] [(.int (1 : Int32))]))
  exact own_retN X0 hx hlk (t := .boolean) Bd.returns (by simp) (hb hby dcan_12) (by decide) (by decide) ⟨rfl, N0, e0⟩
theorem dtob_0 : decode jdk_43_method_46_code 0 = .ok (.iconst 1, 1) := by decide +kernel
theorem dtob_1 : decode jdk_43_method_46_code 1 = .ok (.newarray .byte, 2) := by decide +kernel
theorem dtob_3 : decode jdk_43_method_46_code 3 = .ok (.dup, 1) := by decide +kernel
theorem dtob_4 : decode jdk_43_method_46_code 4 = .ok (.iconst 0, 1) := by decide +kernel
theorem dtob_5 : decode jdk_43_method_46_code 5 = .ok (.iload_n 0, 1) := by decide +kernel
theorem dtob_6 : decode jdk_43_method_46_code 6 = .ok (.i2b, 1) := by decide +kernel
theorem dtob_7 : decode jdk_43_method_46_code 7 = .ok (.bastore, 1) := by decide +kernel
theorem dtob_8 : decode jdk_43_method_46_code 8 = .ok (.areturn, 1) := by decide +kernel
theorem pntob : plainName "java/lang/StringLatin1" = true := by first | (simp [plainName, overriddenIn]; done) | decide +kernel
theorem eftob (m : MethodId) (p0 : Int32) : entryFrame m #[(.int p0)] 1 = mkF m 0 #[.val (.int p0)] [] := by first | (simp [entryFrame, mkF, argsToLocals, Value.category]; done) | rfl
def Qtob (Z : State) (p0 : Int32) (h0 : Heap) (n0 : Nat) (v : Option Value) (h : Heap) (L : List Loc) : Prop := ∃ y, v = some (.ref y) ∧ Fr n0 L ∧ Keep h0 h [] ∧ h0.size ≤ y ∧ own_Ar Z h y .byte 1 (fun i => .int ((fun _ => own_by p0) i))
set_option maxRecDepth 65536 in
set_option maxHeartbeats 40000000 in
theorem rmtob (l : Launch) (Z : State) (ar : Array Value) (hw : ∀ d ∈ tables_1, d.before ar Z = true) (ws : List Jvm.Cond) (p0 : Int32) (h0 : Heap) (n0 : Nat) (O0 : Old Z n0 h0) :
    MetFree l (⟨"java/lang/StringLatin1", "toBytes", "(C)[B"⟩ : MethodName) (head1 (Jvm.Cond.code (⟨"java/lang/StringLatin1", "toBytes", "(C)[B"⟩ : MethodName) jdk_43_method_46_code 1 (some (.array .byte)) :: ws) ({ frames := 0, cells := 1, slots := 1, locals := 0 } : Room)) (fun a U => a = #[(.int p0)] ∧ Z.Warmed39 U.vm ∧ U.heap = h0) (fun _ _ _ _ _ => True) (fun _ U o U' => ∃ v L, o = .returned v ∧ Qtob Z p0 h0 n0 v U'.heap L ∧ FrameEnd U o U' L ({ frames := 0, cells := 1, slots := 1, locals := 0 } : Room).cells ({ frames := 0, cells := 1, slots := 1, locals := 0 } : Room).slots) := by
  refine MetFree.of_bodySF (plainFor_of_name pntob) hisR ?_
  intro p e s m args below meth c s₁ Bd hml0 hP hK
  obtain ⟨rfl, hZ, hh⟩ := hP
  have hx := Bd.exec
  have hby := Bd.bytes
  have hml : c.maxLocals = 1 := hml0
  have hown : s.vm.findClass "java/lang/StringLatin1" = some m.cls := findClass_of_methodNamed Bd.named
  have hnm := (name_of_methodNamed Bd.named Bd.method).1
  have hlk : meth.locks = false := BodyLoose.notSynchronized Bd
  have X0 : Stand p l e ({ frames := 0, cells := 1, slots := 1, locals := 0 } : Room) s m #[(.int p0)] below meth c s₁ [] 0 0 := Stand.of_body Bd
  have e0 : s₁.heap = h0 := by rw [← hh, Bd.state]; rfl
  have N0 := Fr.nil n0
  suffices hmain : own_Ends p e below s (Qtob Z p0 h0 n0) 1 1 (s₁.setTop (mkF m 0 #[.val (.int p0)] [])) by
    obtain ⟨U, o, h1, r⟩ := hmain
    exact ⟨U, o, castTop (eftob m p0) h1, r⟩
  show own_Ends _ _ _ _ _ _ _ (s₁.setTop (mkF m 0 #[.val (.int p0)] []))
  refine own_go (fun _ k => XS.iconst X0.here hx rfl (hb hby dtob_0) k) ?_
  show own_Ends _ _ _ _ _ _ _ (s₁.setTop (mkF m 1 #[.val (.int p0)] [(.int (1 : Int32))]))
  obtain ⟨T1, h1, k1, X1, e1, E1, A1, st1⟩ := newP X0 hx hZ (hw _ (List.mem_of_getElem? (i := 32) rfl)) e0 (g := (mkF m 1 #[.val (.int p0)] [(.int (1 : Int32))])) rfl (hb hby dtob_1) rfl (by decide) (cap := 1) (by decide) (by decide) (by decide) (by decide)
  obtain ⟨b1, q_b1⟩ : ∃ z, z = h0.size := ⟨_, rfl⟩
  rw [← q_b1] at A1 st1
  have g_b1 : n0 ≤ b1 := Nat.le_trans (own_sz O0) (Nat.le_of_eq q_b1.symm)
  refine own_go (fun _ k => st1 _ k) ?_
  have F2 : Old Z n0 h1 := (O0.ext E1)
  have gh_b1 : h0.size ≤ b1 := Nat.le_trans (Keep.refl h0 []).1 (Nat.le_of_eq q_b1.symm)
  have K3 : Keep h0 h1 [] := (Keep.refl h0 []).ext E1
  have F4 : own_Ar Z h1 b1 .byte 1 (fun i => .int ((fun _ => (0 : Int32)) i)) := own_Ar.newI A1 (by decide) rfl
  show own_Ends _ _ _ _ _ _ _ (T1.setTop (mkF m 3 #[.val (.int p0)] [(.ref b1)]))
  refine own_go (fun _ k => XS.dup X1.here hx rfl (hb hby dtob_3) rfl rfl k) ?_
  show own_Ends _ _ _ _ _ _ _ (T1.setTop (mkF m 4 #[.val (.int p0)] [(.ref b1), (.ref b1)]))
  refine own_go (fun _ k => XS.iconst X1.here hx rfl (hb hby dtob_4) k) ?_
  show own_Ends _ _ _ _ _ _ _ (T1.setTop (mkF m 5 #[.val (.int p0)] [(.int (0 : Int32)), (.ref b1), (.ref b1)]))
  refine own_go (fun _ k => XS.iloadN X1.here hx rfl (hb hby dtob_5) rfl k) ?_
  show own_Ends _ _ _ _ _ _ _ (T1.setTop (mkF m 6 #[.val (.int p0)] [(.int p0), (.int (0 : Int32)), (.ref b1), (.ref b1)]))
  refine own_go (fun _ k => XS.i2b X1.here hx rfl (hb hby dtob_6) rfl k) ?_
  show own_Ends _ _ _ _ _ _ _ (T1.setTop (mkF m 7 #[.val (.int p0)] [(.int (p0.toInt8.toInt32)), (.int (0 : Int32)), (.ref b1), (.ref b1)]))
  obtain ⟨c5, A5, i5, -⟩ := own_Ar.at F4 (0 : Int32) (by decide) (by decide)
  obtain ⟨T5, h5, X5, e5, W5, st5⟩ := stB X1 hx hZ e1 A5 (j := (0 : Int32)) i5 (g := (mkF m 7 #[.val (.int p0)] [(.int (p0.toInt8.toInt32)), (.int (0 : Int32)), (.ref b1), (.ref b1)])) rfl rfl (hb hby dtob_7)
  refine own_go (fun _ k => st5 _ k) ?_
  have N5 := Fr.snoc X5 N0 g_b1
  have F6 : Old Z n0 h5 := (F2.wr W5 g_b1)
  have F7 : own_Ar Z h5 b1 .byte 1 (fun i => .int ((fun i => if i = ((0 : Int32)).toNatClampNeg then (nar .byte (p0.toInt8.toInt32)) else (fun _ => (0 : Int32)) i) i)) := own_Ar.setI F4 W5
  have K8 : Keep h0 h5 [] := K3.wr W5 (Or.inr gh_b1)
  show own_Ends _ _ _ _ _ _ _ (T5.setTop (mkF m 8 #[.val (.int p0)] [(.ref b1)]))
  exact own_retA X5 hx hlk Bd.returns rfl rfl rfl (hb hby dtob_8) (by decide) (by decide) (by rw [e5]; exact ⟨b1, rfl, N5, K8, gh_b1, F7.cong (fun i hi => by match i, hi with | 0, _ => rfl)⟩)
theorem dsiC_0 : decode jdk_42_method_151_code 0 = .ok (.aload_n 0, 1) := by decide +kernel
theorem dsiC_1 : decode jdk_42_method_151_code 1 = .ok (.invokespecial 1, 3) := by decide +kernel
theorem dsiC_4 : decode jdk_42_method_151_code 4 = .ok (.aload_n 0, 1) := by decide +kernel
theorem dsiC_5 : decode jdk_42_method_151_code 5 = .ok (.aload_n 1, 1) := by decide +kernel
theorem dsiC_6 : decode jdk_42_method_151_code 6 = .ok (.putfield 9, 3) := by decide +kernel
theorem dsiC_9 : decode jdk_42_method_151_code 9 = .ok (.aload_n 0, 1) := by decide +kernel
theorem dsiC_10 : decode jdk_42_method_151_code 10 = .ok (.iload_n 2, 1) := by decide +kernel
theorem dsiC_11 : decode jdk_42_method_151_code 11 = .ok (.putfield 15, 3) := by decide +kernel
theorem dsiC_14 : decode jdk_42_method_151_code 14 = .ok (.return_, 1) := by decide +kernel
theorem pnsiC : plainName "java/lang/String" = true := by first | (simp [plainName, overriddenIn]; done) | decide +kernel
theorem efsiC (m : MethodId) (a0 : Addr) (a1 : Addr) : entryFrame m #[(.ref a0), (.ref a1), (.int (0 : Int32))] 3 = mkF m 0 #[.val (.ref a0), .val (.ref a1), .val (.int (0 : Int32))] [] := by first | (simp [entryFrame, mkF, argsToLocals, Value.category]; done) | rfl
def QsiC (Z : State) (a0 : Addr) (a1 : Addr) (h0 : Heap) (n0 : Nat) (v : Option Value) (h : Heap) (L : List Loc) : Prop := v = none ∧ Fr n0 L ∧ Keep h0 h [a0] ∧ Exa Z h a0 "java/lang/String" ∧ Fld Z h a0 "java/lang/String" "coder" "B" (.int (0 : Int32)) ∧ Fld Z h a0 "java/lang/String" "value" "[B" (.ref a1)
set_option maxRecDepth 65536 in
set_option maxHeartbeats 40000000 in
theorem rmsiC (l : Launch) (Z : State) (ar : Array Value) (hw : ∀ d ∈ tables_1, d.before ar Z = true) (ws : List Jvm.Cond) (a0 : Addr) (a1 : Addr) (h0 : Heap) (n0 : Nat) (O0 : Old Z n0 h0) (E_a0 : Exa Z h0 a0 "java/lang/String") (g_a0 : n0 ≤ a0) (F_value_a0 : Fld Z h0 a0 "java/lang/String" "value" "[B" .null) (F_coder_a0 : Fld Z h0 a0 "java/lang/String" "coder" "B" (.int (0 : Int32))) :
    MetFree l (⟨"java/lang/String", "<init>", "([BB)V"⟩ : MethodName) (head1 (Jvm.Cond.code (⟨"java/lang/String", "<init>", "([BB)V"⟩ : MethodName) jdk_42_method_151_code 3 none :: ws) ({ frames := 1, cells := 0, slots := 0, locals := 12 } : Room)) (fun a U => a = #[(.ref a0), (.ref a1), (.int (0 : Int32))] ∧ Z.Warmed39 U.vm ∧ U.heap = h0) (fun _ _ _ _ _ => True) (fun _ U o U' => ∃ v L, o = .returned v ∧ QsiC Z a0 a1 h0 n0 v U'.heap L ∧ FrameEnd U o U' L ({ frames := 1, cells := 0, slots := 0, locals := 12 } : Room).cells ({ frames := 1, cells := 0, slots := 0, locals := 12 } : Room).slots) := by
  refine MetFree.of_bodySF (plainFor_of_name pnsiC) hisR ?_
  intro p e s m args below meth c s₁ Bd hml0 hP hK
  obtain ⟨rfl, hZ, hh⟩ := hP
  have hx := Bd.exec
  have hby := Bd.bytes
  have hml : c.maxLocals = 3 := hml0
  have hown : s.vm.findClass "java/lang/String" = some m.cls := findClass_of_methodNamed Bd.named
  have hnm := (name_of_methodNamed Bd.named Bd.method).1
  have hlk : meth.locks = false := BodyLoose.notSynchronized Bd
  have X0 : Stand p l e ({ frames := 1, cells := 0, slots := 0, locals := 12 } : Room) s m #[(.ref a0), (.ref a1), (.int (0 : Int32))] below meth c s₁ [] 0 0 := Stand.of_body Bd
  have e0 : s₁.heap = h0 := by rw [← hh, Bd.state]; rfl
  have N0 := Fr.nil n0
  suffices hmain : own_Ends p e below s (QsiC Z a0 a1 h0 n0) 0 0 (s₁.setTop (mkF m 0 #[.val (.ref a0), .val (.ref a1), .val (.int (0 : Int32))] [])) by
    obtain ⟨U, o, h1, r⟩ := hmain
    exact ⟨U, o, castTop (efsiC m a0 a1) h1, r⟩
  show own_Ends _ _ _ _ _ _ _ (s₁.setTop (mkF m 0 #[.val (.ref a0), .val (.ref a1), .val (.int (0 : Int32))] []))
  refine own_go (fun _ k => XS.aloadN X0.here hx rfl (hb hby dsiC_0) rfl rfl k) ?_
  show own_Ends _ _ _ _ _ _ _ (s₁.setTop (mkF m 1 #[.val (.ref a0), .val (.ref a1), .val (.int (0 : Int32))] [(.ref a0)]))
  obtain ⟨T1, X1, e1, st1⟩ := initO X0 hx hZ hown (hw _ (List.mem_of_getElem? (i := 24) rfl)) (hw _ (List.mem_of_getElem? (i := 25) rfl)) (hw _ (List.mem_of_getElem? (i := 26) rfl)) e0 (g := (mkF m 1 #[.val (.ref a0), .val (.ref a1), .val (.int (0 : Int32))] [(.ref a0)])) rfl (by rw [hml]; rfl) rfl (hb hby dsiC_1) (by decide) (W := 0) (by show 2 * 0 + _ ≤ _; exact Nat.le_of_eq rfl) (by decide)
  refine own_go (fun _ k => st1 _ k) ?_
  show own_Ends _ _ _ _ _ _ _ (T1.setTop (mkF m 4 #[.val (.ref a0), .val (.ref a1), .val (.int (0 : Int32))] []))
  refine own_go (fun _ k => XS.aloadN X1.here hx rfl (hb hby dsiC_4) rfl rfl k) ?_
  show own_Ends _ _ _ _ _ _ _ (T1.setTop (mkF m 5 #[.val (.ref a0), .val (.ref a1), .val (.int (0 : Int32))] [(.ref a0)]))
  refine own_go (fun _ k => XS.aloadN X1.here hx rfl (hb hby dsiC_5) rfl rfl k) ?_
  show own_Ends _ _ _ _ _ _ _ (T1.setTop (mkF m 6 #[.val (.ref a0), .val (.ref a1), .val (.int (0 : Int32))] [(.ref a1), (.ref a0)]))
  obtain ⟨T2, h2, X2, e2, W2, st2⟩ := putF X1 hx hZ hown (host := "") (Or.inl (hw _ (List.mem_of_getElem? (i := 41) rfl))) Via.refl e1 F_value_a0 E_a0 (Or.inr ⟨(hw _ (List.mem_of_getElem? (i := 42) rfl)), rfl, hnm⟩) (hw _ (List.mem_of_getElem? (i := 15) rfl)) (ty := (.array .byte)) (by decide) rfl rfl (g := (mkF m 6 #[.val (.ref a0), .val (.ref a1), .val (.int (0 : Int32))] [(.ref a1), (.ref a0)])) rfl rfl (hb hby dsiC_6)
  refine own_go (fun _ k => st2 _ k) ?_
  have N2 := Fr.snoc X2 N0 g_a0
  have F3 : Exa Z h2 a0 "java/lang/String" := (Exa.wr W2 E_a0)
  have F4 : Fld Z h2 a0 "java/lang/String" "coder" "B" (.int (0 : Int32)) := (Fld.other W2 F_coder_a0 (Or.inr (slot_ne (Or.inr (hw _ (List.mem_of_getElem? (i := 40) rfl))) (Or.inr (hw _ (List.mem_of_getElem? (i := 42) rfl))) (by decide) (t := .byte) (t' := (.array .byte)) (by decide) (by decide))))
  have F5 : Old Z n0 h2 := (O0.wr W2 g_a0)
  have F6 : Fld Z h2 a0 "java/lang/String" "value" "[B" (.ref a1) := Fld.same W2 F_value_a0
  have K7 : Keep h0 h2 [a0] := (Keep.refl h0 [a0]).wr W2 (Or.inl (List.mem_of_getElem? (i := 0) rfl))
  show own_Ends _ _ _ _ _ _ _ (T2.setTop (mkF m 9 #[.val (.ref a0), .val (.ref a1), .val (.int (0 : Int32))] []))
  refine own_go (fun _ k => XS.aloadN X2.here hx rfl (hb hby dsiC_9) rfl rfl k) ?_
  show own_Ends _ _ _ _ _ _ _ (T2.setTop (mkF m 10 #[.val (.ref a0), .val (.ref a1), .val (.int (0 : Int32))] [(.ref a0)]))
  refine own_go (fun _ k => XS.iloadN X2.here hx rfl (hb hby dsiC_10) rfl k) ?_
  show own_Ends _ _ _ _ _ _ _ (T2.setTop (mkF m 11 #[.val (.ref a0), .val (.ref a1), .val (.int (0 : Int32))] [(.int (0 : Int32)), (.ref a0)]))
  obtain ⟨T8, h8, X8, e8, W8, st8⟩ := putFN X2 hx hZ hown (hw _ (List.mem_of_getElem? (i := 39) rfl)) Via.refl e2 F4 F3 (Or.inr ⟨(hw _ (List.mem_of_getElem? (i := 40) rfl)), rfl, hnm⟩) (hw _ (List.mem_of_getElem? (i := 15) rfl)) (ty := .byte) (v' := (.int (0 : Int32))) (by decide) rfl rfl (g := (mkF m 11 #[.val (.ref a0), .val (.ref a1), .val (.int (0 : Int32))] [(.int (0 : Int32)), (.ref a0)])) rfl rfl (hb hby dsiC_11)
  refine own_go (fun _ k => st8 _ k) ?_
  have N8 := Fr.snoc X8 N2 g_a0
  have F9 : Exa Z h8 a0 "java/lang/String" := (Exa.wr W8 F3)
  have F10 : Fld Z h8 a0 "java/lang/String" "value" "[B" (.ref a1) := (Fld.other W8 F6 (Or.inr (slot_ne (Or.inr (hw _ (List.mem_of_getElem? (i := 42) rfl))) (Or.inr (hw _ (List.mem_of_getElem? (i := 40) rfl))) (by decide) (t := (.array .byte)) (t' := .byte) (by decide) (by decide))))
  have F11 : Old Z n0 h8 := (F5.wr W8 g_a0)
  have F12 : Fld Z h8 a0 "java/lang/String" "coder" "B" (.int (0 : Int32)) := Fld.same W8 F4
  have K13 : Keep h0 h8 [a0] := K7.wr W8 (Or.inl (List.mem_of_getElem? (i := 0) rfl))
  show own_Ends _ _ _ _ _ _ _ (T8.setTop (mkF m 14 #[.val (.ref a0), .val (.ref a1), .val (.int (0 : Int32))] []))
  exact own_retV X8 hx hlk Bd.returns (hb hby dsiC_14) (by decide) (by decide) (by rw [e8]; exact ⟨rfl, N8, K13, F9, F12, F10⟩)
theorem dvof_0 : decode jdk_42_method_139_code 0 = .ok (.getstatic 38, 3) := by decide +kernel
theorem dvof_3 : decode jdk_42_method_139_code 3 = .ok (.ifCond .eq 23, 3) := by decide +kernel
theorem dvof_6 : decode jdk_42_method_139_code 6 = .ok (.iload_n 0, 1) := by decide +kernel
theorem dvof_7 : decode jdk_42_method_139_code 7 = .ok (.invokestatic 1015, 3) := by decide +kernel
theorem dvof_10 : decode jdk_42_method_139_code 10 = .ok (.ifCond .eq 16, 3) := by decide +kernel
theorem dvof_13 : decode jdk_42_method_139_code 13 = .ok (.new 10, 3) := by decide +kernel
theorem dvof_16 : decode jdk_42_method_139_code 16 = .ok (.dup, 1) := by decide +kernel
theorem dvof_17 : decode jdk_42_method_139_code 17 = .ok (.iload_n 0, 1) := by decide +kernel
theorem dvof_18 : decode jdk_42_method_139_code 18 = .ok (.invokestatic 1018, 3) := by decide +kernel
theorem dvof_21 : decode jdk_42_method_139_code 21 = .ok (.iconst 0, 1) := by decide +kernel
theorem dvof_22 : decode jdk_42_method_139_code 22 = .ok (.invokespecial 209, 3) := by decide +kernel
theorem dvof_25 : decode jdk_42_method_139_code 25 = .ok (.areturn, 1) := by decide +kernel
theorem pnvof : plainName "java/lang/String" = true := by first | (simp [plainName, overriddenIn]; done) | decide +kernel
theorem pdvof_0 : parseMethodDescriptor "(C)Z" = some ⟨[.char], some .boolean⟩ := by decide +kernel
theorem pdvof_1 : parseMethodDescriptor "(C)[B" = some ⟨[.char], some (.array .byte)⟩ := by decide +kernel
theorem pdvof_2 : parseMethodDescriptor "([BB)V" = some ⟨[(.array .byte), .byte], none⟩ := by decide +kernel
theorem efvof (m : MethodId) (p0 : Int32) : entryFrame m #[(.int p0)] 1 = mkF m 0 #[.val (.int p0)] [] := by first | (simp [entryFrame, mkF, argsToLocals, Value.category]; done) | rfl
def Qvof (Z : State) (p0 : Int32) (w_COMPACT_STRINGS : Int32) (h0 : Heap) (n0 : Nat) (v : Option Value) (h : Heap) (L : List Loc) : Prop := ∃ r, v = some (.ref r) ∧ Fr n0 L ∧ Keep h0 h [] ∧ own_Str Z h r 1 (fun _ => own_by p0)
set_option maxRecDepth 65536 in
set_option maxHeartbeats 40000000 in
theorem rmvof (l : Launch) (Z : State) (ar : Array Value) (hw : ∀ d ∈ tables_1, d.before ar Z = true) (ws : List Jvm.Cond) (p0 : Int32) (w_COMPACT_STRINGS : Int32) (h0 : Heap) (n0 : Nat) (O0 : Old Z n0 h0) (hp : ¬ (255 : Int32) < p0) (hCS : ¬ w_COMPACT_STRINGS = (0 : Int32)) (S_COMPACT_STRINGS : Sta Z Z.heap "java/lang/String" "COMPACT_STRINGS" "Z" (.int w_COMPACT_STRINGS)) :
    MetFree l (⟨"java/lang/String", "valueOf", "(C)Ljava/lang/String;"⟩ : MethodName) (head1 (Jvm.Cond.code (⟨"java/lang/String", "valueOf", "(C)Ljava/lang/String;"⟩ : MethodName) jdk_42_method_139_code 1 (some (.object "java/lang/String")) :: ws) ({ frames := 2, cells := 2, slots := 5, locals := 27 } : Room)) (fun a U => a = #[(.int p0)] ∧ Z.Warmed39 U.vm ∧ U.heap = h0) (fun _ _ _ _ _ => True) (fun _ U o U' => ∃ v L, o = .returned v ∧ Qvof Z p0 w_COMPACT_STRINGS h0 n0 v U'.heap L ∧ FrameEnd U o U' L ({ frames := 2, cells := 2, slots := 5, locals := 27 } : Room).cells ({ frames := 2, cells := 2, slots := 5, locals := 27 } : Room).slots) := by
  refine MetFree.of_bodySF (plainFor_of_name pnvof) hisR ?_
  intro p e s m args below meth c s₁ Bd hml0 hP hK
  obtain ⟨rfl, hZ, hh⟩ := hP
  have hx := Bd.exec
  have hby := Bd.bytes
  have hml : c.maxLocals = 1 := hml0
  have hown : s.vm.findClass "java/lang/String" = some m.cls := findClass_of_methodNamed Bd.named
  have hnm := (name_of_methodNamed Bd.named Bd.method).1
  have hlk : meth.locks = false := BodyLoose.notSynchronized Bd
  have X0 : Stand p l e ({ frames := 2, cells := 2, slots := 5, locals := 27 } : Room) s m #[(.int p0)] below meth c s₁ [] 0 0 := Stand.of_body Bd
  have e0 : s₁.heap = h0 := by rw [← hh, Bd.state]; rfl
  have N0 := Fr.nil n0
  suffices hmain : own_Ends p e below s (Qvof Z p0 w_COMPACT_STRINGS h0 n0) 2 5 (s₁.setTop (mkF m 0 #[.val (.int p0)] [])) by
    obtain ⟨U, o, h1, r⟩ := hmain
    exact ⟨U, o, castTop (efvof m p0) h1, r⟩
  show own_Ends _ _ _ _ _ _ _ (s₁.setTop (mkF m 0 #[.val (.int p0)] []))
  obtain ⟨T1, X1, e1, st1⟩ := getS2 X0 hx hZ hown (host := "") (Or.inl (hw _ (List.mem_of_getElem? (i := 27) rfl))) Via.refl e0 (Sta.ext (own_ext O0) S_COMPACT_STRINGS) (g := (mkF m 0 #[.val (.int p0)] [])) rfl (hb hby dvof_0)
  refine own_go (fun _ k => st1 _ k) ?_
  show own_Ends _ _ _ _ _ _ _ (T1.setTop (mkF m 3 #[.val (.int p0)] [(.int w_COMPACT_STRINGS)]))
  refine own_go (fun _ k => XS.ifNo X1.here hx rfl (hb hby dvof_3) rfl ((if0 _ _).trans (feq hCS).1) k) ?_
  show own_Ends _ _ _ _ _ _ _ (T1.setTop (mkF m 6 #[.val (.int p0)] []))
  refine own_go (fun _ k => XS.iloadN X1.here hx rfl (hb hby dvof_6) rfl k) ?_
  show own_Ends _ _ _ _ _ _ _ (T1.setTop (mkF m 7 #[.val (.int p0)] [(.int p0)]))
  obtain ⟨_, _, ⟨T2, L2, k2, n2⟩, -, X2, ⟨Lc2, hQ2, l2, y2, z2⟩, st2⟩ := Jvm.LawKit.callS X1 hx (y := (⟨"java/lang/StringLatin1", "canEncode", "(C)Z"⟩ : MethodName)) hown (mvT hZ (hw _ (List.mem_of_getElem? (i := 85) rfl))) (mvT hZ (hw _ (List.mem_of_getElem? (i := 86) rfl))) (mvT hZ (hw _ (List.mem_of_getElem? (i := 78) rfl))) (mvT hZ (hw _ (List.mem_of_getElem? (i := 87) rfl))) (by decide) (backOf (W := 0) (rmcan l Z ar hw [] p0 h0 n0 O0 hp) hZ (hw _ (List.mem_of_getElem? (i := 87) rfl)) (hw _ (List.mem_of_getElem? (i := 78) rfl)) (by decide) (by decide)) (g := (mkF m 7 #[.val (.int p0)] [(.int p0)])) rfl (by rw [hml]; rfl) (argsL := [(.int p0)]) (rest := []) (lenOf pdvof_0 rfl) rfl (by show 2 * 0 + _ ≤ _; exact Nat.le_of_eq rfl) (hb hby dvof_7) (fun _ _ => ⟨rfl, e1, (by decide : 0 + 0 ≤ _), (by decide : 0 + 0 ≤ _)⟩)
  dsimp only [Pt.U, Pt.locs, Pt.cells, Pt.slots] at X2 l2 y2 z2 st2 hQ2
  subst l2 y2 z2
  obtain ⟨rfl, N2q, eq2⟩ := hQ2
  have e2 : T2.heap = h0 := eq2
  have N2 := Fr.app N0 N2q
  refine own_go (fun _ k => st2 _ k) ?_
  show own_Ends _ _ _ _ _ _ _ (T2.setTop (mkF m 10 #[.val (.int p0)] [(.int (1 : Int32))]))
  refine own_go (fun _ k => XS.ifNo X2.here hx rfl (hb hby dvof_10) rfl ((if0 _ _).trans (feq (by decide)).1) k) ?_
  show own_Ends _ _ _ _ _ _ _ (T2.setTop (mkF m 13 #[.val (.int p0)] []))
  obtain ⟨T3, h3, X3, e3, E3, A3, D3, -, st3⟩ := newO X2 hx hZ hown (hw _ (List.mem_of_getElem? (i := 75) rfl)) (hw _ (List.mem_of_getElem? (i := 15) rfl)) (hw _ (List.mem_of_getElem? (i := 16) rfl)) e2 (g := (mkF m 13 #[.val (.int p0)] [])) rfl (hb hby dvof_13) (by decide) (by decide)
  obtain ⟨b3, q_b3⟩ : ∃ z, z = h0.size := ⟨_, rfl⟩
  rw [← q_b3] at A3 D3 st3
  have g_b3 : n0 ≤ b3 := Nat.le_trans (own_sz O0) (Nat.le_of_eq q_b3.symm)
  refine own_go (fun _ k => st3 _ k) ?_
  have F4 : Old Z n0 h3 := (O0.ext E3)
  have gh_b3 : h0.size ≤ b3 := Nat.le_trans (Keep.refl h0 []).1 (Nat.le_of_eq q_b3.symm)
  have K5 : Keep h0 h3 [] := (Keep.refl h0 []).ext E3
  have F6 : Fld Z h3 b3 "java/lang/String" "coder" "B" (.int (0 : Int32)) := D3 (Or.inr (hw _ (List.mem_of_getElem? (i := 40) rfl))) (ty := .byte) (by decide)
  have F7 : Fld Z h3 b3 "java/lang/String" "value" "[B" .null := D3 (Or.inr (hw _ (List.mem_of_getElem? (i := 42) rfl))) (ty := (.array .byte)) (by decide)
  show own_Ends _ _ _ _ _ _ _ (T3.setTop (mkF m 16 #[.val (.int p0)] [(.ref b3)]))
  refine own_go (fun _ k => XS.dup X3.here hx rfl (hb hby dvof_16) rfl rfl k) ?_
  show own_Ends _ _ _ _ _ _ _ (T3.setTop (mkF m 17 #[.val (.int p0)] [(.ref b3), (.ref b3)]))
  refine own_go (fun _ k => XS.iloadN X3.here hx rfl (hb hby dvof_17) rfl k) ?_
  show own_Ends _ _ _ _ _ _ _ (T3.setTop (mkF m 18 #[.val (.int p0)] [(.int p0), (.ref b3), (.ref b3)]))
  obtain ⟨_, _, ⟨T8, L8, k8, n8⟩, -, X8, ⟨Lc8, hQ8, l8, y8, z8⟩, st8⟩ := Jvm.LawKit.callS X3 hx (y := (⟨"java/lang/StringLatin1", "toBytes", "(C)[B"⟩ : MethodName)) hown (mvT hZ (hw _ (List.mem_of_getElem? (i := 88) rfl))) (mvT hZ (hw _ (List.mem_of_getElem? (i := 89) rfl))) (mvT hZ (hw _ (List.mem_of_getElem? (i := 78) rfl))) (mvT hZ (hw _ (List.mem_of_getElem? (i := 90) rfl))) (by decide) (backOf (W := 2) (rmtob l Z ar hw [] p0 h3 n0 F4) hZ (hw _ (List.mem_of_getElem? (i := 90) rfl)) (hw _ (List.mem_of_getElem? (i := 78) rfl)) (by decide) (by decide)) (g := (mkF m 18 #[.val (.int p0)] [(.int p0), (.ref b3), (.ref b3)])) rfl (by rw [hml]; rfl) (argsL := [(.int p0)]) (rest := [(.ref b3), (.ref b3)]) (lenOf pdvof_1 rfl) rfl (by show 2 * 0 + _ ≤ _; exact Nat.le_of_eq rfl) (hb hby dvof_18) (fun _ _ => ⟨rfl, e3, (by decide : 1 + 1 ≤ _), (by decide : 4 + 1 ≤ _)⟩)
  dsimp only [Pt.U, Pt.locs, Pt.cells, Pt.slots] at X8 l8 y8 z8 st8 hQ8
  subst l8 y8 z8
  obtain ⟨y8, rfl, N8q, K8, gh_y8, A8_0⟩ := hQ8
  have N8 := Fr.app N2 N8q
  have ne_b3_y8 : b3 ≠ y8 := Nat.ne_of_lt (Nat.lt_of_lt_of_le A3.lt gh_y8)
  have F9 : Old Z n0 T8.heap := (F4.keep K8 all0)
  have F10 : Exa Z T8.heap b3 "java/lang/String" := (A3.keep K8)
  have F11 : Fld Z T8.heap b3 "java/lang/String" "coder" "B" (.int (0 : Int32)) := (F6.keep K8 nin0)
  have F12 : Fld Z T8.heap b3 "java/lang/String" "value" "[B" .null := (F7.keep K8 nin0)
  have K13 : Keep h0 T8.heap [] := K5.trans K8 all0
  refine own_go (fun _ k => st8 _ k) ?_
  show own_Ends _ _ _ _ _ _ _ (T8.setTop (mkF m 21 #[.val (.int p0)] [(.ref y8), (.ref b3), (.ref b3)]))
  refine own_go (fun _ k => XS.iconst X8.here hx rfl (hb hby dvof_21) k) ?_
  show own_Ends _ _ _ _ _ _ _ (T8.setTop (mkF m 22 #[.val (.int p0)] [(.int (0 : Int32)), (.ref y8), (.ref b3), (.ref b3)]))
  obtain ⟨_, _, ⟨T14, L14, k14, n14⟩, -, X14, ⟨Lc14, hQ14, l14, y14, z14⟩, st14⟩ := X8.specialBack hx (y := (⟨"java/lang/String", "<init>", "([BB)V"⟩ : MethodName)) rfl hown (mvT hZ (hw _ (List.mem_of_getElem? (i := 91) rfl))) (mvT hZ (hw _ (List.mem_of_getElem? (i := 92) rfl))) (mvT hZ (hw _ (List.mem_of_getElem? (i := 93) rfl))) (by decide) (backOf (W := 1) (rmsiC l Z ar hw [] b3 y8 T8.heap n0 F9 F10 g_b3 F12 F11) hZ (hw _ (List.mem_of_getElem? (i := 93) rfl)) (hw _ (List.mem_of_getElem? (i := 16) rfl)) (by decide) (by decide)) (g := (mkF m 22 #[.val (.int p0)] [(.int (0 : Int32)), (.ref y8), (.ref b3), (.ref b3)])) rfl (by rw [hml]; rfl) (Steps.refl _) (a := b3) (argsL := [(.ref y8), (.int (0 : Int32))]) (rest := [(.ref b3)]) (lenOf pdvof_2 rfl) rfl (by show 2 * 0 + _ ≤ _; exact Nat.le_of_eq rfl) (hb hby dvof_22) (fun _ _ => ⟨rfl, rfl, (by decide : 2 + 0 ≤ _), (by decide : 5 + 0 ≤ _)⟩)
  dsimp only [Pt.U, Pt.locs, Pt.cells, Pt.slots] at X14 l14 y14 z14 st14 hQ14
  subst l14 y14 z14
  obtain ⟨rfl, N14q, K14, E14_0, F14_0, F14_1⟩ := hQ14
  have N14 := Fr.app N8 N14q
  have F15 : Old Z n0 T14.heap := (F9.keep K14 (allS g_b3 all0))
  have F16 : Exa Z T14.heap b3 "java/lang/String" := (F10.keep K14)
  have F17 : own_Ar Z T14.heap y8 .byte 1 (fun i => .int ((fun _ => own_by p0) i)) := (A8_0.keep K14 (ninS (Ne.symm ne_b3_y8) nin0))
  have K18 : Keep h0 T14.heap [] := K13.trans K14 (allS (Or.inr gh_b3) all0)
  refine own_go (fun _ k => st14.trans k) ?_
  show own_Ends _ _ _ _ _ _ _ (T14.setTop (mkF m 25 #[.val (.int p0)] [(.ref b3)]))
  exact own_retA X14 hx hlk Bd.returns rfl rfl rfl (hb hby dvof_25) (by decide) (by decide) (by rw [show T14.heap = T14.heap from rfl]; exact ⟨b3, rfl, N14, K18, ⟨E14_0, F14_0, y8, F14_1, F17⟩⟩)
theorem dstr_0 : decode method_3_code 0 = .ok (.iload_n 0, 1) := by decide +kernel
theorem dstr_1 : decode method_3_code 1 = .ok (.ifCond .ne 14, 3) := by decide +kernel
theorem dstr_4 : decode method_3_code 4 = .ok (.new 19, 3) := by decide +kernel
theorem dstr_7 : decode method_3_code 7 = .ok (.dup, 1) := by decide +kernel
theorem dstr_8 : decode method_3_code 8 = .ok (.iconst 0, 1) := by decide +kernel
theorem dstr_9 : decode method_3_code 9 = .ok (.newarray .char, 2) := by decide +kernel
theorem dstr_11 : decode method_3_code 11 = .ok (.invokespecial 21, 3) := by decide +kernel
theorem dstr_14 : decode method_3_code 14 = .ok (.areturn, 1) := by decide +kernel
theorem dstr_15 : decode method_3_code 15 = .ok (.iload_n 0, 1) := by decide +kernel
theorem dstr_16 : decode method_3_code 16 = .ok (.iconst 1, 1) := by decide +kernel
theorem dstr_17 : decode method_3_code 17 = .ok (.if_icmp .ne 8, 3) := by decide +kernel
theorem dstr_20 : decode method_3_code 20 = .ok (.iload_n 1, 1) := by decide +kernel
theorem dstr_21 : decode method_3_code 21 = .ok (.invokestatic 24, 3) := by decide +kernel
theorem dstr_24 : decode method_3_code 24 = .ok (.areturn, 1) := by decide +kernel
theorem dstr_25 : decode method_3_code 25 = .ok (.iconst 2, 1) := by decide +kernel
theorem dstr_26 : decode method_3_code 26 = .ok (.newarray .char, 2) := by decide +kernel
theorem dstr_28 : decode method_3_code 28 = .ok (.astore_n 3, 1) := by decide +kernel
theorem dstr_29 : decode method_3_code 29 = .ok (.aload_n 3, 1) := by decide +kernel
theorem dstr_30 : decode method_3_code 30 = .ok (.iconst 0, 1) := by decide +kernel
theorem dstr_31 : decode method_3_code 31 = .ok (.iload_n 1, 1) := by decide +kernel
theorem dstr_32 : decode method_3_code 32 = .ok (.castore, 1) := by decide +kernel
theorem dstr_33 : decode method_3_code 33 = .ok (.aload_n 3, 1) := by decide +kernel
theorem dstr_34 : decode method_3_code 34 = .ok (.iconst 1, 1) := by decide +kernel
theorem dstr_35 : decode method_3_code 35 = .ok (.iload_n 2, 1) := by decide +kernel
theorem dstr_36 : decode method_3_code 36 = .ok (.castore, 1) := by decide +kernel
theorem dstr_37 : decode method_3_code 37 = .ok (.new 19, 3) := by decide +kernel
theorem dstr_40 : decode method_3_code 40 = .ok (.dup, 1) := by decide +kernel
theorem dstr_41 : decode method_3_code 41 = .ok (.aload_n 3, 1) := by decide +kernel
theorem dstr_42 : decode method_3_code 42 = .ok (.invokespecial 21, 3) := by decide +kernel
theorem dstr_45 : decode method_3_code 45 = .ok (.areturn, 1) := by decide +kernel
theorem pnstr : plainName "com/example/shallow_history/shallowhistory/policy/LiteralEqualsPinLaw" = true := by first | (simp [plainName, overriddenIn]; done) | decide +kernel
theorem pdstr_0 : parseMethodDescriptor "([C)V" = some ⟨[(.array .char)], none⟩ := by decide +kernel
theorem pdstr_1 : parseMethodDescriptor "(C)Ljava/lang/String;" = some ⟨[.char], some (.object "java/lang/String")⟩ := by decide +kernel
theorem efstr (m : MethodId) (p0 : Int32) (p1 : Int32) (p2 : Int32) : entryFrame m #[(.int p0), (.int p1), (.int p2)] 4 = mkF m 0 #[.val (.int p0), .val (.int p1), .val (.int p2), .unset] [] := by first | (simp [entryFrame, mkF, argsToLocals, Value.category]; done) | rfl
def Qstr (Z : State) (p0 : Int32) (p1 : Int32) (p2 : Int32) (w_COMPACT_STRINGS : Int32) (h0 : Heap) (n0 : Nat) (v : Option Value) (h : Heap) (L : List Loc) : Prop := ∃ r, v = some (.ref r) ∧ Fr n0 L ∧ Keep h0 h [] ∧ own_Str Z h r (own_n p0) (own_b p1 p2)
set_option maxRecDepth 65536 in
set_option maxHeartbeats 40000000 in
theorem rmstr (l : Launch) (Z : State) (ar : Array Value) (hw : ∀ d ∈ tables_1, d.before ar Z = true) (ws : List Jvm.Cond) (p0 : Int32) (p1 : Int32) (p2 : Int32) (w_COMPACT_STRINGS : Int32) (h0 : Heap) (n0 : Nat) (O0 : Old Z n0 h0) (hb0 : own_byte p1) (hb1 : own_byte p2) (hCS : ¬ w_COMPACT_STRINGS = (0 : Int32)) (S_COMPACT_STRINGS : Sta Z Z.heap "java/lang/String" "COMPACT_STRINGS" "Z" (.int w_COMPACT_STRINGS)) :
    MetFree l (⟨"com/example/shallow_history/shallowhistory/policy/LiteralEqualsPinLaw", "str", "(ICC)Ljava/lang/String;"⟩ : MethodName) (head1 (Jvm.Cond.code (⟨"com/example/shallow_history/shallowhistory/policy/LiteralEqualsPinLaw", "str", "(ICC)Ljava/lang/String;"⟩ : MethodName) method_3_code 4 (some (.object "java/lang/String")) :: ws) ({ frames := 4, cells := 6, slots := 12, locals := 66 } : Room)) (fun a U => a = #[(.int p0), (.int p1), (.int p2)] ∧ Z.Warmed39 U.vm ∧ U.heap = h0 ∧ CHv Z consts_1 U.vm h0) (fun _ _ _ _ _ => True) (fun _ U o U' => ∃ v L, o = .returned v ∧ Qstr Z p0 p1 p2 w_COMPACT_STRINGS h0 n0 v U'.heap L ∧ CHr Z consts_1 U.vm U.heap U'.vm U'.heap ∧ ReturnedEndW U o U' L ({ frames := 4, cells := 6, slots := 12, locals := 66 } : Room).cells ({ frames := 4, cells := 6, slots := 12, locals := 66 } : Room).slots) := by
  refine MetFree.of_bodySF (plainFor_of_name pnstr) hisR ?_
  intro p e s m args below meth c s₁ Bd hml0 hP hK
  obtain ⟨rfl, hZ, hh, hCH⟩ := hP
  have hx := Bd.exec
  have hby := Bd.bytes
  have hml : c.maxLocals = 4 := hml0
  have hown : s.vm.findClass "com/example/shallow_history/shallowhistory/policy/LiteralEqualsPinLaw" = some m.cls := findClass_of_methodNamed Bd.named
  have hnm := (name_of_methodNamed Bd.named Bd.method).1
  have hlk : meth.locks = false := BodyLoose.notSynchronized Bd
  have X0 : Stand p l e ({ frames := 4, cells := 6, slots := 12, locals := 66 } : Room) (s.setVm s.vm) m #[(.int p0), (.int p1), (.int p2)] below meth c s₁ [] 0 0 := Stand.of_body Bd
  have e0 : s₁.heap = h0 := by rw [← hh, Bd.state]; rfl
  have N0 := Fr.nil n0
  have Wd0 : own_Wd s Z consts_1 s.vm h0 := own_Wd.start hh hCH
  suffices hmain : own_EndsW p e below s Z consts_1 (Qstr Z p0 p1 p2 w_COMPACT_STRINGS h0 n0) 6 12 (s₁.setTop (mkF m 0 #[.val (.int p0), .val (.int p1), .val (.int p2), .unset] [])) by
    obtain ⟨U, o, h1, r⟩ := hmain
    exact ⟨U, o, castTop (efstr m p0 p1 p2) h1, r⟩
  show own_EndsW _ _ _ _ _ _ _ _ _ (s₁.setTop (mkF m 0 #[.val (.int p0), .val (.int p1), .val (.int p2), .unset] []))
  refine own_goW (fun _ k => XS.iloadN X0.here hx rfl (hb hby dstr_0) rfl k) ?_
  show own_EndsW _ _ _ _ _ _ _ _ _ (s₁.setTop (mkF m 1 #[.val (.int p0), .val (.int p1), .val (.int p2), .unset] [(.int p0)]))
  by_cases hc1 : p0 = (0 : Int32)
  · refine own_goW (fun _ k => XS.ifNo X0.here hx rfl (hb hby dstr_1) rfl ((if0 _ _).trans (teq hc1).2) k) ?_
    show own_EndsW _ _ _ _ _ _ _ _ _ (s₁.setTop (mkF m 4 #[.val (.int p0), .val (.int p1), .val (.int p2), .unset] []))
    obtain ⟨T2, h2, X2, e2, E2, A2, D2, -, st2⟩ := newO X0 hx hZ hown (hw _ (List.mem_of_getElem? (i := 14) rfl)) (hw _ (List.mem_of_getElem? (i := 15) rfl)) (hw _ (List.mem_of_getElem? (i := 16) rfl)) e0 (g := (mkF m 4 #[.val (.int p0), .val (.int p1), .val (.int p2), .unset] [])) rfl (hb hby dstr_4) (by decide) (by decide)
    obtain ⟨b2, q_b2⟩ : ∃ z, z = h0.size := ⟨_, rfl⟩
    rw [← q_b2] at A2 D2 st2
    have g_b2 : n0 ≤ b2 := Nat.le_trans (own_sz O0) (Nat.le_of_eq q_b2.symm)
    refine own_goW (fun _ k => st2 _ k) ?_
    have Wd2 : own_Wd s Z consts_1 s.vm h2 := Wd0.ext E2
    have F3 : Old Z n0 h2 := (O0.ext E2)
    have gh_b2 : h0.size ≤ b2 := Nat.le_trans (Keep.refl h0 []).1 (Nat.le_of_eq q_b2.symm)
    have K4 : Keep h0 h2 [] := (Keep.refl h0 []).ext E2
    have F5 : Fld Z h2 b2 "java/lang/String" "coder" "B" (.int (0 : Int32)) := D2 (Or.inr (hw _ (List.mem_of_getElem? (i := 40) rfl))) (ty := .byte) (by decide)
    have F6 : Fld Z h2 b2 "java/lang/String" "value" "[B" .null := D2 (Or.inr (hw _ (List.mem_of_getElem? (i := 42) rfl))) (ty := (.array .byte)) (by decide)
    show own_EndsW _ _ _ _ _ _ _ _ _ (T2.setTop (mkF m 7 #[.val (.int p0), .val (.int p1), .val (.int p2), .unset] [(.ref b2)]))
    refine own_goW (fun _ k => XS.dup X2.here hx rfl (hb hby dstr_7) rfl rfl k) ?_
    show own_EndsW _ _ _ _ _ _ _ _ _ (T2.setTop (mkF m 8 #[.val (.int p0), .val (.int p1), .val (.int p2), .unset] [(.ref b2), (.ref b2)]))
    refine own_goW (fun _ k => XS.iconst X2.here hx rfl (hb hby dstr_8) k) ?_
    show own_EndsW _ _ _ _ _ _ _ _ _ (T2.setTop (mkF m 9 #[.val (.int p0), .val (.int p1), .val (.int p2), .unset] [(.int (0 : Int32)), (.ref b2), (.ref b2)]))
    obtain ⟨T7, h7, k7, X7, e7, E7, A7, st7⟩ := newP X2 hx hZ (hw _ (List.mem_of_getElem? (i := 13) rfl)) e2 (g := (mkF m 9 #[.val (.int p0), .val (.int p1), .val (.int p2), .unset] [(.int (0 : Int32)), (.ref b2), (.ref b2)])) rfl (hb hby dstr_9) rfl (by decide) (cap := 0) (by decide) (by decide) (by decide) (by decide)
    obtain ⟨b7, q_b7⟩ : ∃ z, z = h2.size := ⟨_, rfl⟩
    rw [← q_b7] at A7 st7
    have g_b7 : n0 ≤ b7 := Nat.le_trans (own_sz F3) (Nat.le_of_eq q_b7.symm)
    have ne_b2_b7 : b2 ≠ b7 := Nat.ne_of_lt (Nat.lt_of_lt_of_le A2.lt (Nat.le_of_eq q_b7.symm))
    refine own_goW (fun _ k => st7 _ k) ?_
    have Wd7 : own_Wd s Z consts_1 s.vm h7 := Wd2.ext E7
    have F8 : Old Z n0 h7 := (F3.ext E7)
    have F9 : Exa Z h7 b2 "java/lang/String" := (Exa.ext E7 A2)
    have F10 : Fld Z h7 b2 "java/lang/String" "coder" "B" (.int (0 : Int32)) := (Fld.ext E7 F5)
    have F11 : Fld Z h7 b2 "java/lang/String" "value" "[B" .null := (Fld.ext E7 F6)
    have gh_b7 : h0.size ≤ b7 := Nat.le_trans K4.1 (Nat.le_of_eq q_b7.symm)
    have K12 : Keep h0 h7 [] := K4.ext E7
    have F13 : own_Ar Z h7 b7 .char 0 (fun i => .int ((fun _ => (0 : Int32)) i)) := own_Ar.newI A7 (by decide) rfl
    show own_EndsW _ _ _ _ _ _ _ _ _ (T7.setTop (mkF m 11 #[.val (.int p0), .val (.int p1), .val (.int p2), .unset] [(.ref b7), (.ref b2), (.ref b2)]))
    obtain ⟨_, _, ⟨T14, L14, k14, n14⟩, -, X14', hS14, gg14, ⟨Lc14, hQ14, l14, y14, z14, C14⟩, st14⟩ := X7.specialBackS hx (y := (⟨"java/lang/String", "<init>", "([C)V"⟩ : MethodName)) rfl hown (mvT hZ (hw _ (List.mem_of_getElem? (i := 17) rfl))) (mvT hZ (hw _ (List.mem_of_getElem? (i := 18) rfl))) (mvT hZ (hw _ (List.mem_of_getElem? (i := 19) rfl))) (by decide) (backOfSH (W := 1) (rmsiA0 l Z ar hw [] b2 b7 h7 n0 F8 F9 g_b2 F11 F10 (F13.cong (fun i hi => absurd hi (Nat.not_lt_zero _)))) hZ (hw _ (List.mem_of_getElem? (i := 19) rfl)) (hw _ (List.mem_of_getElem? (i := 16) rfl)) (by decide) (by decide) (own_EW hw) Wd7.ch) (g := (mkF m 11 #[.val (.int p0), .val (.int p1), .val (.int p2), .unset] [(.ref b7), (.ref b2), (.ref b2)])) rfl (by rw [hml]; rfl) (Steps.refl _) (a := b2) (argsL := [(.ref b7)]) (rest := [(.ref b2)]) (lenOf pdstr_0 rfl) rfl (by show 2 * 0 + _ ≤ _; exact Nat.le_of_eq rfl) (hb hby dstr_11) (fun _ _ => ⟨rfl, e7, (by decide : 2 + 4 ≤ _), (by decide : 4 + 8 ≤ _)⟩)
    dsimp only [Pt.U, Pt.locs, Pt.cells, Pt.slots] at X14' hS14 gg14 l14 y14 z14 st14 hQ14 C14
    subst l14 y14 z14
    obtain ⟨X14, Wd14, hZ, hown⟩ := own_fold Wd7 e7 X14' hS14 gg14 C14 hZ hown
    obtain ⟨rfl, N14q, K14, T14_0⟩ := hQ14
    have N14 := Fr.app N0 N14q
    have F15 : Old Z n0 T14.heap := (F8.keep K14 (allS g_b2 all0))
    have F16 : Exa Z T14.heap b2 "java/lang/String" := (F9.keep K14)
    have K17 : Keep h0 T14.heap [] := K12.trans K14 (allS (Or.inr gh_b2) all0)
    refine own_goW (fun _ k => st14.trans k) ?_
    show own_EndsW _ _ _ _ _ _ _ _ _ (T14.setTop (mkF m 14 #[.val (.int p0), .val (.int p1), .val (.int p2), .unset] [(.ref b2)]))
    exact own_retAW X14 hx hlk rfl Wd14 hZ (own_EW hw) Bd.returns rfl rfl rfl (hb hby dstr_14) (by decide) (by decide) (by rw [show T14.heap = T14.heap from rfl]; exact ⟨b2, rfl, N14, K17, T14_0.cong (own_n_0 hc1) (fun i hi => absurd hi (Nat.not_lt_zero _))⟩)
  · refine own_goW (fun _ k => XS.ifYes X0.here hx rfl (pc0 := 1) (pc' := 15) rfl (hb hby dstr_1) rfl ((if0 _ _).trans (feq hc1).2) (by decide) (by decide) k) ?_
    show own_EndsW _ _ _ _ _ _ _ _ _ (s₁.setTop (mkF m 15 #[.val (.int p0), .val (.int p1), .val (.int p2), .unset] []))
    refine own_goW (fun _ k => XS.iloadN X0.here hx rfl (hb hby dstr_15) rfl k) ?_
    show own_EndsW _ _ _ _ _ _ _ _ _ (s₁.setTop (mkF m 16 #[.val (.int p0), .val (.int p1), .val (.int p2), .unset] [(.int p0)]))
    refine own_goW (fun _ k => XS.iconst X0.here hx rfl (hb hby dstr_16) k) ?_
    show own_EndsW _ _ _ _ _ _ _ _ _ (s₁.setTop (mkF m 17 #[.val (.int p0), .val (.int p1), .val (.int p2), .unset] [(.int (1 : Int32)), (.int p0)]))
    by_cases hc18 : p0 = (1 : Int32)
    · refine own_goW (fun _ k => XS.icmpNo X0.here hx rfl (hb hby dstr_17) rfl (teq hc18).2 k) ?_
      show own_EndsW _ _ _ _ _ _ _ _ _ (s₁.setTop (mkF m 20 #[.val (.int p0), .val (.int p1), .val (.int p2), .unset] []))
      refine own_goW (fun _ k => XS.iloadN X0.here hx rfl (hb hby dstr_20) rfl k) ?_
      show own_EndsW _ _ _ _ _ _ _ _ _ (s₁.setTop (mkF m 21 #[.val (.int p0), .val (.int p1), .val (.int p2), .unset] [(.int p1)]))
      obtain ⟨_, _, ⟨T19, L19, k19, n19⟩, -, X19, ⟨Lc19, hQ19, l19, y19, z19⟩, st19⟩ := Jvm.LawKit.callS X0 hx (y := (⟨"java/lang/String", "valueOf", "(C)Ljava/lang/String;"⟩ : MethodName)) hown (mvT hZ (hw _ (List.mem_of_getElem? (i := 82) rfl))) (mvT hZ (hw _ (List.mem_of_getElem? (i := 83) rfl))) (mvT hZ (hw _ (List.mem_of_getElem? (i := 16) rfl))) (mvT hZ (hw _ (List.mem_of_getElem? (i := 84) rfl))) (by decide) (backOf (W := 0) (rmvof l Z ar hw [] p1 w_COMPACT_STRINGS h0 n0 O0 hb0.le hCS S_COMPACT_STRINGS) hZ (hw _ (List.mem_of_getElem? (i := 84) rfl)) (hw _ (List.mem_of_getElem? (i := 16) rfl)) (by decide) (by decide)) (g := (mkF m 21 #[.val (.int p0), .val (.int p1), .val (.int p2), .unset] [(.int p1)])) rfl (by rw [hml]; rfl) (argsL := [(.int p1)]) (rest := []) (lenOf pdstr_1 rfl) rfl (by show 2 * 0 + _ ≤ _; exact Nat.le_of_eq rfl) (hb hby dstr_21) (fun _ _ => ⟨rfl, e0, (by decide : 0 + 2 ≤ _), (by decide : 0 + 5 ≤ _)⟩)
      dsimp only [Pt.U, Pt.locs, Pt.cells, Pt.slots] at X19 l19 y19 z19 st19 hQ19
      subst l19 y19 z19
      obtain ⟨r19, rfl, N19q, K19, T19_0⟩ := hQ19
      have N19 := Fr.app N0 N19q
      have Wd19 : own_Wd s Z consts_1 s.vm T19.heap := Wd0.keep K19 sf0
      have F20 : Old Z n0 T19.heap := (O0.keep K19 all0)
      have K21 : Keep h0 T19.heap [] := (Keep.refl h0 []).trans K19 all0
      refine own_goW (fun _ k => st19 _ k) ?_
      show own_EndsW _ _ _ _ _ _ _ _ _ (T19.setTop (mkF m 24 #[.val (.int p0), .val (.int p1), .val (.int p2), .unset] [(.ref r19)]))
      exact own_retAW X19 hx hlk rfl Wd19 hZ (own_EW hw) Bd.returns rfl rfl rfl (hb hby dstr_24) (by decide) (by decide) (by rw [show T19.heap = T19.heap from rfl]; exact ⟨r19, rfl, N19, K21, T19_0.cong (own_n_1 hc18) (fun i hi => by match i, hi with | 0, _ => rfl)⟩)
    · refine own_goW (fun _ k => XS.icmpYes X0.here hx rfl (pc0 := 17) (pc' := 25) rfl (hb hby dstr_17) rfl (feq hc18).2 (by decide) (by decide) k) ?_
      show own_EndsW _ _ _ _ _ _ _ _ _ (s₁.setTop (mkF m 25 #[.val (.int p0), .val (.int p1), .val (.int p2), .unset] []))
      refine own_goW (fun _ k => XS.iconst X0.here hx rfl (hb hby dstr_25) k) ?_
      show own_EndsW _ _ _ _ _ _ _ _ _ (s₁.setTop (mkF m 26 #[.val (.int p0), .val (.int p1), .val (.int p2), .unset] [(.int (2 : Int32))]))
      obtain ⟨T22, h22, k22, X22, e22, E22, A22, st22⟩ := newP X0 hx hZ (hw _ (List.mem_of_getElem? (i := 13) rfl)) e0 (g := (mkF m 26 #[.val (.int p0), .val (.int p1), .val (.int p2), .unset] [(.int (2 : Int32))])) rfl (hb hby dstr_26) rfl (by decide) (cap := 2) (by decide) (by decide) (by decide) (by decide)
      obtain ⟨b22, q_b22⟩ : ∃ z, z = h0.size := ⟨_, rfl⟩
      rw [← q_b22] at A22 st22
      have g_b22 : n0 ≤ b22 := Nat.le_trans (own_sz O0) (Nat.le_of_eq q_b22.symm)
      refine own_goW (fun _ k => st22 _ k) ?_
      have Wd22 : own_Wd s Z consts_1 s.vm h22 := Wd0.ext E22
      have F23 : Old Z n0 h22 := (O0.ext E22)
      have gh_b22 : h0.size ≤ b22 := Nat.le_trans (Keep.refl h0 []).1 (Nat.le_of_eq q_b22.symm)
      have K24 : Keep h0 h22 [] := (Keep.refl h0 []).ext E22
      have F25 : own_Ar Z h22 b22 .char 2 (fun i => .int ((fun _ => (0 : Int32)) i)) := own_Ar.newI A22 (by decide) rfl
      show own_EndsW _ _ _ _ _ _ _ _ _ (T22.setTop (mkF m 28 #[.val (.int p0), .val (.int p1), .val (.int p2), .unset] [(.ref b22)]))
      refine own_goW (fun _ k => XS.astoreN X22.here hx rfl (hb hby dstr_28) rfl rfl (l' := #[.val (.int p0), .val (.int p1), .val (.int p2), .val (.ref b22)]) rfl k) ?_
      show own_EndsW _ _ _ _ _ _ _ _ _ (T22.setTop (mkF m 29 #[.val (.int p0), .val (.int p1), .val (.int p2), .val (.ref b22)] []))
      refine own_goW (fun _ k => XS.aloadN X22.here hx rfl (hb hby dstr_29) rfl rfl k) ?_
      show own_EndsW _ _ _ _ _ _ _ _ _ (T22.setTop (mkF m 30 #[.val (.int p0), .val (.int p1), .val (.int p2), .val (.ref b22)] [(.ref b22)]))
      refine own_goW (fun _ k => XS.iconst X22.here hx rfl (hb hby dstr_30) k) ?_
      show own_EndsW _ _ _ _ _ _ _ _ _ (T22.setTop (mkF m 31 #[.val (.int p0), .val (.int p1), .val (.int p2), .val (.ref b22)] [(.int (0 : Int32)), (.ref b22)]))
      refine own_goW (fun _ k => XS.iloadN X22.here hx rfl (hb hby dstr_31) rfl k) ?_
      show own_EndsW _ _ _ _ _ _ _ _ _ (T22.setTop (mkF m 32 #[.val (.int p0), .val (.int p1), .val (.int p2), .val (.ref b22)] [(.int p1), (.int (0 : Int32)), (.ref b22)]))
      obtain ⟨c26, A26, i26, -⟩ := own_Ar.at F25 (0 : Int32) (by decide) (by decide)
      obtain ⟨T26, h26, X26, e26, W26, st26⟩ := stC X22 hx hZ e22 A26 (j := (0 : Int32)) i26 (g := (mkF m 32 #[.val (.int p0), .val (.int p1), .val (.int p2), .val (.ref b22)] [(.int p1), (.int (0 : Int32)), (.ref b22)])) rfl rfl (hb hby dstr_32)
      refine own_goW (fun _ k => st26 _ k) ?_
      have N26 := Fr.snoc X26 N0 g_b22
      have Wd26 : own_Wd s Z consts_1 s.vm h26 := Wd22.wr W26 (own_safeAr hZ.alike F25 (by decide))
      have F27 : Old Z n0 h26 := (F23.wr W26 g_b22)
      have F28 : own_Ar Z h26 b22 .char 2 (fun i => .int ((fun i => if i = ((0 : Int32)).toNatClampNeg then (nar .char p1) else (fun _ => (0 : Int32)) i) i)) := own_Ar.setI F25 W26
      have K29 : Keep h0 h26 [] := K24.wr W26 (Or.inr gh_b22)
      show own_EndsW _ _ _ _ _ _ _ _ _ (T26.setTop (mkF m 33 #[.val (.int p0), .val (.int p1), .val (.int p2), .val (.ref b22)] []))
      refine own_goW (fun _ k => XS.aloadN X26.here hx rfl (hb hby dstr_33) rfl rfl k) ?_
      show own_EndsW _ _ _ _ _ _ _ _ _ (T26.setTop (mkF m 34 #[.val (.int p0), .val (.int p1), .val (.int p2), .val (.ref b22)] [(.ref b22)]))
      refine own_goW (fun _ k => XS.iconst X26.here hx rfl (hb hby dstr_34) k) ?_
      show own_EndsW _ _ _ _ _ _ _ _ _ (T26.setTop (mkF m 35 #[.val (.int p0), .val (.int p1), .val (.int p2), .val (.ref b22)] [(.int (1 : Int32)), (.ref b22)]))
      refine own_goW (fun _ k => XS.iloadN X26.here hx rfl (hb hby dstr_35) rfl k) ?_
      show own_EndsW _ _ _ _ _ _ _ _ _ (T26.setTop (mkF m 36 #[.val (.int p0), .val (.int p1), .val (.int p2), .val (.ref b22)] [(.int p2), (.int (1 : Int32)), (.ref b22)]))
      obtain ⟨c30, A30, i30, -⟩ := own_Ar.at F28 (1 : Int32) (by decide) (by decide)
      obtain ⟨T30, h30, X30, e30, W30, st30⟩ := stC X26 hx hZ e26 A30 (j := (1 : Int32)) i30 (g := (mkF m 36 #[.val (.int p0), .val (.int p1), .val (.int p2), .val (.ref b22)] [(.int p2), (.int (1 : Int32)), (.ref b22)])) rfl rfl (hb hby dstr_36)
      refine own_goW (fun _ k => st30 _ k) ?_
      have N30 := Fr.snoc X30 N26 g_b22
      have Wd30 : own_Wd s Z consts_1 s.vm h30 := Wd26.wr W30 (own_safeAr hZ.alike F28 (by decide))
      have F31 : Old Z n0 h30 := (F27.wr W30 g_b22)
      have F32 : own_Ar Z h30 b22 .char 2 (fun i => .int ((fun i => if i = ((1 : Int32)).toNatClampNeg then (nar .char p2) else (fun i => if i = ((0 : Int32)).toNatClampNeg then (nar .char p1) else (fun _ => (0 : Int32)) i) i) i)) := own_Ar.setI F28 W30
      have K33 : Keep h0 h30 [] := K29.wr W30 (Or.inr gh_b22)
      show own_EndsW _ _ _ _ _ _ _ _ _ (T30.setTop (mkF m 37 #[.val (.int p0), .val (.int p1), .val (.int p2), .val (.ref b22)] []))
      obtain ⟨T34, h34, X34, e34, E34, A34, D34, -, st34⟩ := newO X30 hx hZ hown (hw _ (List.mem_of_getElem? (i := 14) rfl)) (hw _ (List.mem_of_getElem? (i := 15) rfl)) (hw _ (List.mem_of_getElem? (i := 16) rfl)) e30 (g := (mkF m 37 #[.val (.int p0), .val (.int p1), .val (.int p2), .val (.ref b22)] [])) rfl (hb hby dstr_37) (by decide) (by decide)
      obtain ⟨b34, q_b34⟩ : ∃ z, z = h30.size := ⟨_, rfl⟩
      rw [← q_b34] at A34 D34 st34
      have g_b34 : n0 ≤ b34 := Nat.le_trans (own_sz F31) (Nat.le_of_eq q_b34.symm)
      have ne_b22_b34 : b22 ≠ b34 := Nat.ne_of_lt (Nat.lt_of_lt_of_le F32.lt (Nat.le_of_eq q_b34.symm))
      refine own_goW (fun _ k => st34 _ k) ?_
      have Wd34 : own_Wd s Z consts_1 s.vm h34 := Wd30.ext E34
      have F35 : Old Z n0 h34 := (F31.ext E34)
      have F36 : own_Ar Z h34 b22 .char 2 (fun i => .int ((fun i => if i = ((1 : Int32)).toNatClampNeg then (nar .char p2) else (fun i => if i = ((0 : Int32)).toNatClampNeg then (nar .char p1) else (fun _ => (0 : Int32)) i) i) i)) := (F32.ext E34)
      have gh_b34 : h0.size ≤ b34 := Nat.le_trans K33.1 (Nat.le_of_eq q_b34.symm)
      have K37 : Keep h0 h34 [] := K33.ext E34
      have F38 : Fld Z h34 b34 "java/lang/String" "coder" "B" (.int (0 : Int32)) := D34 (Or.inr (hw _ (List.mem_of_getElem? (i := 40) rfl))) (ty := .byte) (by decide)
      have F39 : Fld Z h34 b34 "java/lang/String" "value" "[B" .null := D34 (Or.inr (hw _ (List.mem_of_getElem? (i := 42) rfl))) (ty := (.array .byte)) (by decide)
      show own_EndsW _ _ _ _ _ _ _ _ _ (T34.setTop (mkF m 40 #[.val (.int p0), .val (.int p1), .val (.int p2), .val (.ref b22)] [(.ref b34)]))
      refine own_goW (fun _ k => XS.dup X34.here hx rfl (hb hby dstr_40) rfl rfl k) ?_
      show own_EndsW _ _ _ _ _ _ _ _ _ (T34.setTop (mkF m 41 #[.val (.int p0), .val (.int p1), .val (.int p2), .val (.ref b22)] [(.ref b34), (.ref b34)]))
      refine own_goW (fun _ k => XS.aloadN X34.here hx rfl (hb hby dstr_41) rfl rfl k) ?_
      show own_EndsW _ _ _ _ _ _ _ _ _ (T34.setTop (mkF m 42 #[.val (.int p0), .val (.int p1), .val (.int p2), .val (.ref b22)] [(.ref b22), (.ref b34), (.ref b34)]))
      obtain ⟨_, _, ⟨T40, L40, k40, n40⟩, -, X40, ⟨Lc40, hQ40, l40, y40, z40⟩, st40⟩ := X34.specialBack hx (y := (⟨"java/lang/String", "<init>", "([C)V"⟩ : MethodName)) rfl hown (mvT hZ (hw _ (List.mem_of_getElem? (i := 17) rfl))) (mvT hZ (hw _ (List.mem_of_getElem? (i := 18) rfl))) (mvT hZ (hw _ (List.mem_of_getElem? (i := 19) rfl))) (by decide) (backOf (W := 1) (rmsiA2 l Z ar hw [] b34 b22 (fun i => if i = ((1 : Int32)).toNatClampNeg then (nar .char p2) else (fun i => if i = ((0 : Int32)).toNatClampNeg then (nar .char p1) else (fun _ => (0 : Int32)) i) i) w_COMPACT_STRINGS h34 n0 F35 A34 g_b34 F39 F38 F36 (fun i hi => by match i, hi with | 0, _ => exact hb0.lec | 1, _ => exact hb1.lec) (Ne.symm ne_b22_b34) hCS S_COMPACT_STRINGS) hZ (hw _ (List.mem_of_getElem? (i := 19) rfl)) (hw _ (List.mem_of_getElem? (i := 16) rfl)) (by decide) (by decide)) (g := (mkF m 42 #[.val (.int p0), .val (.int p1), .val (.int p2), .val (.ref b22)] [(.ref b22), (.ref b34), (.ref b34)])) rfl (by rw [hml]; rfl) (Steps.refl _) (a := b34) (argsL := [(.ref b22)]) (rest := [(.ref b34)]) (lenOf pdstr_0 rfl) rfl (by show 2 * 0 + _ ≤ _; exact Nat.le_of_eq rfl) (hb hby dstr_42) (fun _ _ => ⟨rfl, e34, (by decide : 2 + 1 ≤ _), (by decide : 6 + 2 ≤ _)⟩)
      dsimp only [Pt.U, Pt.locs, Pt.cells, Pt.slots] at X40 l40 y40 z40 st40 hQ40
      subst l40 y40 z40
      obtain ⟨rfl, N40q, K40, T40_0⟩ := hQ40
      have N40 := Fr.app N30 N40q
      have Wd40 : own_Wd s Z consts_1 s.vm T40.heap := Wd34.keep K40 (sfS (own_safeStr hZ.alike A34 F39) sf0)
      have F41 : Old Z n0 T40.heap := (F35.keep K40 (allS g_b34 all0))
      have F42 : Exa Z T40.heap b34 "java/lang/String" := (A34.keep K40)
      have K43 : Keep h0 T40.heap [] := K37.trans K40 (allS (Or.inr gh_b34) all0)
      refine own_goW (fun _ k => st40.trans k) ?_
      show own_EndsW _ _ _ _ _ _ _ _ _ (T40.setTop (mkF m 45 #[.val (.int p0), .val (.int p1), .val (.int p2), .val (.ref b22)] [(.ref b34)]))
      exact own_retAW X40 hx hlk rfl Wd40 hZ (own_EW hw) Bd.returns rfl rfl rfl (hb hby dstr_45) (by decide) (by decide) (by rw [show T40.heap = T40.heap from rfl]; exact ⟨b34, rfl, N40, K43, T40_0.cong (own_n_2 hc1 hc18) (fun i hi => by match i, hi with | 0, _ => exact congrArg own_by hb0.ch.symm | 1, _ => exact congrArg own_by hb1.ch.symm)⟩)
theorem dtv_0 : decode method_2_code 0 = .ok (.iload_n 0, 1) := by decide +kernel
theorem dtv_1 : decode method_2_code 1 = .ok (.ifCond .ne 7, 3) := by decide +kernel
theorem dtv_4 : decode method_2_code 4 = .ok (.getstatic 7, 3) := by decide +kernel
theorem dtv_7 : decode method_2_code 7 = .ok (.areturn, 1) := by decide +kernel
theorem dtv_8 : decode method_2_code 8 = .ok (.iload_n 0, 1) := by decide +kernel
theorem dtv_9 : decode method_2_code 9 = .ok (.iconst 1, 1) := by decide +kernel
theorem dtv_10 : decode method_2_code 10 = .ok (.if_icmp .ne 7, 3) := by decide +kernel
theorem dtv_13 : decode method_2_code 13 = .ok (.getstatic 13, 3) := by decide +kernel
theorem dtv_16 : decode method_2_code 16 = .ok (.areturn, 1) := by decide +kernel
theorem dtv_17 : decode method_2_code 17 = .ok (.getstatic 16, 3) := by decide +kernel
theorem dtv_20 : decode method_2_code 20 = .ok (.areturn, 1) := by decide +kernel
theorem pntv : plainName "com/example/shallow_history/shallowhistory/policy/LiteralEqualsPinLaw" = true := by first | (simp [plainName, overriddenIn]; done) | decide +kernel
theorem eftv (m : MethodId) (p0 : Int32) : entryFrame m #[(.int p0)] 1 = mkF m 0 #[.val (.int p0)] [] := by first | (simp [entryFrame, mkF, argsToLocals, Value.category]; done) | rfl
def Qtv (Z : State) (p0 : Int32) (w_TRUE : Addr) (w_FALSE : Addr) (w_UNDEFINED : Addr) (h0 : Heap) (n0 : Nat) (v : Option Value) (h : Heap) (L : List Loc) : Prop := ∃ r, v = some (.ref r) ∧ r = (if p0 = (0 : Int32) then w_TRUE else (if p0 = (1 : Int32) then w_FALSE else w_UNDEFINED)) ∧ Exa Z h r "com/example/shallow_history/shallowhistory/policy/TruthValue" ∧ Fr n0 L ∧ h = h0
set_option maxRecDepth 65536 in
set_option maxHeartbeats 40000000 in
theorem rmtv (l : Launch) (Z : State) (ar : Array Value) (hw : ∀ d ∈ tables_1, d.before ar Z = true) (ws : List Jvm.Cond) (p0 : Int32) (w_TRUE : Addr) (w_FALSE : Addr) (w_UNDEFINED : Addr) (h0 : Heap) (n0 : Nat) (O0 : Old Z n0 h0) (EZ_TRUE : Exa Z Z.heap w_TRUE "com/example/shallow_history/shallowhistory/policy/TruthValue") (EZ_FALSE : Exa Z Z.heap w_FALSE "com/example/shallow_history/shallowhistory/policy/TruthValue") (EZ_UNDEFINED : Exa Z Z.heap w_UNDEFINED "com/example/shallow_history/shallowhistory/policy/TruthValue") (S_TRUE : Sta Z Z.heap "com/example/shallow_history/shallowhistory/policy/TruthValue" "TRUE" "Lcom/example/shallow_history/shallowhistory/policy/TruthValue;" (.ref w_TRUE)) (S_FALSE : Sta Z Z.heap "com/example/shallow_history/shallowhistory/policy/TruthValue" "FALSE" "Lcom/example/shallow_history/shallowhistory/policy/TruthValue;" (.ref w_FALSE)) (S_UNDEFINED : Sta Z Z.heap "com/example/shallow_history/shallowhistory/policy/TruthValue" "UNDEFINED" "Lcom/example/shallow_history/shallowhistory/policy/TruthValue;" (.ref w_UNDEFINED)) :
    MetFree l (⟨"com/example/shallow_history/shallowhistory/policy/LiteralEqualsPinLaw", "tv", "(I)Lcom/example/shallow_history/shallowhistory/policy/TruthValue;"⟩ : MethodName) (head1 (Jvm.Cond.code (⟨"com/example/shallow_history/shallowhistory/policy/LiteralEqualsPinLaw", "tv", "(I)Lcom/example/shallow_history/shallowhistory/policy/TruthValue;"⟩ : MethodName) method_2_code 1 (some (.object "com/example/shallow_history/shallowhistory/policy/TruthValue")) :: ws) ({ frames := 0, cells := 0, slots := 0, locals := 0 } : Room)) (fun a U => a = #[(.int p0)] ∧ Z.Warmed39 U.vm ∧ U.heap = h0) (fun _ _ _ _ _ => True) (fun _ U o U' => ∃ v L, o = .returned v ∧ Qtv Z p0 w_TRUE w_FALSE w_UNDEFINED h0 n0 v U'.heap L ∧ FrameEnd U o U' L ({ frames := 0, cells := 0, slots := 0, locals := 0 } : Room).cells ({ frames := 0, cells := 0, slots := 0, locals := 0 } : Room).slots) := by
  refine MetFree.of_bodySF (plainFor_of_name pntv) hisR ?_
  intro p e s m args below meth c s₁ Bd hml0 hP hK
  obtain ⟨rfl, hZ, hh⟩ := hP
  have hx := Bd.exec
  have hby := Bd.bytes
  have hml : c.maxLocals = 1 := hml0
  have hown : s.vm.findClass "com/example/shallow_history/shallowhistory/policy/LiteralEqualsPinLaw" = some m.cls := findClass_of_methodNamed Bd.named
  have hnm := (name_of_methodNamed Bd.named Bd.method).1
  have hlk : meth.locks = false := BodyLoose.notSynchronized Bd
  have X0 : Stand p l e ({ frames := 0, cells := 0, slots := 0, locals := 0 } : Room) s m #[(.int p0)] below meth c s₁ [] 0 0 := Stand.of_body Bd
  have e0 : s₁.heap = h0 := by rw [← hh, Bd.state]; rfl
  have N0 := Fr.nil n0
  suffices hmain : own_Ends p e below s (Qtv Z p0 w_TRUE w_FALSE w_UNDEFINED h0 n0) 0 0 (s₁.setTop (mkF m 0 #[.val (.int p0)] [])) by
    obtain ⟨U, o, h1, r⟩ := hmain
    exact ⟨U, o, castTop (eftv m p0) h1, r⟩
  show own_Ends _ _ _ _ _ _ _ (s₁.setTop (mkF m 0 #[.val (.int p0)] []))
  refine own_go (fun _ k => XS.iloadN X0.here hx rfl (hb hby dtv_0) rfl k) ?_
  show own_Ends _ _ _ _ _ _ _ (s₁.setTop (mkF m 1 #[.val (.int p0)] [(.int p0)]))
  by_cases hc1 : p0 = (0 : Int32)
  · refine own_go (fun _ k => XS.ifNo X0.here hx rfl (hb hby dtv_1) rfl ((if0 _ _).trans (teq hc1).2) k) ?_
    show own_Ends _ _ _ _ _ _ _ (s₁.setTop (mkF m 4 #[.val (.int p0)] []))
    obtain ⟨T2, X2, e2, st2⟩ := getS2 X0 hx hZ hown (host := "") (Or.inl (hw _ (List.mem_of_getElem? (i := 4) rfl))) Via.refl e0 (Sta.ext (own_ext O0) S_TRUE) (g := (mkF m 4 #[.val (.int p0)] [])) rfl (hb hby dtv_4)
    refine own_go (fun _ k => st2 _ k) ?_
    show own_Ends _ _ _ _ _ _ _ (T2.setTop (mkF m 7 #[.val (.int p0)] [(.ref w_TRUE)]))
    exact own_retA X2 hx hlk Bd.returns rfl rfl rfl (hb hby dtv_7) (by decide) (by decide) ⟨w_TRUE, rfl, ((if_pos hc1)).symm, (by rw [e2]; exact Exa.ext (own_ext O0) EZ_TRUE), N0, e2⟩
  · refine own_go (fun _ k => XS.ifYes X0.here hx rfl (pc0 := 1) (pc' := 8) rfl (hb hby dtv_1) rfl ((if0 _ _).trans (feq hc1).2) (by decide) (by decide) k) ?_
    show own_Ends _ _ _ _ _ _ _ (s₁.setTop (mkF m 8 #[.val (.int p0)] []))
    refine own_go (fun _ k => XS.iloadN X0.here hx rfl (hb hby dtv_8) rfl k) ?_
    show own_Ends _ _ _ _ _ _ _ (s₁.setTop (mkF m 9 #[.val (.int p0)] [(.int p0)]))
    refine own_go (fun _ k => XS.iconst X0.here hx rfl (hb hby dtv_9) k) ?_
    show own_Ends _ _ _ _ _ _ _ (s₁.setTop (mkF m 10 #[.val (.int p0)] [(.int (1 : Int32)), (.int p0)]))
    by_cases hc3 : p0 = (1 : Int32)
    · refine own_go (fun _ k => XS.icmpNo X0.here hx rfl (hb hby dtv_10) rfl (teq hc3).2 k) ?_
      show own_Ends _ _ _ _ _ _ _ (s₁.setTop (mkF m 13 #[.val (.int p0)] []))
      obtain ⟨T4, X4, e4, st4⟩ := getS2 X0 hx hZ hown (host := "") (Or.inl (hw _ (List.mem_of_getElem? (i := 80) rfl))) Via.refl e0 (Sta.ext (own_ext O0) S_FALSE) (g := (mkF m 13 #[.val (.int p0)] [])) rfl (hb hby dtv_13)
      refine own_go (fun _ k => st4 _ k) ?_
      show own_Ends _ _ _ _ _ _ _ (T4.setTop (mkF m 16 #[.val (.int p0)] [(.ref w_FALSE)]))
      exact own_retA X4 hx hlk Bd.returns rfl rfl rfl (hb hby dtv_16) (by decide) (by decide) ⟨w_FALSE, rfl, (((if_neg hc1).trans (if_pos hc3))).symm, (by rw [e4]; exact Exa.ext (own_ext O0) EZ_FALSE), N0, e4⟩
    · refine own_go (fun _ k => XS.icmpYes X0.here hx rfl (pc0 := 10) (pc' := 17) rfl (hb hby dtv_10) rfl (feq hc3).2 (by decide) (by decide) k) ?_
      show own_Ends _ _ _ _ _ _ _ (s₁.setTop (mkF m 17 #[.val (.int p0)] []))
      obtain ⟨T5, X5, e5, st5⟩ := getS2 X0 hx hZ hown (host := "") (Or.inl (hw _ (List.mem_of_getElem? (i := 96) rfl))) Via.refl e0 (Sta.ext (own_ext O0) S_UNDEFINED) (g := (mkF m 17 #[.val (.int p0)] [])) rfl (hb hby dtv_17)
      refine own_go (fun _ k => st5 _ k) ?_
      show own_Ends _ _ _ _ _ _ _ (T5.setTop (mkF m 20 #[.val (.int p0)] [(.ref w_UNDEFINED)]))
      exact own_retA X5 hx hlk Bd.returns rfl rfl rfl (hb hby dtv_20) (by decide) (by decide) ⟨w_UNDEFINED, rfl, (((if_neg hc1).trans (if_neg hc3))).symm, (by rw [e5]; exact Exa.ext (own_ext O0) EZ_UNDEFINED), N0, e5⟩
theorem drnn_0 : decode jdk_31_method_11_code 0 = .ok (.aload_n 0, 1) := by decide +kernel
theorem drnn_1 : decode jdk_31_method_11_code 1 = .ok (.ifnonnull 12, 3) := by decide +kernel
theorem drnn_13 : decode jdk_31_method_11_code 13 = .ok (.aload_n 0, 1) := by decide +kernel
theorem drnn_14 : decode jdk_31_method_11_code 14 = .ok (.areturn, 1) := by decide +kernel
theorem pnrnn : plainName "java/util/Objects" = true := by first | (simp [plainName, overriddenIn]; done) | decide +kernel
theorem efrnn (m : MethodId) (a0 : Addr) (a1 : Addr) : entryFrame m #[(.ref a0), (.ref a1)] 2 = mkF m 0 #[.val (.ref a0), .val (.ref a1)] [] := by first | (simp [entryFrame, mkF, argsToLocals, Value.category]; done) | rfl
def Qrnn (Z : State) (a0 : Addr) (a1 : Addr) (h0 : Heap) (n0 : Nat) (v : Option Value) (h : Heap) (L : List Loc) : Prop := v = some (.ref a0) ∧ Fr n0 L ∧ h = h0
set_option maxRecDepth 65536 in
set_option maxHeartbeats 40000000 in
theorem rmrnn (l : Launch) (Z : State) (ar : Array Value) (hw : ∀ d ∈ tables_1, d.before ar Z = true) (ws : List Jvm.Cond) (a0 : Addr) (a1 : Addr) (h0 : Heap) (n0 : Nat) (O0 : Old Z n0 h0) :
    MetFree l (⟨"java/util/Objects", "requireNonNull", "(Ljava/lang/Object;Ljava/lang/String;)Ljava/lang/Object;"⟩ : MethodName) (head1 (Jvm.Cond.code (⟨"java/util/Objects", "requireNonNull", "(Ljava/lang/Object;Ljava/lang/String;)Ljava/lang/Object;"⟩ : MethodName) jdk_31_method_11_code 2 (some (.object "java/lang/Object")) :: ws) ({ frames := 0, cells := 0, slots := 0, locals := 0 } : Room)) (fun a U => a = #[(.ref a0), (.ref a1)] ∧ Z.Warmed39 U.vm ∧ U.heap = h0) (fun _ _ _ _ _ => True) (fun _ U o U' => ∃ v L, o = .returned v ∧ Qrnn Z a0 a1 h0 n0 v U'.heap L ∧ FrameEnd U o U' L ({ frames := 0, cells := 0, slots := 0, locals := 0 } : Room).cells ({ frames := 0, cells := 0, slots := 0, locals := 0 } : Room).slots) := by
  refine MetFree.of_bodySF (plainFor_of_name pnrnn) hisR ?_
  intro p e s m args below meth c s₁ Bd hml0 hP hK
  obtain ⟨rfl, hZ, hh⟩ := hP
  have hx := Bd.exec
  have hby := Bd.bytes
  have hml : c.maxLocals = 2 := hml0
  have hown : s.vm.findClass "java/util/Objects" = some m.cls := findClass_of_methodNamed Bd.named
  have hnm := (name_of_methodNamed Bd.named Bd.method).1
  have hlk : meth.locks = false := BodyLoose.notSynchronized Bd
  have X0 : Stand p l e ({ frames := 0, cells := 0, slots := 0, locals := 0 } : Room) s m #[(.ref a0), (.ref a1)] below meth c s₁ [] 0 0 := Stand.of_body Bd
  have e0 : s₁.heap = h0 := by rw [← hh, Bd.state]; rfl
  have N0 := Fr.nil n0
  suffices hmain : own_Ends p e below s (Qrnn Z a0 a1 h0 n0) 0 0 (s₁.setTop (mkF m 0 #[.val (.ref a0), .val (.ref a1)] [])) by
    obtain ⟨U, o, h1, r⟩ := hmain
    exact ⟨U, o, castTop (efrnn m a0 a1) h1, r⟩
  show own_Ends _ _ _ _ _ _ _ (s₁.setTop (mkF m 0 #[.val (.ref a0), .val (.ref a1)] []))
  refine own_go (fun _ k => XS.aloadN X0.here hx rfl (hb hby drnn_0) rfl rfl k) ?_
  show own_Ends _ _ _ _ _ _ _ (s₁.setTop (mkF m 1 #[.val (.ref a0), .val (.ref a1)] [(.ref a0)]))
  refine own_go (fun _ k => XS.ifnonnullYes X0.here hx rfl (pc0 := 1) (pc' := 13) rfl (hb hby drnn_1) rfl (by decide) (by decide) k) ?_
  show own_Ends _ _ _ _ _ _ _ (s₁.setTop (mkF m 13 #[.val (.ref a0), .val (.ref a1)] []))
  refine own_go (fun _ k => XS.aloadN X0.here hx rfl (hb hby drnn_13) rfl rfl k) ?_
  show own_Ends _ _ _ _ _ _ _ (s₁.setTop (mkF m 14 #[.val (.ref a0), .val (.ref a1)] [(.ref a0)]))
  exact own_retA X0 hx hlk Bd.returns rfl rfl rfl (hb hby drnn_14) (by decide) (by decide) ⟨rfl, N0, e0⟩
theorem dlii_0 : decode prog_18_method_2_code 0 = .ok (.aload_n 0, 1) := by decide +kernel
theorem dlii_1 : decode prog_18_method_2_code 1 = .ok (.invokespecial 46, 3) := by decide +kernel
theorem dlii_4 : decode prog_18_method_2_code 4 = .ok (.aload_n 0, 1) := by decide +kernel
theorem dlii_5 : decode prog_18_method_2_code 5 = .ok (.aload_n 1, 1) := by decide +kernel
theorem dlii_6 : decode prog_18_method_2_code 6 = .ok (.ldc 51, 2) := by decide +kernel
theorem dlii_8 : decode prog_18_method_2_code 8 = .ok (.invokestatic 53, 3) := by decide +kernel
theorem dlii_11 : decode prog_18_method_2_code 11 = .ok (.checkcast 4, 3) := by decide +kernel
theorem dlii_14 : decode prog_18_method_2_code 14 = .ok (.putfield 59, 3) := by decide +kernel
theorem dlii_17 : decode prog_18_method_2_code 17 = .ok (.aload_n 0, 1) := by decide +kernel
theorem dlii_18 : decode prog_18_method_2_code 18 = .ok (.aload_n 2, 1) := by decide +kernel
theorem dlii_19 : decode prog_18_method_2_code 19 = .ok (.ldc 63, 2) := by decide +kernel
theorem dlii_21 : decode prog_18_method_2_code 21 = .ok (.invokestatic 53, 3) := by decide +kernel
theorem dlii_24 : decode prog_18_method_2_code 24 = .ok (.checkcast 10, 3) := by decide +kernel
theorem dlii_27 : decode prog_18_method_2_code 27 = .ok (.putfield 65, 3) := by decide +kernel
theorem dlii_30 : decode prog_18_method_2_code 30 = .ok (.return_, 1) := by decide +kernel
theorem pnlii : plainName "com/example/shallow_history/shallowhistory/policy/Literal" = true := by first | (simp [plainName, overriddenIn]; done) | decide +kernel
theorem pdlii_0 : parseMethodDescriptor "(Ljava/lang/Object;Ljava/lang/String;)Ljava/lang/Object;" = some ⟨[(.object "java/lang/Object"), (.object "java/lang/String")], some (.object "java/lang/Object")⟩ := by decide +kernel
theorem eflii (m : MethodId) (a0 : Addr) (a1 : Addr) (a2 : Addr) : entryFrame m #[(.ref a0), (.ref a1), (.ref a2)] 3 = mkF m 0 #[.val (.ref a0), .val (.ref a1), .val (.ref a2)] [] := by first | (simp [entryFrame, mkF, argsToLocals, Value.category]; done) | rfl
def Qlii (Z : State) (a0 : Addr) (a1 : Addr) (a2 : Addr) (h0 : Heap) (n0 : Nat) (v : Option Value) (h : Heap) (L : List Loc) : Prop := v = none ∧ Fr n0 L ∧ Keep h0 h [a0] ∧ Exa Z h a0 "com/example/shallow_history/shallowhistory/policy/Literal" ∧ Fld Z h a0 "com/example/shallow_history/shallowhistory/policy/Literal" "variable" "Ljava/lang/String;" (.ref a1) ∧ Fld Z h a0 "com/example/shallow_history/shallowhistory/policy/Literal" "value" "Lcom/example/shallow_history/shallowhistory/policy/TruthValue;" (.ref a2)
set_option maxRecDepth 65536 in
set_option maxHeartbeats 40000000 in
theorem rmlii (l : Launch) (Z : State) (ar : Array Value) (hw : ∀ d ∈ tables_1, d.before ar Z = true) (ws : List Jvm.Cond) (a0 : Addr) (a1 : Addr) (a2 : Addr) (h0 : Heap) (n0 : Nat) (O0 : Old Z n0 h0) (E_a0 : Exa Z h0 a0 "com/example/shallow_history/shallowhistory/policy/Literal") (g_a0 : n0 ≤ a0) (F_variable_a0 : Fld Z h0 a0 "com/example/shallow_history/shallowhistory/policy/Literal" "variable" "Ljava/lang/String;" .null) (F_value_a0 : Fld Z h0 a0 "com/example/shallow_history/shallowhistory/policy/Literal" "value" "Lcom/example/shallow_history/shallowhistory/policy/TruthValue;" .null) (E_a1 : Exa Z h0 a1 "java/lang/String") (E_a2 : Exa Z h0 a2 "com/example/shallow_history/shallowhistory/policy/TruthValue") :
    MetFree l (⟨"com/example/shallow_history/shallowhistory/policy/Literal", "<init>", "(Ljava/lang/String;Lcom/example/shallow_history/shallowhistory/policy/TruthValue;)V"⟩ : MethodName) (head1 (Jvm.Cond.code (⟨"com/example/shallow_history/shallowhistory/policy/Literal", "<init>", "(Ljava/lang/String;Lcom/example/shallow_history/shallowhistory/policy/TruthValue;)V"⟩ : MethodName) prog_18_method_2_code 3 none :: ws) ({ frames := 1, cells := 4, slots := 100, locals := 14 } : Room)) (fun a U => a = #[(.ref a0), (.ref a1), (.ref a2)] ∧ Z.Warmed39 U.vm ∧ U.heap = h0 ∧ CHv Z consts_1 U.vm h0) (fun _ _ _ _ _ => True) (fun _ U o U' => ∃ v L, o = .returned v ∧ Qlii Z a0 a1 a2 h0 n0 v U'.heap L ∧ CHr Z consts_1 U.vm U.heap U'.vm U'.heap ∧ ReturnedEndW U o U' L ({ frames := 1, cells := 4, slots := 100, locals := 14 } : Room).cells ({ frames := 1, cells := 4, slots := 100, locals := 14 } : Room).slots) := by
  refine MetFree.of_bodySF (plainFor_of_name pnlii) hisR ?_
  intro p e s m args below meth c s₁ Bd hml0 hP hK
  obtain ⟨rfl, hZ, hh, hCH⟩ := hP
  have hx := Bd.exec
  have hby := Bd.bytes
  have hml : c.maxLocals = 3 := hml0
  have hown : s.vm.findClass "com/example/shallow_history/shallowhistory/policy/Literal" = some m.cls := findClass_of_methodNamed Bd.named
  have hnm := (name_of_methodNamed Bd.named Bd.method).1
  have hlk : meth.locks = false := BodyLoose.notSynchronized Bd
  have X0 : Stand p l e ({ frames := 1, cells := 4, slots := 100, locals := 14 } : Room) (s.setVm s.vm) m #[(.ref a0), (.ref a1), (.ref a2)] below meth c s₁ [] 0 0 := Stand.of_body Bd
  have e0 : s₁.heap = h0 := by rw [← hh, Bd.state]; rfl
  have N0 := Fr.nil n0
  have Wd0 : own_Wd s Z consts_1 s.vm h0 := own_Wd.start hh hCH
  suffices hmain : own_EndsW p e below s Z consts_1 (Qlii Z a0 a1 a2 h0 n0) 4 100 (s₁.setTop (mkF m 0 #[.val (.ref a0), .val (.ref a1), .val (.ref a2)] [])) by
    obtain ⟨U, o, h1, r⟩ := hmain
    exact ⟨U, o, castTop (eflii m a0 a1 a2) h1, r⟩
  show own_EndsW _ _ _ _ _ _ _ _ _ (s₁.setTop (mkF m 0 #[.val (.ref a0), .val (.ref a1), .val (.ref a2)] []))
  refine own_goW (fun _ k => XS.aloadN X0.here hx rfl (hb hby dlii_0) rfl rfl k) ?_
  show own_EndsW _ _ _ _ _ _ _ _ _ (s₁.setTop (mkF m 1 #[.val (.ref a0), .val (.ref a1), .val (.ref a2)] [(.ref a0)]))
  obtain ⟨T1, X1, e1, st1⟩ := initO X0 hx hZ hown (hw _ (List.mem_of_getElem? (i := 46) rfl)) (hw _ (List.mem_of_getElem? (i := 25) rfl)) (hw _ (List.mem_of_getElem? (i := 26) rfl)) e0 (g := (mkF m 1 #[.val (.ref a0), .val (.ref a1), .val (.ref a2)] [(.ref a0)])) rfl (by rw [hml]; rfl) rfl (hb hby dlii_1) (by decide) (W := 0) (by show 2 * 0 + _ ≤ _; exact Nat.le_of_eq rfl) (by decide)
  refine own_goW (fun _ k => st1 _ k) ?_
  show own_EndsW _ _ _ _ _ _ _ _ _ (T1.setTop (mkF m 4 #[.val (.ref a0), .val (.ref a1), .val (.ref a2)] []))
  refine own_goW (fun _ k => XS.aloadN X1.here hx rfl (hb hby dlii_4) rfl rfl k) ?_
  show own_EndsW _ _ _ _ _ _ _ _ _ (T1.setTop (mkF m 5 #[.val (.ref a0), .val (.ref a1), .val (.ref a2)] [(.ref a0)]))
  refine own_goW (fun _ k => XS.aloadN X1.here hx rfl (hb hby dlii_5) rfl rfl k) ?_
  show own_EndsW _ _ _ _ _ _ _ _ _ (T1.setTop (mkF m 6 #[.val (.ref a0), .val (.ref a1), .val (.ref a2)] [(.ref a1), (.ref a0)]))
  obtain ⟨b2, T2, h2, X2, e2, E2, Wd2, hZ, hown, st2⟩ := own_ldcO X1 hx hZ hown (hw _ (List.mem_of_getElem? (i := 47) rfl)) (own_SA hw) e1 Wd0 (own_EW hw) (g := (mkF m 6 #[.val (.ref a0), .val (.ref a1), .val (.ref a2)] [(.ref a1), (.ref a0)])) rfl (hb hby dlii_6) (n := 52) (by first | decide | decide +kernel) (by decide) (by decide) (by decide)
  refine own_goW (fun _ k => st2 _ k) ?_
  have F3 : Exa Z h2 a0 "com/example/shallow_history/shallowhistory/policy/Literal" := (Exa.ext E2 E_a0)
  have F4 : Fld Z h2 a0 "com/example/shallow_history/shallowhistory/policy/Literal" "variable" "Ljava/lang/String;" .null := (Fld.ext E2 F_variable_a0)
  have F5 : Fld Z h2 a0 "com/example/shallow_history/shallowhistory/policy/Literal" "value" "Lcom/example/shallow_history/shallowhistory/policy/TruthValue;" .null := (Fld.ext E2 F_value_a0)
  have F6 : Exa Z h2 a1 "java/lang/String" := (Exa.ext E2 E_a1)
  have F7 : Exa Z h2 a2 "com/example/shallow_history/shallowhistory/policy/TruthValue" := (Exa.ext E2 E_a2)
  have F8 : Old Z n0 h2 := (O0.ext E2)
  have K9 : Keep h0 h2 [a0] := (Keep.refl h0 [a0]).ext E2
  show own_EndsW _ _ _ _ _ _ _ _ _ (T2.setTop (mkF m 8 #[.val (.ref a0), .val (.ref a1), .val (.ref a2)] [(.ref b2), (.ref a1), (.ref a0)]))
  obtain ⟨_, _, ⟨T10, L10, k10, n10⟩, -, X10, ⟨Lc10, hQ10, l10, y10, z10⟩, st10⟩ := Jvm.LawKit.callS X2 hx (y := (⟨"java/util/Objects", "requireNonNull", "(Ljava/lang/Object;Ljava/lang/String;)Ljava/lang/Object;"⟩ : MethodName)) hown (mvT hZ (hw _ (List.mem_of_getElem? (i := 50) rfl))) (mvT hZ (hw _ (List.mem_of_getElem? (i := 51) rfl))) (mvT hZ (hw _ (List.mem_of_getElem? (i := 52) rfl))) (mvT hZ (hw _ (List.mem_of_getElem? (i := 53) rfl))) (by decide) (backOf (W := 1) (rmrnn l Z ar hw [] a1 b2 h2 n0 F8) hZ (hw _ (List.mem_of_getElem? (i := 53) rfl)) (hw _ (List.mem_of_getElem? (i := 52) rfl)) (by decide) (by decide)) (g := (mkF m 8 #[.val (.ref a0), .val (.ref a1), .val (.ref a2)] [(.ref b2), (.ref a1), (.ref a0)])) rfl (by rw [hml]; rfl) (argsL := [(.ref a1), (.ref b2)]) (rest := [(.ref a0)]) (lenOf pdlii_0 rfl) rfl (by show 2 * 0 + _ ≤ _; exact Nat.le_of_eq rfl) (hb hby dlii_8) (fun _ _ => ⟨rfl, e2, (by decide : 2 + 0 ≤ _), (by decide : 56 + 0 ≤ _)⟩)
  dsimp only [Pt.U, Pt.locs, Pt.cells, Pt.slots] at X10 l10 y10 z10 st10 hQ10
  subst l10 y10 z10
  obtain ⟨rfl, N10q, eq10⟩ := hQ10
  have e10 : T10.heap = h2 := eq10
  have N10 := Fr.app N0 N10q
  refine own_goW (fun _ k => st10 _ k) ?_
  show own_EndsW _ _ _ _ _ _ _ _ _ (T10.setTop (mkF m 11 #[.val (.ref a0), .val (.ref a1), .val (.ref a2)] [(.ref a1), (.ref a0)]))
  obtain ⟨T11, X11, e11, st11⟩ := castY X10 hx hZ hown (hw _ (List.mem_of_getElem? (i := 54) rfl)) e10 (Ins.self F6) (g := (mkF m 11 #[.val (.ref a0), .val (.ref a1), .val (.ref a2)] [(.ref a1), (.ref a0)])) rfl rfl (hb hby dlii_11)
  refine own_goW (fun _ k => st11 _ k) ?_
  show own_EndsW _ _ _ _ _ _ _ _ _ (T11.setTop (mkF m 14 #[.val (.ref a0), .val (.ref a1), .val (.ref a2)] [(.ref a1), (.ref a0)]))
  obtain ⟨T12, h12, X12, e12, W12, st12⟩ := putF X11 hx hZ hown (host := "") (Or.inl (hw _ (List.mem_of_getElem? (i := 55) rfl))) Via.refl e11 F4 F3 (Or.inr ⟨(hw _ (List.mem_of_getElem? (i := 56) rfl)), rfl, hnm⟩) (hw _ (List.mem_of_getElem? (i := 8) rfl)) (ty := (.object "java/lang/String")) (by decide) rfl rfl (g := (mkF m 14 #[.val (.ref a0), .val (.ref a1), .val (.ref a2)] [(.ref a1), (.ref a0)])) rfl rfl (hb hby dlii_14)
  refine own_goW (fun _ k => st12 _ k) ?_
  have N12 := Fr.snoc X12 N10 g_a0
  have Wd12 : own_Wd s Z consts_1 T2.vm h12 := Wd2.wr W12 (Safe.exa hZ.alike F3 (by decide) (by decide))
  have F13 : Exa Z h12 a0 "com/example/shallow_history/shallowhistory/policy/Literal" := (Exa.wr W12 F3)
  have F14 : Fld Z h12 a0 "com/example/shallow_history/shallowhistory/policy/Literal" "value" "Lcom/example/shallow_history/shallowhistory/policy/TruthValue;" .null := (Fld.other W12 F5 (Or.inr (slot_ne (Or.inr (hw _ (List.mem_of_getElem? (i := 61) rfl))) (Or.inr (hw _ (List.mem_of_getElem? (i := 56) rfl))) (by decide) (t := (.object "com/example/shallow_history/shallowhistory/policy/TruthValue")) (t' := (.object "java/lang/String")) (by decide) (by decide))))
  have F15 : Exa Z h12 a1 "java/lang/String" := (Exa.wr W12 F6)
  have F16 : Exa Z h12 a2 "com/example/shallow_history/shallowhistory/policy/TruthValue" := (Exa.wr W12 F7)
  have F17 : Old Z n0 h12 := (F8.wr W12 g_a0)
  have F18 : Fld Z h12 a0 "com/example/shallow_history/shallowhistory/policy/Literal" "variable" "Ljava/lang/String;" (.ref a1) := Fld.same W12 F4
  have K19 : Keep h0 h12 [a0] := K9.wr W12 (Or.inl (List.mem_of_getElem? (i := 0) rfl))
  show own_EndsW _ _ _ _ _ _ _ _ _ (T12.setTop (mkF m 17 #[.val (.ref a0), .val (.ref a1), .val (.ref a2)] []))
  refine own_goW (fun _ k => XS.aloadN X12.here hx rfl (hb hby dlii_17) rfl rfl k) ?_
  show own_EndsW _ _ _ _ _ _ _ _ _ (T12.setTop (mkF m 18 #[.val (.ref a0), .val (.ref a1), .val (.ref a2)] [(.ref a0)]))
  refine own_goW (fun _ k => XS.aloadN X12.here hx rfl (hb hby dlii_18) rfl rfl k) ?_
  show own_EndsW _ _ _ _ _ _ _ _ _ (T12.setTop (mkF m 19 #[.val (.ref a0), .val (.ref a1), .val (.ref a2)] [(.ref a2), (.ref a0)]))
  obtain ⟨b20, T20, h20, X20, e20, E20, Wd20, hZ, hown, st20⟩ := own_ldcO X12 hx hZ hown (hw _ (List.mem_of_getElem? (i := 57) rfl)) (own_SA hw) e12 Wd12 (own_EW hw) (g := (mkF m 19 #[.val (.ref a0), .val (.ref a1), .val (.ref a2)] [(.ref a2), (.ref a0)])) rfl (hb hby dlii_19) (n := 40) (by first | decide | decide +kernel) (by decide) (by decide) (by decide)
  refine own_goW (fun _ k => st20 _ k) ?_
  have F21 : Exa Z h20 a0 "com/example/shallow_history/shallowhistory/policy/Literal" := (Exa.ext E20 F13)
  have F22 : Fld Z h20 a0 "com/example/shallow_history/shallowhistory/policy/Literal" "variable" "Ljava/lang/String;" (.ref a1) := (Fld.ext E20 F18)
  have F23 : Fld Z h20 a0 "com/example/shallow_history/shallowhistory/policy/Literal" "value" "Lcom/example/shallow_history/shallowhistory/policy/TruthValue;" .null := (Fld.ext E20 F14)
  have F24 : Exa Z h20 a1 "java/lang/String" := (Exa.ext E20 F15)
  have F25 : Exa Z h20 a2 "com/example/shallow_history/shallowhistory/policy/TruthValue" := (Exa.ext E20 F16)
  have F26 : Old Z n0 h20 := (F17.ext E20)
  have K27 : Keep h0 h20 [a0] := K19.ext E20
  show own_EndsW _ _ _ _ _ _ _ _ _ (T20.setTop (mkF m 21 #[.val (.ref a0), .val (.ref a1), .val (.ref a2)] [(.ref b20), (.ref a2), (.ref a0)]))
  obtain ⟨_, _, ⟨T28, L28, k28, n28⟩, -, X28, ⟨Lc28, hQ28, l28, y28, z28⟩, st28⟩ := Jvm.LawKit.callS X20 hx (y := (⟨"java/util/Objects", "requireNonNull", "(Ljava/lang/Object;Ljava/lang/String;)Ljava/lang/Object;"⟩ : MethodName)) hown (mvT hZ (hw _ (List.mem_of_getElem? (i := 50) rfl))) (mvT hZ (hw _ (List.mem_of_getElem? (i := 51) rfl))) (mvT hZ (hw _ (List.mem_of_getElem? (i := 52) rfl))) (mvT hZ (hw _ (List.mem_of_getElem? (i := 53) rfl))) (by decide) (backOf (W := 1) (rmrnn l Z ar hw [] a2 b20 h20 n0 F26) hZ (hw _ (List.mem_of_getElem? (i := 53) rfl)) (hw _ (List.mem_of_getElem? (i := 52) rfl)) (by decide) (by decide)) (g := (mkF m 21 #[.val (.ref a0), .val (.ref a1), .val (.ref a2)] [(.ref b20), (.ref a2), (.ref a0)])) rfl (by rw [hml]; rfl) (argsL := [(.ref a2), (.ref b20)]) (rest := [(.ref a0)]) (lenOf pdlii_0 rfl) rfl (by show 2 * 0 + _ ≤ _; exact Nat.le_of_eq rfl) (hb hby dlii_21) (fun _ _ => ⟨rfl, e20, (by decide : 4 + 0 ≤ _), (by decide : 100 + 0 ≤ _)⟩)
  dsimp only [Pt.U, Pt.locs, Pt.cells, Pt.slots] at X28 l28 y28 z28 st28 hQ28
  subst l28 y28 z28
  obtain ⟨rfl, N28q, eq28⟩ := hQ28
  have e28 : T28.heap = h20 := eq28
  have N28 := Fr.app N12 N28q
  refine own_goW (fun _ k => st28 _ k) ?_
  show own_EndsW _ _ _ _ _ _ _ _ _ (T28.setTop (mkF m 24 #[.val (.ref a0), .val (.ref a1), .val (.ref a2)] [(.ref a2), (.ref a0)]))
  obtain ⟨T29, X29, e29, st29⟩ := castY X28 hx hZ hown (hw _ (List.mem_of_getElem? (i := 58) rfl)) e28 (Ins.self F25) (g := (mkF m 24 #[.val (.ref a0), .val (.ref a1), .val (.ref a2)] [(.ref a2), (.ref a0)])) rfl rfl (hb hby dlii_24)
  refine own_goW (fun _ k => st29 _ k) ?_
  show own_EndsW _ _ _ _ _ _ _ _ _ (T29.setTop (mkF m 27 #[.val (.ref a0), .val (.ref a1), .val (.ref a2)] [(.ref a2), (.ref a0)]))
  obtain ⟨T30, h30, X30, e30, W30, st30⟩ := putF X29 hx hZ hown (host := "") (Or.inl (hw _ (List.mem_of_getElem? (i := 60) rfl))) Via.refl e29 F23 F21 (Or.inr ⟨(hw _ (List.mem_of_getElem? (i := 61) rfl)), rfl, hnm⟩) (hw _ (List.mem_of_getElem? (i := 8) rfl)) (ty := (.object "com/example/shallow_history/shallowhistory/policy/TruthValue")) (by decide) rfl rfl (g := (mkF m 27 #[.val (.ref a0), .val (.ref a1), .val (.ref a2)] [(.ref a2), (.ref a0)])) rfl rfl (hb hby dlii_27)
  refine own_goW (fun _ k => st30 _ k) ?_
  have N30 := Fr.snoc X30 N28 g_a0
  have Wd30 : own_Wd s Z consts_1 T20.vm h30 := Wd20.wr W30 (Safe.exa hZ.alike F21 (by decide) (by decide))
  have F31 : Exa Z h30 a0 "com/example/shallow_history/shallowhistory/policy/Literal" := (Exa.wr W30 F21)
  have F32 : Fld Z h30 a0 "com/example/shallow_history/shallowhistory/policy/Literal" "variable" "Ljava/lang/String;" (.ref a1) := (Fld.other W30 F22 (Or.inr (slot_ne (Or.inr (hw _ (List.mem_of_getElem? (i := 56) rfl))) (Or.inr (hw _ (List.mem_of_getElem? (i := 61) rfl))) (by decide) (t := (.object "java/lang/String")) (t' := (.object "com/example/shallow_history/shallowhistory/policy/TruthValue")) (by decide) (by decide))))
  have F33 : Exa Z h30 a1 "java/lang/String" := (Exa.wr W30 F24)
  have F34 : Exa Z h30 a2 "com/example/shallow_history/shallowhistory/policy/TruthValue" := (Exa.wr W30 F25)
  have F35 : Old Z n0 h30 := (F26.wr W30 g_a0)
  have F36 : Fld Z h30 a0 "com/example/shallow_history/shallowhistory/policy/Literal" "value" "Lcom/example/shallow_history/shallowhistory/policy/TruthValue;" (.ref a2) := Fld.same W30 F23
  have K37 : Keep h0 h30 [a0] := K27.wr W30 (Or.inl (List.mem_of_getElem? (i := 0) rfl))
  show own_EndsW _ _ _ _ _ _ _ _ _ (T30.setTop (mkF m 30 #[.val (.ref a0), .val (.ref a1), .val (.ref a2)] []))
  exact own_retVW X30 hx hlk e30 Wd30 hZ (own_EW hw) Bd.returns (hb hby dlii_30) (by decide) (by decide) (by rw [e30]; exact ⟨rfl, N30, K37, F31, F32, F36⟩)
theorem dleN_0 : decode prog_18_method_6_code 0 = .ok (.aload_n 1, 1) := by decide +kernel
theorem dleN_1 : decode prog_18_method_6_code 1 = .ok (.instanceof 41, 3) := by decide +kernel
theorem dleN_4 : decode prog_18_method_6_code 4 = .ok (.ifCond .eq 37, 3) := by decide +kernel
theorem dleN_41 : decode prog_18_method_6_code 41 = .ok (.iconst 0, 1) := by decide +kernel
theorem dleN_42 : decode prog_18_method_6_code 42 = .ok (.ireturn, 1) := by decide +kernel
theorem pnleN : plainName "com/example/shallow_history/shallowhistory/policy/Literal" = true := by first | (simp [plainName, overriddenIn]; done) | decide +kernel
theorem efleN (m : MethodId) (a0 : Addr) : entryFrame m #[(.ref a0), .null] 3 = mkF m 0 #[.val (.ref a0), .val .null, .unset] [] := by first | (simp [entryFrame, mkF, argsToLocals, Value.category]; done) | rfl
def QleN (Z : State) (a0 : Addr) (h0 : Heap) (n0 : Nat) (v : Option Value) (h : Heap) (L : List Loc) : Prop := v = some (.int (0 : Int32)) ∧ Fr n0 L ∧ h = h0
set_option maxRecDepth 65536 in
set_option maxHeartbeats 40000000 in
theorem rmleN (l : Launch) (Z : State) (ar : Array Value) (hw : ∀ d ∈ tables_1, d.before ar Z = true) (ws : List Jvm.Cond) (a0 : Addr) (h0 : Heap) (n0 : Nat) (O0 : Old Z n0 h0) :
    MetFree l (⟨"com/example/shallow_history/shallowhistory/policy/Literal", "equals", "(Ljava/lang/Object;)Z"⟩ : MethodName) (head1 (Jvm.Cond.code (⟨"com/example/shallow_history/shallowhistory/policy/Literal", "equals", "(Ljava/lang/Object;)Z"⟩ : MethodName) prog_18_method_6_code 3 (some .boolean) :: ws) ({ frames := 0, cells := 0, slots := 0, locals := 0 } : Room)) (fun a U => a = #[(.ref a0), .null] ∧ Z.Warmed39 U.vm ∧ U.heap = h0) (fun _ _ _ _ _ => True) (fun _ U o U' => ∃ v L, o = .returned v ∧ QleN Z a0 h0 n0 v U'.heap L ∧ FrameEnd U o U' L ({ frames := 0, cells := 0, slots := 0, locals := 0 } : Room).cells ({ frames := 0, cells := 0, slots := 0, locals := 0 } : Room).slots) := by
  refine MetFree.of_bodySF (plainFor_of_name pnleN) hisR ?_
  intro p e s m args below meth c s₁ Bd hml0 hP hK
  obtain ⟨rfl, hZ, hh⟩ := hP
  have hx := Bd.exec
  have hby := Bd.bytes
  have hml : c.maxLocals = 3 := hml0
  have hown : s.vm.findClass "com/example/shallow_history/shallowhistory/policy/Literal" = some m.cls := findClass_of_methodNamed Bd.named
  have hnm := (name_of_methodNamed Bd.named Bd.method).1
  have hlk : meth.locks = false := BodyLoose.notSynchronized Bd
  have X0 : Stand p l e ({ frames := 0, cells := 0, slots := 0, locals := 0 } : Room) s m #[(.ref a0), .null] below meth c s₁ [] 0 0 := Stand.of_body Bd
  have e0 : s₁.heap = h0 := by rw [← hh, Bd.state]; rfl
  have N0 := Fr.nil n0
  suffices hmain : own_Ends p e below s (QleN Z a0 h0 n0) 0 0 (s₁.setTop (mkF m 0 #[.val (.ref a0), .val .null, .unset] [])) by
    obtain ⟨U, o, h1, r⟩ := hmain
    exact ⟨U, o, castTop (efleN m a0) h1, r⟩
  show own_Ends _ _ _ _ _ _ _ (s₁.setTop (mkF m 0 #[.val (.ref a0), .val .null, .unset] []))
  refine own_go (fun _ k => XS.aloadN X0.here hx rfl (hb hby dleN_0) rfl rfl k) ?_
  show own_Ends _ _ _ _ _ _ _ (s₁.setTop (mkF m 1 #[.val (.ref a0), .val .null, .unset] [.null]))
  refine own_go (fun _ k => X0.instanceofNull hx (g := (mkF m 1 #[.val (.ref a0), .val .null, .unset] [.null])) rfl rfl (hb hby dleN_1) _ k) ?_
  show own_Ends _ _ _ _ _ _ _ (s₁.setTop (mkF m 4 #[.val (.ref a0), .val .null, .unset] [(.int (0 : Int32))]))
  refine own_go (fun _ k => XS.ifYes X0.here hx rfl (pc0 := 4) (pc' := 41) rfl (hb hby dleN_4) rfl ((if0 _ _).trans (teq (by decide)).1) (by decide) (by decide) k) ?_
  show own_Ends _ _ _ _ _ _ _ (s₁.setTop (mkF m 41 #[.val (.ref a0), .val .null, .unset] []))
  refine own_go (fun _ k => XS.iconst X0.here hx rfl (hb hby dleN_41) k) ?_
  show own_Ends _ _ _ _ _ _ _ (s₁.setTop (mkF m 42 #[.val (.ref a0), .val .null, .unset] [(.int (0 : Int32))]))
  exact own_retN X0 hx hlk (t := .boolean) Bd.returns (by simp) (hb hby dleN_42) (by decide) (by decide) ⟨rfl, N0, e0⟩
theorem dleS_0 : decode prog_18_method_6_code 0 = .ok (.aload_n 1, 1) := by decide +kernel
theorem dleS_1 : decode prog_18_method_6_code 1 = .ok (.instanceof 41, 3) := by decide +kernel
theorem dleS_4 : decode prog_18_method_6_code 4 = .ok (.ifCond .eq 37, 3) := by decide +kernel
theorem dleS_41 : decode prog_18_method_6_code 41 = .ok (.iconst 0, 1) := by decide +kernel
theorem dleS_42 : decode prog_18_method_6_code 42 = .ok (.ireturn, 1) := by decide +kernel
theorem pnleS : plainName "com/example/shallow_history/shallowhistory/policy/Literal" = true := by first | (simp [plainName, overriddenIn]; done) | decide +kernel
theorem efleS (m : MethodId) (a0 : Addr) (a1 : Addr) : entryFrame m #[(.ref a0), (.ref a1)] 3 = mkF m 0 #[.val (.ref a0), .val (.ref a1), .unset] [] := by first | (simp [entryFrame, mkF, argsToLocals, Value.category]; done) | rfl
def QleS (Z : State) (a0 : Addr) (a1 : Addr) (h0 : Heap) (n0 : Nat) (v : Option Value) (h : Heap) (L : List Loc) : Prop := v = some (.int (0 : Int32)) ∧ Fr n0 L ∧ h = h0
set_option maxRecDepth 65536 in
set_option maxHeartbeats 40000000 in
theorem rmleS (l : Launch) (Z : State) (ar : Array Value) (hw : ∀ d ∈ tables_1, d.before ar Z = true) (ws : List Jvm.Cond) (a0 : Addr) (a1 : Addr) (h0 : Heap) (n0 : Nat) (O0 : Old Z n0 h0) (E_a1 : Exa Z h0 a1 "java/lang/String") :
    MetFree l (⟨"com/example/shallow_history/shallowhistory/policy/Literal", "equals", "(Ljava/lang/Object;)Z"⟩ : MethodName) (head1 (Jvm.Cond.code (⟨"com/example/shallow_history/shallowhistory/policy/Literal", "equals", "(Ljava/lang/Object;)Z"⟩ : MethodName) prog_18_method_6_code 3 (some .boolean) :: ws) ({ frames := 0, cells := 0, slots := 0, locals := 0 } : Room)) (fun a U => a = #[(.ref a0), (.ref a1)] ∧ Z.Warmed39 U.vm ∧ U.heap = h0) (fun _ _ _ _ _ => True) (fun _ U o U' => ∃ v L, o = .returned v ∧ QleS Z a0 a1 h0 n0 v U'.heap L ∧ FrameEnd U o U' L ({ frames := 0, cells := 0, slots := 0, locals := 0 } : Room).cells ({ frames := 0, cells := 0, slots := 0, locals := 0 } : Room).slots) := by
  refine MetFree.of_bodySF (plainFor_of_name pnleS) hisR ?_
  intro p e s m args below meth c s₁ Bd hml0 hP hK
  obtain ⟨rfl, hZ, hh⟩ := hP
  have hx := Bd.exec
  have hby := Bd.bytes
  have hml : c.maxLocals = 3 := hml0
  have hown : s.vm.findClass "com/example/shallow_history/shallowhistory/policy/Literal" = some m.cls := findClass_of_methodNamed Bd.named
  have hnm := (name_of_methodNamed Bd.named Bd.method).1
  have hlk : meth.locks = false := BodyLoose.notSynchronized Bd
  have X0 : Stand p l e ({ frames := 0, cells := 0, slots := 0, locals := 0 } : Room) s m #[(.ref a0), (.ref a1)] below meth c s₁ [] 0 0 := Stand.of_body Bd
  have e0 : s₁.heap = h0 := by rw [← hh, Bd.state]; rfl
  have N0 := Fr.nil n0
  suffices hmain : own_Ends p e below s (QleS Z a0 a1 h0 n0) 0 0 (s₁.setTop (mkF m 0 #[.val (.ref a0), .val (.ref a1), .unset] [])) by
    obtain ⟨U, o, h1, r⟩ := hmain
    exact ⟨U, o, castTop (efleS m a0 a1) h1, r⟩
  show own_Ends _ _ _ _ _ _ _ (s₁.setTop (mkF m 0 #[.val (.ref a0), .val (.ref a1), .unset] []))
  refine own_go (fun _ k => XS.aloadN X0.here hx rfl (hb hby dleS_0) rfl rfl k) ?_
  show own_Ends _ _ _ _ _ _ _ (s₁.setTop (mkF m 1 #[.val (.ref a0), .val (.ref a1), .unset] [(.ref a1)]))
  obtain ⟨T1, X1, e1, st1⟩ := instNo X0 hx hZ hown (hw _ (List.mem_of_getElem? (i := 68) rfl)) e0 E_a1 (own_notInst (hw _ (List.mem_of_getElem? (i := 94) rfl)) (hw _ (List.mem_of_getElem? (i := 95) rfl)) (hw _ (List.mem_of_getElem? (i := 15) rfl)) (hw _ (List.mem_of_getElem? (i := 8) rfl)) (by decide) (by decide)) (g := (mkF m 1 #[.val (.ref a0), .val (.ref a1), .unset] [(.ref a1)])) rfl rfl (hb hby dleS_1)
  refine own_go (fun _ k => st1 _ k) ?_
  show own_Ends _ _ _ _ _ _ _ (T1.setTop (mkF m 4 #[.val (.ref a0), .val (.ref a1), .unset] [(.int (0 : Int32))]))
  refine own_go (fun _ k => XS.ifYes X1.here hx rfl (pc0 := 4) (pc' := 41) rfl (hb hby dleS_4) rfl ((if0 _ _).trans (teq (by decide)).1) (by decide) (by decide) k) ?_
  show own_Ends _ _ _ _ _ _ _ (T1.setTop (mkF m 41 #[.val (.ref a0), .val (.ref a1), .unset] []))
  refine own_go (fun _ k => XS.iconst X1.here hx rfl (hb hby dleS_41) k) ?_
  show own_Ends _ _ _ _ _ _ _ (T1.setTop (mkF m 42 #[.val (.ref a0), .val (.ref a1), .unset] [(.int (0 : Int32))]))
  exact own_retN X1 hx hlk (t := .boolean) Bd.returns (by simp) (hb hby dleS_42) (by decide) (by decide) ⟨rfl, N0, e1⟩
theorem dleM_0 : decode prog_18_method_6_code 0 = .ok (.aload_n 1, 1) := by decide +kernel
theorem dleM_1 : decode prog_18_method_6_code 1 = .ok (.instanceof 41, 3) := by decide +kernel
theorem dleM_4 : decode prog_18_method_6_code 4 = .ok (.ifCond .eq 37, 3) := by decide +kernel
theorem dleM_7 : decode prog_18_method_6_code 7 = .ok (.aload_n 1, 1) := by decide +kernel
theorem dleM_8 : decode prog_18_method_6_code 8 = .ok (.checkcast 41, 3) := by decide +kernel
theorem dleM_11 : decode prog_18_method_6_code 11 = .ok (.astore_n 2, 1) := by decide +kernel
theorem dleM_12 : decode prog_18_method_6_code 12 = .ok (.aload_n 0, 1) := by decide +kernel
theorem dleM_13 : decode prog_18_method_6_code 13 = .ok (.getfield 59, 3) := by decide +kernel
theorem dleM_16 : decode prog_18_method_6_code 16 = .ok (.aload_n 2, 1) := by decide +kernel
theorem dleM_17 : decode prog_18_method_6_code 17 = .ok (.getfield 59, 3) := by decide +kernel
theorem dleM_20 : decode prog_18_method_6_code 20 = .ok (.invokevirtual 74, 3) := by decide +kernel
theorem dleM_23 : decode prog_18_method_6_code 23 = .ok (.ifCond .eq 18, 3) := by decide +kernel
theorem dleM_26 : decode prog_18_method_6_code 26 = .ok (.aload_n 0, 1) := by decide +kernel
theorem dleM_27 : decode prog_18_method_6_code 27 = .ok (.getfield 65, 3) := by decide +kernel
theorem dleM_30 : decode prog_18_method_6_code 30 = .ok (.aload_n 2, 1) := by decide +kernel
theorem dleM_31 : decode prog_18_method_6_code 31 = .ok (.getfield 65, 3) := by decide +kernel
theorem dleM_34 : decode prog_18_method_6_code 34 = .ok (.if_acmp .ne 7, 3) := by decide +kernel
theorem dleM_37 : decode prog_18_method_6_code 37 = .ok (.iconst 1, 1) := by decide +kernel
theorem dleM_38 : decode prog_18_method_6_code 38 = .ok (.goto 4, 3) := by decide +kernel
theorem dleM_41 : decode prog_18_method_6_code 41 = .ok (.iconst 0, 1) := by decide +kernel
theorem dleM_42 : decode prog_18_method_6_code 42 = .ok (.ireturn, 1) := by decide +kernel
theorem pnleM : plainName "com/example/shallow_history/shallowhistory/policy/Literal" = true := by first | (simp [plainName, overriddenIn]; done) | decide +kernel
theorem pdleM_0 : parseMethodDescriptor "(Ljava/lang/Object;)Z" = some ⟨[(.object "java/lang/Object")], some .boolean⟩ := by decide +kernel
theorem efleM (m : MethodId) (a0 : Addr) (a1 : Addr) : entryFrame m #[(.ref a0), (.ref a1)] 3 = mkF m 0 #[.val (.ref a0), .val (.ref a1), .unset] [] := by first | (simp [entryFrame, mkF, argsToLocals, Value.category]; done) | rfl
def QleM (Z : State) (a0 : Addr) (a1 : Addr) (v_variable_a0 : Addr) (n_variable_a0 : Nat) (G_variable_a0 : Nat → Int32) (v_value_a0 : Addr) (v_variable_a1 : Addr) (n_variable_a1 : Nat) (G_variable_a1 : Nat → Int32) (v_value_a1 : Addr) (w_COMPACT_STRINGS : Int32) (h0 : Heap) (n0 : Nat) (v : Option Value) (h : Heap) (L : List Loc) : Prop := ∃ z : Int32, v = some (.int z) ∧ own_ans z (own_eq n_variable_a0 n_variable_a1 G_variable_a0 G_variable_a1 ∧ v_value_a0 = v_value_a1) ∧ Fr n0 L ∧ h = h0
set_option maxRecDepth 65536 in
set_option maxHeartbeats 40000000 in
theorem rmleM (l : Launch) (Z : State) (ar : Array Value) (hw : ∀ d ∈ tables_1, d.before ar Z = true) (ws : List Jvm.Cond) (a0 : Addr) (a1 : Addr) (v_variable_a0 : Addr) (n_variable_a0 : Nat) (G_variable_a0 : Nat → Int32) (v_value_a0 : Addr) (v_variable_a1 : Addr) (n_variable_a1 : Nat) (G_variable_a1 : Nat → Int32) (v_value_a1 : Addr) (w_COMPACT_STRINGS : Int32) (h0 : Heap) (n0 : Nat) (O0 : Old Z n0 h0) (E_a1 : Exa Z h0 a1 "com/example/shallow_history/shallowhistory/policy/Literal") (F_variable_a0 : Fld Z h0 a0 "com/example/shallow_history/shallowhistory/policy/Literal" "variable" "Ljava/lang/String;" (.ref v_variable_a0)) (T_variable_a0 : own_Str Z h0 v_variable_a0 n_variable_a0 G_variable_a0) (hl_variable_a0 : n_variable_a0 < 1000) (F_value_a0 : Fld Z h0 a0 "com/example/shallow_history/shallowhistory/policy/Literal" "value" "Lcom/example/shallow_history/shallowhistory/policy/TruthValue;" (.ref v_value_a0)) (F_variable_a1 : Fld Z h0 a1 "com/example/shallow_history/shallowhistory/policy/Literal" "variable" "Ljava/lang/String;" (.ref v_variable_a1)) (T_variable_a1 : own_Str Z h0 v_variable_a1 n_variable_a1 G_variable_a1) (hl_variable_a1 : n_variable_a1 < 1000) (F_value_a1 : Fld Z h0 a1 "com/example/shallow_history/shallowhistory/policy/Literal" "value" "Lcom/example/shallow_history/shallowhistory/policy/TruthValue;" (.ref v_value_a1)) (hCS : ¬ w_COMPACT_STRINGS = (0 : Int32)) (S_COMPACT_STRINGS : Sta Z Z.heap "java/lang/String" "COMPACT_STRINGS" "Z" (.int w_COMPACT_STRINGS)) :
    MetFree l (⟨"com/example/shallow_history/shallowhistory/policy/Literal", "equals", "(Ljava/lang/Object;)Z"⟩ : MethodName) (head1 (Jvm.Cond.code (⟨"com/example/shallow_history/shallowhistory/policy/Literal", "equals", "(Ljava/lang/Object;)Z"⟩ : MethodName) prog_18_method_6_code 3 (some .boolean) :: ws) ({ frames := 2, cells := 0, slots := 0, locals := 28 } : Room)) (fun a U => a = #[(.ref a0), (.ref a1)] ∧ Z.Warmed39 U.vm ∧ U.heap = h0) (fun _ _ _ _ _ => True) (fun _ U o U' => ∃ v L, o = .returned v ∧ QleM Z a0 a1 v_variable_a0 n_variable_a0 G_variable_a0 v_value_a0 v_variable_a1 n_variable_a1 G_variable_a1 v_value_a1 w_COMPACT_STRINGS h0 n0 v U'.heap L ∧ FrameEnd U o U' L ({ frames := 2, cells := 0, slots := 0, locals := 28 } : Room).cells ({ frames := 2, cells := 0, slots := 0, locals := 28 } : Room).slots) := by
  refine MetFree.of_bodySF (plainFor_of_name pnleM) hisR ?_
  intro p e s m args below meth c s₁ Bd hml0 hP hK
  obtain ⟨rfl, hZ, hh⟩ := hP
  have hx := Bd.exec
  have hby := Bd.bytes
  have hml : c.maxLocals = 3 := hml0
  have hown : s.vm.findClass "com/example/shallow_history/shallowhistory/policy/Literal" = some m.cls := findClass_of_methodNamed Bd.named
  have hnm := (name_of_methodNamed Bd.named Bd.method).1
  have hlk : meth.locks = false := BodyLoose.notSynchronized Bd
  have X0 : Stand p l e ({ frames := 2, cells := 0, slots := 0, locals := 28 } : Room) s m #[(.ref a0), (.ref a1)] below meth c s₁ [] 0 0 := Stand.of_body Bd
  have e0 : s₁.heap = h0 := by rw [← hh, Bd.state]; rfl
  have N0 := Fr.nil n0
  suffices hmain : own_Ends p e below s (QleM Z a0 a1 v_variable_a0 n_variable_a0 G_variable_a0 v_value_a0 v_variable_a1 n_variable_a1 G_variable_a1 v_value_a1 w_COMPACT_STRINGS h0 n0) 0 0 (s₁.setTop (mkF m 0 #[.val (.ref a0), .val (.ref a1), .unset] [])) by
    obtain ⟨U, o, h1, r⟩ := hmain
    exact ⟨U, o, castTop (efleM m a0 a1) h1, r⟩
  show own_Ends _ _ _ _ _ _ _ (s₁.setTop (mkF m 0 #[.val (.ref a0), .val (.ref a1), .unset] []))
  refine own_go (fun _ k => XS.aloadN X0.here hx rfl (hb hby dleM_0) rfl rfl k) ?_
  show own_Ends _ _ _ _ _ _ _ (s₁.setTop (mkF m 1 #[.val (.ref a0), .val (.ref a1), .unset] [(.ref a1)]))
  obtain ⟨T1, X1, e1, st1⟩ := instY X0 hx hZ hown (hw _ (List.mem_of_getElem? (i := 68) rfl)) e0 (Ins.self E_a1) (g := (mkF m 1 #[.val (.ref a0), .val (.ref a1), .unset] [(.ref a1)])) rfl rfl (hb hby dleM_1)
  refine own_go (fun _ k => st1 _ k) ?_
  show own_Ends _ _ _ _ _ _ _ (T1.setTop (mkF m 4 #[.val (.ref a0), .val (.ref a1), .unset] [(.int (1 : Int32))]))
  refine own_go (fun _ k => XS.ifNo X1.here hx rfl (hb hby dleM_4) rfl ((if0 _ _).trans (feq (by decide)).1) k) ?_
  show own_Ends _ _ _ _ _ _ _ (T1.setTop (mkF m 7 #[.val (.ref a0), .val (.ref a1), .unset] []))
  refine own_go (fun _ k => XS.aloadN X1.here hx rfl (hb hby dleM_7) rfl rfl k) ?_
  show own_Ends _ _ _ _ _ _ _ (T1.setTop (mkF m 8 #[.val (.ref a0), .val (.ref a1), .unset] [(.ref a1)]))
  obtain ⟨T2, X2, e2, st2⟩ := castY X1 hx hZ hown (hw _ (List.mem_of_getElem? (i := 68) rfl)) e1 (Ins.self E_a1) (g := (mkF m 8 #[.val (.ref a0), .val (.ref a1), .unset] [(.ref a1)])) rfl rfl (hb hby dleM_8)
  refine own_go (fun _ k => st2 _ k) ?_
  show own_Ends _ _ _ _ _ _ _ (T2.setTop (mkF m 11 #[.val (.ref a0), .val (.ref a1), .unset] [(.ref a1)]))
  refine own_go (fun _ k => XS.astoreN X2.here hx rfl (hb hby dleM_11) rfl rfl (l' := #[.val (.ref a0), .val (.ref a1), .val (.ref a1)]) rfl k) ?_
  show own_Ends _ _ _ _ _ _ _ (T2.setTop (mkF m 12 #[.val (.ref a0), .val (.ref a1), .val (.ref a1)] []))
  refine own_go (fun _ k => XS.aloadN X2.here hx rfl (hb hby dleM_12) rfl rfl k) ?_
  show own_Ends _ _ _ _ _ _ _ (T2.setTop (mkF m 13 #[.val (.ref a0), .val (.ref a1), .val (.ref a1)] [(.ref a0)]))
  obtain ⟨T3, X3, e3, st3⟩ := getF X2 hx hZ hown (host := "") (Or.inl (hw _ (List.mem_of_getElem? (i := 55) rfl))) Via.refl e2 F_variable_a0 (g := (mkF m 13 #[.val (.ref a0), .val (.ref a1), .val (.ref a1)] [(.ref a0)])) rfl rfl (hb hby dleM_13)
  refine own_go (fun _ k => st3 _ k) ?_
  show own_Ends _ _ _ _ _ _ _ (T3.setTop (mkF m 16 #[.val (.ref a0), .val (.ref a1), .val (.ref a1)] [(.ref v_variable_a0)]))
  refine own_go (fun _ k => XS.aloadN X3.here hx rfl (hb hby dleM_16) rfl rfl k) ?_
  show own_Ends _ _ _ _ _ _ _ (T3.setTop (mkF m 17 #[.val (.ref a0), .val (.ref a1), .val (.ref a1)] [(.ref a1), (.ref v_variable_a0)]))
  obtain ⟨T4, X4, e4, st4⟩ := getF X3 hx hZ hown (host := "") (Or.inl (hw _ (List.mem_of_getElem? (i := 55) rfl))) Via.refl e3 F_variable_a1 (g := (mkF m 17 #[.val (.ref a0), .val (.ref a1), .val (.ref a1)] [(.ref a1), (.ref v_variable_a0)])) rfl rfl (hb hby dleM_17)
  refine own_go (fun _ k => st4 _ k) ?_
  show own_Ends _ _ _ _ _ _ _ (T4.setTop (mkF m 20 #[.val (.ref a0), .val (.ref a1), .val (.ref a1)] [(.ref v_variable_a1), (.ref v_variable_a0)]))
  obtain ⟨cq5, kq5, q5a, q5b, q5c⟩ := isOf hZ e4 T_variable_a0.1
  obtain ⟨_, _, ⟨T5, L5, k5, n5⟩, -, X5, ⟨Lc5, hQ5, l5, y5, z5⟩, st5⟩ := X4.virtualBack hx (y := (⟨"java/lang/String", "equals", "(Ljava/lang/Object;)Z"⟩ : MethodName)) (z := (⟨"java/lang/String", "equals", "(Ljava/lang/Object;)Z"⟩ : MethodName)) hown (mvT hZ (hw _ (List.mem_of_getElem? (i := 70) rfl))) (mvT hZ (hw _ (List.mem_of_getElem? (i := 71) rfl))) (notFace_of_selects (args := #[]) (mvT hZ (hw _ (List.mem_of_getElem? (i := 73) rfl)))) (mvT hZ (hw _ (List.mem_of_getElem? (i := 73) rfl))) (mvT hZ (hw _ (List.mem_of_getElem? (i := 72) rfl))) (by decide) (backOf (W := 0) (rmstreq l Z ar hw [] v_variable_a0 v_variable_a1 n_variable_a0 G_variable_a0 n_variable_a1 G_variable_a1 w_COMPACT_STRINGS h0 n0 O0 T_variable_a0 T_variable_a1 ⟨hl_variable_a0, hl_variable_a1⟩ hCS S_COMPACT_STRINGS) hZ (hw _ (List.mem_of_getElem? (i := 74) rfl)) (hw _ (List.mem_of_getElem? (i := 16) rfl)) (by decide) (by decide)) q5a q5c (g := (mkF m 20 #[.val (.ref a0), .val (.ref a1), .val (.ref a1)] [(.ref v_variable_a1), (.ref v_variable_a0)])) rfl (by rw [hml]; rfl) (Steps.refl _) (argsL := [(.ref v_variable_a1)]) (rest := []) (lenOf pdleM_0 rfl) rfl (by show 2 * 0 + _ ≤ _; exact Nat.le_of_eq rfl) (hb hby dleM_20) (fun _ _ => ⟨rfl, e4, (by decide : 0 + 0 ≤ _), (by decide : 0 + 0 ≤ _)⟩)
  dsimp only [Pt.U, Pt.locs, Pt.cells, Pt.slots] at X5 l5 y5 z5 st5 hQ5
  subst l5 y5 z5
  obtain ⟨z5, rfl, hz5, N5q, eq5⟩ := hQ5
  have e5 : T5.heap = h0 := eq5
  have N5 := Fr.app N0 N5q
  refine own_go (fun _ k => st5.trans k) ?_
  show own_Ends _ _ _ _ _ _ _ (T5.setTop (mkF m 23 #[.val (.ref a0), .val (.ref a1), .val (.ref a1)] [(.int z5)]))
  by_cases hc6 : z5 = (0 : Int32)
  · refine own_go (fun _ k => XS.ifYes X5.here hx rfl (pc0 := 23) (pc' := 41) rfl (hb hby dleM_23) rfl ((if0 _ _).trans (teq hc6).1) (by decide) (by decide) k) ?_
    show own_Ends _ _ _ _ _ _ _ (T5.setTop (mkF m 41 #[.val (.ref a0), .val (.ref a1), .val (.ref a1)] []))
    refine own_go (fun _ k => XS.iconst X5.here hx rfl (hb hby dleM_41) k) ?_
    show own_Ends _ _ _ _ _ _ _ (T5.setTop (mkF m 42 #[.val (.ref a0), .val (.ref a1), .val (.ref a1)] [(.int (0 : Int32))]))
    exact own_retN X5 hx hlk (t := .boolean) Bd.returns (by simp) (hb hby dleM_42) (by decide) (by decide) ⟨_, rfl, Or.inr ⟨rfl, fun q => own_ans.neg hz5 hc6 q.1⟩, N5, e5⟩
  · refine own_go (fun _ k => XS.ifNo X5.here hx rfl (hb hby dleM_23) rfl ((if0 _ _).trans (feq hc6).1) k) ?_
    show own_Ends _ _ _ _ _ _ _ (T5.setTop (mkF m 26 #[.val (.ref a0), .val (.ref a1), .val (.ref a1)] []))
    refine own_go (fun _ k => XS.aloadN X5.here hx rfl (hb hby dleM_26) rfl rfl k) ?_
    show own_Ends _ _ _ _ _ _ _ (T5.setTop (mkF m 27 #[.val (.ref a0), .val (.ref a1), .val (.ref a1)] [(.ref a0)]))
    obtain ⟨T7, X7, e7, st7⟩ := getF X5 hx hZ hown (host := "") (Or.inl (hw _ (List.mem_of_getElem? (i := 60) rfl))) Via.refl e5 F_value_a0 (g := (mkF m 27 #[.val (.ref a0), .val (.ref a1), .val (.ref a1)] [(.ref a0)])) rfl rfl (hb hby dleM_27)
    refine own_go (fun _ k => st7 _ k) ?_
    show own_Ends _ _ _ _ _ _ _ (T7.setTop (mkF m 30 #[.val (.ref a0), .val (.ref a1), .val (.ref a1)] [(.ref v_value_a0)]))
    refine own_go (fun _ k => XS.aloadN X7.here hx rfl (hb hby dleM_30) rfl rfl k) ?_
    show own_Ends _ _ _ _ _ _ _ (T7.setTop (mkF m 31 #[.val (.ref a0), .val (.ref a1), .val (.ref a1)] [(.ref a1), (.ref v_value_a0)]))
    obtain ⟨T8, X8, e8, st8⟩ := getF X7 hx hZ hown (host := "") (Or.inl (hw _ (List.mem_of_getElem? (i := 60) rfl))) Via.refl e7 F_value_a1 (g := (mkF m 31 #[.val (.ref a0), .val (.ref a1), .val (.ref a1)] [(.ref a1), (.ref v_value_a0)])) rfl rfl (hb hby dleM_31)
    refine own_go (fun _ k => st8 _ k) ?_
    show own_Ends _ _ _ _ _ _ _ (T8.setTop (mkF m 34 #[.val (.ref a0), .val (.ref a1), .val (.ref a1)] [(.ref v_value_a1), (.ref v_value_a0)]))
    by_cases ha9 : v_value_a0 = v_value_a1
    · refine own_go (fun _ k => Jvm.RoadKit.acmp (g := (mkF m 34 #[.val (.ref a0), .val (.ref a1), .val (.ref a1)] [(.ref v_value_a1), (.ref v_value_a0)])) X8 hx rfl rfl rfl (pc0 := 34) (pc' := 37) (same := true) rfl (hb hby dleM_34) rfl (decide_eq_true (congrArg Value.ref ha9)) (by decide) (by decide) k) ?_
      show own_Ends _ _ _ _ _ _ _ (T8.setTop (mkF m 37 #[.val (.ref a0), .val (.ref a1), .val (.ref a1)] []))
      refine own_go (fun _ k => XS.iconst X8.here hx rfl (hb hby dleM_37) k) ?_
      show own_Ends _ _ _ _ _ _ _ (T8.setTop (mkF m 38 #[.val (.ref a0), .val (.ref a1), .val (.ref a1)] [(.int (1 : Int32))]))
      refine own_go (fun _ k => XS.goto X8.here hx rfl (pc0 := 38) (pc' := 42) rfl (hb hby dleM_38) (by decide) (by decide) k) ?_
      show own_Ends _ _ _ _ _ _ _ (T8.setTop (mkF m 42 #[.val (.ref a0), .val (.ref a1), .val (.ref a1)] [(.int (1 : Int32))]))
      exact own_retN X8 hx hlk (t := .boolean) Bd.returns (by simp) (hb hby dleM_42) (by decide) (by decide) ⟨_, rfl, Or.inl ⟨rfl, own_ans.pos hz5 hc6, ha9⟩, N5, e8⟩
    · refine own_go (fun _ k => Jvm.RoadKit.acmp (g := (mkF m 34 #[.val (.ref a0), .val (.ref a1), .val (.ref a1)] [(.ref v_value_a1), (.ref v_value_a0)])) X8 hx rfl rfl rfl (pc0 := 34) (pc' := 41) (same := false) rfl (hb hby dleM_34) rfl (decide_eq_false fun q => ha9 (Value.ref.inj q)) (by decide) (by decide) k) ?_
      show own_Ends _ _ _ _ _ _ _ (T8.setTop (mkF m 41 #[.val (.ref a0), .val (.ref a1), .val (.ref a1)] []))
      refine own_go (fun _ k => XS.iconst X8.here hx rfl (hb hby dleM_41) k) ?_
      show own_Ends _ _ _ _ _ _ _ (T8.setTop (mkF m 42 #[.val (.ref a0), .val (.ref a1), .val (.ref a1)] [(.int (0 : Int32))]))
      exact own_retN X8 hx hlk (t := .boolean) Bd.returns (by simp) (hb hby dleM_42) (by decide) (by decide) ⟨_, rfl, Or.inr ⟨rfl, fun q => ha9 q.2⟩, N5, e8⟩
section LitEnd
variable {l1 l2 k1 k2 c10 c20 c11 c21 sn sv ex z : Int32} {r1 r2 : Addr}
theorem own_sn (h : sn = (if l1 = l2 then (if l1 < (1 : Int32) then (if l1 < (2 : Int32) then (1 : Int32) else (if c11 = c21 then (1 : Int32) else (0 : Int32))) else (if c10 = c20 then (if l1 < (2 : Int32) then (1 : Int32) else (if c11 = c21 then (1 : Int32) else (0 : Int32))) else (0 : Int32))) else (0 : Int32))) : own_ans sn (own_same l1 l2 c10 c20 c11 c21) := by
  unfold own_same
  by_cases a : l1 = l2
  · rw [if_pos a] at h
    by_cases b : l1 < (1 : Int32)
    · rw [if_pos b] at h
      by_cases c : l1 < (2 : Int32)
      · rw [if_pos c] at h; exact Or.inl ⟨h, a, Or.inl b, Or.inl c⟩
      · rw [if_neg c] at h
        by_cases d : c11 = c21
        · rw [if_pos d] at h; exact Or.inl ⟨h, a, Or.inl b, Or.inr d⟩
        · rw [if_neg d] at h; exact Or.inr ⟨h, fun q => q.2.2.elim c d⟩
    · rw [if_neg b] at h
      by_cases e : c10 = c20
      · rw [if_pos e] at h
        by_cases c : l1 < (2 : Int32)
        · rw [if_pos c] at h; exact Or.inl ⟨h, a, Or.inr e, Or.inl c⟩
        · rw [if_neg c] at h
          by_cases d : c11 = c21
          · rw [if_pos d] at h; exact Or.inl ⟨h, a, Or.inr e, Or.inr d⟩
          · rw [if_neg d] at h; exact Or.inr ⟨h, fun q => q.2.2.elim c d⟩
      · rw [if_neg e] at h; exact Or.inr ⟨h, fun q => q.2.1.elim b e⟩
  · rw [if_neg a] at h; exact Or.inr ⟨h, fun q => a q.1⟩
theorem own_sv (h : sv = (if k1 = k2 then (1 : Int32) else (0 : Int32))) : own_ans sv (k1 = k2) := by
  by_cases a : k1 = k2
  · rw [if_pos a] at h; exact Or.inl ⟨h, a⟩
  · rw [if_neg a] at h; exact Or.inr ⟨h, a⟩
theorem own_ex {S V : Prop} (hs : own_ans sn S) (hv : own_ans sv V) (h : ex = (if sn = (0 : Int32) then (0 : Int32) else (if sv = (0 : Int32) then (0 : Int32) else (1 : Int32)))) : own_ans ex (S ∧ V) := by
  rcases hs with ⟨a, p⟩ | ⟨a, p⟩
  · rcases hv with ⟨b, q⟩ | ⟨b, q⟩
    · rw [a, b, if_neg (by decide), if_neg (by decide)] at h; exact Or.inl ⟨h, p, q⟩
    · rw [a, b, if_neg (by decide), if_pos rfl] at h; exact Or.inr ⟨h, fun w => q w.2⟩
  · rw [a, if_pos rfl] at h; exact Or.inr ⟨h, fun w => p w.1⟩
theorem own_ans.iff {P P' : Prop} (h : own_ans z P) (h' : own_ans ex P') (q : P ↔ P') : z = ex := by
  rcases h with ⟨a, p⟩ | ⟨a, p⟩ <;> rcases h' with ⟨b, p'⟩ | ⟨b, p'⟩
  · rw [a, b]
  · exact absurd (q.mp p) p'
  · exact absurd (q.mpr p') p
  · rw [a, b]
theorem own_ans.fin (hz : own_ans z (own_eq (own_n l1) (own_n l2) (own_b c10 c11) (own_b c20 c21) ∧ r1 = r2)) (hx : own_ans ex (own_same l1 l2 c10 c20 c11 c21 ∧ k1 = k2)) (h1 : l1 = 0 ∨ l1 = 1 ∨ l1 = 2) (h2 : l2 = 0 ∨ l2 = 1 ∨ l2 = 2) (h3 : k1 = 0 ∨ k1 = 1 ∨ k1 = 2) (h4 : k2 = 0 ∨ k2 = 1 ∨ k2 = 2) (b1 : own_byte c10) (b2 : own_byte c20) (b3 : own_byte c11) (b4 : own_byte c21) (hr : r1 = r2 ↔ k1 = k2) : z = ex :=
  hz.iff hx (by rw [own_name h1 h2 b1 b2 b3 b4, hr])
theorem own_ans.back (hz : own_ans z (own_eq (own_n l2) (own_n l1) (own_b c20 c21) (own_b c10 c11) ∧ r2 = r1)) (hx : own_ans ex (own_same l1 l2 c10 c20 c11 c21 ∧ k1 = k2)) (h1 : l1 = 0 ∨ l1 = 1 ∨ l1 = 2) (h2 : l2 = 0 ∨ l2 = 1 ∨ l2 = 2) (h3 : k1 = 0 ∨ k1 = 1 ∨ k1 = 2) (h4 : k2 = 0 ∨ k2 = 1 ∨ k2 = 2) (b1 : own_byte c10) (b2 : own_byte c20) (b3 : own_byte c11) (b4 : own_byte c21) (hr : r1 = r2 ↔ k1 = k2) : z = ex :=
  hz.iff hx (by
    rw [← own_name h1 h2 b1 b2 b3 b4, ← hr]
    exact ⟨fun q => ⟨q.1.symm, q.2.symm⟩, fun q => ⟨q.1.symm, q.2.symm⟩⟩)
end LitEnd
theorem pn0 : plainName "com/example/shallow_history/shallowhistory/policy/LiteralEqualsPinLaw" = true := by first | (simp [plainName, overriddenIn]; done) | decide +kernel
theorem pd0_0 : parseMethodDescriptor "(I)Lcom/example/shallow_history/shallowhistory/policy/TruthValue;" = some ⟨[.int], some (.object "com/example/shallow_history/shallowhistory/policy/TruthValue")⟩ := by decide +kernel
theorem pd0_1 : parseMethodDescriptor "(ICC)Ljava/lang/String;" = some ⟨[.int, .char, .char], some (.object "java/lang/String")⟩ := by decide +kernel
theorem pd0_2 : parseMethodDescriptor "(Ljava/lang/String;Lcom/example/shallow_history/shallowhistory/policy/TruthValue;)V" = some ⟨[(.object "java/lang/String"), (.object "com/example/shallow_history/shallowhistory/policy/TruthValue")], none⟩ := by decide +kernel
theorem pd0_3 : parseMethodDescriptor "(Ljava/lang/Object;)Z" = some ⟨[(.object "java/lang/Object")], some .boolean⟩ := by decide +kernel
theorem ef0 (m : MethodId) (p0 : Int32) (p1 : Int32) (p2 : Int32) : entryFrame m #[(.int p0), (.int p1), (.int p2)] maxLocals = mkF m 0 #[.val (.int p0), .val (.int p1), .val (.int p2), .unset, .unset, .unset, .unset, .unset, .unset, .unset, .unset, .unset, .unset, .unset, .unset, .unset, .unset, .unset, .unset, .unset] [] := by first | (simp [entryFrame, mkF, argsToLocals, Value.category, maxLocals]; done) | rfl
def Q0 (Z : State) (p0 : Int32) (p1 : Int32) (p2 : Int32) (w_TRUE : Addr) (w_FALSE : Addr) (w_UNDEFINED : Addr) (w_COMPACT_STRINGS : Int32) (h0 : Heap) (n0 : Nat) (v : Option Value) (h : Heap) (L : List Loc) : Prop := v = some (.int 1) ∧ Fr n0 L
set_option maxRecDepth 65536 in
set_option maxHeartbeats 40000000 in
theorem rm0 (l : Launch) (Z : State) (ar : Array Value) (hw : ∀ d ∈ tables_1, d.before ar Z = true) (ws : List Jvm.Cond) (p0 : Int32) (p1 : Int32) (p2 : Int32) (w_TRUE : Addr) (w_FALSE : Addr) (w_UNDEFINED : Addr) (w_COMPACT_STRINGS : Int32) (h0 : Heap) (n0 : Nat) (O0 : Old Z n0 h0) (nTF : w_TRUE ≠ w_FALSE) (nTU : w_TRUE ≠ w_UNDEFINED) (nFU : w_FALSE ≠ w_UNDEFINED) (EZ_TRUE : Exa Z Z.heap w_TRUE "com/example/shallow_history/shallowhistory/policy/TruthValue") (EZ_FALSE : Exa Z Z.heap w_FALSE "com/example/shallow_history/shallowhistory/policy/TruthValue") (EZ_UNDEFINED : Exa Z Z.heap w_UNDEFINED "com/example/shallow_history/shallowhistory/policy/TruthValue") (S_TRUE : Sta Z Z.heap "com/example/shallow_history/shallowhistory/policy/TruthValue" "TRUE" "Lcom/example/shallow_history/shallowhistory/policy/TruthValue;" (.ref w_TRUE)) (S_FALSE : Sta Z Z.heap "com/example/shallow_history/shallowhistory/policy/TruthValue" "FALSE" "Lcom/example/shallow_history/shallowhistory/policy/TruthValue;" (.ref w_FALSE)) (S_UNDEFINED : Sta Z Z.heap "com/example/shallow_history/shallowhistory/policy/TruthValue" "UNDEFINED" "Lcom/example/shallow_history/shallowhistory/policy/TruthValue;" (.ref w_UNDEFINED)) (hCS : ¬ w_COMPACT_STRINGS = (0 : Int32)) (S_COMPACT_STRINGS : Sta Z Z.heap "java/lang/String" "COMPACT_STRINGS" "Z" (.int w_COMPACT_STRINGS)) :
    MetFree l x (head1 (Jvm.Cond.code x code maxLocals ret :: ws) room_1) (fun a U => a = #[(.int p0), (.int p1), (.int p2)] ∧ Z.Warmed39 U.vm ∧ U.heap = h0 ∧ CHv Z consts_1 U.vm h0) (fun _ _ _ _ _ => True) (fun _ U o U' => ∃ v L, o = .returned v ∧ Q0 Z p0 p1 p2 w_TRUE w_FALSE w_UNDEFINED w_COMPACT_STRINGS h0 n0 v U'.heap L ∧ CHr Z consts_1 U.vm U.heap U'.vm U'.heap ∧ ReturnedEndW U o U' L room_1.cells room_1.slots) := by
  refine MetFree.of_bodySF (plainFor_of_name pn0) hisR ?_
  intro p e s m args below meth c s₁ Bd hml0 hP hK
  obtain ⟨rfl, hZ, hh, hCH⟩ := hP
  have hx := Bd.exec
  have hby := Bd.bytes
  have hml : c.maxLocals = 20 := hml0
  have hown : s.vm.findClass "com/example/shallow_history/shallowhistory/policy/LiteralEqualsPinLaw" = some m.cls := findClass_of_methodNamed Bd.named
  have hnm := (name_of_methodNamed Bd.named Bd.method).1
  have hlk : meth.locks = false := BodyLoose.notSynchronized Bd
  have X0 : Stand p l e room_1 (s.setVm s.vm) m #[(.int p0), (.int p1), (.int p2)] below meth c s₁ [] 0 0 := Stand.of_body Bd
  have e0 : s₁.heap = h0 := by rw [← hh, Bd.state]; rfl
  have N0 := Fr.nil n0
  have Wd0 : own_Wd s Z consts_1 s.vm h0 := own_Wd.start hh hCH
  suffices hmain : own_EndsW p e below s Z consts_1 (Q0 Z p0 p1 p2 w_TRUE w_FALSE w_UNDEFINED w_COMPACT_STRINGS h0 n0) 40 3264 (s₁.setTop (mkF m 0 #[.val (.int p0), .val (.int p1), .val (.int p2), .unset, .unset, .unset, .unset, .unset, .unset, .unset, .unset, .unset, .unset, .unset, .unset, .unset, .unset, .unset, .unset, .unset] [])) by
    obtain ⟨U, o, h1, r⟩ := hmain
    exact ⟨U, o, castTop (ef0 m p0 p1 p2) h1, r⟩
  show own_EndsW _ _ _ _ _ _ _ _ _ (s₁.setTop (mkF m 0 #[.val (.int p0), .val (.int p1), .val (.int p2), .unset, .unset, .unset, .unset, .unset, .unset, .unset, .unset, .unset, .unset, .unset, .unset, .unset, .unset, .unset, .unset, .unset] []))
  refine own_goW (fun _ k => XS.iloadN X0.here hx rfl (hb hby at_0) rfl k) ?_
  show own_EndsW _ _ _ _ _ _ _ _ _ (s₁.setTop (mkF m 1 #[.val (.int p0), .val (.int p1), .val (.int p2), .unset, .unset, .unset, .unset, .unset, .unset, .unset, .unset, .unset, .unset, .unset, .unset, .unset, .unset, .unset, .unset, .unset] [(.int p2)]))
  refine own_goW (fun _ k => XS.iconst X0.here hx rfl (hb hby at_1) k) ?_
  show own_EndsW _ _ _ _ _ _ _ _ _ (s₁.setTop (mkF m 2 #[.val (.int p0), .val (.int p1), .val (.int p2), .unset, .unset, .unset, .unset, .unset, .unset, .unset, .unset, .unset, .unset, .unset, .unset, .unset, .unset, .unset, .unset, .unset] [(.int (3 : Int32)), (.int p2)]))
  refine own_goW (fun _ k => XS.iand X0.here hx rfl (hb hby at_2) rfl k) ?_
  show own_EndsW _ _ _ _ _ _ _ _ _ (s₁.setTop (mkF m 3 #[.val (.int p0), .val (.int p1), .val (.int p2), .unset, .unset, .unset, .unset, .unset, .unset, .unset, .unset, .unset, .unset, .unset, .unset, .unset, .unset, .unset, .unset, .unset] [(.int (p2 &&& (3 : Int32)))]))
  refine own_goW (fun _ k => XS.iconst X0.here hx rfl (hb hby at_3) k) ?_
  show own_EndsW _ _ _ _ _ _ _ _ _ (s₁.setTop (mkF m 4 #[.val (.int p0), .val (.int p1), .val (.int p2), .unset, .unset, .unset, .unset, .unset, .unset, .unset, .unset, .unset, .unset, .unset, .unset, .unset, .unset, .unset, .unset, .unset] [(.int (3 : Int32)), (.int (p2 &&& (3 : Int32)))]))
  refine own_goW (fun _ k => iremM X0 hx rfl (hb hby at_4) rfl (by decide) k) ?_
  show own_EndsW _ _ _ _ _ _ _ _ _ (s₁.setTop (mkF m 5 #[.val (.int p0), .val (.int p1), .val (.int p2), .unset, .unset, .unset, .unset, .unset, .unset, .unset, .unset, .unset, .unset, .unset, .unset, .unset, .unset, .unset, .unset, .unset] [(.int ((p2 &&& (3 : Int32)) % (3 : Int32)))]))
  refine own_goW (fun _ k => XS.istoreN X0.here hx rfl (hb hby at_5) rfl (l' := #[.val (.int p0), .val (.int p1), .val (.int p2), .val (.int ((p2 &&& (3 : Int32)) % (3 : Int32))), .unset, .unset, .unset, .unset, .unset, .unset, .unset, .unset, .unset, .unset, .unset, .unset, .unset, .unset, .unset, .unset]) rfl k) ?_
  suffices hjl1 : ∀ l1 : Int32, l1 = ((p2 &&& (3 : Int32)) % (3 : Int32)) → own_EndsW p e below s Z consts_1 (Q0 Z p0 p1 p2 w_TRUE w_FALSE w_UNDEFINED w_COMPACT_STRINGS h0 n0) 40 3264 (s₁.setTop (mkF m 6 #[.val (.int p0), .val (.int p1), .val (.int p2), .val (.int l1), .unset, .unset, .unset, .unset, .unset, .unset, .unset, .unset, .unset, .unset, .unset, .unset, .unset, .unset, .unset, .unset] [])) by exact hjl1 _ rfl
  intro l1 hl1
  show own_EndsW _ _ _ _ _ _ _ _ _ (s₁.setTop (mkF m 6 #[.val (.int p0), .val (.int p1), .val (.int p2), .val (.int l1), .unset, .unset, .unset, .unset, .unset, .unset, .unset, .unset, .unset, .unset, .unset, .unset, .unset, .unset, .unset, .unset] []))
  refine own_goW (fun _ k => XS.iloadN X0.here hx rfl (hb hby at_6) rfl k) ?_
  show own_EndsW _ _ _ _ _ _ _ _ _ (s₁.setTop (mkF m 7 #[.val (.int p0), .val (.int p1), .val (.int p2), .val (.int l1), .unset, .unset, .unset, .unset, .unset, .unset, .unset, .unset, .unset, .unset, .unset, .unset, .unset, .unset, .unset, .unset] [(.int p2)]))
  refine own_goW (fun _ k => XS.iconst X0.here hx rfl (hb hby at_7) k) ?_
  show own_EndsW _ _ _ _ _ _ _ _ _ (s₁.setTop (mkF m 8 #[.val (.int p0), .val (.int p1), .val (.int p2), .val (.int l1), .unset, .unset, .unset, .unset, .unset, .unset, .unset, .unset, .unset, .unset, .unset, .unset, .unset, .unset, .unset, .unset] [(.int (2 : Int32)), (.int p2)]))
  refine own_goW (fun _ k => XS.iushr X0.here hx rfl (hb hby at_8) rfl k) ?_
  show own_EndsW _ _ _ _ _ _ _ _ _ (s₁.setTop (mkF m 9 #[.val (.int p0), .val (.int p1), .val (.int p2), .val (.int l1), .unset, .unset, .unset, .unset, .unset, .unset, .unset, .unset, .unset, .unset, .unset, .unset, .unset, .unset, .unset, .unset] [(.int ((p2.toUInt32 >>> ((2 : Int32) &&& 31).toUInt32).toInt32))]))
  refine own_goW (fun _ k => XS.iconst X0.here hx rfl (hb hby at_9) k) ?_
  show own_EndsW _ _ _ _ _ _ _ _ _ (s₁.setTop (mkF m 10 #[.val (.int p0), .val (.int p1), .val (.int p2), .val (.int l1), .unset, .unset, .unset, .unset, .unset, .unset, .unset, .unset, .unset, .unset, .unset, .unset, .unset, .unset, .unset, .unset] [(.int (3 : Int32)), (.int ((p2.toUInt32 >>> ((2 : Int32) &&& 31).toUInt32).toInt32))]))
  refine own_goW (fun _ k => XS.iand X0.here hx rfl (hb hby at_10) rfl k) ?_
  show own_EndsW _ _ _ _ _ _ _ _ _ (s₁.setTop (mkF m 11 #[.val (.int p0), .val (.int p1), .val (.int p2), .val (.int l1), .unset, .unset, .unset, .unset, .unset, .unset, .unset, .unset, .unset, .unset, .unset, .unset, .unset, .unset, .unset, .unset] [(.int (((p2.toUInt32 >>> ((2 : Int32) &&& 31).toUInt32).toInt32) &&& (3 : Int32)))]))
  refine own_goW (fun _ k => XS.iconst X0.here hx rfl (hb hby at_11) k) ?_
  show own_EndsW _ _ _ _ _ _ _ _ _ (s₁.setTop (mkF m 12 #[.val (.int p0), .val (.int p1), .val (.int p2), .val (.int l1), .unset, .unset, .unset, .unset, .unset, .unset, .unset, .unset, .unset, .unset, .unset, .unset, .unset, .unset, .unset, .unset] [(.int (3 : Int32)), (.int (((p2.toUInt32 >>> ((2 : Int32) &&& 31).toUInt32).toInt32) &&& (3 : Int32)))]))
  refine own_goW (fun _ k => iremM X0 hx rfl (hb hby at_12) rfl (by decide) k) ?_
  show own_EndsW _ _ _ _ _ _ _ _ _ (s₁.setTop (mkF m 13 #[.val (.int p0), .val (.int p1), .val (.int p2), .val (.int l1), .unset, .unset, .unset, .unset, .unset, .unset, .unset, .unset, .unset, .unset, .unset, .unset, .unset, .unset, .unset, .unset] [(.int ((((p2.toUInt32 >>> ((2 : Int32) &&& 31).toUInt32).toInt32) &&& (3 : Int32)) % (3 : Int32)))]))
  refine own_goW (fun _ k => XS.istore X0.here hx rfl (hb hby at_13) rfl (l' := #[.val (.int p0), .val (.int p1), .val (.int p2), .val (.int l1), .val (.int ((((p2.toUInt32 >>> ((2 : Int32) &&& 31).toUInt32).toInt32) &&& (3 : Int32)) % (3 : Int32))), .unset, .unset, .unset, .unset, .unset, .unset, .unset, .unset, .unset, .unset, .unset, .unset, .unset, .unset, .unset]) rfl k) ?_
  suffices hjl2 : ∀ l2 : Int32, l2 = ((((p2.toUInt32 >>> ((2 : Int32) &&& 31).toUInt32).toInt32) &&& (3 : Int32)) % (3 : Int32)) → own_EndsW p e below s Z consts_1 (Q0 Z p0 p1 p2 w_TRUE w_FALSE w_UNDEFINED w_COMPACT_STRINGS h0 n0) 40 3264 (s₁.setTop (mkF m 15 #[.val (.int p0), .val (.int p1), .val (.int p2), .val (.int l1), .val (.int l2), .unset, .unset, .unset, .unset, .unset, .unset, .unset, .unset, .unset, .unset, .unset, .unset, .unset, .unset, .unset] [])) by exact hjl2 _ rfl
  intro l2 hl2
  show own_EndsW _ _ _ _ _ _ _ _ _ (s₁.setTop (mkF m 15 #[.val (.int p0), .val (.int p1), .val (.int p2), .val (.int l1), .val (.int l2), .unset, .unset, .unset, .unset, .unset, .unset, .unset, .unset, .unset, .unset, .unset, .unset, .unset, .unset, .unset] []))
  refine own_goW (fun _ k => XS.iloadN X0.here hx rfl (hb hby at_15) rfl k) ?_
  show own_EndsW _ _ _ _ _ _ _ _ _ (s₁.setTop (mkF m 16 #[.val (.int p0), .val (.int p1), .val (.int p2), .val (.int l1), .val (.int l2), .unset, .unset, .unset, .unset, .unset, .unset, .unset, .unset, .unset, .unset, .unset, .unset, .unset, .unset, .unset] [(.int p2)]))
  refine own_goW (fun _ k => XS.iconst X0.here hx rfl (hb hby at_16) k) ?_
  show own_EndsW _ _ _ _ _ _ _ _ _ (s₁.setTop (mkF m 17 #[.val (.int p0), .val (.int p1), .val (.int p2), .val (.int l1), .val (.int l2), .unset, .unset, .unset, .unset, .unset, .unset, .unset, .unset, .unset, .unset, .unset, .unset, .unset, .unset, .unset] [(.int (4 : Int32)), (.int p2)]))
  refine own_goW (fun _ k => XS.iushr X0.here hx rfl (hb hby at_17) rfl k) ?_
  show own_EndsW _ _ _ _ _ _ _ _ _ (s₁.setTop (mkF m 18 #[.val (.int p0), .val (.int p1), .val (.int p2), .val (.int l1), .val (.int l2), .unset, .unset, .unset, .unset, .unset, .unset, .unset, .unset, .unset, .unset, .unset, .unset, .unset, .unset, .unset] [(.int ((p2.toUInt32 >>> ((4 : Int32) &&& 31).toUInt32).toInt32))]))
  refine own_goW (fun _ k => XS.iconst X0.here hx rfl (hb hby at_18) k) ?_
  show own_EndsW _ _ _ _ _ _ _ _ _ (s₁.setTop (mkF m 19 #[.val (.int p0), .val (.int p1), .val (.int p2), .val (.int l1), .val (.int l2), .unset, .unset, .unset, .unset, .unset, .unset, .unset, .unset, .unset, .unset, .unset, .unset, .unset, .unset, .unset] [(.int (3 : Int32)), (.int ((p2.toUInt32 >>> ((4 : Int32) &&& 31).toUInt32).toInt32))]))
  refine own_goW (fun _ k => XS.iand X0.here hx rfl (hb hby at_19) rfl k) ?_
  show own_EndsW _ _ _ _ _ _ _ _ _ (s₁.setTop (mkF m 20 #[.val (.int p0), .val (.int p1), .val (.int p2), .val (.int l1), .val (.int l2), .unset, .unset, .unset, .unset, .unset, .unset, .unset, .unset, .unset, .unset, .unset, .unset, .unset, .unset, .unset] [(.int (((p2.toUInt32 >>> ((4 : Int32) &&& 31).toUInt32).toInt32) &&& (3 : Int32)))]))
  refine own_goW (fun _ k => XS.iconst X0.here hx rfl (hb hby at_20) k) ?_
  show own_EndsW _ _ _ _ _ _ _ _ _ (s₁.setTop (mkF m 21 #[.val (.int p0), .val (.int p1), .val (.int p2), .val (.int l1), .val (.int l2), .unset, .unset, .unset, .unset, .unset, .unset, .unset, .unset, .unset, .unset, .unset, .unset, .unset, .unset, .unset] [(.int (3 : Int32)), (.int (((p2.toUInt32 >>> ((4 : Int32) &&& 31).toUInt32).toInt32) &&& (3 : Int32)))]))
  refine own_goW (fun _ k => iremM X0 hx rfl (hb hby at_21) rfl (by decide) k) ?_
  show own_EndsW _ _ _ _ _ _ _ _ _ (s₁.setTop (mkF m 22 #[.val (.int p0), .val (.int p1), .val (.int p2), .val (.int l1), .val (.int l2), .unset, .unset, .unset, .unset, .unset, .unset, .unset, .unset, .unset, .unset, .unset, .unset, .unset, .unset, .unset] [(.int ((((p2.toUInt32 >>> ((4 : Int32) &&& 31).toUInt32).toInt32) &&& (3 : Int32)) % (3 : Int32)))]))
  refine own_goW (fun _ k => XS.istore X0.here hx rfl (hb hby at_22) rfl (l' := #[.val (.int p0), .val (.int p1), .val (.int p2), .val (.int l1), .val (.int l2), .val (.int ((((p2.toUInt32 >>> ((4 : Int32) &&& 31).toUInt32).toInt32) &&& (3 : Int32)) % (3 : Int32))), .unset, .unset, .unset, .unset, .unset, .unset, .unset, .unset, .unset, .unset, .unset, .unset, .unset, .unset]) rfl k) ?_
  suffices hjk1 : ∀ k1 : Int32, k1 = ((((p2.toUInt32 >>> ((4 : Int32) &&& 31).toUInt32).toInt32) &&& (3 : Int32)) % (3 : Int32)) → own_EndsW p e below s Z consts_1 (Q0 Z p0 p1 p2 w_TRUE w_FALSE w_UNDEFINED w_COMPACT_STRINGS h0 n0) 40 3264 (s₁.setTop (mkF m 24 #[.val (.int p0), .val (.int p1), .val (.int p2), .val (.int l1), .val (.int l2), .val (.int k1), .unset, .unset, .unset, .unset, .unset, .unset, .unset, .unset, .unset, .unset, .unset, .unset, .unset, .unset] [])) by exact hjk1 _ rfl
  intro k1 hk1
  show own_EndsW _ _ _ _ _ _ _ _ _ (s₁.setTop (mkF m 24 #[.val (.int p0), .val (.int p1), .val (.int p2), .val (.int l1), .val (.int l2), .val (.int k1), .unset, .unset, .unset, .unset, .unset, .unset, .unset, .unset, .unset, .unset, .unset, .unset, .unset, .unset] []))
  refine own_goW (fun _ k => XS.iloadN X0.here hx rfl (hb hby at_24) rfl k) ?_
  show own_EndsW _ _ _ _ _ _ _ _ _ (s₁.setTop (mkF m 25 #[.val (.int p0), .val (.int p1), .val (.int p2), .val (.int l1), .val (.int l2), .val (.int k1), .unset, .unset, .unset, .unset, .unset, .unset, .unset, .unset, .unset, .unset, .unset, .unset, .unset, .unset] [(.int p2)]))
  refine own_goW (fun _ k => XS.bipush X0.here hx rfl (hb hby at_25) k) ?_
  show own_EndsW _ _ _ _ _ _ _ _ _ (s₁.setTop (mkF m 27 #[.val (.int p0), .val (.int p1), .val (.int p2), .val (.int l1), .val (.int l2), .val (.int k1), .unset, .unset, .unset, .unset, .unset, .unset, .unset, .unset, .unset, .unset, .unset, .unset, .unset, .unset] [(.int (6 : Int32)), (.int p2)]))
  refine own_goW (fun _ k => XS.iushr X0.here hx rfl (hb hby at_27) rfl k) ?_
  show own_EndsW _ _ _ _ _ _ _ _ _ (s₁.setTop (mkF m 28 #[.val (.int p0), .val (.int p1), .val (.int p2), .val (.int l1), .val (.int l2), .val (.int k1), .unset, .unset, .unset, .unset, .unset, .unset, .unset, .unset, .unset, .unset, .unset, .unset, .unset, .unset] [(.int ((p2.toUInt32 >>> ((6 : Int32) &&& 31).toUInt32).toInt32))]))
  refine own_goW (fun _ k => XS.iconst X0.here hx rfl (hb hby at_28) k) ?_
  show own_EndsW _ _ _ _ _ _ _ _ _ (s₁.setTop (mkF m 29 #[.val (.int p0), .val (.int p1), .val (.int p2), .val (.int l1), .val (.int l2), .val (.int k1), .unset, .unset, .unset, .unset, .unset, .unset, .unset, .unset, .unset, .unset, .unset, .unset, .unset, .unset] [(.int (3 : Int32)), (.int ((p2.toUInt32 >>> ((6 : Int32) &&& 31).toUInt32).toInt32))]))
  refine own_goW (fun _ k => XS.iand X0.here hx rfl (hb hby at_29) rfl k) ?_
  show own_EndsW _ _ _ _ _ _ _ _ _ (s₁.setTop (mkF m 30 #[.val (.int p0), .val (.int p1), .val (.int p2), .val (.int l1), .val (.int l2), .val (.int k1), .unset, .unset, .unset, .unset, .unset, .unset, .unset, .unset, .unset, .unset, .unset, .unset, .unset, .unset] [(.int (((p2.toUInt32 >>> ((6 : Int32) &&& 31).toUInt32).toInt32) &&& (3 : Int32)))]))
  refine own_goW (fun _ k => XS.iconst X0.here hx rfl (hb hby at_30) k) ?_
  show own_EndsW _ _ _ _ _ _ _ _ _ (s₁.setTop (mkF m 31 #[.val (.int p0), .val (.int p1), .val (.int p2), .val (.int l1), .val (.int l2), .val (.int k1), .unset, .unset, .unset, .unset, .unset, .unset, .unset, .unset, .unset, .unset, .unset, .unset, .unset, .unset] [(.int (3 : Int32)), (.int (((p2.toUInt32 >>> ((6 : Int32) &&& 31).toUInt32).toInt32) &&& (3 : Int32)))]))
  refine own_goW (fun _ k => iremM X0 hx rfl (hb hby at_31) rfl (by decide) k) ?_
  show own_EndsW _ _ _ _ _ _ _ _ _ (s₁.setTop (mkF m 32 #[.val (.int p0), .val (.int p1), .val (.int p2), .val (.int l1), .val (.int l2), .val (.int k1), .unset, .unset, .unset, .unset, .unset, .unset, .unset, .unset, .unset, .unset, .unset, .unset, .unset, .unset] [(.int ((((p2.toUInt32 >>> ((6 : Int32) &&& 31).toUInt32).toInt32) &&& (3 : Int32)) % (3 : Int32)))]))
  refine own_goW (fun _ k => XS.istore X0.here hx rfl (hb hby at_32) rfl (l' := #[.val (.int p0), .val (.int p1), .val (.int p2), .val (.int l1), .val (.int l2), .val (.int k1), .val (.int ((((p2.toUInt32 >>> ((6 : Int32) &&& 31).toUInt32).toInt32) &&& (3 : Int32)) % (3 : Int32))), .unset, .unset, .unset, .unset, .unset, .unset, .unset, .unset, .unset, .unset, .unset, .unset, .unset]) rfl k) ?_
  suffices hjk2 : ∀ k2 : Int32, k2 = ((((p2.toUInt32 >>> ((6 : Int32) &&& 31).toUInt32).toInt32) &&& (3 : Int32)) % (3 : Int32)) → own_EndsW p e below s Z consts_1 (Q0 Z p0 p1 p2 w_TRUE w_FALSE w_UNDEFINED w_COMPACT_STRINGS h0 n0) 40 3264 (s₁.setTop (mkF m 34 #[.val (.int p0), .val (.int p1), .val (.int p2), .val (.int l1), .val (.int l2), .val (.int k1), .val (.int k2), .unset, .unset, .unset, .unset, .unset, .unset, .unset, .unset, .unset, .unset, .unset, .unset, .unset] [])) by exact hjk2 _ rfl
  intro k2 hk2
  show own_EndsW _ _ _ _ _ _ _ _ _ (s₁.setTop (mkF m 34 #[.val (.int p0), .val (.int p1), .val (.int p2), .val (.int l1), .val (.int l2), .val (.int k1), .val (.int k2), .unset, .unset, .unset, .unset, .unset, .unset, .unset, .unset, .unset, .unset, .unset, .unset, .unset] []))
  refine own_goW (fun _ k => XS.iloadN X0.here hx rfl (hb hby at_34) rfl k) ?_
  show own_EndsW _ _ _ _ _ _ _ _ _ (s₁.setTop (mkF m 35 #[.val (.int p0), .val (.int p1), .val (.int p2), .val (.int l1), .val (.int l2), .val (.int k1), .val (.int k2), .unset, .unset, .unset, .unset, .unset, .unset, .unset, .unset, .unset, .unset, .unset, .unset, .unset] [(.int p2)]))
  refine own_goW (fun _ k => XS.bipush X0.here hx rfl (hb hby at_35) k) ?_
  show own_EndsW _ _ _ _ _ _ _ _ _ (s₁.setTop (mkF m 37 #[.val (.int p0), .val (.int p1), .val (.int p2), .val (.int l1), .val (.int l2), .val (.int k1), .val (.int k2), .unset, .unset, .unset, .unset, .unset, .unset, .unset, .unset, .unset, .unset, .unset, .unset, .unset] [(.int (8 : Int32)), (.int p2)]))
  refine own_goW (fun _ k => XS.iushr X0.here hx rfl (hb hby at_37) rfl k) ?_
  show own_EndsW _ _ _ _ _ _ _ _ _ (s₁.setTop (mkF m 38 #[.val (.int p0), .val (.int p1), .val (.int p2), .val (.int l1), .val (.int l2), .val (.int k1), .val (.int k2), .unset, .unset, .unset, .unset, .unset, .unset, .unset, .unset, .unset, .unset, .unset, .unset, .unset] [(.int ((p2.toUInt32 >>> ((8 : Int32) &&& 31).toUInt32).toInt32))]))
  refine own_goW (fun _ k => XS.iconst X0.here hx rfl (hb hby at_38) k) ?_
  show own_EndsW _ _ _ _ _ _ _ _ _ (s₁.setTop (mkF m 39 #[.val (.int p0), .val (.int p1), .val (.int p2), .val (.int l1), .val (.int l2), .val (.int k1), .val (.int k2), .unset, .unset, .unset, .unset, .unset, .unset, .unset, .unset, .unset, .unset, .unset, .unset, .unset] [(.int (1 : Int32)), (.int ((p2.toUInt32 >>> ((8 : Int32) &&& 31).toUInt32).toInt32))]))
  refine own_goW (fun _ k => XS.iand X0.here hx rfl (hb hby at_39) rfl k) ?_
  show own_EndsW _ _ _ _ _ _ _ _ _ (s₁.setTop (mkF m 40 #[.val (.int p0), .val (.int p1), .val (.int p2), .val (.int l1), .val (.int l2), .val (.int k1), .val (.int k2), .unset, .unset, .unset, .unset, .unset, .unset, .unset, .unset, .unset, .unset, .unset, .unset, .unset] [(.int (((p2.toUInt32 >>> ((8 : Int32) &&& 31).toUInt32).toInt32) &&& (1 : Int32)))]))
  suffices hj2 : ∀ z1 : Int32, z1 = (if (((p2.toUInt32 >>> ((8 : Int32) &&& 31).toUInt32).toInt32) &&& (1 : Int32)) = (0 : Int32) then (0 : Int32) else (1 : Int32)) → own_EndsW p e below s Z consts_1 (Q0 Z p0 p1 p2 w_TRUE w_FALSE w_UNDEFINED w_COMPACT_STRINGS h0 n0) 40 3264 (s₁.setTop (mkF m 48 #[.val (.int p0), .val (.int p1), .val (.int p2), .val (.int l1), .val (.int l2), .val (.int k1), .val (.int k2), .unset, .unset, .unset, .unset, .unset, .unset, .unset, .unset, .unset, .unset, .unset, .unset, .unset] [(.int z1)])) by
    show own_EndsW _ _ _ _ _ _ _ _ _ (s₁.setTop (mkF m 40 #[.val (.int p0), .val (.int p1), .val (.int p2), .val (.int l1), .val (.int l2), .val (.int k1), .val (.int k2), .unset, .unset, .unset, .unset, .unset, .unset, .unset, .unset, .unset, .unset, .unset, .unset, .unset] [(.int (((p2.toUInt32 >>> ((8 : Int32) &&& 31).toUInt32).toInt32) &&& (1 : Int32)))]))
    by_cases hc3 : (((p2.toUInt32 >>> ((8 : Int32) &&& 31).toUInt32).toInt32) &&& (1 : Int32)) = (0 : Int32)
    · refine own_goW (fun _ k => XS.ifYes X0.here hx rfl (pc0 := 40) (pc' := 47) rfl (hb hby at_40) rfl ((if0 _ _).trans (teq hc3).1) (by decide) (by decide) k) ?_
      show own_EndsW _ _ _ _ _ _ _ _ _ (s₁.setTop (mkF m 47 #[.val (.int p0), .val (.int p1), .val (.int p2), .val (.int l1), .val (.int l2), .val (.int k1), .val (.int k2), .unset, .unset, .unset, .unset, .unset, .unset, .unset, .unset, .unset, .unset, .unset, .unset, .unset] []))
      refine own_goW (fun _ k => XS.iconst X0.here hx rfl (hb hby at_47) k) ?_
      exact hj2 _ ((if_pos hc3)).symm
    · refine own_goW (fun _ k => XS.ifNo X0.here hx rfl (hb hby at_40) rfl ((if0 _ _).trans (feq hc3).1) k) ?_
      show own_EndsW _ _ _ _ _ _ _ _ _ (s₁.setTop (mkF m 43 #[.val (.int p0), .val (.int p1), .val (.int p2), .val (.int l1), .val (.int l2), .val (.int k1), .val (.int k2), .unset, .unset, .unset, .unset, .unset, .unset, .unset, .unset, .unset, .unset, .unset, .unset, .unset] []))
      refine own_goW (fun _ k => XS.iconst X0.here hx rfl (hb hby at_43) k) ?_
      show own_EndsW _ _ _ _ _ _ _ _ _ (s₁.setTop (mkF m 44 #[.val (.int p0), .val (.int p1), .val (.int p2), .val (.int l1), .val (.int l2), .val (.int k1), .val (.int k2), .unset, .unset, .unset, .unset, .unset, .unset, .unset, .unset, .unset, .unset, .unset, .unset, .unset] [(.int (1 : Int32))]))
      refine own_goW (fun _ k => XS.goto X0.here hx rfl (pc0 := 44) (pc' := 48) rfl (hb hby at_44) (by decide) (by decide) k) ?_
      exact hj2 _ ((if_neg hc3)).symm
  intro z1 hz1
  show own_EndsW _ _ _ _ _ _ _ _ _ (s₁.setTop (mkF m 48 #[.val (.int p0), .val (.int p1), .val (.int p2), .val (.int l1), .val (.int l2), .val (.int k1), .val (.int k2), .unset, .unset, .unset, .unset, .unset, .unset, .unset, .unset, .unset, .unset, .unset, .unset, .unset] [(.int z1)]))
  refine own_goW (fun _ k => XS.istore X0.here hx rfl (hb hby at_48) rfl (l' := #[.val (.int p0), .val (.int p1), .val (.int p2), .val (.int l1), .val (.int l2), .val (.int k1), .val (.int k2), .val (.int z1), .unset, .unset, .unset, .unset, .unset, .unset, .unset, .unset, .unset, .unset, .unset, .unset]) rfl k) ?_
  suffices hjcp : ∀ cp : Int32, cp = z1 → own_EndsW p e below s Z consts_1 (Q0 Z p0 p1 p2 w_TRUE w_FALSE w_UNDEFINED w_COMPACT_STRINGS h0 n0) 40 3264 (s₁.setTop (mkF m 50 #[.val (.int p0), .val (.int p1), .val (.int p2), .val (.int l1), .val (.int l2), .val (.int k1), .val (.int k2), .val (.int cp), .unset, .unset, .unset, .unset, .unset, .unset, .unset, .unset, .unset, .unset, .unset, .unset] [])) by exact hjcp _ rfl
  intro cp hcp
  show own_EndsW _ _ _ _ _ _ _ _ _ (s₁.setTop (mkF m 50 #[.val (.int p0), .val (.int p1), .val (.int p2), .val (.int l1), .val (.int l2), .val (.int k1), .val (.int k2), .val (.int cp), .unset, .unset, .unset, .unset, .unset, .unset, .unset, .unset, .unset, .unset, .unset, .unset] []))
  refine own_goW (fun _ k => XS.iloadN X0.here hx rfl (hb hby at_50) rfl k) ?_
  show own_EndsW _ _ _ _ _ _ _ _ _ (s₁.setTop (mkF m 51 #[.val (.int p0), .val (.int p1), .val (.int p2), .val (.int l1), .val (.int l2), .val (.int k1), .val (.int k2), .val (.int cp), .unset, .unset, .unset, .unset, .unset, .unset, .unset, .unset, .unset, .unset, .unset, .unset] [(.int p2)]))
  refine own_goW (fun _ k => XS.bipush X0.here hx rfl (hb hby at_51) k) ?_
  show own_EndsW _ _ _ _ _ _ _ _ _ (s₁.setTop (mkF m 53 #[.val (.int p0), .val (.int p1), .val (.int p2), .val (.int l1), .val (.int l2), .val (.int k1), .val (.int k2), .val (.int cp), .unset, .unset, .unset, .unset, .unset, .unset, .unset, .unset, .unset, .unset, .unset, .unset] [(.int (9 : Int32)), (.int p2)]))
  refine own_goW (fun _ k => XS.iushr X0.here hx rfl (hb hby at_53) rfl k) ?_
  show own_EndsW _ _ _ _ _ _ _ _ _ (s₁.setTop (mkF m 54 #[.val (.int p0), .val (.int p1), .val (.int p2), .val (.int l1), .val (.int l2), .val (.int k1), .val (.int k2), .val (.int cp), .unset, .unset, .unset, .unset, .unset, .unset, .unset, .unset, .unset, .unset, .unset, .unset] [(.int ((p2.toUInt32 >>> ((9 : Int32) &&& 31).toUInt32).toInt32))]))
  refine own_goW (fun _ k => XS.iconst X0.here hx rfl (hb hby at_54) k) ?_
  show own_EndsW _ _ _ _ _ _ _ _ _ (s₁.setTop (mkF m 55 #[.val (.int p0), .val (.int p1), .val (.int p2), .val (.int l1), .val (.int l2), .val (.int k1), .val (.int k2), .val (.int cp), .unset, .unset, .unset, .unset, .unset, .unset, .unset, .unset, .unset, .unset, .unset, .unset] [(.int (3 : Int32)), (.int ((p2.toUInt32 >>> ((9 : Int32) &&& 31).toUInt32).toInt32))]))
  refine own_goW (fun _ k => XS.iand X0.here hx rfl (hb hby at_55) rfl k) ?_
  show own_EndsW _ _ _ _ _ _ _ _ _ (s₁.setTop (mkF m 56 #[.val (.int p0), .val (.int p1), .val (.int p2), .val (.int l1), .val (.int l2), .val (.int k1), .val (.int k2), .val (.int cp), .unset, .unset, .unset, .unset, .unset, .unset, .unset, .unset, .unset, .unset, .unset, .unset] [(.int (((p2.toUInt32 >>> ((9 : Int32) &&& 31).toUInt32).toInt32) &&& (3 : Int32)))]))
  refine own_goW (fun _ k => XS.istore X0.here hx rfl (hb hby at_56) rfl (l' := #[.val (.int p0), .val (.int p1), .val (.int p2), .val (.int l1), .val (.int l2), .val (.int k1), .val (.int k2), .val (.int cp), .val (.int (((p2.toUInt32 >>> ((9 : Int32) &&& 31).toUInt32).toInt32) &&& (3 : Int32))), .unset, .unset, .unset, .unset, .unset, .unset, .unset, .unset, .unset, .unset, .unset]) rfl k) ?_
  show own_EndsW _ _ _ _ _ _ _ _ _ (s₁.setTop (mkF m 58 #[.val (.int p0), .val (.int p1), .val (.int p2), .val (.int l1), .val (.int l2), .val (.int k1), .val (.int k2), .val (.int cp), .val (.int (((p2.toUInt32 >>> ((9 : Int32) &&& 31).toUInt32).toInt32) &&& (3 : Int32))), .unset, .unset, .unset, .unset, .unset, .unset, .unset, .unset, .unset, .unset, .unset] []))
  refine own_goW (fun _ k => XS.iloadN X0.here hx rfl (hb hby at_58) rfl k) ?_
  show own_EndsW _ _ _ _ _ _ _ _ _ (s₁.setTop (mkF m 59 #[.val (.int p0), .val (.int p1), .val (.int p2), .val (.int l1), .val (.int l2), .val (.int k1), .val (.int k2), .val (.int cp), .val (.int (((p2.toUInt32 >>> ((9 : Int32) &&& 31).toUInt32).toInt32) &&& (3 : Int32))), .unset, .unset, .unset, .unset, .unset, .unset, .unset, .unset, .unset, .unset, .unset] [(.int p0)]))
  refine own_goW (fun _ k => XS.sipush X0.here hx rfl (hb hby at_59) k) ?_
  show own_EndsW _ _ _ _ _ _ _ _ _ (s₁.setTop (mkF m 62 #[.val (.int p0), .val (.int p1), .val (.int p2), .val (.int l1), .val (.int l2), .val (.int k1), .val (.int k2), .val (.int cp), .val (.int (((p2.toUInt32 >>> ((9 : Int32) &&& 31).toUInt32).toInt32) &&& (3 : Int32))), .unset, .unset, .unset, .unset, .unset, .unset, .unset, .unset, .unset, .unset, .unset] [(.int (255 : Int32)), (.int p0)]))
  refine own_goW (fun _ k => XS.iand X0.here hx rfl (hb hby at_62) rfl k) ?_
  show own_EndsW _ _ _ _ _ _ _ _ _ (s₁.setTop (mkF m 63 #[.val (.int p0), .val (.int p1), .val (.int p2), .val (.int l1), .val (.int l2), .val (.int k1), .val (.int k2), .val (.int cp), .val (.int (((p2.toUInt32 >>> ((9 : Int32) &&& 31).toUInt32).toInt32) &&& (3 : Int32))), .unset, .unset, .unset, .unset, .unset, .unset, .unset, .unset, .unset, .unset, .unset] [(.int (p0 &&& (255 : Int32)))]))
  refine own_goW (fun _ k => XS.i2c X0.here hx rfl (hb hby at_63) rfl k) ?_
  show own_EndsW _ _ _ _ _ _ _ _ _ (s₁.setTop (mkF m 64 #[.val (.int p0), .val (.int p1), .val (.int p2), .val (.int l1), .val (.int l2), .val (.int k1), .val (.int k2), .val (.int cp), .val (.int (((p2.toUInt32 >>> ((9 : Int32) &&& 31).toUInt32).toInt32) &&& (3 : Int32))), .unset, .unset, .unset, .unset, .unset, .unset, .unset, .unset, .unset, .unset, .unset] [(.int ((p0 &&& (255 : Int32)).toUInt32.toUInt16.toUInt32.toInt32))]))
  refine own_goW (fun _ k => XS.istore X0.here hx rfl (hb hby at_64) rfl (l' := #[.val (.int p0), .val (.int p1), .val (.int p2), .val (.int l1), .val (.int l2), .val (.int k1), .val (.int k2), .val (.int cp), .val (.int (((p2.toUInt32 >>> ((9 : Int32) &&& 31).toUInt32).toInt32) &&& (3 : Int32))), .val (.int ((p0 &&& (255 : Int32)).toUInt32.toUInt16.toUInt32.toInt32)), .unset, .unset, .unset, .unset, .unset, .unset, .unset, .unset, .unset, .unset]) rfl k) ?_
  suffices hjc10 : ∀ c10 : Int32, c10 = ((p0 &&& (255 : Int32)).toUInt32.toUInt16.toUInt32.toInt32) → own_EndsW p e below s Z consts_1 (Q0 Z p0 p1 p2 w_TRUE w_FALSE w_UNDEFINED w_COMPACT_STRINGS h0 n0) 40 3264 (s₁.setTop (mkF m 66 #[.val (.int p0), .val (.int p1), .val (.int p2), .val (.int l1), .val (.int l2), .val (.int k1), .val (.int k2), .val (.int cp), .val (.int (((p2.toUInt32 >>> ((9 : Int32) &&& 31).toUInt32).toInt32) &&& (3 : Int32))), .val (.int c10), .unset, .unset, .unset, .unset, .unset, .unset, .unset, .unset, .unset, .unset] [])) by exact hjc10 _ rfl
  intro c10 hc10
  show own_EndsW _ _ _ _ _ _ _ _ _ (s₁.setTop (mkF m 66 #[.val (.int p0), .val (.int p1), .val (.int p2), .val (.int l1), .val (.int l2), .val (.int k1), .val (.int k2), .val (.int cp), .val (.int (((p2.toUInt32 >>> ((9 : Int32) &&& 31).toUInt32).toInt32) &&& (3 : Int32))), .val (.int c10), .unset, .unset, .unset, .unset, .unset, .unset, .unset, .unset, .unset, .unset] []))
  refine own_goW (fun _ k => XS.iloadN X0.here hx rfl (hb hby at_66) rfl k) ?_
  show own_EndsW _ _ _ _ _ _ _ _ _ (s₁.setTop (mkF m 67 #[.val (.int p0), .val (.int p1), .val (.int p2), .val (.int l1), .val (.int l2), .val (.int k1), .val (.int k2), .val (.int cp), .val (.int (((p2.toUInt32 >>> ((9 : Int32) &&& 31).toUInt32).toInt32) &&& (3 : Int32))), .val (.int c10), .unset, .unset, .unset, .unset, .unset, .unset, .unset, .unset, .unset, .unset] [(.int p0)]))
  refine own_goW (fun _ k => XS.bipush X0.here hx rfl (hb hby at_67) k) ?_
  show own_EndsW _ _ _ _ _ _ _ _ _ (s₁.setTop (mkF m 69 #[.val (.int p0), .val (.int p1), .val (.int p2), .val (.int l1), .val (.int l2), .val (.int k1), .val (.int k2), .val (.int cp), .val (.int (((p2.toUInt32 >>> ((9 : Int32) &&& 31).toUInt32).toInt32) &&& (3 : Int32))), .val (.int c10), .unset, .unset, .unset, .unset, .unset, .unset, .unset, .unset, .unset, .unset] [(.int (8 : Int32)), (.int p0)]))
  refine own_goW (fun _ k => XS.iushr X0.here hx rfl (hb hby at_69) rfl k) ?_
  show own_EndsW _ _ _ _ _ _ _ _ _ (s₁.setTop (mkF m 70 #[.val (.int p0), .val (.int p1), .val (.int p2), .val (.int l1), .val (.int l2), .val (.int k1), .val (.int k2), .val (.int cp), .val (.int (((p2.toUInt32 >>> ((9 : Int32) &&& 31).toUInt32).toInt32) &&& (3 : Int32))), .val (.int c10), .unset, .unset, .unset, .unset, .unset, .unset, .unset, .unset, .unset, .unset] [(.int ((p0.toUInt32 >>> ((8 : Int32) &&& 31).toUInt32).toInt32))]))
  refine own_goW (fun _ k => XS.sipush X0.here hx rfl (hb hby at_70) k) ?_
  show own_EndsW _ _ _ _ _ _ _ _ _ (s₁.setTop (mkF m 73 #[.val (.int p0), .val (.int p1), .val (.int p2), .val (.int l1), .val (.int l2), .val (.int k1), .val (.int k2), .val (.int cp), .val (.int (((p2.toUInt32 >>> ((9 : Int32) &&& 31).toUInt32).toInt32) &&& (3 : Int32))), .val (.int c10), .unset, .unset, .unset, .unset, .unset, .unset, .unset, .unset, .unset, .unset] [(.int (255 : Int32)), (.int ((p0.toUInt32 >>> ((8 : Int32) &&& 31).toUInt32).toInt32))]))
  refine own_goW (fun _ k => XS.iand X0.here hx rfl (hb hby at_73) rfl k) ?_
  show own_EndsW _ _ _ _ _ _ _ _ _ (s₁.setTop (mkF m 74 #[.val (.int p0), .val (.int p1), .val (.int p2), .val (.int l1), .val (.int l2), .val (.int k1), .val (.int k2), .val (.int cp), .val (.int (((p2.toUInt32 >>> ((9 : Int32) &&& 31).toUInt32).toInt32) &&& (3 : Int32))), .val (.int c10), .unset, .unset, .unset, .unset, .unset, .unset, .unset, .unset, .unset, .unset] [(.int (((p0.toUInt32 >>> ((8 : Int32) &&& 31).toUInt32).toInt32) &&& (255 : Int32)))]))
  refine own_goW (fun _ k => XS.i2c X0.here hx rfl (hb hby at_74) rfl k) ?_
  show own_EndsW _ _ _ _ _ _ _ _ _ (s₁.setTop (mkF m 75 #[.val (.int p0), .val (.int p1), .val (.int p2), .val (.int l1), .val (.int l2), .val (.int k1), .val (.int k2), .val (.int cp), .val (.int (((p2.toUInt32 >>> ((9 : Int32) &&& 31).toUInt32).toInt32) &&& (3 : Int32))), .val (.int c10), .unset, .unset, .unset, .unset, .unset, .unset, .unset, .unset, .unset, .unset] [(.int ((((p0.toUInt32 >>> ((8 : Int32) &&& 31).toUInt32).toInt32) &&& (255 : Int32)).toUInt32.toUInt16.toUInt32.toInt32))]))
  refine own_goW (fun _ k => XS.istore X0.here hx rfl (hb hby at_75) rfl (l' := #[.val (.int p0), .val (.int p1), .val (.int p2), .val (.int l1), .val (.int l2), .val (.int k1), .val (.int k2), .val (.int cp), .val (.int (((p2.toUInt32 >>> ((9 : Int32) &&& 31).toUInt32).toInt32) &&& (3 : Int32))), .val (.int c10), .val (.int ((((p0.toUInt32 >>> ((8 : Int32) &&& 31).toUInt32).toInt32) &&& (255 : Int32)).toUInt32.toUInt16.toUInt32.toInt32)), .unset, .unset, .unset, .unset, .unset, .unset, .unset, .unset, .unset]) rfl k) ?_
  suffices hjc11 : ∀ c11 : Int32, c11 = ((((p0.toUInt32 >>> ((8 : Int32) &&& 31).toUInt32).toInt32) &&& (255 : Int32)).toUInt32.toUInt16.toUInt32.toInt32) → own_EndsW p e below s Z consts_1 (Q0 Z p0 p1 p2 w_TRUE w_FALSE w_UNDEFINED w_COMPACT_STRINGS h0 n0) 40 3264 (s₁.setTop (mkF m 77 #[.val (.int p0), .val (.int p1), .val (.int p2), .val (.int l1), .val (.int l2), .val (.int k1), .val (.int k2), .val (.int cp), .val (.int (((p2.toUInt32 >>> ((9 : Int32) &&& 31).toUInt32).toInt32) &&& (3 : Int32))), .val (.int c10), .val (.int c11), .unset, .unset, .unset, .unset, .unset, .unset, .unset, .unset, .unset] [])) by exact hjc11 _ rfl
  intro c11 hc11
  show own_EndsW _ _ _ _ _ _ _ _ _ (s₁.setTop (mkF m 77 #[.val (.int p0), .val (.int p1), .val (.int p2), .val (.int l1), .val (.int l2), .val (.int k1), .val (.int k2), .val (.int cp), .val (.int (((p2.toUInt32 >>> ((9 : Int32) &&& 31).toUInt32).toInt32) &&& (3 : Int32))), .val (.int c10), .val (.int c11), .unset, .unset, .unset, .unset, .unset, .unset, .unset, .unset, .unset] []))
  refine own_goW (fun _ k => XS.iload X0.here hx rfl (hb hby at_77) rfl k) ?_
  show own_EndsW _ _ _ _ _ _ _ _ _ (s₁.setTop (mkF m 79 #[.val (.int p0), .val (.int p1), .val (.int p2), .val (.int l1), .val (.int l2), .val (.int k1), .val (.int k2), .val (.int cp), .val (.int (((p2.toUInt32 >>> ((9 : Int32) &&& 31).toUInt32).toInt32) &&& (3 : Int32))), .val (.int c10), .val (.int c11), .unset, .unset, .unset, .unset, .unset, .unset, .unset, .unset, .unset] [(.int cp)]))
  suffices hj5 : ∀ z4 : Int32, z4 = (if cp = (0 : Int32) then ((p1 &&& (255 : Int32)).toUInt32.toUInt16.toUInt32.toInt32) else c10) → own_EndsW p e below s Z consts_1 (Q0 Z p0 p1 p2 w_TRUE w_FALSE w_UNDEFINED w_COMPACT_STRINGS h0 n0) 40 3264 (s₁.setTop (mkF m 93 #[.val (.int p0), .val (.int p1), .val (.int p2), .val (.int l1), .val (.int l2), .val (.int k1), .val (.int k2), .val (.int cp), .val (.int (((p2.toUInt32 >>> ((9 : Int32) &&& 31).toUInt32).toInt32) &&& (3 : Int32))), .val (.int c10), .val (.int c11), .unset, .unset, .unset, .unset, .unset, .unset, .unset, .unset, .unset] [(.int z4)])) by
    show own_EndsW _ _ _ _ _ _ _ _ _ (s₁.setTop (mkF m 79 #[.val (.int p0), .val (.int p1), .val (.int p2), .val (.int l1), .val (.int l2), .val (.int k1), .val (.int k2), .val (.int cp), .val (.int (((p2.toUInt32 >>> ((9 : Int32) &&& 31).toUInt32).toInt32) &&& (3 : Int32))), .val (.int c10), .val (.int c11), .unset, .unset, .unset, .unset, .unset, .unset, .unset, .unset, .unset] [(.int cp)]))
    by_cases hc6 : cp = (0 : Int32)
    · refine own_goW (fun _ k => XS.ifYes X0.here hx rfl (pc0 := 79) (pc' := 87) rfl (hb hby at_79) rfl ((if0 _ _).trans (teq hc6).1) (by decide) (by decide) k) ?_
      show own_EndsW _ _ _ _ _ _ _ _ _ (s₁.setTop (mkF m 87 #[.val (.int p0), .val (.int p1), .val (.int p2), .val (.int l1), .val (.int l2), .val (.int k1), .val (.int k2), .val (.int cp), .val (.int (((p2.toUInt32 >>> ((9 : Int32) &&& 31).toUInt32).toInt32) &&& (3 : Int32))), .val (.int c10), .val (.int c11), .unset, .unset, .unset, .unset, .unset, .unset, .unset, .unset, .unset] []))
      refine own_goW (fun _ k => XS.iloadN X0.here hx rfl (hb hby at_87) rfl k) ?_
      show own_EndsW _ _ _ _ _ _ _ _ _ (s₁.setTop (mkF m 88 #[.val (.int p0), .val (.int p1), .val (.int p2), .val (.int l1), .val (.int l2), .val (.int k1), .val (.int k2), .val (.int cp), .val (.int (((p2.toUInt32 >>> ((9 : Int32) &&& 31).toUInt32).toInt32) &&& (3 : Int32))), .val (.int c10), .val (.int c11), .unset, .unset, .unset, .unset, .unset, .unset, .unset, .unset, .unset] [(.int p1)]))
      refine own_goW (fun _ k => XS.sipush X0.here hx rfl (hb hby at_88) k) ?_
      show own_EndsW _ _ _ _ _ _ _ _ _ (s₁.setTop (mkF m 91 #[.val (.int p0), .val (.int p1), .val (.int p2), .val (.int l1), .val (.int l2), .val (.int k1), .val (.int k2), .val (.int cp), .val (.int (((p2.toUInt32 >>> ((9 : Int32) &&& 31).toUInt32).toInt32) &&& (3 : Int32))), .val (.int c10), .val (.int c11), .unset, .unset, .unset, .unset, .unset, .unset, .unset, .unset, .unset] [(.int (255 : Int32)), (.int p1)]))
      refine own_goW (fun _ k => XS.iand X0.here hx rfl (hb hby at_91) rfl k) ?_
      show own_EndsW _ _ _ _ _ _ _ _ _ (s₁.setTop (mkF m 92 #[.val (.int p0), .val (.int p1), .val (.int p2), .val (.int l1), .val (.int l2), .val (.int k1), .val (.int k2), .val (.int cp), .val (.int (((p2.toUInt32 >>> ((9 : Int32) &&& 31).toUInt32).toInt32) &&& (3 : Int32))), .val (.int c10), .val (.int c11), .unset, .unset, .unset, .unset, .unset, .unset, .unset, .unset, .unset] [(.int (p1 &&& (255 : Int32)))]))
      refine own_goW (fun _ k => XS.i2c X0.here hx rfl (hb hby at_92) rfl k) ?_
      exact hj5 _ ((if_pos hc6)).symm
    · refine own_goW (fun _ k => XS.ifNo X0.here hx rfl (hb hby at_79) rfl ((if0 _ _).trans (feq hc6).1) k) ?_
      show own_EndsW _ _ _ _ _ _ _ _ _ (s₁.setTop (mkF m 82 #[.val (.int p0), .val (.int p1), .val (.int p2), .val (.int l1), .val (.int l2), .val (.int k1), .val (.int k2), .val (.int cp), .val (.int (((p2.toUInt32 >>> ((9 : Int32) &&& 31).toUInt32).toInt32) &&& (3 : Int32))), .val (.int c10), .val (.int c11), .unset, .unset, .unset, .unset, .unset, .unset, .unset, .unset, .unset] []))
      refine own_goW (fun _ k => XS.iload X0.here hx rfl (hb hby at_82) rfl k) ?_
      show own_EndsW _ _ _ _ _ _ _ _ _ (s₁.setTop (mkF m 84 #[.val (.int p0), .val (.int p1), .val (.int p2), .val (.int l1), .val (.int l2), .val (.int k1), .val (.int k2), .val (.int cp), .val (.int (((p2.toUInt32 >>> ((9 : Int32) &&& 31).toUInt32).toInt32) &&& (3 : Int32))), .val (.int c10), .val (.int c11), .unset, .unset, .unset, .unset, .unset, .unset, .unset, .unset, .unset] [(.int c10)]))
      refine own_goW (fun _ k => XS.goto X0.here hx rfl (pc0 := 84) (pc' := 93) rfl (hb hby at_84) (by decide) (by decide) k) ?_
      exact hj5 _ ((if_neg hc6)).symm
  intro z4 hz4
  show own_EndsW _ _ _ _ _ _ _ _ _ (s₁.setTop (mkF m 93 #[.val (.int p0), .val (.int p1), .val (.int p2), .val (.int l1), .val (.int l2), .val (.int k1), .val (.int k2), .val (.int cp), .val (.int (((p2.toUInt32 >>> ((9 : Int32) &&& 31).toUInt32).toInt32) &&& (3 : Int32))), .val (.int c10), .val (.int c11), .unset, .unset, .unset, .unset, .unset, .unset, .unset, .unset, .unset] [(.int z4)]))
  refine own_goW (fun _ k => XS.istore X0.here hx rfl (hb hby at_93) rfl (l' := #[.val (.int p0), .val (.int p1), .val (.int p2), .val (.int l1), .val (.int l2), .val (.int k1), .val (.int k2), .val (.int cp), .val (.int (((p2.toUInt32 >>> ((9 : Int32) &&& 31).toUInt32).toInt32) &&& (3 : Int32))), .val (.int c10), .val (.int c11), .val (.int z4), .unset, .unset, .unset, .unset, .unset, .unset, .unset, .unset]) rfl k) ?_
  suffices hjc20 : ∀ c20 : Int32, c20 = z4 → own_EndsW p e below s Z consts_1 (Q0 Z p0 p1 p2 w_TRUE w_FALSE w_UNDEFINED w_COMPACT_STRINGS h0 n0) 40 3264 (s₁.setTop (mkF m 95 #[.val (.int p0), .val (.int p1), .val (.int p2), .val (.int l1), .val (.int l2), .val (.int k1), .val (.int k2), .val (.int cp), .val (.int (((p2.toUInt32 >>> ((9 : Int32) &&& 31).toUInt32).toInt32) &&& (3 : Int32))), .val (.int c10), .val (.int c11), .val (.int c20), .unset, .unset, .unset, .unset, .unset, .unset, .unset, .unset] [])) by exact hjc20 _ rfl
  intro c20 hc20
  have J_c20 := hc20.trans hz4
  show own_EndsW _ _ _ _ _ _ _ _ _ (s₁.setTop (mkF m 95 #[.val (.int p0), .val (.int p1), .val (.int p2), .val (.int l1), .val (.int l2), .val (.int k1), .val (.int k2), .val (.int cp), .val (.int (((p2.toUInt32 >>> ((9 : Int32) &&& 31).toUInt32).toInt32) &&& (3 : Int32))), .val (.int c10), .val (.int c11), .val (.int c20), .unset, .unset, .unset, .unset, .unset, .unset, .unset, .unset] []))
  refine own_goW (fun _ k => XS.iload X0.here hx rfl (hb hby at_95) rfl k) ?_
  show own_EndsW _ _ _ _ _ _ _ _ _ (s₁.setTop (mkF m 97 #[.val (.int p0), .val (.int p1), .val (.int p2), .val (.int l1), .val (.int l2), .val (.int k1), .val (.int k2), .val (.int cp), .val (.int (((p2.toUInt32 >>> ((9 : Int32) &&& 31).toUInt32).toInt32) &&& (3 : Int32))), .val (.int c10), .val (.int c11), .val (.int c20), .unset, .unset, .unset, .unset, .unset, .unset, .unset, .unset] [(.int cp)]))
  suffices hj8 : ∀ z7 : Int32, z7 = (if cp = (0 : Int32) then ((((p1.toUInt32 >>> ((8 : Int32) &&& 31).toUInt32).toInt32) &&& (255 : Int32)).toUInt32.toUInt16.toUInt32.toInt32) else c11) → own_EndsW p e below s Z consts_1 (Q0 Z p0 p1 p2 w_TRUE w_FALSE w_UNDEFINED w_COMPACT_STRINGS h0 n0) 40 3264 (s₁.setTop (mkF m 114 #[.val (.int p0), .val (.int p1), .val (.int p2), .val (.int l1), .val (.int l2), .val (.int k1), .val (.int k2), .val (.int cp), .val (.int (((p2.toUInt32 >>> ((9 : Int32) &&& 31).toUInt32).toInt32) &&& (3 : Int32))), .val (.int c10), .val (.int c11), .val (.int c20), .unset, .unset, .unset, .unset, .unset, .unset, .unset, .unset] [(.int z7)])) by
    show own_EndsW _ _ _ _ _ _ _ _ _ (s₁.setTop (mkF m 97 #[.val (.int p0), .val (.int p1), .val (.int p2), .val (.int l1), .val (.int l2), .val (.int k1), .val (.int k2), .val (.int cp), .val (.int (((p2.toUInt32 >>> ((9 : Int32) &&& 31).toUInt32).toInt32) &&& (3 : Int32))), .val (.int c10), .val (.int c11), .val (.int c20), .unset, .unset, .unset, .unset, .unset, .unset, .unset, .unset] [(.int cp)]))
    by_cases hc9 : cp = (0 : Int32)
    · refine own_goW (fun _ k => XS.ifYes X0.here hx rfl (pc0 := 97) (pc' := 105) rfl (hb hby at_97) rfl ((if0 _ _).trans (teq hc9).1) (by decide) (by decide) k) ?_
      show own_EndsW _ _ _ _ _ _ _ _ _ (s₁.setTop (mkF m 105 #[.val (.int p0), .val (.int p1), .val (.int p2), .val (.int l1), .val (.int l2), .val (.int k1), .val (.int k2), .val (.int cp), .val (.int (((p2.toUInt32 >>> ((9 : Int32) &&& 31).toUInt32).toInt32) &&& (3 : Int32))), .val (.int c10), .val (.int c11), .val (.int c20), .unset, .unset, .unset, .unset, .unset, .unset, .unset, .unset] []))
      refine own_goW (fun _ k => XS.iloadN X0.here hx rfl (hb hby at_105) rfl k) ?_
      show own_EndsW _ _ _ _ _ _ _ _ _ (s₁.setTop (mkF m 106 #[.val (.int p0), .val (.int p1), .val (.int p2), .val (.int l1), .val (.int l2), .val (.int k1), .val (.int k2), .val (.int cp), .val (.int (((p2.toUInt32 >>> ((9 : Int32) &&& 31).toUInt32).toInt32) &&& (3 : Int32))), .val (.int c10), .val (.int c11), .val (.int c20), .unset, .unset, .unset, .unset, .unset, .unset, .unset, .unset] [(.int p1)]))
      refine own_goW (fun _ k => XS.bipush X0.here hx rfl (hb hby at_106) k) ?_
      show own_EndsW _ _ _ _ _ _ _ _ _ (s₁.setTop (mkF m 108 #[.val (.int p0), .val (.int p1), .val (.int p2), .val (.int l1), .val (.int l2), .val (.int k1), .val (.int k2), .val (.int cp), .val (.int (((p2.toUInt32 >>> ((9 : Int32) &&& 31).toUInt32).toInt32) &&& (3 : Int32))), .val (.int c10), .val (.int c11), .val (.int c20), .unset, .unset, .unset, .unset, .unset, .unset, .unset, .unset] [(.int (8 : Int32)), (.int p1)]))
      refine own_goW (fun _ k => XS.iushr X0.here hx rfl (hb hby at_108) rfl k) ?_
      show own_EndsW _ _ _ _ _ _ _ _ _ (s₁.setTop (mkF m 109 #[.val (.int p0), .val (.int p1), .val (.int p2), .val (.int l1), .val (.int l2), .val (.int k1), .val (.int k2), .val (.int cp), .val (.int (((p2.toUInt32 >>> ((9 : Int32) &&& 31).toUInt32).toInt32) &&& (3 : Int32))), .val (.int c10), .val (.int c11), .val (.int c20), .unset, .unset, .unset, .unset, .unset, .unset, .unset, .unset] [(.int ((p1.toUInt32 >>> ((8 : Int32) &&& 31).toUInt32).toInt32))]))
      refine own_goW (fun _ k => XS.sipush X0.here hx rfl (hb hby at_109) k) ?_
      show own_EndsW _ _ _ _ _ _ _ _ _ (s₁.setTop (mkF m 112 #[.val (.int p0), .val (.int p1), .val (.int p2), .val (.int l1), .val (.int l2), .val (.int k1), .val (.int k2), .val (.int cp), .val (.int (((p2.toUInt32 >>> ((9 : Int32) &&& 31).toUInt32).toInt32) &&& (3 : Int32))), .val (.int c10), .val (.int c11), .val (.int c20), .unset, .unset, .unset, .unset, .unset, .unset, .unset, .unset] [(.int (255 : Int32)), (.int ((p1.toUInt32 >>> ((8 : Int32) &&& 31).toUInt32).toInt32))]))
      refine own_goW (fun _ k => XS.iand X0.here hx rfl (hb hby at_112) rfl k) ?_
      show own_EndsW _ _ _ _ _ _ _ _ _ (s₁.setTop (mkF m 113 #[.val (.int p0), .val (.int p1), .val (.int p2), .val (.int l1), .val (.int l2), .val (.int k1), .val (.int k2), .val (.int cp), .val (.int (((p2.toUInt32 >>> ((9 : Int32) &&& 31).toUInt32).toInt32) &&& (3 : Int32))), .val (.int c10), .val (.int c11), .val (.int c20), .unset, .unset, .unset, .unset, .unset, .unset, .unset, .unset] [(.int (((p1.toUInt32 >>> ((8 : Int32) &&& 31).toUInt32).toInt32) &&& (255 : Int32)))]))
      refine own_goW (fun _ k => XS.i2c X0.here hx rfl (hb hby at_113) rfl k) ?_
      exact hj8 _ ((if_pos hc9)).symm
    · refine own_goW (fun _ k => XS.ifNo X0.here hx rfl (hb hby at_97) rfl ((if0 _ _).trans (feq hc9).1) k) ?_
      show own_EndsW _ _ _ _ _ _ _ _ _ (s₁.setTop (mkF m 100 #[.val (.int p0), .val (.int p1), .val (.int p2), .val (.int l1), .val (.int l2), .val (.int k1), .val (.int k2), .val (.int cp), .val (.int (((p2.toUInt32 >>> ((9 : Int32) &&& 31).toUInt32).toInt32) &&& (3 : Int32))), .val (.int c10), .val (.int c11), .val (.int c20), .unset, .unset, .unset, .unset, .unset, .unset, .unset, .unset] []))
      refine own_goW (fun _ k => XS.iload X0.here hx rfl (hb hby at_100) rfl k) ?_
      show own_EndsW _ _ _ _ _ _ _ _ _ (s₁.setTop (mkF m 102 #[.val (.int p0), .val (.int p1), .val (.int p2), .val (.int l1), .val (.int l2), .val (.int k1), .val (.int k2), .val (.int cp), .val (.int (((p2.toUInt32 >>> ((9 : Int32) &&& 31).toUInt32).toInt32) &&& (3 : Int32))), .val (.int c10), .val (.int c11), .val (.int c20), .unset, .unset, .unset, .unset, .unset, .unset, .unset, .unset] [(.int c11)]))
      refine own_goW (fun _ k => XS.goto X0.here hx rfl (pc0 := 102) (pc' := 114) rfl (hb hby at_102) (by decide) (by decide) k) ?_
      exact hj8 _ ((if_neg hc9)).symm
  intro z7 hz7
  show own_EndsW _ _ _ _ _ _ _ _ _ (s₁.setTop (mkF m 114 #[.val (.int p0), .val (.int p1), .val (.int p2), .val (.int l1), .val (.int l2), .val (.int k1), .val (.int k2), .val (.int cp), .val (.int (((p2.toUInt32 >>> ((9 : Int32) &&& 31).toUInt32).toInt32) &&& (3 : Int32))), .val (.int c10), .val (.int c11), .val (.int c20), .unset, .unset, .unset, .unset, .unset, .unset, .unset, .unset] [(.int z7)]))
  refine own_goW (fun _ k => XS.istore X0.here hx rfl (hb hby at_114) rfl (l' := #[.val (.int p0), .val (.int p1), .val (.int p2), .val (.int l1), .val (.int l2), .val (.int k1), .val (.int k2), .val (.int cp), .val (.int (((p2.toUInt32 >>> ((9 : Int32) &&& 31).toUInt32).toInt32) &&& (3 : Int32))), .val (.int c10), .val (.int c11), .val (.int c20), .val (.int z7), .unset, .unset, .unset, .unset, .unset, .unset, .unset]) rfl k) ?_
  suffices hjc21 : ∀ c21 : Int32, c21 = z7 → own_EndsW p e below s Z consts_1 (Q0 Z p0 p1 p2 w_TRUE w_FALSE w_UNDEFINED w_COMPACT_STRINGS h0 n0) 40 3264 (s₁.setTop (mkF m 116 #[.val (.int p0), .val (.int p1), .val (.int p2), .val (.int l1), .val (.int l2), .val (.int k1), .val (.int k2), .val (.int cp), .val (.int (((p2.toUInt32 >>> ((9 : Int32) &&& 31).toUInt32).toInt32) &&& (3 : Int32))), .val (.int c10), .val (.int c11), .val (.int c20), .val (.int c21), .unset, .unset, .unset, .unset, .unset, .unset, .unset] [])) by exact hjc21 _ rfl
  intro c21 hc21
  have J_c21 := hc21.trans hz7
  have B_c10 := own_byte.of hc10
  have B_c11 := own_byte.of hc11
  have B_c20 := own_byte.ite B_c10 J_c20
  have B_c21 := own_byte.ite B_c11 J_c21
  show own_EndsW _ _ _ _ _ _ _ _ _ (s₁.setTop (mkF m 116 #[.val (.int p0), .val (.int p1), .val (.int p2), .val (.int l1), .val (.int l2), .val (.int k1), .val (.int k2), .val (.int cp), .val (.int (((p2.toUInt32 >>> ((9 : Int32) &&& 31).toUInt32).toInt32) &&& (3 : Int32))), .val (.int c10), .val (.int c11), .val (.int c20), .val (.int c21), .unset, .unset, .unset, .unset, .unset, .unset, .unset] []))
  refine own_goW (fun _ k => XS.iload X0.here hx rfl (hb hby at_116) rfl k) ?_
  show own_EndsW _ _ _ _ _ _ _ _ _ (s₁.setTop (mkF m 118 #[.val (.int p0), .val (.int p1), .val (.int p2), .val (.int l1), .val (.int l2), .val (.int k1), .val (.int k2), .val (.int cp), .val (.int (((p2.toUInt32 >>> ((9 : Int32) &&& 31).toUInt32).toInt32) &&& (3 : Int32))), .val (.int c10), .val (.int c11), .val (.int c20), .val (.int c21), .unset, .unset, .unset, .unset, .unset, .unset, .unset] [(.int k1)]))
  obtain ⟨_, _, ⟨T10, L10, k10, n10⟩, -, X10, ⟨Lc10, hQ10, l10, y10, z10⟩, st10⟩ := Jvm.LawKit.callS X0 hx (y := (⟨"com/example/shallow_history/shallowhistory/policy/LiteralEqualsPinLaw", "tv", "(I)Lcom/example/shallow_history/shallowhistory/policy/TruthValue;"⟩ : MethodName)) hown (mvT hZ (hw _ (List.mem_of_getElem? (i := 0) rfl))) (mvT hZ (hw _ (List.mem_of_getElem? (i := 1) rfl))) (mvT hZ (hw _ (List.mem_of_getElem? (i := 2) rfl))) (mvT hZ (hw _ (List.mem_of_getElem? (i := 3) rfl))) (by decide) (backOf (W := 0) (rmtv l Z ar hw [] k1 w_TRUE w_FALSE w_UNDEFINED h0 n0 O0 EZ_TRUE EZ_FALSE EZ_UNDEFINED S_TRUE S_FALSE S_UNDEFINED) hZ (hw _ (List.mem_of_getElem? (i := 3) rfl)) (hw _ (List.mem_of_getElem? (i := 2) rfl)) (by decide) (by decide)) (g := (mkF m 118 #[.val (.int p0), .val (.int p1), .val (.int p2), .val (.int l1), .val (.int l2), .val (.int k1), .val (.int k2), .val (.int cp), .val (.int (((p2.toUInt32 >>> ((9 : Int32) &&& 31).toUInt32).toInt32) &&& (3 : Int32))), .val (.int c10), .val (.int c11), .val (.int c20), .val (.int c21), .unset, .unset, .unset, .unset, .unset, .unset, .unset] [(.int k1)])) rfl (by rw [hml]; rfl) (argsL := [(.int k1)]) (rest := []) (lenOf pd0_0 rfl) rfl (by show 2 * 0 + _ ≤ _; exact Nat.le_of_eq rfl) (hb hby at_118) (fun _ _ => ⟨rfl, e0, (by decide : 0 + 0 ≤ _), (by decide : 0 + 0 ≤ _)⟩)
  dsimp only [Pt.U, Pt.locs, Pt.cells, Pt.slots] at X10 l10 y10 z10 st10 hQ10
  subst l10 y10 z10
  obtain ⟨r10, rfl, hr10, E10_0, N10q, eq10⟩ := hQ10
  have e10 : T10.heap = h0 := eq10
  rw [e10] at E10_0
  have N10 := Fr.app N0 N10q
  refine own_goW (fun _ k => st10 _ k) ?_
  show own_EndsW _ _ _ _ _ _ _ _ _ (T10.setTop (mkF m 121 #[.val (.int p0), .val (.int p1), .val (.int p2), .val (.int l1), .val (.int l2), .val (.int k1), .val (.int k2), .val (.int cp), .val (.int (((p2.toUInt32 >>> ((9 : Int32) &&& 31).toUInt32).toInt32) &&& (3 : Int32))), .val (.int c10), .val (.int c11), .val (.int c20), .val (.int c21), .unset, .unset, .unset, .unset, .unset, .unset, .unset] [(.ref r10)]))
  refine own_goW (fun _ k => XS.astore X10.here hx rfl (hb hby at_121) rfl rfl (l' := #[.val (.int p0), .val (.int p1), .val (.int p2), .val (.int l1), .val (.int l2), .val (.int k1), .val (.int k2), .val (.int cp), .val (.int (((p2.toUInt32 >>> ((9 : Int32) &&& 31).toUInt32).toInt32) &&& (3 : Int32))), .val (.int c10), .val (.int c11), .val (.int c20), .val (.int c21), .val (.ref r10), .unset, .unset, .unset, .unset, .unset, .unset]) rfl k) ?_
  show own_EndsW _ _ _ _ _ _ _ _ _ (T10.setTop (mkF m 123 #[.val (.int p0), .val (.int p1), .val (.int p2), .val (.int l1), .val (.int l2), .val (.int k1), .val (.int k2), .val (.int cp), .val (.int (((p2.toUInt32 >>> ((9 : Int32) &&& 31).toUInt32).toInt32) &&& (3 : Int32))), .val (.int c10), .val (.int c11), .val (.int c20), .val (.int c21), .val (.ref r10), .unset, .unset, .unset, .unset, .unset, .unset] []))
  refine own_goW (fun _ k => XS.iload X10.here hx rfl (hb hby at_123) rfl k) ?_
  show own_EndsW _ _ _ _ _ _ _ _ _ (T10.setTop (mkF m 125 #[.val (.int p0), .val (.int p1), .val (.int p2), .val (.int l1), .val (.int l2), .val (.int k1), .val (.int k2), .val (.int cp), .val (.int (((p2.toUInt32 >>> ((9 : Int32) &&& 31).toUInt32).toInt32) &&& (3 : Int32))), .val (.int c10), .val (.int c11), .val (.int c20), .val (.int c21), .val (.ref r10), .unset, .unset, .unset, .unset, .unset, .unset] [(.int k2)]))
  obtain ⟨_, _, ⟨T11, L11, k11, n11⟩, -, X11, ⟨Lc11, hQ11, l11, y11, z11⟩, st11⟩ := Jvm.LawKit.callS X10 hx (y := (⟨"com/example/shallow_history/shallowhistory/policy/LiteralEqualsPinLaw", "tv", "(I)Lcom/example/shallow_history/shallowhistory/policy/TruthValue;"⟩ : MethodName)) hown (mvT hZ (hw _ (List.mem_of_getElem? (i := 0) rfl))) (mvT hZ (hw _ (List.mem_of_getElem? (i := 1) rfl))) (mvT hZ (hw _ (List.mem_of_getElem? (i := 2) rfl))) (mvT hZ (hw _ (List.mem_of_getElem? (i := 3) rfl))) (by decide) (backOf (W := 0) (rmtv l Z ar hw [] k2 w_TRUE w_FALSE w_UNDEFINED h0 n0 O0 EZ_TRUE EZ_FALSE EZ_UNDEFINED S_TRUE S_FALSE S_UNDEFINED) hZ (hw _ (List.mem_of_getElem? (i := 3) rfl)) (hw _ (List.mem_of_getElem? (i := 2) rfl)) (by decide) (by decide)) (g := (mkF m 125 #[.val (.int p0), .val (.int p1), .val (.int p2), .val (.int l1), .val (.int l2), .val (.int k1), .val (.int k2), .val (.int cp), .val (.int (((p2.toUInt32 >>> ((9 : Int32) &&& 31).toUInt32).toInt32) &&& (3 : Int32))), .val (.int c10), .val (.int c11), .val (.int c20), .val (.int c21), .val (.ref r10), .unset, .unset, .unset, .unset, .unset, .unset] [(.int k2)])) rfl (by rw [hml]; rfl) (argsL := [(.int k2)]) (rest := []) (lenOf pd0_0 rfl) rfl (by show 2 * 0 + _ ≤ _; exact Nat.le_of_eq rfl) (hb hby at_125) (fun _ _ => ⟨rfl, e10, (by decide : 0 + 0 ≤ _), (by decide : 0 + 0 ≤ _)⟩)
  dsimp only [Pt.U, Pt.locs, Pt.cells, Pt.slots] at X11 l11 y11 z11 st11 hQ11
  subst l11 y11 z11
  obtain ⟨r11, rfl, hr11, E11_0, N11q, eq11⟩ := hQ11
  have e11 : T11.heap = h0 := eq11
  rw [e11] at E11_0
  have N11 := Fr.app N10 N11q
  refine own_goW (fun _ k => st11 _ k) ?_
  show own_EndsW _ _ _ _ _ _ _ _ _ (T11.setTop (mkF m 128 #[.val (.int p0), .val (.int p1), .val (.int p2), .val (.int l1), .val (.int l2), .val (.int k1), .val (.int k2), .val (.int cp), .val (.int (((p2.toUInt32 >>> ((9 : Int32) &&& 31).toUInt32).toInt32) &&& (3 : Int32))), .val (.int c10), .val (.int c11), .val (.int c20), .val (.int c21), .val (.ref r10), .unset, .unset, .unset, .unset, .unset, .unset] [(.ref r11)]))
  refine own_goW (fun _ k => XS.astore X11.here hx rfl (hb hby at_128) rfl rfl (l' := #[.val (.int p0), .val (.int p1), .val (.int p2), .val (.int l1), .val (.int l2), .val (.int k1), .val (.int k2), .val (.int cp), .val (.int (((p2.toUInt32 >>> ((9 : Int32) &&& 31).toUInt32).toInt32) &&& (3 : Int32))), .val (.int c10), .val (.int c11), .val (.int c20), .val (.int c21), .val (.ref r10), .val (.ref r11), .unset, .unset, .unset, .unset, .unset]) rfl k) ?_
  show own_EndsW _ _ _ _ _ _ _ _ _ (T11.setTop (mkF m 130 #[.val (.int p0), .val (.int p1), .val (.int p2), .val (.int l1), .val (.int l2), .val (.int k1), .val (.int k2), .val (.int cp), .val (.int (((p2.toUInt32 >>> ((9 : Int32) &&& 31).toUInt32).toInt32) &&& (3 : Int32))), .val (.int c10), .val (.int c11), .val (.int c20), .val (.int c21), .val (.ref r10), .val (.ref r11), .unset, .unset, .unset, .unset, .unset] []))
  obtain ⟨T12, h12, X12, e12, E12, A12, D12, -, st12⟩ := newO X11 hx hZ hown (hw _ (List.mem_of_getElem? (i := 7) rfl)) (hw _ (List.mem_of_getElem? (i := 8) rfl)) (hw _ (List.mem_of_getElem? (i := 9) rfl)) e11 (g := (mkF m 130 #[.val (.int p0), .val (.int p1), .val (.int p2), .val (.int l1), .val (.int l2), .val (.int k1), .val (.int k2), .val (.int cp), .val (.int (((p2.toUInt32 >>> ((9 : Int32) &&& 31).toUInt32).toInt32) &&& (3 : Int32))), .val (.int c10), .val (.int c11), .val (.int c20), .val (.int c21), .val (.ref r10), .val (.ref r11), .unset, .unset, .unset, .unset, .unset] [])) rfl (hb hby at_130) (by decide) (by decide)
  obtain ⟨b12, q_b12⟩ : ∃ z, z = h0.size := ⟨_, rfl⟩
  rw [← q_b12] at A12 D12 st12
  have g_b12 : n0 ≤ b12 := Nat.le_trans (own_sz O0) (Nat.le_of_eq q_b12.symm)
  have ne_r10_b12 : r10 ≠ b12 := Nat.ne_of_lt (Nat.lt_of_lt_of_le E10_0.lt (Nat.le_of_eq q_b12.symm))
  have ne_r11_b12 : r11 ≠ b12 := Nat.ne_of_lt (Nat.lt_of_lt_of_le E11_0.lt (Nat.le_of_eq q_b12.symm))
  refine own_goW (fun _ k => st12 _ k) ?_
  have Wd12 : own_Wd s Z consts_1 s.vm h12 := Wd0.ext E12
  have F13 : Old Z n0 h12 := (O0.ext E12)
  have F14 : Exa Z h12 r10 "com/example/shallow_history/shallowhistory/policy/TruthValue" := (Exa.ext E12 E10_0)
  have F15 : Exa Z h12 r11 "com/example/shallow_history/shallowhistory/policy/TruthValue" := (Exa.ext E12 E11_0)
  have F16 : Fld Z h12 b12 "com/example/shallow_history/shallowhistory/policy/Literal" "variable" "Ljava/lang/String;" .null := D12 (Or.inr (hw _ (List.mem_of_getElem? (i := 56) rfl))) (ty := (.object "java/lang/String")) (by decide)
  have F17 : Fld Z h12 b12 "com/example/shallow_history/shallowhistory/policy/Literal" "value" "Lcom/example/shallow_history/shallowhistory/policy/TruthValue;" .null := D12 (Or.inr (hw _ (List.mem_of_getElem? (i := 61) rfl))) (ty := (.object "com/example/shallow_history/shallowhistory/policy/TruthValue")) (by decide)
  show own_EndsW _ _ _ _ _ _ _ _ _ (T12.setTop (mkF m 133 #[.val (.int p0), .val (.int p1), .val (.int p2), .val (.int l1), .val (.int l2), .val (.int k1), .val (.int k2), .val (.int cp), .val (.int (((p2.toUInt32 >>> ((9 : Int32) &&& 31).toUInt32).toInt32) &&& (3 : Int32))), .val (.int c10), .val (.int c11), .val (.int c20), .val (.int c21), .val (.ref r10), .val (.ref r11), .unset, .unset, .unset, .unset, .unset] [(.ref b12)]))
  refine own_goW (fun _ k => XS.dup X12.here hx rfl (hb hby at_133) rfl rfl k) ?_
  show own_EndsW _ _ _ _ _ _ _ _ _ (T12.setTop (mkF m 134 #[.val (.int p0), .val (.int p1), .val (.int p2), .val (.int l1), .val (.int l2), .val (.int k1), .val (.int k2), .val (.int cp), .val (.int (((p2.toUInt32 >>> ((9 : Int32) &&& 31).toUInt32).toInt32) &&& (3 : Int32))), .val (.int c10), .val (.int c11), .val (.int c20), .val (.int c21), .val (.ref r10), .val (.ref r11), .unset, .unset, .unset, .unset, .unset] [(.ref b12), (.ref b12)]))
  refine own_goW (fun _ k => XS.iloadN X12.here hx rfl (hb hby at_134) rfl k) ?_
  show own_EndsW _ _ _ _ _ _ _ _ _ (T12.setTop (mkF m 135 #[.val (.int p0), .val (.int p1), .val (.int p2), .val (.int l1), .val (.int l2), .val (.int k1), .val (.int k2), .val (.int cp), .val (.int (((p2.toUInt32 >>> ((9 : Int32) &&& 31).toUInt32).toInt32) &&& (3 : Int32))), .val (.int c10), .val (.int c11), .val (.int c20), .val (.int c21), .val (.ref r10), .val (.ref r11), .unset, .unset, .unset, .unset, .unset] [(.int l1), (.ref b12), (.ref b12)]))
  refine own_goW (fun _ k => XS.iload X12.here hx rfl (hb hby at_135) rfl k) ?_
  show own_EndsW _ _ _ _ _ _ _ _ _ (T12.setTop (mkF m 137 #[.val (.int p0), .val (.int p1), .val (.int p2), .val (.int l1), .val (.int l2), .val (.int k1), .val (.int k2), .val (.int cp), .val (.int (((p2.toUInt32 >>> ((9 : Int32) &&& 31).toUInt32).toInt32) &&& (3 : Int32))), .val (.int c10), .val (.int c11), .val (.int c20), .val (.int c21), .val (.ref r10), .val (.ref r11), .unset, .unset, .unset, .unset, .unset] [(.int c10), (.int l1), (.ref b12), (.ref b12)]))
  refine own_goW (fun _ k => XS.iload X12.here hx rfl (hb hby at_137) rfl k) ?_
  show own_EndsW _ _ _ _ _ _ _ _ _ (T12.setTop (mkF m 139 #[.val (.int p0), .val (.int p1), .val (.int p2), .val (.int l1), .val (.int l2), .val (.int k1), .val (.int k2), .val (.int cp), .val (.int (((p2.toUInt32 >>> ((9 : Int32) &&& 31).toUInt32).toInt32) &&& (3 : Int32))), .val (.int c10), .val (.int c11), .val (.int c20), .val (.int c21), .val (.ref r10), .val (.ref r11), .unset, .unset, .unset, .unset, .unset] [(.int c11), (.int c10), (.int l1), (.ref b12), (.ref b12)]))
  obtain ⟨_, _, ⟨T18, L18, k18, n18⟩, -, X18', hS18, gg18, ⟨Lc18, hQ18, l18, y18, z18, C18⟩, st18⟩ := callSS X12 hx (y := (⟨"com/example/shallow_history/shallowhistory/policy/LiteralEqualsPinLaw", "str", "(ICC)Ljava/lang/String;"⟩ : MethodName)) hown (mvT hZ (hw _ (List.mem_of_getElem? (i := 10) rfl))) (mvT hZ (hw _ (List.mem_of_getElem? (i := 11) rfl))) (mvT hZ (hw _ (List.mem_of_getElem? (i := 2) rfl))) (mvT hZ (hw _ (List.mem_of_getElem? (i := 12) rfl))) (by decide) (backOfSH (W := 2) (rmstr l Z ar hw [] l1 c10 c11 w_COMPACT_STRINGS h12 n0 F13 B_c10 B_c11 hCS S_COMPACT_STRINGS) hZ (hw _ (List.mem_of_getElem? (i := 12) rfl)) (hw _ (List.mem_of_getElem? (i := 2) rfl)) (by decide) (by decide) (own_EW hw) Wd12.ch) (g := (mkF m 139 #[.val (.int p0), .val (.int p1), .val (.int p2), .val (.int l1), .val (.int l2), .val (.int k1), .val (.int k2), .val (.int cp), .val (.int (((p2.toUInt32 >>> ((9 : Int32) &&& 31).toUInt32).toInt32) &&& (3 : Int32))), .val (.int c10), .val (.int c11), .val (.int c20), .val (.int c21), .val (.ref r10), .val (.ref r11), .unset, .unset, .unset, .unset, .unset] [(.int c11), (.int c10), (.int l1), (.ref b12), (.ref b12)])) rfl (by rw [hml]; rfl) (argsL := [(.int l1), (.int c10), (.int c11)]) (rest := [(.ref b12), (.ref b12)]) (lenOf pd0_1 rfl) rfl (by show 2 * 0 + _ ≤ _; exact Nat.le_of_eq rfl) (hb hby at_139) (fun _ _ => ⟨rfl, e12, (by decide : 1 + 6 ≤ _), (by decide : 2 + 12 ≤ _)⟩)
  dsimp only [Pt.U, Pt.locs, Pt.cells, Pt.slots] at X18' hS18 gg18 l18 y18 z18 st18 hQ18 C18
  subst l18 y18 z18
  obtain ⟨X18, Wd18, hZ, hown⟩ := own_fold Wd12 e12 X18' hS18 gg18 C18 hZ hown
  obtain ⟨r18, rfl, N18q, K18, T18_0⟩ := hQ18
  have N18 := Fr.app N11 N18q
  have F19 : Old Z n0 T18.heap := (F13.keep K18 all0)
  have F20 : Exa Z T18.heap r10 "com/example/shallow_history/shallowhistory/policy/TruthValue" := (F14.keep K18)
  have F21 : Exa Z T18.heap r11 "com/example/shallow_history/shallowhistory/policy/TruthValue" := (F15.keep K18)
  have F22 : Exa Z T18.heap b12 "com/example/shallow_history/shallowhistory/policy/Literal" := (A12.keep K18)
  have F23 : Fld Z T18.heap b12 "com/example/shallow_history/shallowhistory/policy/Literal" "variable" "Ljava/lang/String;" .null := (F16.keep K18 nin0)
  have F24 : Fld Z T18.heap b12 "com/example/shallow_history/shallowhistory/policy/Literal" "value" "Lcom/example/shallow_history/shallowhistory/policy/TruthValue;" .null := (F17.keep K18 nin0)
  refine own_goW (fun _ k => st18.trans k) ?_
  show own_EndsW _ _ _ _ _ _ _ _ _ (T18.setTop (mkF m 142 #[.val (.int p0), .val (.int p1), .val (.int p2), .val (.int l1), .val (.int l2), .val (.int k1), .val (.int k2), .val (.int cp), .val (.int (((p2.toUInt32 >>> ((9 : Int32) &&& 31).toUInt32).toInt32) &&& (3 : Int32))), .val (.int c10), .val (.int c11), .val (.int c20), .val (.int c21), .val (.ref r10), .val (.ref r11), .unset, .unset, .unset, .unset, .unset] [(.ref r18), (.ref b12), (.ref b12)]))
  refine own_goW (fun _ k => XS.aload X18.here hx rfl (hb hby at_142) rfl rfl k) ?_
  show own_EndsW _ _ _ _ _ _ _ _ _ (T18.setTop (mkF m 144 #[.val (.int p0), .val (.int p1), .val (.int p2), .val (.int l1), .val (.int l2), .val (.int k1), .val (.int k2), .val (.int cp), .val (.int (((p2.toUInt32 >>> ((9 : Int32) &&& 31).toUInt32).toInt32) &&& (3 : Int32))), .val (.int c10), .val (.int c11), .val (.int c20), .val (.int c21), .val (.ref r10), .val (.ref r11), .unset, .unset, .unset, .unset, .unset] [(.ref r10), (.ref r18), (.ref b12), (.ref b12)]))
  obtain ⟨_, _, ⟨T25, L25, k25, n25⟩, -, X25', hS25, gg25, ⟨Lc25, hQ25, l25, y25, z25, C25⟩, st25⟩ := X18.specialBackS hx (y := (⟨"com/example/shallow_history/shallowhistory/policy/Literal", "<init>", "(Ljava/lang/String;Lcom/example/shallow_history/shallowhistory/policy/TruthValue;)V"⟩ : MethodName)) rfl hown (mvT hZ (hw _ (List.mem_of_getElem? (i := 43) rfl))) (mvT hZ (hw _ (List.mem_of_getElem? (i := 44) rfl))) (mvT hZ (hw _ (List.mem_of_getElem? (i := 45) rfl))) (by decide) (backOfSH (W := 1) (rmlii l Z ar hw [] b12 r18 r10 T18.heap n0 F19 F22 g_b12 F23 F24 T18_0.1 F20) hZ (hw _ (List.mem_of_getElem? (i := 45) rfl)) (hw _ (List.mem_of_getElem? (i := 9) rfl)) (by decide) (by decide) (own_EW hw) Wd18.ch) (g := (mkF m 144 #[.val (.int p0), .val (.int p1), .val (.int p2), .val (.int l1), .val (.int l2), .val (.int k1), .val (.int k2), .val (.int cp), .val (.int (((p2.toUInt32 >>> ((9 : Int32) &&& 31).toUInt32).toInt32) &&& (3 : Int32))), .val (.int c10), .val (.int c11), .val (.int c20), .val (.int c21), .val (.ref r10), .val (.ref r11), .unset, .unset, .unset, .unset, .unset] [(.ref r10), (.ref r18), (.ref b12), (.ref b12)])) rfl (by rw [hml]; rfl) (Steps.refl _) (a := b12) (argsL := [(.ref r18), (.ref r10)]) (rest := [(.ref b12)]) (lenOf pd0_2 rfl) rfl (by show 2 * 0 + _ ≤ _; exact Nat.le_of_eq rfl) (hb hby at_144) (fun _ _ => ⟨rfl, rfl, (by decide : 7 + 4 ≤ _), (by decide : 14 + 100 ≤ _)⟩)
  dsimp only [Pt.U, Pt.locs, Pt.cells, Pt.slots] at X25' hS25 gg25 l25 y25 z25 st25 hQ25 C25
  subst l25 y25 z25
  obtain ⟨X25, Wd25, hZ, hown⟩ := own_fold Wd18 rfl X25' hS25 gg25 C25 hZ hown
  obtain ⟨rfl, N25q, K25, E25_0, F25_0, F25_1⟩ := hQ25
  have N25 := Fr.app N18 N25q
  have F26 : own_Str Z T25.heap r18 (own_n l1) (own_b c10 c11) := (T18_0.keep1 K25 F22 (by decide) (hw _ (List.mem_of_getElem? (i := 8) rfl)))
  have F27 : Old Z n0 T25.heap := (F19.keep K25 (allS g_b12 all0))
  have F28 : Exa Z T25.heap r10 "com/example/shallow_history/shallowhistory/policy/TruthValue" := (F20.keep K25)
  have F29 : Exa Z T25.heap r11 "com/example/shallow_history/shallowhistory/policy/TruthValue" := (F21.keep K25)
  have F30 : Exa Z T25.heap b12 "com/example/shallow_history/shallowhistory/policy/Literal" := (F22.keep K25)
  have F31 : Exa Z T25.heap r18 "java/lang/String" := (T18_0.1.keep K25)
  refine own_goW (fun _ k => st25.trans k) ?_
  show own_EndsW _ _ _ _ _ _ _ _ _ (T25.setTop (mkF m 147 #[.val (.int p0), .val (.int p1), .val (.int p2), .val (.int l1), .val (.int l2), .val (.int k1), .val (.int k2), .val (.int cp), .val (.int (((p2.toUInt32 >>> ((9 : Int32) &&& 31).toUInt32).toInt32) &&& (3 : Int32))), .val (.int c10), .val (.int c11), .val (.int c20), .val (.int c21), .val (.ref r10), .val (.ref r11), .unset, .unset, .unset, .unset, .unset] [(.ref b12)]))
  refine own_goW (fun _ k => XS.astore X25.here hx rfl (hb hby at_147) rfl rfl (l' := #[.val (.int p0), .val (.int p1), .val (.int p2), .val (.int l1), .val (.int l2), .val (.int k1), .val (.int k2), .val (.int cp), .val (.int (((p2.toUInt32 >>> ((9 : Int32) &&& 31).toUInt32).toInt32) &&& (3 : Int32))), .val (.int c10), .val (.int c11), .val (.int c20), .val (.int c21), .val (.ref r10), .val (.ref r11), .val (.ref b12), .unset, .unset, .unset, .unset]) rfl k) ?_
  show own_EndsW _ _ _ _ _ _ _ _ _ (T25.setTop (mkF m 149 #[.val (.int p0), .val (.int p1), .val (.int p2), .val (.int l1), .val (.int l2), .val (.int k1), .val (.int k2), .val (.int cp), .val (.int (((p2.toUInt32 >>> ((9 : Int32) &&& 31).toUInt32).toInt32) &&& (3 : Int32))), .val (.int c10), .val (.int c11), .val (.int c20), .val (.int c21), .val (.ref r10), .val (.ref r11), .val (.ref b12), .unset, .unset, .unset, .unset] []))
  obtain ⟨T32, h32, X32, e32, E32, A32, D32, -, st32⟩ := newO X25 hx hZ hown (hw _ (List.mem_of_getElem? (i := 7) rfl)) (hw _ (List.mem_of_getElem? (i := 8) rfl)) (hw _ (List.mem_of_getElem? (i := 9) rfl)) rfl (g := (mkF m 149 #[.val (.int p0), .val (.int p1), .val (.int p2), .val (.int l1), .val (.int l2), .val (.int k1), .val (.int k2), .val (.int cp), .val (.int (((p2.toUInt32 >>> ((9 : Int32) &&& 31).toUInt32).toInt32) &&& (3 : Int32))), .val (.int c10), .val (.int c11), .val (.int c20), .val (.int c21), .val (.ref r10), .val (.ref r11), .val (.ref b12), .unset, .unset, .unset, .unset] [])) rfl (hb hby at_149) (by decide) (by decide)
  obtain ⟨b32, q_b32⟩ : ∃ z, z = T25.heap.size := ⟨_, rfl⟩
  rw [← q_b32] at A32 D32 st32
  have g_b32 : n0 ≤ b32 := Nat.le_trans (own_sz F27) (Nat.le_of_eq q_b32.symm)
  have ne_r10_b32 : r10 ≠ b32 := Nat.ne_of_lt (Nat.lt_of_lt_of_le F28.lt (Nat.le_of_eq q_b32.symm))
  have ne_r11_b32 : r11 ≠ b32 := Nat.ne_of_lt (Nat.lt_of_lt_of_le F29.lt (Nat.le_of_eq q_b32.symm))
  have ne_b12_b32 : b12 ≠ b32 := Nat.ne_of_lt (Nat.lt_of_lt_of_le E25_0.lt (Nat.le_of_eq q_b32.symm))
  have ne_r18_b32 : r18 ≠ b32 := Nat.ne_of_lt (Nat.lt_of_lt_of_le F31.lt (Nat.le_of_eq q_b32.symm))
  refine own_goW (fun _ k => st32 _ k) ?_
  have Wd32 : own_Wd s Z consts_1 T25.vm h32 := Wd25.ext E32
  have F33 : own_Str Z h32 r18 (own_n l1) (own_b c10 c11) := (F26.ext E32)
  have F34 : Old Z n0 h32 := (F27.ext E32)
  have F35 : Exa Z h32 r10 "com/example/shallow_history/shallowhistory/policy/TruthValue" := (Exa.ext E32 F28)
  have F36 : Exa Z h32 r11 "com/example/shallow_history/shallowhistory/policy/TruthValue" := (Exa.ext E32 F29)
  have F37 : Exa Z h32 b12 "com/example/shallow_history/shallowhistory/policy/Literal" := (Exa.ext E32 E25_0)
  have F38 : Exa Z h32 r18 "java/lang/String" := (Exa.ext E32 F31)
  have F39 : Fld Z h32 b12 "com/example/shallow_history/shallowhistory/policy/Literal" "variable" "Ljava/lang/String;" (.ref r18) := (Fld.ext E32 F25_0)
  have F40 : Fld Z h32 b12 "com/example/shallow_history/shallowhistory/policy/Literal" "value" "Lcom/example/shallow_history/shallowhistory/policy/TruthValue;" (.ref r10) := (Fld.ext E32 F25_1)
  have F41 : Fld Z h32 b32 "com/example/shallow_history/shallowhistory/policy/Literal" "variable" "Ljava/lang/String;" .null := D32 (Or.inr (hw _ (List.mem_of_getElem? (i := 56) rfl))) (ty := (.object "java/lang/String")) (by decide)
  have F42 : Fld Z h32 b32 "com/example/shallow_history/shallowhistory/policy/Literal" "value" "Lcom/example/shallow_history/shallowhistory/policy/TruthValue;" .null := D32 (Or.inr (hw _ (List.mem_of_getElem? (i := 61) rfl))) (ty := (.object "com/example/shallow_history/shallowhistory/policy/TruthValue")) (by decide)
  show own_EndsW _ _ _ _ _ _ _ _ _ (T32.setTop (mkF m 152 #[.val (.int p0), .val (.int p1), .val (.int p2), .val (.int l1), .val (.int l2), .val (.int k1), .val (.int k2), .val (.int cp), .val (.int (((p2.toUInt32 >>> ((9 : Int32) &&& 31).toUInt32).toInt32) &&& (3 : Int32))), .val (.int c10), .val (.int c11), .val (.int c20), .val (.int c21), .val (.ref r10), .val (.ref r11), .val (.ref b12), .unset, .unset, .unset, .unset] [(.ref b32)]))
  refine own_goW (fun _ k => XS.dup X32.here hx rfl (hb hby at_152) rfl rfl k) ?_
  show own_EndsW _ _ _ _ _ _ _ _ _ (T32.setTop (mkF m 153 #[.val (.int p0), .val (.int p1), .val (.int p2), .val (.int l1), .val (.int l2), .val (.int k1), .val (.int k2), .val (.int cp), .val (.int (((p2.toUInt32 >>> ((9 : Int32) &&& 31).toUInt32).toInt32) &&& (3 : Int32))), .val (.int c10), .val (.int c11), .val (.int c20), .val (.int c21), .val (.ref r10), .val (.ref r11), .val (.ref b12), .unset, .unset, .unset, .unset] [(.ref b32), (.ref b32)]))
  refine own_goW (fun _ k => XS.iload X32.here hx rfl (hb hby at_153) rfl k) ?_
  show own_EndsW _ _ _ _ _ _ _ _ _ (T32.setTop (mkF m 155 #[.val (.int p0), .val (.int p1), .val (.int p2), .val (.int l1), .val (.int l2), .val (.int k1), .val (.int k2), .val (.int cp), .val (.int (((p2.toUInt32 >>> ((9 : Int32) &&& 31).toUInt32).toInt32) &&& (3 : Int32))), .val (.int c10), .val (.int c11), .val (.int c20), .val (.int c21), .val (.ref r10), .val (.ref r11), .val (.ref b12), .unset, .unset, .unset, .unset] [(.int l2), (.ref b32), (.ref b32)]))
  refine own_goW (fun _ k => XS.iload X32.here hx rfl (hb hby at_155) rfl k) ?_
  show own_EndsW _ _ _ _ _ _ _ _ _ (T32.setTop (mkF m 157 #[.val (.int p0), .val (.int p1), .val (.int p2), .val (.int l1), .val (.int l2), .val (.int k1), .val (.int k2), .val (.int cp), .val (.int (((p2.toUInt32 >>> ((9 : Int32) &&& 31).toUInt32).toInt32) &&& (3 : Int32))), .val (.int c10), .val (.int c11), .val (.int c20), .val (.int c21), .val (.ref r10), .val (.ref r11), .val (.ref b12), .unset, .unset, .unset, .unset] [(.int c20), (.int l2), (.ref b32), (.ref b32)]))
  refine own_goW (fun _ k => XS.iload X32.here hx rfl (hb hby at_157) rfl k) ?_
  show own_EndsW _ _ _ _ _ _ _ _ _ (T32.setTop (mkF m 159 #[.val (.int p0), .val (.int p1), .val (.int p2), .val (.int l1), .val (.int l2), .val (.int k1), .val (.int k2), .val (.int cp), .val (.int (((p2.toUInt32 >>> ((9 : Int32) &&& 31).toUInt32).toInt32) &&& (3 : Int32))), .val (.int c10), .val (.int c11), .val (.int c20), .val (.int c21), .val (.ref r10), .val (.ref r11), .val (.ref b12), .unset, .unset, .unset, .unset] [(.int c21), (.int c20), (.int l2), (.ref b32), (.ref b32)]))
  obtain ⟨_, _, ⟨T43, L43, k43, n43⟩, -, X43', hS43, gg43, ⟨Lc43, hQ43, l43, y43, z43, C43⟩, st43⟩ := callSS X32 hx (y := (⟨"com/example/shallow_history/shallowhistory/policy/LiteralEqualsPinLaw", "str", "(ICC)Ljava/lang/String;"⟩ : MethodName)) hown (mvT hZ (hw _ (List.mem_of_getElem? (i := 10) rfl))) (mvT hZ (hw _ (List.mem_of_getElem? (i := 11) rfl))) (mvT hZ (hw _ (List.mem_of_getElem? (i := 2) rfl))) (mvT hZ (hw _ (List.mem_of_getElem? (i := 12) rfl))) (by decide) (backOfSH (W := 2) (rmstr l Z ar hw [] l2 c20 c21 w_COMPACT_STRINGS h32 n0 F34 B_c20 B_c21 hCS S_COMPACT_STRINGS) hZ (hw _ (List.mem_of_getElem? (i := 12) rfl)) (hw _ (List.mem_of_getElem? (i := 2) rfl)) (by decide) (by decide) (own_EW hw) Wd32.ch) (g := (mkF m 159 #[.val (.int p0), .val (.int p1), .val (.int p2), .val (.int l1), .val (.int l2), .val (.int k1), .val (.int k2), .val (.int cp), .val (.int (((p2.toUInt32 >>> ((9 : Int32) &&& 31).toUInt32).toInt32) &&& (3 : Int32))), .val (.int c10), .val (.int c11), .val (.int c20), .val (.int c21), .val (.ref r10), .val (.ref r11), .val (.ref b12), .unset, .unset, .unset, .unset] [(.int c21), (.int c20), (.int l2), (.ref b32), (.ref b32)])) rfl (by rw [hml]; rfl) (argsL := [(.int l2), (.int c20), (.int c21)]) (rest := [(.ref b32), (.ref b32)]) (lenOf pd0_1 rfl) rfl (by show 2 * 0 + _ ≤ _; exact Nat.le_of_eq rfl) (hb hby at_159) (fun _ _ => ⟨rfl, e32, (by decide : 12 + 6 ≤ _), (by decide : 116 + 12 ≤ _)⟩)
  dsimp only [Pt.U, Pt.locs, Pt.cells, Pt.slots] at X43' hS43 gg43 l43 y43 z43 st43 hQ43 C43
  subst l43 y43 z43
  obtain ⟨X43, Wd43, hZ, hown⟩ := own_fold Wd32 e32 X43' hS43 gg43 C43 hZ hown
  obtain ⟨r43, rfl, N43q, K43, T43_0⟩ := hQ43
  have N43 := Fr.app N25 N43q
  have F44 : own_Str Z T43.heap r18 (own_n l1) (own_b c10 c11) := (F33.keep0 K43)
  have F45 : Old Z n0 T43.heap := (F34.keep K43 all0)
  have F46 : Exa Z T43.heap r10 "com/example/shallow_history/shallowhistory/policy/TruthValue" := (F35.keep K43)
  have F47 : Exa Z T43.heap r11 "com/example/shallow_history/shallowhistory/policy/TruthValue" := (F36.keep K43)
  have F48 : Exa Z T43.heap b12 "com/example/shallow_history/shallowhistory/policy/Literal" := (F37.keep K43)
  have F49 : Exa Z T43.heap r18 "java/lang/String" := (F38.keep K43)
  have F50 : Fld Z T43.heap b12 "com/example/shallow_history/shallowhistory/policy/Literal" "variable" "Ljava/lang/String;" (.ref r18) := (F39.keep K43 nin0)
  have F51 : Fld Z T43.heap b12 "com/example/shallow_history/shallowhistory/policy/Literal" "value" "Lcom/example/shallow_history/shallowhistory/policy/TruthValue;" (.ref r10) := (F40.keep K43 nin0)
  have F52 : Exa Z T43.heap b32 "com/example/shallow_history/shallowhistory/policy/Literal" := (A32.keep K43)
  have F53 : Fld Z T43.heap b32 "com/example/shallow_history/shallowhistory/policy/Literal" "variable" "Ljava/lang/String;" .null := (F41.keep K43 nin0)
  have F54 : Fld Z T43.heap b32 "com/example/shallow_history/shallowhistory/policy/Literal" "value" "Lcom/example/shallow_history/shallowhistory/policy/TruthValue;" .null := (F42.keep K43 nin0)
  refine own_goW (fun _ k => st43.trans k) ?_
  show own_EndsW _ _ _ _ _ _ _ _ _ (T43.setTop (mkF m 162 #[.val (.int p0), .val (.int p1), .val (.int p2), .val (.int l1), .val (.int l2), .val (.int k1), .val (.int k2), .val (.int cp), .val (.int (((p2.toUInt32 >>> ((9 : Int32) &&& 31).toUInt32).toInt32) &&& (3 : Int32))), .val (.int c10), .val (.int c11), .val (.int c20), .val (.int c21), .val (.ref r10), .val (.ref r11), .val (.ref b12), .unset, .unset, .unset, .unset] [(.ref r43), (.ref b32), (.ref b32)]))
  refine own_goW (fun _ k => XS.aload X43.here hx rfl (hb hby at_162) rfl rfl k) ?_
  show own_EndsW _ _ _ _ _ _ _ _ _ (T43.setTop (mkF m 164 #[.val (.int p0), .val (.int p1), .val (.int p2), .val (.int l1), .val (.int l2), .val (.int k1), .val (.int k2), .val (.int cp), .val (.int (((p2.toUInt32 >>> ((9 : Int32) &&& 31).toUInt32).toInt32) &&& (3 : Int32))), .val (.int c10), .val (.int c11), .val (.int c20), .val (.int c21), .val (.ref r10), .val (.ref r11), .val (.ref b12), .unset, .unset, .unset, .unset] [(.ref r11), (.ref r43), (.ref b32), (.ref b32)]))
  obtain ⟨_, _, ⟨T55, L55, k55, n55⟩, -, X55', hS55, gg55, ⟨Lc55, hQ55, l55, y55, z55, C55⟩, st55⟩ := X43.specialBackS hx (y := (⟨"com/example/shallow_history/shallowhistory/policy/Literal", "<init>", "(Ljava/lang/String;Lcom/example/shallow_history/shallowhistory/policy/TruthValue;)V"⟩ : MethodName)) rfl hown (mvT hZ (hw _ (List.mem_of_getElem? (i := 43) rfl))) (mvT hZ (hw _ (List.mem_of_getElem? (i := 44) rfl))) (mvT hZ (hw _ (List.mem_of_getElem? (i := 45) rfl))) (by decide) (backOfSH (W := 1) (rmlii l Z ar hw [] b32 r43 r11 T43.heap n0 F45 F52 g_b32 F53 F54 T43_0.1 F47) hZ (hw _ (List.mem_of_getElem? (i := 45) rfl)) (hw _ (List.mem_of_getElem? (i := 9) rfl)) (by decide) (by decide) (own_EW hw) Wd43.ch) (g := (mkF m 164 #[.val (.int p0), .val (.int p1), .val (.int p2), .val (.int l1), .val (.int l2), .val (.int k1), .val (.int k2), .val (.int cp), .val (.int (((p2.toUInt32 >>> ((9 : Int32) &&& 31).toUInt32).toInt32) &&& (3 : Int32))), .val (.int c10), .val (.int c11), .val (.int c20), .val (.int c21), .val (.ref r10), .val (.ref r11), .val (.ref b12), .unset, .unset, .unset, .unset] [(.ref r11), (.ref r43), (.ref b32), (.ref b32)])) rfl (by rw [hml]; rfl) (Steps.refl _) (a := b32) (argsL := [(.ref r43), (.ref r11)]) (rest := [(.ref b32)]) (lenOf pd0_2 rfl) rfl (by show 2 * 0 + _ ≤ _; exact Nat.le_of_eq rfl) (hb hby at_164) (fun _ _ => ⟨rfl, rfl, (by decide : 18 + 4 ≤ _), (by decide : 128 + 100 ≤ _)⟩)
  dsimp only [Pt.U, Pt.locs, Pt.cells, Pt.slots] at X55' hS55 gg55 l55 y55 z55 st55 hQ55 C55
  subst l55 y55 z55
  obtain ⟨X55, Wd55, hZ, hown⟩ := own_fold Wd43 rfl X55' hS55 gg55 C55 hZ hown
  obtain ⟨rfl, N55q, K55, E55_0, F55_0, F55_1⟩ := hQ55
  have N55 := Fr.app N43 N55q
  have F56 : own_Str Z T55.heap r18 (own_n l1) (own_b c10 c11) := (F44.keep1 K55 F52 (by decide) (hw _ (List.mem_of_getElem? (i := 8) rfl)))
  have F57 : own_Str Z T55.heap r43 (own_n l2) (own_b c20 c21) := (T43_0.keep1 K55 F52 (by decide) (hw _ (List.mem_of_getElem? (i := 8) rfl)))
  have F58 : Old Z n0 T55.heap := (F45.keep K55 (allS g_b32 all0))
  have F59 : Exa Z T55.heap r10 "com/example/shallow_history/shallowhistory/policy/TruthValue" := (F46.keep K55)
  have F60 : Exa Z T55.heap r11 "com/example/shallow_history/shallowhistory/policy/TruthValue" := (F47.keep K55)
  have F61 : Exa Z T55.heap b12 "com/example/shallow_history/shallowhistory/policy/Literal" := (F48.keep K55)
  have F62 : Exa Z T55.heap r18 "java/lang/String" := (F49.keep K55)
  have F63 : Fld Z T55.heap b12 "com/example/shallow_history/shallowhistory/policy/Literal" "variable" "Ljava/lang/String;" (.ref r18) := (F50.keep K55 (ninS ne_b12_b32 nin0))
  have F64 : Fld Z T55.heap b12 "com/example/shallow_history/shallowhistory/policy/Literal" "value" "Lcom/example/shallow_history/shallowhistory/policy/TruthValue;" (.ref r10) := (F51.keep K55 (ninS ne_b12_b32 nin0))
  have F65 : Exa Z T55.heap b32 "com/example/shallow_history/shallowhistory/policy/Literal" := (F52.keep K55)
  have F66 : Exa Z T55.heap r43 "java/lang/String" := (T43_0.1.keep K55)
  refine own_goW (fun _ k => st55.trans k) ?_
  show own_EndsW _ _ _ _ _ _ _ _ _ (T55.setTop (mkF m 167 #[.val (.int p0), .val (.int p1), .val (.int p2), .val (.int l1), .val (.int l2), .val (.int k1), .val (.int k2), .val (.int cp), .val (.int (((p2.toUInt32 >>> ((9 : Int32) &&& 31).toUInt32).toInt32) &&& (3 : Int32))), .val (.int c10), .val (.int c11), .val (.int c20), .val (.int c21), .val (.ref r10), .val (.ref r11), .val (.ref b12), .unset, .unset, .unset, .unset] [(.ref b32)]))
  refine own_goW (fun _ k => XS.astore X55.here hx rfl (hb hby at_167) rfl rfl (l' := #[.val (.int p0), .val (.int p1), .val (.int p2), .val (.int l1), .val (.int l2), .val (.int k1), .val (.int k2), .val (.int cp), .val (.int (((p2.toUInt32 >>> ((9 : Int32) &&& 31).toUInt32).toInt32) &&& (3 : Int32))), .val (.int c10), .val (.int c11), .val (.int c20), .val (.int c21), .val (.ref r10), .val (.ref r11), .val (.ref b12), .val (.ref b32), .unset, .unset, .unset]) rfl k) ?_
  show own_EndsW _ _ _ _ _ _ _ _ _ (T55.setTop (mkF m 169 #[.val (.int p0), .val (.int p1), .val (.int p2), .val (.int l1), .val (.int l2), .val (.int k1), .val (.int k2), .val (.int cp), .val (.int (((p2.toUInt32 >>> ((9 : Int32) &&& 31).toUInt32).toInt32) &&& (3 : Int32))), .val (.int c10), .val (.int c11), .val (.int c20), .val (.int c21), .val (.ref r10), .val (.ref r11), .val (.ref b12), .val (.ref b32), .unset, .unset, .unset] []))
  refine own_goW (fun _ k => XS.iloadN X55.here hx rfl (hb hby at_169) rfl k) ?_
  show own_EndsW _ _ _ _ _ _ _ _ _ (T55.setTop (mkF m 170 #[.val (.int p0), .val (.int p1), .val (.int p2), .val (.int l1), .val (.int l2), .val (.int k1), .val (.int k2), .val (.int cp), .val (.int (((p2.toUInt32 >>> ((9 : Int32) &&& 31).toUInt32).toInt32) &&& (3 : Int32))), .val (.int c10), .val (.int c11), .val (.int c20), .val (.int c21), .val (.ref r10), .val (.ref r11), .val (.ref b12), .val (.ref b32), .unset, .unset, .unset] [(.int l1)]))
  refine own_goW (fun _ k => XS.iload X55.here hx rfl (hb hby at_170) rfl k) ?_
  show own_EndsW _ _ _ _ _ _ _ _ _ (T55.setTop (mkF m 172 #[.val (.int p0), .val (.int p1), .val (.int p2), .val (.int l1), .val (.int l2), .val (.int k1), .val (.int k2), .val (.int cp), .val (.int (((p2.toUInt32 >>> ((9 : Int32) &&& 31).toUInt32).toInt32) &&& (3 : Int32))), .val (.int c10), .val (.int c11), .val (.int c20), .val (.int c21), .val (.ref r10), .val (.ref r11), .val (.ref b12), .val (.ref b32), .unset, .unset, .unset] [(.int l2), (.int l1)]))
  suffices hj68 : ∀ z67 : Int32, z67 = (if l1 = l2 then (if l1 < (1 : Int32) then (if l1 < (2 : Int32) then (1 : Int32) else (if c11 = c21 then (1 : Int32) else (0 : Int32))) else (if c10 = c20 then (if l1 < (2 : Int32) then (1 : Int32) else (if c11 = c21 then (1 : Int32) else (0 : Int32))) else (0 : Int32))) else (0 : Int32)) → own_EndsW p e below s Z consts_1 (Q0 Z p0 p1 p2 w_TRUE w_FALSE w_UNDEFINED w_COMPACT_STRINGS h0 n0) 40 3264 (T55.setTop (mkF m 204 #[.val (.int p0), .val (.int p1), .val (.int p2), .val (.int l1), .val (.int l2), .val (.int k1), .val (.int k2), .val (.int cp), .val (.int (((p2.toUInt32 >>> ((9 : Int32) &&& 31).toUInt32).toInt32) &&& (3 : Int32))), .val (.int c10), .val (.int c11), .val (.int c20), .val (.int c21), .val (.ref r10), .val (.ref r11), .val (.ref b12), .val (.ref b32), .unset, .unset, .unset] [(.int z67)])) by
    show own_EndsW _ _ _ _ _ _ _ _ _ (T55.setTop (mkF m 172 #[.val (.int p0), .val (.int p1), .val (.int p2), .val (.int l1), .val (.int l2), .val (.int k1), .val (.int k2), .val (.int cp), .val (.int (((p2.toUInt32 >>> ((9 : Int32) &&& 31).toUInt32).toInt32) &&& (3 : Int32))), .val (.int c10), .val (.int c11), .val (.int c20), .val (.int c21), .val (.ref r10), .val (.ref r11), .val (.ref b12), .val (.ref b32), .unset, .unset, .unset] [(.int l2), (.int l1)]))
    by_cases hc69 : l1 = l2
    · refine own_goW (fun _ k => XS.icmpNo X55.here hx rfl (hb hby at_172) rfl (teq hc69).2 k) ?_
      show own_EndsW _ _ _ _ _ _ _ _ _ (T55.setTop (mkF m 175 #[.val (.int p0), .val (.int p1), .val (.int p2), .val (.int l1), .val (.int l2), .val (.int k1), .val (.int k2), .val (.int cp), .val (.int (((p2.toUInt32 >>> ((9 : Int32) &&& 31).toUInt32).toInt32) &&& (3 : Int32))), .val (.int c10), .val (.int c11), .val (.int c20), .val (.int c21), .val (.ref r10), .val (.ref r11), .val (.ref b12), .val (.ref b32), .unset, .unset, .unset] []))
      refine own_goW (fun _ k => XS.iloadN X55.here hx rfl (hb hby at_175) rfl k) ?_
      show own_EndsW _ _ _ _ _ _ _ _ _ (T55.setTop (mkF m 176 #[.val (.int p0), .val (.int p1), .val (.int p2), .val (.int l1), .val (.int l2), .val (.int k1), .val (.int k2), .val (.int cp), .val (.int (((p2.toUInt32 >>> ((9 : Int32) &&& 31).toUInt32).toInt32) &&& (3 : Int32))), .val (.int c10), .val (.int c11), .val (.int c20), .val (.int c21), .val (.ref r10), .val (.ref r11), .val (.ref b12), .val (.ref b32), .unset, .unset, .unset] [(.int l1)]))
      refine own_goW (fun _ k => XS.iconst X55.here hx rfl (hb hby at_176) k) ?_
      show own_EndsW _ _ _ _ _ _ _ _ _ (T55.setTop (mkF m 177 #[.val (.int p0), .val (.int p1), .val (.int p2), .val (.int l1), .val (.int l2), .val (.int k1), .val (.int k2), .val (.int cp), .val (.int (((p2.toUInt32 >>> ((9 : Int32) &&& 31).toUInt32).toInt32) &&& (3 : Int32))), .val (.int c10), .val (.int c11), .val (.int c20), .val (.int c21), .val (.ref r10), .val (.ref r11), .val (.ref b12), .val (.ref b32), .unset, .unset, .unset] [(.int (1 : Int32)), (.int l1)]))
      by_cases hc70 : l1 < (1 : Int32)
      · refine own_goW (fun _ k => XS.icmpYes X55.here hx rfl (pc0 := 177) (pc' := 187) rfl (hb hby at_177) rfl (tlt hc70).1 (by decide) (by decide) k) ?_
        show own_EndsW _ _ _ _ _ _ _ _ _ (T55.setTop (mkF m 187 #[.val (.int p0), .val (.int p1), .val (.int p2), .val (.int l1), .val (.int l2), .val (.int k1), .val (.int k2), .val (.int cp), .val (.int (((p2.toUInt32 >>> ((9 : Int32) &&& 31).toUInt32).toInt32) &&& (3 : Int32))), .val (.int c10), .val (.int c11), .val (.int c20), .val (.int c21), .val (.ref r10), .val (.ref r11), .val (.ref b12), .val (.ref b32), .unset, .unset, .unset] []))
        refine own_goW (fun _ k => XS.iloadN X55.here hx rfl (hb hby at_187) rfl k) ?_
        show own_EndsW _ _ _ _ _ _ _ _ _ (T55.setTop (mkF m 188 #[.val (.int p0), .val (.int p1), .val (.int p2), .val (.int l1), .val (.int l2), .val (.int k1), .val (.int k2), .val (.int cp), .val (.int (((p2.toUInt32 >>> ((9 : Int32) &&& 31).toUInt32).toInt32) &&& (3 : Int32))), .val (.int c10), .val (.int c11), .val (.int c20), .val (.int c21), .val (.ref r10), .val (.ref r11), .val (.ref b12), .val (.ref b32), .unset, .unset, .unset] [(.int l1)]))
        refine own_goW (fun _ k => XS.iconst X55.here hx rfl (hb hby at_188) k) ?_
        show own_EndsW _ _ _ _ _ _ _ _ _ (T55.setTop (mkF m 189 #[.val (.int p0), .val (.int p1), .val (.int p2), .val (.int l1), .val (.int l2), .val (.int k1), .val (.int k2), .val (.int cp), .val (.int (((p2.toUInt32 >>> ((9 : Int32) &&& 31).toUInt32).toInt32) &&& (3 : Int32))), .val (.int c10), .val (.int c11), .val (.int c20), .val (.int c21), .val (.ref r10), .val (.ref r11), .val (.ref b12), .val (.ref b32), .unset, .unset, .unset] [(.int (2 : Int32)), (.int l1)]))
        by_cases hc71 : l1 < (2 : Int32)
        · refine own_goW (fun _ k => XS.icmpYes X55.here hx rfl (pc0 := 189) (pc' := 199) rfl (hb hby at_189) rfl (tlt hc71).1 (by decide) (by decide) k) ?_
          show own_EndsW _ _ _ _ _ _ _ _ _ (T55.setTop (mkF m 199 #[.val (.int p0), .val (.int p1), .val (.int p2), .val (.int l1), .val (.int l2), .val (.int k1), .val (.int k2), .val (.int cp), .val (.int (((p2.toUInt32 >>> ((9 : Int32) &&& 31).toUInt32).toInt32) &&& (3 : Int32))), .val (.int c10), .val (.int c11), .val (.int c20), .val (.int c21), .val (.ref r10), .val (.ref r11), .val (.ref b12), .val (.ref b32), .unset, .unset, .unset] []))
          refine own_goW (fun _ k => XS.iconst X55.here hx rfl (hb hby at_199) k) ?_
          show own_EndsW _ _ _ _ _ _ _ _ _ (T55.setTop (mkF m 200 #[.val (.int p0), .val (.int p1), .val (.int p2), .val (.int l1), .val (.int l2), .val (.int k1), .val (.int k2), .val (.int cp), .val (.int (((p2.toUInt32 >>> ((9 : Int32) &&& 31).toUInt32).toInt32) &&& (3 : Int32))), .val (.int c10), .val (.int c11), .val (.int c20), .val (.int c21), .val (.ref r10), .val (.ref r11), .val (.ref b12), .val (.ref b32), .unset, .unset, .unset] [(.int (1 : Int32))]))
          refine own_goW (fun _ k => XS.goto X55.here hx rfl (pc0 := 200) (pc' := 204) rfl (hb hby at_200) (by decide) (by decide) k) ?_
          exact hj68 _ ((((if_pos hc69).trans (if_pos hc70)).trans (if_pos hc71))).symm
        · refine own_goW (fun _ k => XS.icmpNo X55.here hx rfl (hb hby at_189) rfl (flt hc71).1 k) ?_
          show own_EndsW _ _ _ _ _ _ _ _ _ (T55.setTop (mkF m 192 #[.val (.int p0), .val (.int p1), .val (.int p2), .val (.int l1), .val (.int l2), .val (.int k1), .val (.int k2), .val (.int cp), .val (.int (((p2.toUInt32 >>> ((9 : Int32) &&& 31).toUInt32).toInt32) &&& (3 : Int32))), .val (.int c10), .val (.int c11), .val (.int c20), .val (.int c21), .val (.ref r10), .val (.ref r11), .val (.ref b12), .val (.ref b32), .unset, .unset, .unset] []))
          refine own_goW (fun _ k => XS.iload X55.here hx rfl (hb hby at_192) rfl k) ?_
          show own_EndsW _ _ _ _ _ _ _ _ _ (T55.setTop (mkF m 194 #[.val (.int p0), .val (.int p1), .val (.int p2), .val (.int l1), .val (.int l2), .val (.int k1), .val (.int k2), .val (.int cp), .val (.int (((p2.toUInt32 >>> ((9 : Int32) &&& 31).toUInt32).toInt32) &&& (3 : Int32))), .val (.int c10), .val (.int c11), .val (.int c20), .val (.int c21), .val (.ref r10), .val (.ref r11), .val (.ref b12), .val (.ref b32), .unset, .unset, .unset] [(.int c11)]))
          refine own_goW (fun _ k => XS.iload X55.here hx rfl (hb hby at_194) rfl k) ?_
          show own_EndsW _ _ _ _ _ _ _ _ _ (T55.setTop (mkF m 196 #[.val (.int p0), .val (.int p1), .val (.int p2), .val (.int l1), .val (.int l2), .val (.int k1), .val (.int k2), .val (.int cp), .val (.int (((p2.toUInt32 >>> ((9 : Int32) &&& 31).toUInt32).toInt32) &&& (3 : Int32))), .val (.int c10), .val (.int c11), .val (.int c20), .val (.int c21), .val (.ref r10), .val (.ref r11), .val (.ref b12), .val (.ref b32), .unset, .unset, .unset] [(.int c21), (.int c11)]))
          by_cases hc72 : c11 = c21
          · refine own_goW (fun _ k => XS.icmpNo X55.here hx rfl (hb hby at_196) rfl (teq hc72).2 k) ?_
            show own_EndsW _ _ _ _ _ _ _ _ _ (T55.setTop (mkF m 199 #[.val (.int p0), .val (.int p1), .val (.int p2), .val (.int l1), .val (.int l2), .val (.int k1), .val (.int k2), .val (.int cp), .val (.int (((p2.toUInt32 >>> ((9 : Int32) &&& 31).toUInt32).toInt32) &&& (3 : Int32))), .val (.int c10), .val (.int c11), .val (.int c20), .val (.int c21), .val (.ref r10), .val (.ref r11), .val (.ref b12), .val (.ref b32), .unset, .unset, .unset] []))
            refine own_goW (fun _ k => XS.iconst X55.here hx rfl (hb hby at_199) k) ?_
            show own_EndsW _ _ _ _ _ _ _ _ _ (T55.setTop (mkF m 200 #[.val (.int p0), .val (.int p1), .val (.int p2), .val (.int l1), .val (.int l2), .val (.int k1), .val (.int k2), .val (.int cp), .val (.int (((p2.toUInt32 >>> ((9 : Int32) &&& 31).toUInt32).toInt32) &&& (3 : Int32))), .val (.int c10), .val (.int c11), .val (.int c20), .val (.int c21), .val (.ref r10), .val (.ref r11), .val (.ref b12), .val (.ref b32), .unset, .unset, .unset] [(.int (1 : Int32))]))
            refine own_goW (fun _ k => XS.goto X55.here hx rfl (pc0 := 200) (pc' := 204) rfl (hb hby at_200) (by decide) (by decide) k) ?_
            exact hj68 _ (((((if_pos hc69).trans (if_pos hc70)).trans (if_neg hc71)).trans (if_pos hc72))).symm
          · refine own_goW (fun _ k => XS.icmpYes X55.here hx rfl (pc0 := 196) (pc' := 203) rfl (hb hby at_196) rfl (feq hc72).2 (by decide) (by decide) k) ?_
            show own_EndsW _ _ _ _ _ _ _ _ _ (T55.setTop (mkF m 203 #[.val (.int p0), .val (.int p1), .val (.int p2), .val (.int l1), .val (.int l2), .val (.int k1), .val (.int k2), .val (.int cp), .val (.int (((p2.toUInt32 >>> ((9 : Int32) &&& 31).toUInt32).toInt32) &&& (3 : Int32))), .val (.int c10), .val (.int c11), .val (.int c20), .val (.int c21), .val (.ref r10), .val (.ref r11), .val (.ref b12), .val (.ref b32), .unset, .unset, .unset] []))
            refine own_goW (fun _ k => XS.iconst X55.here hx rfl (hb hby at_203) k) ?_
            exact hj68 _ (((((if_pos hc69).trans (if_pos hc70)).trans (if_neg hc71)).trans (if_neg hc72))).symm
      · refine own_goW (fun _ k => XS.icmpNo X55.here hx rfl (hb hby at_177) rfl (flt hc70).1 k) ?_
        show own_EndsW _ _ _ _ _ _ _ _ _ (T55.setTop (mkF m 180 #[.val (.int p0), .val (.int p1), .val (.int p2), .val (.int l1), .val (.int l2), .val (.int k1), .val (.int k2), .val (.int cp), .val (.int (((p2.toUInt32 >>> ((9 : Int32) &&& 31).toUInt32).toInt32) &&& (3 : Int32))), .val (.int c10), .val (.int c11), .val (.int c20), .val (.int c21), .val (.ref r10), .val (.ref r11), .val (.ref b12), .val (.ref b32), .unset, .unset, .unset] []))
        refine own_goW (fun _ k => XS.iload X55.here hx rfl (hb hby at_180) rfl k) ?_
        show own_EndsW _ _ _ _ _ _ _ _ _ (T55.setTop (mkF m 182 #[.val (.int p0), .val (.int p1), .val (.int p2), .val (.int l1), .val (.int l2), .val (.int k1), .val (.int k2), .val (.int cp), .val (.int (((p2.toUInt32 >>> ((9 : Int32) &&& 31).toUInt32).toInt32) &&& (3 : Int32))), .val (.int c10), .val (.int c11), .val (.int c20), .val (.int c21), .val (.ref r10), .val (.ref r11), .val (.ref b12), .val (.ref b32), .unset, .unset, .unset] [(.int c10)]))
        refine own_goW (fun _ k => XS.iload X55.here hx rfl (hb hby at_182) rfl k) ?_
        show own_EndsW _ _ _ _ _ _ _ _ _ (T55.setTop (mkF m 184 #[.val (.int p0), .val (.int p1), .val (.int p2), .val (.int l1), .val (.int l2), .val (.int k1), .val (.int k2), .val (.int cp), .val (.int (((p2.toUInt32 >>> ((9 : Int32) &&& 31).toUInt32).toInt32) &&& (3 : Int32))), .val (.int c10), .val (.int c11), .val (.int c20), .val (.int c21), .val (.ref r10), .val (.ref r11), .val (.ref b12), .val (.ref b32), .unset, .unset, .unset] [(.int c20), (.int c10)]))
        by_cases hc73 : c10 = c20
        · refine own_goW (fun _ k => XS.icmpNo X55.here hx rfl (hb hby at_184) rfl (teq hc73).2 k) ?_
          show own_EndsW _ _ _ _ _ _ _ _ _ (T55.setTop (mkF m 187 #[.val (.int p0), .val (.int p1), .val (.int p2), .val (.int l1), .val (.int l2), .val (.int k1), .val (.int k2), .val (.int cp), .val (.int (((p2.toUInt32 >>> ((9 : Int32) &&& 31).toUInt32).toInt32) &&& (3 : Int32))), .val (.int c10), .val (.int c11), .val (.int c20), .val (.int c21), .val (.ref r10), .val (.ref r11), .val (.ref b12), .val (.ref b32), .unset, .unset, .unset] []))
          refine own_goW (fun _ k => XS.iloadN X55.here hx rfl (hb hby at_187) rfl k) ?_
          show own_EndsW _ _ _ _ _ _ _ _ _ (T55.setTop (mkF m 188 #[.val (.int p0), .val (.int p1), .val (.int p2), .val (.int l1), .val (.int l2), .val (.int k1), .val (.int k2), .val (.int cp), .val (.int (((p2.toUInt32 >>> ((9 : Int32) &&& 31).toUInt32).toInt32) &&& (3 : Int32))), .val (.int c10), .val (.int c11), .val (.int c20), .val (.int c21), .val (.ref r10), .val (.ref r11), .val (.ref b12), .val (.ref b32), .unset, .unset, .unset] [(.int l1)]))
          refine own_goW (fun _ k => XS.iconst X55.here hx rfl (hb hby at_188) k) ?_
          show own_EndsW _ _ _ _ _ _ _ _ _ (T55.setTop (mkF m 189 #[.val (.int p0), .val (.int p1), .val (.int p2), .val (.int l1), .val (.int l2), .val (.int k1), .val (.int k2), .val (.int cp), .val (.int (((p2.toUInt32 >>> ((9 : Int32) &&& 31).toUInt32).toInt32) &&& (3 : Int32))), .val (.int c10), .val (.int c11), .val (.int c20), .val (.int c21), .val (.ref r10), .val (.ref r11), .val (.ref b12), .val (.ref b32), .unset, .unset, .unset] [(.int (2 : Int32)), (.int l1)]))
          by_cases hc74 : l1 < (2 : Int32)
          · refine own_goW (fun _ k => XS.icmpYes X55.here hx rfl (pc0 := 189) (pc' := 199) rfl (hb hby at_189) rfl (tlt hc74).1 (by decide) (by decide) k) ?_
            show own_EndsW _ _ _ _ _ _ _ _ _ (T55.setTop (mkF m 199 #[.val (.int p0), .val (.int p1), .val (.int p2), .val (.int l1), .val (.int l2), .val (.int k1), .val (.int k2), .val (.int cp), .val (.int (((p2.toUInt32 >>> ((9 : Int32) &&& 31).toUInt32).toInt32) &&& (3 : Int32))), .val (.int c10), .val (.int c11), .val (.int c20), .val (.int c21), .val (.ref r10), .val (.ref r11), .val (.ref b12), .val (.ref b32), .unset, .unset, .unset] []))
            refine own_goW (fun _ k => XS.iconst X55.here hx rfl (hb hby at_199) k) ?_
            show own_EndsW _ _ _ _ _ _ _ _ _ (T55.setTop (mkF m 200 #[.val (.int p0), .val (.int p1), .val (.int p2), .val (.int l1), .val (.int l2), .val (.int k1), .val (.int k2), .val (.int cp), .val (.int (((p2.toUInt32 >>> ((9 : Int32) &&& 31).toUInt32).toInt32) &&& (3 : Int32))), .val (.int c10), .val (.int c11), .val (.int c20), .val (.int c21), .val (.ref r10), .val (.ref r11), .val (.ref b12), .val (.ref b32), .unset, .unset, .unset] [(.int (1 : Int32))]))
            refine own_goW (fun _ k => XS.goto X55.here hx rfl (pc0 := 200) (pc' := 204) rfl (hb hby at_200) (by decide) (by decide) k) ?_
            exact hj68 _ (((((if_pos hc69).trans (if_neg hc70)).trans (if_pos hc73)).trans (if_pos hc74))).symm
          · refine own_goW (fun _ k => XS.icmpNo X55.here hx rfl (hb hby at_189) rfl (flt hc74).1 k) ?_
            show own_EndsW _ _ _ _ _ _ _ _ _ (T55.setTop (mkF m 192 #[.val (.int p0), .val (.int p1), .val (.int p2), .val (.int l1), .val (.int l2), .val (.int k1), .val (.int k2), .val (.int cp), .val (.int (((p2.toUInt32 >>> ((9 : Int32) &&& 31).toUInt32).toInt32) &&& (3 : Int32))), .val (.int c10), .val (.int c11), .val (.int c20), .val (.int c21), .val (.ref r10), .val (.ref r11), .val (.ref b12), .val (.ref b32), .unset, .unset, .unset] []))
            refine own_goW (fun _ k => XS.iload X55.here hx rfl (hb hby at_192) rfl k) ?_
            show own_EndsW _ _ _ _ _ _ _ _ _ (T55.setTop (mkF m 194 #[.val (.int p0), .val (.int p1), .val (.int p2), .val (.int l1), .val (.int l2), .val (.int k1), .val (.int k2), .val (.int cp), .val (.int (((p2.toUInt32 >>> ((9 : Int32) &&& 31).toUInt32).toInt32) &&& (3 : Int32))), .val (.int c10), .val (.int c11), .val (.int c20), .val (.int c21), .val (.ref r10), .val (.ref r11), .val (.ref b12), .val (.ref b32), .unset, .unset, .unset] [(.int c11)]))
            refine own_goW (fun _ k => XS.iload X55.here hx rfl (hb hby at_194) rfl k) ?_
            show own_EndsW _ _ _ _ _ _ _ _ _ (T55.setTop (mkF m 196 #[.val (.int p0), .val (.int p1), .val (.int p2), .val (.int l1), .val (.int l2), .val (.int k1), .val (.int k2), .val (.int cp), .val (.int (((p2.toUInt32 >>> ((9 : Int32) &&& 31).toUInt32).toInt32) &&& (3 : Int32))), .val (.int c10), .val (.int c11), .val (.int c20), .val (.int c21), .val (.ref r10), .val (.ref r11), .val (.ref b12), .val (.ref b32), .unset, .unset, .unset] [(.int c21), (.int c11)]))
            by_cases hc75 : c11 = c21
            · refine own_goW (fun _ k => XS.icmpNo X55.here hx rfl (hb hby at_196) rfl (teq hc75).2 k) ?_
              show own_EndsW _ _ _ _ _ _ _ _ _ (T55.setTop (mkF m 199 #[.val (.int p0), .val (.int p1), .val (.int p2), .val (.int l1), .val (.int l2), .val (.int k1), .val (.int k2), .val (.int cp), .val (.int (((p2.toUInt32 >>> ((9 : Int32) &&& 31).toUInt32).toInt32) &&& (3 : Int32))), .val (.int c10), .val (.int c11), .val (.int c20), .val (.int c21), .val (.ref r10), .val (.ref r11), .val (.ref b12), .val (.ref b32), .unset, .unset, .unset] []))
              refine own_goW (fun _ k => XS.iconst X55.here hx rfl (hb hby at_199) k) ?_
              show own_EndsW _ _ _ _ _ _ _ _ _ (T55.setTop (mkF m 200 #[.val (.int p0), .val (.int p1), .val (.int p2), .val (.int l1), .val (.int l2), .val (.int k1), .val (.int k2), .val (.int cp), .val (.int (((p2.toUInt32 >>> ((9 : Int32) &&& 31).toUInt32).toInt32) &&& (3 : Int32))), .val (.int c10), .val (.int c11), .val (.int c20), .val (.int c21), .val (.ref r10), .val (.ref r11), .val (.ref b12), .val (.ref b32), .unset, .unset, .unset] [(.int (1 : Int32))]))
              refine own_goW (fun _ k => XS.goto X55.here hx rfl (pc0 := 200) (pc' := 204) rfl (hb hby at_200) (by decide) (by decide) k) ?_
              exact hj68 _ ((((((if_pos hc69).trans (if_neg hc70)).trans (if_pos hc73)).trans (if_neg hc74)).trans (if_pos hc75))).symm
            · refine own_goW (fun _ k => XS.icmpYes X55.here hx rfl (pc0 := 196) (pc' := 203) rfl (hb hby at_196) rfl (feq hc75).2 (by decide) (by decide) k) ?_
              show own_EndsW _ _ _ _ _ _ _ _ _ (T55.setTop (mkF m 203 #[.val (.int p0), .val (.int p1), .val (.int p2), .val (.int l1), .val (.int l2), .val (.int k1), .val (.int k2), .val (.int cp), .val (.int (((p2.toUInt32 >>> ((9 : Int32) &&& 31).toUInt32).toInt32) &&& (3 : Int32))), .val (.int c10), .val (.int c11), .val (.int c20), .val (.int c21), .val (.ref r10), .val (.ref r11), .val (.ref b12), .val (.ref b32), .unset, .unset, .unset] []))
              refine own_goW (fun _ k => XS.iconst X55.here hx rfl (hb hby at_203) k) ?_
              exact hj68 _ ((((((if_pos hc69).trans (if_neg hc70)).trans (if_pos hc73)).trans (if_neg hc74)).trans (if_neg hc75))).symm
        · refine own_goW (fun _ k => XS.icmpYes X55.here hx rfl (pc0 := 184) (pc' := 203) rfl (hb hby at_184) rfl (feq hc73).2 (by decide) (by decide) k) ?_
          show own_EndsW _ _ _ _ _ _ _ _ _ (T55.setTop (mkF m 203 #[.val (.int p0), .val (.int p1), .val (.int p2), .val (.int l1), .val (.int l2), .val (.int k1), .val (.int k2), .val (.int cp), .val (.int (((p2.toUInt32 >>> ((9 : Int32) &&& 31).toUInt32).toInt32) &&& (3 : Int32))), .val (.int c10), .val (.int c11), .val (.int c20), .val (.int c21), .val (.ref r10), .val (.ref r11), .val (.ref b12), .val (.ref b32), .unset, .unset, .unset] []))
          refine own_goW (fun _ k => XS.iconst X55.here hx rfl (hb hby at_203) k) ?_
          exact hj68 _ ((((if_pos hc69).trans (if_neg hc70)).trans (if_neg hc73))).symm
    · refine own_goW (fun _ k => XS.icmpYes X55.here hx rfl (pc0 := 172) (pc' := 203) rfl (hb hby at_172) rfl (feq hc69).2 (by decide) (by decide) k) ?_
      show own_EndsW _ _ _ _ _ _ _ _ _ (T55.setTop (mkF m 203 #[.val (.int p0), .val (.int p1), .val (.int p2), .val (.int l1), .val (.int l2), .val (.int k1), .val (.int k2), .val (.int cp), .val (.int (((p2.toUInt32 >>> ((9 : Int32) &&& 31).toUInt32).toInt32) &&& (3 : Int32))), .val (.int c10), .val (.int c11), .val (.int c20), .val (.int c21), .val (.ref r10), .val (.ref r11), .val (.ref b12), .val (.ref b32), .unset, .unset, .unset] []))
      refine own_goW (fun _ k => XS.iconst X55.here hx rfl (hb hby at_203) k) ?_
      exact hj68 _ ((if_neg hc69)).symm
  intro z67 hz67
  show own_EndsW _ _ _ _ _ _ _ _ _ (T55.setTop (mkF m 204 #[.val (.int p0), .val (.int p1), .val (.int p2), .val (.int l1), .val (.int l2), .val (.int k1), .val (.int k2), .val (.int cp), .val (.int (((p2.toUInt32 >>> ((9 : Int32) &&& 31).toUInt32).toInt32) &&& (3 : Int32))), .val (.int c10), .val (.int c11), .val (.int c20), .val (.int c21), .val (.ref r10), .val (.ref r11), .val (.ref b12), .val (.ref b32), .unset, .unset, .unset] [(.int z67)]))
  refine own_goW (fun _ k => XS.istore X55.here hx rfl (hb hby at_204) rfl (l' := #[.val (.int p0), .val (.int p1), .val (.int p2), .val (.int l1), .val (.int l2), .val (.int k1), .val (.int k2), .val (.int cp), .val (.int (((p2.toUInt32 >>> ((9 : Int32) &&& 31).toUInt32).toInt32) &&& (3 : Int32))), .val (.int c10), .val (.int c11), .val (.int c20), .val (.int c21), .val (.ref r10), .val (.ref r11), .val (.ref b12), .val (.ref b32), .val (.int z67), .unset, .unset]) rfl k) ?_
  suffices hjsn : ∀ sn : Int32, sn = z67 → own_EndsW p e below s Z consts_1 (Q0 Z p0 p1 p2 w_TRUE w_FALSE w_UNDEFINED w_COMPACT_STRINGS h0 n0) 40 3264 (T55.setTop (mkF m 206 #[.val (.int p0), .val (.int p1), .val (.int p2), .val (.int l1), .val (.int l2), .val (.int k1), .val (.int k2), .val (.int cp), .val (.int (((p2.toUInt32 >>> ((9 : Int32) &&& 31).toUInt32).toInt32) &&& (3 : Int32))), .val (.int c10), .val (.int c11), .val (.int c20), .val (.int c21), .val (.ref r10), .val (.ref r11), .val (.ref b12), .val (.ref b32), .val (.int sn), .unset, .unset] [])) by exact hjsn _ rfl
  intro sn hsn
  have J_sn := hsn.trans hz67
  have S_sn := own_sn J_sn
  show own_EndsW _ _ _ _ _ _ _ _ _ (T55.setTop (mkF m 206 #[.val (.int p0), .val (.int p1), .val (.int p2), .val (.int l1), .val (.int l2), .val (.int k1), .val (.int k2), .val (.int cp), .val (.int (((p2.toUInt32 >>> ((9 : Int32) &&& 31).toUInt32).toInt32) &&& (3 : Int32))), .val (.int c10), .val (.int c11), .val (.int c20), .val (.int c21), .val (.ref r10), .val (.ref r11), .val (.ref b12), .val (.ref b32), .val (.int sn), .unset, .unset] []))
  refine own_goW (fun _ k => XS.iload X55.here hx rfl (hb hby at_206) rfl k) ?_
  show own_EndsW _ _ _ _ _ _ _ _ _ (T55.setTop (mkF m 208 #[.val (.int p0), .val (.int p1), .val (.int p2), .val (.int l1), .val (.int l2), .val (.int k1), .val (.int k2), .val (.int cp), .val (.int (((p2.toUInt32 >>> ((9 : Int32) &&& 31).toUInt32).toInt32) &&& (3 : Int32))), .val (.int c10), .val (.int c11), .val (.int c20), .val (.int c21), .val (.ref r10), .val (.ref r11), .val (.ref b12), .val (.ref b32), .val (.int sn), .unset, .unset] [(.int k1)]))
  refine own_goW (fun _ k => XS.iload X55.here hx rfl (hb hby at_208) rfl k) ?_
  show own_EndsW _ _ _ _ _ _ _ _ _ (T55.setTop (mkF m 210 #[.val (.int p0), .val (.int p1), .val (.int p2), .val (.int l1), .val (.int l2), .val (.int k1), .val (.int k2), .val (.int cp), .val (.int (((p2.toUInt32 >>> ((9 : Int32) &&& 31).toUInt32).toInt32) &&& (3 : Int32))), .val (.int c10), .val (.int c11), .val (.int c20), .val (.int c21), .val (.ref r10), .val (.ref r11), .val (.ref b12), .val (.ref b32), .val (.int sn), .unset, .unset] [(.int k2), (.int k1)]))
  suffices hj77 : ∀ z76 : Int32, z76 = (if k1 = k2 then (1 : Int32) else (0 : Int32)) → own_EndsW p e below s Z consts_1 (Q0 Z p0 p1 p2 w_TRUE w_FALSE w_UNDEFINED w_COMPACT_STRINGS h0 n0) 40 3264 (T55.setTop (mkF m 218 #[.val (.int p0), .val (.int p1), .val (.int p2), .val (.int l1), .val (.int l2), .val (.int k1), .val (.int k2), .val (.int cp), .val (.int (((p2.toUInt32 >>> ((9 : Int32) &&& 31).toUInt32).toInt32) &&& (3 : Int32))), .val (.int c10), .val (.int c11), .val (.int c20), .val (.int c21), .val (.ref r10), .val (.ref r11), .val (.ref b12), .val (.ref b32), .val (.int sn), .unset, .unset] [(.int z76)])) by
    show own_EndsW _ _ _ _ _ _ _ _ _ (T55.setTop (mkF m 210 #[.val (.int p0), .val (.int p1), .val (.int p2), .val (.int l1), .val (.int l2), .val (.int k1), .val (.int k2), .val (.int cp), .val (.int (((p2.toUInt32 >>> ((9 : Int32) &&& 31).toUInt32).toInt32) &&& (3 : Int32))), .val (.int c10), .val (.int c11), .val (.int c20), .val (.int c21), .val (.ref r10), .val (.ref r11), .val (.ref b12), .val (.ref b32), .val (.int sn), .unset, .unset] [(.int k2), (.int k1)]))
    by_cases hc78 : k1 = k2
    · refine own_goW (fun _ k => XS.icmpNo X55.here hx rfl (hb hby at_210) rfl (teq hc78).2 k) ?_
      show own_EndsW _ _ _ _ _ _ _ _ _ (T55.setTop (mkF m 213 #[.val (.int p0), .val (.int p1), .val (.int p2), .val (.int l1), .val (.int l2), .val (.int k1), .val (.int k2), .val (.int cp), .val (.int (((p2.toUInt32 >>> ((9 : Int32) &&& 31).toUInt32).toInt32) &&& (3 : Int32))), .val (.int c10), .val (.int c11), .val (.int c20), .val (.int c21), .val (.ref r10), .val (.ref r11), .val (.ref b12), .val (.ref b32), .val (.int sn), .unset, .unset] []))
      refine own_goW (fun _ k => XS.iconst X55.here hx rfl (hb hby at_213) k) ?_
      show own_EndsW _ _ _ _ _ _ _ _ _ (T55.setTop (mkF m 214 #[.val (.int p0), .val (.int p1), .val (.int p2), .val (.int l1), .val (.int l2), .val (.int k1), .val (.int k2), .val (.int cp), .val (.int (((p2.toUInt32 >>> ((9 : Int32) &&& 31).toUInt32).toInt32) &&& (3 : Int32))), .val (.int c10), .val (.int c11), .val (.int c20), .val (.int c21), .val (.ref r10), .val (.ref r11), .val (.ref b12), .val (.ref b32), .val (.int sn), .unset, .unset] [(.int (1 : Int32))]))
      refine own_goW (fun _ k => XS.goto X55.here hx rfl (pc0 := 214) (pc' := 218) rfl (hb hby at_214) (by decide) (by decide) k) ?_
      exact hj77 _ ((if_pos hc78)).symm
    · refine own_goW (fun _ k => XS.icmpYes X55.here hx rfl (pc0 := 210) (pc' := 217) rfl (hb hby at_210) rfl (feq hc78).2 (by decide) (by decide) k) ?_
      show own_EndsW _ _ _ _ _ _ _ _ _ (T55.setTop (mkF m 217 #[.val (.int p0), .val (.int p1), .val (.int p2), .val (.int l1), .val (.int l2), .val (.int k1), .val (.int k2), .val (.int cp), .val (.int (((p2.toUInt32 >>> ((9 : Int32) &&& 31).toUInt32).toInt32) &&& (3 : Int32))), .val (.int c10), .val (.int c11), .val (.int c20), .val (.int c21), .val (.ref r10), .val (.ref r11), .val (.ref b12), .val (.ref b32), .val (.int sn), .unset, .unset] []))
      refine own_goW (fun _ k => XS.iconst X55.here hx rfl (hb hby at_217) k) ?_
      exact hj77 _ ((if_neg hc78)).symm
  intro z76 hz76
  show own_EndsW _ _ _ _ _ _ _ _ _ (T55.setTop (mkF m 218 #[.val (.int p0), .val (.int p1), .val (.int p2), .val (.int l1), .val (.int l2), .val (.int k1), .val (.int k2), .val (.int cp), .val (.int (((p2.toUInt32 >>> ((9 : Int32) &&& 31).toUInt32).toInt32) &&& (3 : Int32))), .val (.int c10), .val (.int c11), .val (.int c20), .val (.int c21), .val (.ref r10), .val (.ref r11), .val (.ref b12), .val (.ref b32), .val (.int sn), .unset, .unset] [(.int z76)]))
  refine own_goW (fun _ k => XS.istore X55.here hx rfl (hb hby at_218) rfl (l' := #[.val (.int p0), .val (.int p1), .val (.int p2), .val (.int l1), .val (.int l2), .val (.int k1), .val (.int k2), .val (.int cp), .val (.int (((p2.toUInt32 >>> ((9 : Int32) &&& 31).toUInt32).toInt32) &&& (3 : Int32))), .val (.int c10), .val (.int c11), .val (.int c20), .val (.int c21), .val (.ref r10), .val (.ref r11), .val (.ref b12), .val (.ref b32), .val (.int sn), .val (.int z76), .unset]) rfl k) ?_
  suffices hjsv : ∀ sv : Int32, sv = z76 → own_EndsW p e below s Z consts_1 (Q0 Z p0 p1 p2 w_TRUE w_FALSE w_UNDEFINED w_COMPACT_STRINGS h0 n0) 40 3264 (T55.setTop (mkF m 220 #[.val (.int p0), .val (.int p1), .val (.int p2), .val (.int l1), .val (.int l2), .val (.int k1), .val (.int k2), .val (.int cp), .val (.int (((p2.toUInt32 >>> ((9 : Int32) &&& 31).toUInt32).toInt32) &&& (3 : Int32))), .val (.int c10), .val (.int c11), .val (.int c20), .val (.int c21), .val (.ref r10), .val (.ref r11), .val (.ref b12), .val (.ref b32), .val (.int sn), .val (.int sv), .unset] [])) by exact hjsv _ rfl
  intro sv hsv
  have J_sv := hsv.trans hz76
  have S_sv := own_sv J_sv
  show own_EndsW _ _ _ _ _ _ _ _ _ (T55.setTop (mkF m 220 #[.val (.int p0), .val (.int p1), .val (.int p2), .val (.int l1), .val (.int l2), .val (.int k1), .val (.int k2), .val (.int cp), .val (.int (((p2.toUInt32 >>> ((9 : Int32) &&& 31).toUInt32).toInt32) &&& (3 : Int32))), .val (.int c10), .val (.int c11), .val (.int c20), .val (.int c21), .val (.ref r10), .val (.ref r11), .val (.ref b12), .val (.ref b32), .val (.int sn), .val (.int sv), .unset] []))
  refine own_goW (fun _ k => XS.iload X55.here hx rfl (hb hby at_220) rfl k) ?_
  show own_EndsW _ _ _ _ _ _ _ _ _ (T55.setTop (mkF m 222 #[.val (.int p0), .val (.int p1), .val (.int p2), .val (.int l1), .val (.int l2), .val (.int k1), .val (.int k2), .val (.int cp), .val (.int (((p2.toUInt32 >>> ((9 : Int32) &&& 31).toUInt32).toInt32) &&& (3 : Int32))), .val (.int c10), .val (.int c11), .val (.int c20), .val (.int c21), .val (.ref r10), .val (.ref r11), .val (.ref b12), .val (.ref b32), .val (.int sn), .val (.int sv), .unset] [(.int (((p2.toUInt32 >>> ((9 : Int32) &&& 31).toUInt32).toInt32) &&& (3 : Int32)))]))
  by_cases hc79 : (((p2.toUInt32 >>> ((9 : Int32) &&& 31).toUInt32).toInt32) &&& (3 : Int32)) = (0 : Int32)
  · refine own_goW (fun _ k => XS.ifNo X55.here hx rfl (hb hby at_222) rfl ((if0 _ _).trans (teq hc79).2) k) ?_
    show own_EndsW _ _ _ _ _ _ _ _ _ (T55.setTop (mkF m 225 #[.val (.int p0), .val (.int p1), .val (.int p2), .val (.int l1), .val (.int l2), .val (.int k1), .val (.int k2), .val (.int cp), .val (.int (((p2.toUInt32 >>> ((9 : Int32) &&& 31).toUInt32).toInt32) &&& (3 : Int32))), .val (.int c10), .val (.int c11), .val (.int c20), .val (.int c21), .val (.ref r10), .val (.ref r11), .val (.ref b12), .val (.ref b32), .val (.int sn), .val (.int sv), .unset] []))
    refine own_goW (fun _ k => XS.iload X55.here hx rfl (hb hby at_225) rfl k) ?_
    show own_EndsW _ _ _ _ _ _ _ _ _ (T55.setTop (mkF m 227 #[.val (.int p0), .val (.int p1), .val (.int p2), .val (.int l1), .val (.int l2), .val (.int k1), .val (.int k2), .val (.int cp), .val (.int (((p2.toUInt32 >>> ((9 : Int32) &&& 31).toUInt32).toInt32) &&& (3 : Int32))), .val (.int c10), .val (.int c11), .val (.int c20), .val (.int c21), .val (.ref r10), .val (.ref r11), .val (.ref b12), .val (.ref b32), .val (.int sn), .val (.int sv), .unset] [(.int sn)]))
    suffices hj81 : ∀ z80 : Int32, z80 = (if sn = (0 : Int32) then (0 : Int32) else (if sv = (0 : Int32) then (0 : Int32) else (1 : Int32))) → own_EndsW p e below s Z consts_1 (Q0 Z p0 p1 p2 w_TRUE w_FALSE w_UNDEFINED w_COMPACT_STRINGS h0 n0) 40 3264 (T55.setTop (mkF m 240 #[.val (.int p0), .val (.int p1), .val (.int p2), .val (.int l1), .val (.int l2), .val (.int k1), .val (.int k2), .val (.int cp), .val (.int (((p2.toUInt32 >>> ((9 : Int32) &&& 31).toUInt32).toInt32) &&& (3 : Int32))), .val (.int c10), .val (.int c11), .val (.int c20), .val (.int c21), .val (.ref r10), .val (.ref r11), .val (.ref b12), .val (.ref b32), .val (.int sn), .val (.int sv), .unset] [(.int z80)])) by
      show own_EndsW _ _ _ _ _ _ _ _ _ (T55.setTop (mkF m 227 #[.val (.int p0), .val (.int p1), .val (.int p2), .val (.int l1), .val (.int l2), .val (.int k1), .val (.int k2), .val (.int cp), .val (.int (((p2.toUInt32 >>> ((9 : Int32) &&& 31).toUInt32).toInt32) &&& (3 : Int32))), .val (.int c10), .val (.int c11), .val (.int c20), .val (.int c21), .val (.ref r10), .val (.ref r11), .val (.ref b12), .val (.ref b32), .val (.int sn), .val (.int sv), .unset] [(.int sn)]))
      by_cases hc82 : sn = (0 : Int32)
      · refine own_goW (fun _ k => XS.ifYes X55.here hx rfl (pc0 := 227) (pc' := 239) rfl (hb hby at_227) rfl ((if0 _ _).trans (teq hc82).1) (by decide) (by decide) k) ?_
        show own_EndsW _ _ _ _ _ _ _ _ _ (T55.setTop (mkF m 239 #[.val (.int p0), .val (.int p1), .val (.int p2), .val (.int l1), .val (.int l2), .val (.int k1), .val (.int k2), .val (.int cp), .val (.int (((p2.toUInt32 >>> ((9 : Int32) &&& 31).toUInt32).toInt32) &&& (3 : Int32))), .val (.int c10), .val (.int c11), .val (.int c20), .val (.int c21), .val (.ref r10), .val (.ref r11), .val (.ref b12), .val (.ref b32), .val (.int sn), .val (.int sv), .unset] []))
        refine own_goW (fun _ k => XS.iconst X55.here hx rfl (hb hby at_239) k) ?_
        exact hj81 _ ((if_pos hc82)).symm
      · refine own_goW (fun _ k => XS.ifNo X55.here hx rfl (hb hby at_227) rfl ((if0 _ _).trans (feq hc82).1) k) ?_
        show own_EndsW _ _ _ _ _ _ _ _ _ (T55.setTop (mkF m 230 #[.val (.int p0), .val (.int p1), .val (.int p2), .val (.int l1), .val (.int l2), .val (.int k1), .val (.int k2), .val (.int cp), .val (.int (((p2.toUInt32 >>> ((9 : Int32) &&& 31).toUInt32).toInt32) &&& (3 : Int32))), .val (.int c10), .val (.int c11), .val (.int c20), .val (.int c21), .val (.ref r10), .val (.ref r11), .val (.ref b12), .val (.ref b32), .val (.int sn), .val (.int sv), .unset] []))
        refine own_goW (fun _ k => XS.iload X55.here hx rfl (hb hby at_230) rfl k) ?_
        show own_EndsW _ _ _ _ _ _ _ _ _ (T55.setTop (mkF m 232 #[.val (.int p0), .val (.int p1), .val (.int p2), .val (.int l1), .val (.int l2), .val (.int k1), .val (.int k2), .val (.int cp), .val (.int (((p2.toUInt32 >>> ((9 : Int32) &&& 31).toUInt32).toInt32) &&& (3 : Int32))), .val (.int c10), .val (.int c11), .val (.int c20), .val (.int c21), .val (.ref r10), .val (.ref r11), .val (.ref b12), .val (.ref b32), .val (.int sn), .val (.int sv), .unset] [(.int sv)]))
        by_cases hc83 : sv = (0 : Int32)
        · refine own_goW (fun _ k => XS.ifYes X55.here hx rfl (pc0 := 232) (pc' := 239) rfl (hb hby at_232) rfl ((if0 _ _).trans (teq hc83).1) (by decide) (by decide) k) ?_
          show own_EndsW _ _ _ _ _ _ _ _ _ (T55.setTop (mkF m 239 #[.val (.int p0), .val (.int p1), .val (.int p2), .val (.int l1), .val (.int l2), .val (.int k1), .val (.int k2), .val (.int cp), .val (.int (((p2.toUInt32 >>> ((9 : Int32) &&& 31).toUInt32).toInt32) &&& (3 : Int32))), .val (.int c10), .val (.int c11), .val (.int c20), .val (.int c21), .val (.ref r10), .val (.ref r11), .val (.ref b12), .val (.ref b32), .val (.int sn), .val (.int sv), .unset] []))
          refine own_goW (fun _ k => XS.iconst X55.here hx rfl (hb hby at_239) k) ?_
          exact hj81 _ (((if_neg hc82).trans (if_pos hc83))).symm
        · refine own_goW (fun _ k => XS.ifNo X55.here hx rfl (hb hby at_232) rfl ((if0 _ _).trans (feq hc83).1) k) ?_
          show own_EndsW _ _ _ _ _ _ _ _ _ (T55.setTop (mkF m 235 #[.val (.int p0), .val (.int p1), .val (.int p2), .val (.int l1), .val (.int l2), .val (.int k1), .val (.int k2), .val (.int cp), .val (.int (((p2.toUInt32 >>> ((9 : Int32) &&& 31).toUInt32).toInt32) &&& (3 : Int32))), .val (.int c10), .val (.int c11), .val (.int c20), .val (.int c21), .val (.ref r10), .val (.ref r11), .val (.ref b12), .val (.ref b32), .val (.int sn), .val (.int sv), .unset] []))
          refine own_goW (fun _ k => XS.iconst X55.here hx rfl (hb hby at_235) k) ?_
          show own_EndsW _ _ _ _ _ _ _ _ _ (T55.setTop (mkF m 236 #[.val (.int p0), .val (.int p1), .val (.int p2), .val (.int l1), .val (.int l2), .val (.int k1), .val (.int k2), .val (.int cp), .val (.int (((p2.toUInt32 >>> ((9 : Int32) &&& 31).toUInt32).toInt32) &&& (3 : Int32))), .val (.int c10), .val (.int c11), .val (.int c20), .val (.int c21), .val (.ref r10), .val (.ref r11), .val (.ref b12), .val (.ref b32), .val (.int sn), .val (.int sv), .unset] [(.int (1 : Int32))]))
          refine own_goW (fun _ k => XS.goto X55.here hx rfl (pc0 := 236) (pc' := 240) rfl (hb hby at_236) (by decide) (by decide) k) ?_
          exact hj81 _ (((if_neg hc82).trans (if_neg hc83))).symm
    intro z80 hz80
    show own_EndsW _ _ _ _ _ _ _ _ _ (T55.setTop (mkF m 240 #[.val (.int p0), .val (.int p1), .val (.int p2), .val (.int l1), .val (.int l2), .val (.int k1), .val (.int k2), .val (.int cp), .val (.int (((p2.toUInt32 >>> ((9 : Int32) &&& 31).toUInt32).toInt32) &&& (3 : Int32))), .val (.int c10), .val (.int c11), .val (.int c20), .val (.int c21), .val (.ref r10), .val (.ref r11), .val (.ref b12), .val (.ref b32), .val (.int sn), .val (.int sv), .unset] [(.int z80)]))
    refine own_goW (fun _ k => XS.istore X55.here hx rfl (hb hby at_240) rfl (l' := #[.val (.int p0), .val (.int p1), .val (.int p2), .val (.int l1), .val (.int l2), .val (.int k1), .val (.int k2), .val (.int cp), .val (.int (((p2.toUInt32 >>> ((9 : Int32) &&& 31).toUInt32).toInt32) &&& (3 : Int32))), .val (.int c10), .val (.int c11), .val (.int c20), .val (.int c21), .val (.ref r10), .val (.ref r11), .val (.ref b12), .val (.ref b32), .val (.int sn), .val (.int sv), .val (.int z80)]) rfl k) ?_
    suffices hjex : ∀ ex : Int32, ex = z80 → own_EndsW p e below s Z consts_1 (Q0 Z p0 p1 p2 w_TRUE w_FALSE w_UNDEFINED w_COMPACT_STRINGS h0 n0) 40 3264 (T55.setTop (mkF m 242 #[.val (.int p0), .val (.int p1), .val (.int p2), .val (.int l1), .val (.int l2), .val (.int k1), .val (.int k2), .val (.int cp), .val (.int (((p2.toUInt32 >>> ((9 : Int32) &&& 31).toUInt32).toInt32) &&& (3 : Int32))), .val (.int c10), .val (.int c11), .val (.int c20), .val (.int c21), .val (.ref r10), .val (.ref r11), .val (.ref b12), .val (.ref b32), .val (.int sn), .val (.int sv), .val (.int ex)] [])) by exact hjex _ rfl
    intro ex hex
    have J_ex := hex.trans hz80
    have S_ex := own_ex S_sn S_sv J_ex
    show own_EndsW _ _ _ _ _ _ _ _ _ (T55.setTop (mkF m 242 #[.val (.int p0), .val (.int p1), .val (.int p2), .val (.int l1), .val (.int l2), .val (.int k1), .val (.int k2), .val (.int cp), .val (.int (((p2.toUInt32 >>> ((9 : Int32) &&& 31).toUInt32).toInt32) &&& (3 : Int32))), .val (.int c10), .val (.int c11), .val (.int c20), .val (.int c21), .val (.ref r10), .val (.ref r11), .val (.ref b12), .val (.ref b32), .val (.int sn), .val (.int sv), .val (.int ex)] []))
    refine own_goW (fun _ k => XS.aload X55.here hx rfl (hb hby at_242) rfl rfl k) ?_
    show own_EndsW _ _ _ _ _ _ _ _ _ (T55.setTop (mkF m 244 #[.val (.int p0), .val (.int p1), .val (.int p2), .val (.int l1), .val (.int l2), .val (.int k1), .val (.int k2), .val (.int cp), .val (.int (((p2.toUInt32 >>> ((9 : Int32) &&& 31).toUInt32).toInt32) &&& (3 : Int32))), .val (.int c10), .val (.int c11), .val (.int c20), .val (.int c21), .val (.ref r10), .val (.ref r11), .val (.ref b12), .val (.ref b32), .val (.int sn), .val (.int sv), .val (.int ex)] [(.ref b12)]))
    refine own_goW (fun _ k => XS.aload X55.here hx rfl (hb hby at_244) rfl rfl k) ?_
    show own_EndsW _ _ _ _ _ _ _ _ _ (T55.setTop (mkF m 246 #[.val (.int p0), .val (.int p1), .val (.int p2), .val (.int l1), .val (.int l2), .val (.int k1), .val (.int k2), .val (.int cp), .val (.int (((p2.toUInt32 >>> ((9 : Int32) &&& 31).toUInt32).toInt32) &&& (3 : Int32))), .val (.int c10), .val (.int c11), .val (.int c20), .val (.int c21), .val (.ref r10), .val (.ref r11), .val (.ref b12), .val (.ref b32), .val (.int sn), .val (.int sv), .val (.int ex)] [(.ref b32), (.ref b12)]))
    obtain ⟨cq84, kq84, q84a, q84b, q84c⟩ := isOf hZ rfl F61
    obtain ⟨_, _, ⟨T84, L84, k84, n84⟩, -, X84, ⟨Lc84, hQ84, l84, y84, z84⟩, st84⟩ := X55.virtualBack hx (y := (⟨"com/example/shallow_history/shallowhistory/policy/Literal", "equals", "(Ljava/lang/Object;)Z"⟩ : MethodName)) (z := (⟨"com/example/shallow_history/shallowhistory/policy/Literal", "equals", "(Ljava/lang/Object;)Z"⟩ : MethodName)) hown (mvT hZ (hw _ (List.mem_of_getElem? (i := 63) rfl))) (mvT hZ (hw _ (List.mem_of_getElem? (i := 64) rfl))) (notFace_of_selects (args := #[]) (mvT hZ (hw _ (List.mem_of_getElem? (i := 66) rfl)))) (mvT hZ (hw _ (List.mem_of_getElem? (i := 66) rfl))) (mvT hZ (hw _ (List.mem_of_getElem? (i := 65) rfl))) (by decide) (backOf (W := 0) (rmleM l Z ar hw [] b12 b32 r18 (own_n l1) (own_b c10 c11) r10 r43 (own_n l2) (own_b c20 c21) r11 w_COMPACT_STRINGS T55.heap n0 F58 E55_0 F63 F56 (own_nlt _) F64 F55_0 F57 (own_nlt _) F55_1 hCS S_COMPACT_STRINGS) hZ (hw _ (List.mem_of_getElem? (i := 67) rfl)) (hw _ (List.mem_of_getElem? (i := 9) rfl)) (by decide) (by decide)) q84a q84c (g := (mkF m 246 #[.val (.int p0), .val (.int p1), .val (.int p2), .val (.int l1), .val (.int l2), .val (.int k1), .val (.int k2), .val (.int cp), .val (.int (((p2.toUInt32 >>> ((9 : Int32) &&& 31).toUInt32).toInt32) &&& (3 : Int32))), .val (.int c10), .val (.int c11), .val (.int c20), .val (.int c21), .val (.ref r10), .val (.ref r11), .val (.ref b12), .val (.ref b32), .val (.int sn), .val (.int sv), .val (.int ex)] [(.ref b32), (.ref b12)])) rfl (by rw [hml]; rfl) (Steps.refl _) (argsL := [(.ref b32)]) (rest := []) (lenOf pd0_3 rfl) rfl (by show 2 * 0 + _ ≤ _; exact Nat.le_of_eq rfl) (hb hby at_246) (fun _ _ => ⟨rfl, rfl, (by decide : 22 + 0 ≤ _), (by decide : 228 + 0 ≤ _)⟩)
    dsimp only [Pt.U, Pt.locs, Pt.cells, Pt.slots] at X84 l84 y84 z84 st84 hQ84
    subst l84 y84 z84
    obtain ⟨z84, rfl, hz84, N84q, eq84⟩ := hQ84
    have e84 : T84.heap = T55.heap := eq84
    have N84 := Fr.app N55 N84q
    refine own_goW (fun _ k => st84.trans k) ?_
    show own_EndsW _ _ _ _ _ _ _ _ _ (T84.setTop (mkF m 249 #[.val (.int p0), .val (.int p1), .val (.int p2), .val (.int l1), .val (.int l2), .val (.int k1), .val (.int k2), .val (.int cp), .val (.int (((p2.toUInt32 >>> ((9 : Int32) &&& 31).toUInt32).toInt32) &&& (3 : Int32))), .val (.int c10), .val (.int c11), .val (.int c20), .val (.int c21), .val (.ref r10), .val (.ref r11), .val (.ref b12), .val (.ref b32), .val (.int sn), .val (.int sv), .val (.int ex)] [(.int z84)]))
    refine own_goW (fun _ k => XS.iload X84.here hx rfl (hb hby at_249) rfl k) ?_
    show own_EndsW _ _ _ _ _ _ _ _ _ (T84.setTop (mkF m 251 #[.val (.int p0), .val (.int p1), .val (.int p2), .val (.int l1), .val (.int l2), .val (.int k1), .val (.int k2), .val (.int cp), .val (.int (((p2.toUInt32 >>> ((9 : Int32) &&& 31).toUInt32).toInt32) &&& (3 : Int32))), .val (.int c10), .val (.int c11), .val (.int c20), .val (.int c21), .val (.ref r10), .val (.ref r11), .val (.ref b12), .val (.ref b32), .val (.int sn), .val (.int sv), .val (.int ex)] [(.int ex), (.int z84)]))
    refine own_goW (fun _ k => XS.icmpNo X84.here hx rfl (hb hby at_251) rfl (teq (own_ans.fin hz84 S_ex (own_len hl1) (own_len hl2) (own_len hk1) (own_len hk2) B_c10 B_c20 B_c11 B_c21 (own_tvs (own_len hk1) (own_len hk2) hr10 hr11 nTF nTU nFU))).2 k) ?_
    show own_EndsW _ _ _ _ _ _ _ _ _ (T84.setTop (mkF m 254 #[.val (.int p0), .val (.int p1), .val (.int p2), .val (.int l1), .val (.int l2), .val (.int k1), .val (.int k2), .val (.int cp), .val (.int (((p2.toUInt32 >>> ((9 : Int32) &&& 31).toUInt32).toInt32) &&& (3 : Int32))), .val (.int c10), .val (.int c11), .val (.int c20), .val (.int c21), .val (.ref r10), .val (.ref r11), .val (.ref b12), .val (.ref b32), .val (.int sn), .val (.int sv), .val (.int ex)] []))
    refine own_goW (fun _ k => XS.aload X84.here hx rfl (hb hby at_254) rfl rfl k) ?_
    show own_EndsW _ _ _ _ _ _ _ _ _ (T84.setTop (mkF m 256 #[.val (.int p0), .val (.int p1), .val (.int p2), .val (.int l1), .val (.int l2), .val (.int k1), .val (.int k2), .val (.int cp), .val (.int (((p2.toUInt32 >>> ((9 : Int32) &&& 31).toUInt32).toInt32) &&& (3 : Int32))), .val (.int c10), .val (.int c11), .val (.int c20), .val (.int c21), .val (.ref r10), .val (.ref r11), .val (.ref b12), .val (.ref b32), .val (.int sn), .val (.int sv), .val (.int ex)] [(.ref b32)]))
    refine own_goW (fun _ k => XS.aload X84.here hx rfl (hb hby at_256) rfl rfl k) ?_
    show own_EndsW _ _ _ _ _ _ _ _ _ (T84.setTop (mkF m 258 #[.val (.int p0), .val (.int p1), .val (.int p2), .val (.int l1), .val (.int l2), .val (.int k1), .val (.int k2), .val (.int cp), .val (.int (((p2.toUInt32 >>> ((9 : Int32) &&& 31).toUInt32).toInt32) &&& (3 : Int32))), .val (.int c10), .val (.int c11), .val (.int c20), .val (.int c21), .val (.ref r10), .val (.ref r11), .val (.ref b12), .val (.ref b32), .val (.int sn), .val (.int sv), .val (.int ex)] [(.ref b12), (.ref b32)]))
    obtain ⟨cq85, kq85, q85a, q85b, q85c⟩ := isOf hZ e84 E55_0
    obtain ⟨_, _, ⟨T85, L85, k85, n85⟩, -, X85, ⟨Lc85, hQ85, l85, y85, z85⟩, st85⟩ := X84.virtualBack hx (y := (⟨"com/example/shallow_history/shallowhistory/policy/Literal", "equals", "(Ljava/lang/Object;)Z"⟩ : MethodName)) (z := (⟨"com/example/shallow_history/shallowhistory/policy/Literal", "equals", "(Ljava/lang/Object;)Z"⟩ : MethodName)) hown (mvT hZ (hw _ (List.mem_of_getElem? (i := 63) rfl))) (mvT hZ (hw _ (List.mem_of_getElem? (i := 64) rfl))) (notFace_of_selects (args := #[]) (mvT hZ (hw _ (List.mem_of_getElem? (i := 66) rfl)))) (mvT hZ (hw _ (List.mem_of_getElem? (i := 66) rfl))) (mvT hZ (hw _ (List.mem_of_getElem? (i := 65) rfl))) (by decide) (backOf (W := 0) (rmleM l Z ar hw [] b32 b12 r43 (own_n l2) (own_b c20 c21) r11 r18 (own_n l1) (own_b c10 c11) r10 w_COMPACT_STRINGS T55.heap n0 F58 F61 F55_0 F57 (own_nlt _) F55_1 F63 F56 (own_nlt _) F64 hCS S_COMPACT_STRINGS) hZ (hw _ (List.mem_of_getElem? (i := 67) rfl)) (hw _ (List.mem_of_getElem? (i := 9) rfl)) (by decide) (by decide)) q85a q85c (g := (mkF m 258 #[.val (.int p0), .val (.int p1), .val (.int p2), .val (.int l1), .val (.int l2), .val (.int k1), .val (.int k2), .val (.int cp), .val (.int (((p2.toUInt32 >>> ((9 : Int32) &&& 31).toUInt32).toInt32) &&& (3 : Int32))), .val (.int c10), .val (.int c11), .val (.int c20), .val (.int c21), .val (.ref r10), .val (.ref r11), .val (.ref b12), .val (.ref b32), .val (.int sn), .val (.int sv), .val (.int ex)] [(.ref b12), (.ref b32)])) rfl (by rw [hml]; rfl) (Steps.refl _) (argsL := [(.ref b12)]) (rest := []) (lenOf pd0_3 rfl) rfl (by show 2 * 0 + _ ≤ _; exact Nat.le_of_eq rfl) (hb hby at_258) (fun _ _ => ⟨rfl, e84, (by decide : 22 + 0 ≤ _), (by decide : 228 + 0 ≤ _)⟩)
    dsimp only [Pt.U, Pt.locs, Pt.cells, Pt.slots] at X85 l85 y85 z85 st85 hQ85
    subst l85 y85 z85
    obtain ⟨z85, rfl, hz85, N85q, eq85⟩ := hQ85
    have e85 : T85.heap = T55.heap := eq85
    have N85 := Fr.app N84 N85q
    refine own_goW (fun _ k => st85.trans k) ?_
    show own_EndsW _ _ _ _ _ _ _ _ _ (T85.setTop (mkF m 261 #[.val (.int p0), .val (.int p1), .val (.int p2), .val (.int l1), .val (.int l2), .val (.int k1), .val (.int k2), .val (.int cp), .val (.int (((p2.toUInt32 >>> ((9 : Int32) &&& 31).toUInt32).toInt32) &&& (3 : Int32))), .val (.int c10), .val (.int c11), .val (.int c20), .val (.int c21), .val (.ref r10), .val (.ref r11), .val (.ref b12), .val (.ref b32), .val (.int sn), .val (.int sv), .val (.int ex)] [(.int z85)]))
    refine own_goW (fun _ k => XS.iload X85.here hx rfl (hb hby at_261) rfl k) ?_
    show own_EndsW _ _ _ _ _ _ _ _ _ (T85.setTop (mkF m 263 #[.val (.int p0), .val (.int p1), .val (.int p2), .val (.int l1), .val (.int l2), .val (.int k1), .val (.int k2), .val (.int cp), .val (.int (((p2.toUInt32 >>> ((9 : Int32) &&& 31).toUInt32).toInt32) &&& (3 : Int32))), .val (.int c10), .val (.int c11), .val (.int c20), .val (.int c21), .val (.ref r10), .val (.ref r11), .val (.ref b12), .val (.ref b32), .val (.int sn), .val (.int sv), .val (.int ex)] [(.int ex), (.int z85)]))
    refine own_goW (fun _ k => XS.icmpNo X85.here hx rfl (hb hby at_263) rfl (teq (own_ans.back hz85 S_ex (own_len hl1) (own_len hl2) (own_len hk1) (own_len hk2) B_c10 B_c20 B_c11 B_c21 (own_tvs (own_len hk1) (own_len hk2) hr10 hr11 nTF nTU nFU))).2 k) ?_
    show own_EndsW _ _ _ _ _ _ _ _ _ (T85.setTop (mkF m 266 #[.val (.int p0), .val (.int p1), .val (.int p2), .val (.int l1), .val (.int l2), .val (.int k1), .val (.int k2), .val (.int cp), .val (.int (((p2.toUInt32 >>> ((9 : Int32) &&& 31).toUInt32).toInt32) &&& (3 : Int32))), .val (.int c10), .val (.int c11), .val (.int c20), .val (.int c21), .val (.ref r10), .val (.ref r11), .val (.ref b12), .val (.ref b32), .val (.int sn), .val (.int sv), .val (.int ex)] []))
    refine own_goW (fun _ k => XS.iconst X85.here hx rfl (hb hby at_266) k) ?_
    show own_EndsW _ _ _ _ _ _ _ _ _ (T85.setTop (mkF m 267 #[.val (.int p0), .val (.int p1), .val (.int p2), .val (.int l1), .val (.int l2), .val (.int k1), .val (.int k2), .val (.int cp), .val (.int (((p2.toUInt32 >>> ((9 : Int32) &&& 31).toUInt32).toInt32) &&& (3 : Int32))), .val (.int c10), .val (.int c11), .val (.int c20), .val (.int c21), .val (.ref r10), .val (.ref r11), .val (.ref b12), .val (.ref b32), .val (.int sn), .val (.int sv), .val (.int ex)] [(.int (1 : Int32))]))
    refine own_goW (fun _ k => XS.goto X85.here hx rfl (pc0 := 267) (pc' := 271) rfl (hb hby at_267) (by decide) (by decide) k) ?_
    show own_EndsW _ _ _ _ _ _ _ _ _ (T85.setTop (mkF m 271 #[.val (.int p0), .val (.int p1), .val (.int p2), .val (.int l1), .val (.int l2), .val (.int k1), .val (.int k2), .val (.int cp), .val (.int (((p2.toUInt32 >>> ((9 : Int32) &&& 31).toUInt32).toInt32) &&& (3 : Int32))), .val (.int c10), .val (.int c11), .val (.int c20), .val (.int c21), .val (.ref r10), .val (.ref r11), .val (.ref b12), .val (.ref b32), .val (.int sn), .val (.int sv), .val (.int ex)] [(.int (1 : Int32))]))
    exact own_retNW X85 hx hlk e85 Wd55 hZ (own_EW hw) (t := .boolean) Bd.returns (by simp) (hb hby at_271) (by decide) (by decide) ⟨rfl, N85⟩
  · refine own_goW (fun _ k => XS.ifYes X55.here hx rfl (pc0 := 222) (pc' := 272) rfl (hb hby at_222) rfl ((if0 _ _).trans (feq hc79).2) (by decide) (by decide) k) ?_
    show own_EndsW _ _ _ _ _ _ _ _ _ (T55.setTop (mkF m 272 #[.val (.int p0), .val (.int p1), .val (.int p2), .val (.int l1), .val (.int l2), .val (.int k1), .val (.int k2), .val (.int cp), .val (.int (((p2.toUInt32 >>> ((9 : Int32) &&& 31).toUInt32).toInt32) &&& (3 : Int32))), .val (.int c10), .val (.int c11), .val (.int c20), .val (.int c21), .val (.ref r10), .val (.ref r11), .val (.ref b12), .val (.ref b32), .val (.int sn), .val (.int sv), .unset] []))
    refine own_goW (fun _ k => XS.iload X55.here hx rfl (hb hby at_272) rfl k) ?_
    show own_EndsW _ _ _ _ _ _ _ _ _ (T55.setTop (mkF m 274 #[.val (.int p0), .val (.int p1), .val (.int p2), .val (.int l1), .val (.int l2), .val (.int k1), .val (.int k2), .val (.int cp), .val (.int (((p2.toUInt32 >>> ((9 : Int32) &&& 31).toUInt32).toInt32) &&& (3 : Int32))), .val (.int c10), .val (.int c11), .val (.int c20), .val (.int c21), .val (.ref r10), .val (.ref r11), .val (.ref b12), .val (.ref b32), .val (.int sn), .val (.int sv), .unset] [(.int (((p2.toUInt32 >>> ((9 : Int32) &&& 31).toUInt32).toInt32) &&& (3 : Int32)))]))
    refine own_goW (fun _ k => XS.iconst X55.here hx rfl (hb hby at_274) k) ?_
    show own_EndsW _ _ _ _ _ _ _ _ _ (T55.setTop (mkF m 275 #[.val (.int p0), .val (.int p1), .val (.int p2), .val (.int l1), .val (.int l2), .val (.int k1), .val (.int k2), .val (.int cp), .val (.int (((p2.toUInt32 >>> ((9 : Int32) &&& 31).toUInt32).toInt32) &&& (3 : Int32))), .val (.int c10), .val (.int c11), .val (.int c20), .val (.int c21), .val (.ref r10), .val (.ref r11), .val (.ref b12), .val (.ref b32), .val (.int sn), .val (.int sv), .unset] [(.int (1 : Int32)), (.int (((p2.toUInt32 >>> ((9 : Int32) &&& 31).toUInt32).toInt32) &&& (3 : Int32)))]))
    by_cases hc86 : (((p2.toUInt32 >>> ((9 : Int32) &&& 31).toUInt32).toInt32) &&& (3 : Int32)) = (1 : Int32)
    · refine own_goW (fun _ k => XS.icmpNo X55.here hx rfl (hb hby at_275) rfl (teq hc86).2 k) ?_
      show own_EndsW _ _ _ _ _ _ _ _ _ (T55.setTop (mkF m 278 #[.val (.int p0), .val (.int p1), .val (.int p2), .val (.int l1), .val (.int l2), .val (.int k1), .val (.int k2), .val (.int cp), .val (.int (((p2.toUInt32 >>> ((9 : Int32) &&& 31).toUInt32).toInt32) &&& (3 : Int32))), .val (.int c10), .val (.int c11), .val (.int c20), .val (.int c21), .val (.ref r10), .val (.ref r11), .val (.ref b12), .val (.ref b32), .val (.int sn), .val (.int sv), .unset] []))
      refine own_goW (fun _ k => XS.aconstNull X55.here hx rfl (hb hby at_278) k) ?_
      show own_EndsW _ _ _ _ _ _ _ _ _ (T55.setTop (mkF m 279 #[.val (.int p0), .val (.int p1), .val (.int p2), .val (.int l1), .val (.int l2), .val (.int k1), .val (.int k2), .val (.int cp), .val (.int (((p2.toUInt32 >>> ((9 : Int32) &&& 31).toUInt32).toInt32) &&& (3 : Int32))), .val (.int c10), .val (.int c11), .val (.int c20), .val (.int c21), .val (.ref r10), .val (.ref r11), .val (.ref b12), .val (.ref b32), .val (.int sn), .val (.int sv), .unset] [.null]))
      refine own_goW (fun _ k => XS.astore X55.here hx rfl (hb hby at_279) rfl rfl (l' := #[.val (.int p0), .val (.int p1), .val (.int p2), .val (.int l1), .val (.int l2), .val (.int k1), .val (.int k2), .val (.int cp), .val (.int (((p2.toUInt32 >>> ((9 : Int32) &&& 31).toUInt32).toInt32) &&& (3 : Int32))), .val (.int c10), .val (.int c11), .val (.int c20), .val (.int c21), .val (.ref r10), .val (.ref r11), .val (.ref b12), .val (.ref b32), .val (.int sn), .val (.int sv), .val .null]) rfl k) ?_
      show own_EndsW _ _ _ _ _ _ _ _ _ (T55.setTop (mkF m 281 #[.val (.int p0), .val (.int p1), .val (.int p2), .val (.int l1), .val (.int l2), .val (.int k1), .val (.int k2), .val (.int cp), .val (.int (((p2.toUInt32 >>> ((9 : Int32) &&& 31).toUInt32).toInt32) &&& (3 : Int32))), .val (.int c10), .val (.int c11), .val (.int c20), .val (.int c21), .val (.ref r10), .val (.ref r11), .val (.ref b12), .val (.ref b32), .val (.int sn), .val (.int sv), .val .null] []))
      refine own_goW (fun _ k => XS.aload X55.here hx rfl (hb hby at_281) rfl rfl k) ?_
      show own_EndsW _ _ _ _ _ _ _ _ _ (T55.setTop (mkF m 283 #[.val (.int p0), .val (.int p1), .val (.int p2), .val (.int l1), .val (.int l2), .val (.int k1), .val (.int k2), .val (.int cp), .val (.int (((p2.toUInt32 >>> ((9 : Int32) &&& 31).toUInt32).toInt32) &&& (3 : Int32))), .val (.int c10), .val (.int c11), .val (.int c20), .val (.int c21), .val (.ref r10), .val (.ref r11), .val (.ref b12), .val (.ref b32), .val (.int sn), .val (.int sv), .val .null] [(.ref b12)]))
      refine own_goW (fun _ k => XS.aload X55.here hx rfl (hb hby at_283) rfl rfl k) ?_
      show own_EndsW _ _ _ _ _ _ _ _ _ (T55.setTop (mkF m 285 #[.val (.int p0), .val (.int p1), .val (.int p2), .val (.int l1), .val (.int l2), .val (.int k1), .val (.int k2), .val (.int cp), .val (.int (((p2.toUInt32 >>> ((9 : Int32) &&& 31).toUInt32).toInt32) &&& (3 : Int32))), .val (.int c10), .val (.int c11), .val (.int c20), .val (.int c21), .val (.ref r10), .val (.ref r11), .val (.ref b12), .val (.ref b32), .val (.int sn), .val (.int sv), .val .null] [.null, (.ref b12)]))
      obtain ⟨cq87, kq87, q87a, q87b, q87c⟩ := isOf hZ rfl F61
      obtain ⟨_, _, ⟨T87, L87, k87, n87⟩, -, X87, ⟨Lc87, hQ87, l87, y87, z87⟩, st87⟩ := X55.virtualBack hx (y := (⟨"com/example/shallow_history/shallowhistory/policy/Literal", "equals", "(Ljava/lang/Object;)Z"⟩ : MethodName)) (z := (⟨"com/example/shallow_history/shallowhistory/policy/Literal", "equals", "(Ljava/lang/Object;)Z"⟩ : MethodName)) hown (mvT hZ (hw _ (List.mem_of_getElem? (i := 63) rfl))) (mvT hZ (hw _ (List.mem_of_getElem? (i := 64) rfl))) (notFace_of_selects (args := #[]) (mvT hZ (hw _ (List.mem_of_getElem? (i := 66) rfl)))) (mvT hZ (hw _ (List.mem_of_getElem? (i := 66) rfl))) (mvT hZ (hw _ (List.mem_of_getElem? (i := 65) rfl))) (by decide) (backOf (W := 0) (rmleN l Z ar hw [] b12 T55.heap n0 F58) hZ (hw _ (List.mem_of_getElem? (i := 67) rfl)) (hw _ (List.mem_of_getElem? (i := 9) rfl)) (by decide) (by decide)) q87a q87c (g := (mkF m 285 #[.val (.int p0), .val (.int p1), .val (.int p2), .val (.int l1), .val (.int l2), .val (.int k1), .val (.int k2), .val (.int cp), .val (.int (((p2.toUInt32 >>> ((9 : Int32) &&& 31).toUInt32).toInt32) &&& (3 : Int32))), .val (.int c10), .val (.int c11), .val (.int c20), .val (.int c21), .val (.ref r10), .val (.ref r11), .val (.ref b12), .val (.ref b32), .val (.int sn), .val (.int sv), .val .null] [.null, (.ref b12)])) rfl (by rw [hml]; rfl) (Steps.refl _) (argsL := [.null]) (rest := []) (lenOf pd0_3 rfl) rfl (by show 2 * 0 + _ ≤ _; exact Nat.le_of_eq rfl) (hb hby at_285) (fun _ _ => ⟨rfl, rfl, (by decide : 22 + 0 ≤ _), (by decide : 228 + 0 ≤ _)⟩)
      dsimp only [Pt.U, Pt.locs, Pt.cells, Pt.slots] at X87 l87 y87 z87 st87 hQ87
      subst l87 y87 z87
      obtain ⟨rfl, N87q, eq87⟩ := hQ87
      have e87 : T87.heap = T55.heap := eq87
      have N87 := Fr.app N55 N87q
      refine own_goW (fun _ k => st87.trans k) ?_
      show own_EndsW _ _ _ _ _ _ _ _ _ (T87.setTop (mkF m 288 #[.val (.int p0), .val (.int p1), .val (.int p2), .val (.int l1), .val (.int l2), .val (.int k1), .val (.int k2), .val (.int cp), .val (.int (((p2.toUInt32 >>> ((9 : Int32) &&& 31).toUInt32).toInt32) &&& (3 : Int32))), .val (.int c10), .val (.int c11), .val (.int c20), .val (.int c21), .val (.ref r10), .val (.ref r11), .val (.ref b12), .val (.ref b32), .val (.int sn), .val (.int sv), .val .null] [(.int (0 : Int32))]))
      refine own_goW (fun _ k => XS.ifNo X87.here hx rfl (hb hby at_288) rfl ((if0 _ _).trans (teq (by decide)).2) k) ?_
      show own_EndsW _ _ _ _ _ _ _ _ _ (T87.setTop (mkF m 291 #[.val (.int p0), .val (.int p1), .val (.int p2), .val (.int l1), .val (.int l2), .val (.int k1), .val (.int k2), .val (.int cp), .val (.int (((p2.toUInt32 >>> ((9 : Int32) &&& 31).toUInt32).toInt32) &&& (3 : Int32))), .val (.int c10), .val (.int c11), .val (.int c20), .val (.int c21), .val (.ref r10), .val (.ref r11), .val (.ref b12), .val (.ref b32), .val (.int sn), .val (.int sv), .val .null] []))
      refine own_goW (fun _ k => XS.iconst X87.here hx rfl (hb hby at_291) k) ?_
      show own_EndsW _ _ _ _ _ _ _ _ _ (T87.setTop (mkF m 292 #[.val (.int p0), .val (.int p1), .val (.int p2), .val (.int l1), .val (.int l2), .val (.int k1), .val (.int k2), .val (.int cp), .val (.int (((p2.toUInt32 >>> ((9 : Int32) &&& 31).toUInt32).toInt32) &&& (3 : Int32))), .val (.int c10), .val (.int c11), .val (.int c20), .val (.int c21), .val (.ref r10), .val (.ref r11), .val (.ref b12), .val (.ref b32), .val (.int sn), .val (.int sv), .val .null] [(.int (1 : Int32))]))
      refine own_goW (fun _ k => XS.goto X87.here hx rfl (pc0 := 292) (pc' := 296) rfl (hb hby at_292) (by decide) (by decide) k) ?_
      show own_EndsW _ _ _ _ _ _ _ _ _ (T87.setTop (mkF m 296 #[.val (.int p0), .val (.int p1), .val (.int p2), .val (.int l1), .val (.int l2), .val (.int k1), .val (.int k2), .val (.int cp), .val (.int (((p2.toUInt32 >>> ((9 : Int32) &&& 31).toUInt32).toInt32) &&& (3 : Int32))), .val (.int c10), .val (.int c11), .val (.int c20), .val (.int c21), .val (.ref r10), .val (.ref r11), .val (.ref b12), .val (.ref b32), .val (.int sn), .val (.int sv), .val .null] [(.int (1 : Int32))]))
      exact own_retNW X87 hx hlk e87 Wd55 hZ (own_EW hw) (t := .boolean) Bd.returns (by simp) (hb hby at_296) (by decide) (by decide) ⟨rfl, N87⟩
    · refine own_goW (fun _ k => XS.icmpYes X55.here hx rfl (pc0 := 275) (pc' := 297) rfl (hb hby at_275) rfl (feq hc86).2 (by decide) (by decide) k) ?_
      show own_EndsW _ _ _ _ _ _ _ _ _ (T55.setTop (mkF m 297 #[.val (.int p0), .val (.int p1), .val (.int p2), .val (.int l1), .val (.int l2), .val (.int k1), .val (.int k2), .val (.int cp), .val (.int (((p2.toUInt32 >>> ((9 : Int32) &&& 31).toUInt32).toInt32) &&& (3 : Int32))), .val (.int c10), .val (.int c11), .val (.int c20), .val (.int c21), .val (.ref r10), .val (.ref r11), .val (.ref b12), .val (.ref b32), .val (.int sn), .val (.int sv), .unset] []))
      refine own_goW (fun _ k => XS.iload X55.here hx rfl (hb hby at_297) rfl k) ?_
      show own_EndsW _ _ _ _ _ _ _ _ _ (T55.setTop (mkF m 299 #[.val (.int p0), .val (.int p1), .val (.int p2), .val (.int l1), .val (.int l2), .val (.int k1), .val (.int k2), .val (.int cp), .val (.int (((p2.toUInt32 >>> ((9 : Int32) &&& 31).toUInt32).toInt32) &&& (3 : Int32))), .val (.int c10), .val (.int c11), .val (.int c20), .val (.int c21), .val (.ref r10), .val (.ref r11), .val (.ref b12), .val (.ref b32), .val (.int sn), .val (.int sv), .unset] [(.int (((p2.toUInt32 >>> ((9 : Int32) &&& 31).toUInt32).toInt32) &&& (3 : Int32)))]))
      refine own_goW (fun _ k => XS.iconst X55.here hx rfl (hb hby at_299) k) ?_
      show own_EndsW _ _ _ _ _ _ _ _ _ (T55.setTop (mkF m 300 #[.val (.int p0), .val (.int p1), .val (.int p2), .val (.int l1), .val (.int l2), .val (.int k1), .val (.int k2), .val (.int cp), .val (.int (((p2.toUInt32 >>> ((9 : Int32) &&& 31).toUInt32).toInt32) &&& (3 : Int32))), .val (.int c10), .val (.int c11), .val (.int c20), .val (.int c21), .val (.ref r10), .val (.ref r11), .val (.ref b12), .val (.ref b32), .val (.int sn), .val (.int sv), .unset] [(.int (2 : Int32)), (.int (((p2.toUInt32 >>> ((9 : Int32) &&& 31).toUInt32).toInt32) &&& (3 : Int32)))]))
      by_cases hc88 : (((p2.toUInt32 >>> ((9 : Int32) &&& 31).toUInt32).toInt32) &&& (3 : Int32)) = (2 : Int32)
      · refine own_goW (fun _ k => XS.icmpNo X55.here hx rfl (hb hby at_300) rfl (teq hc88).2 k) ?_
        show own_EndsW _ _ _ _ _ _ _ _ _ (T55.setTop (mkF m 303 #[.val (.int p0), .val (.int p1), .val (.int p2), .val (.int l1), .val (.int l2), .val (.int k1), .val (.int k2), .val (.int cp), .val (.int (((p2.toUInt32 >>> ((9 : Int32) &&& 31).toUInt32).toInt32) &&& (3 : Int32))), .val (.int c10), .val (.int c11), .val (.int c20), .val (.int c21), .val (.ref r10), .val (.ref r11), .val (.ref b12), .val (.ref b32), .val (.int sn), .val (.int sv), .unset] []))
        refine own_goW (fun _ k => XS.iload X55.here hx rfl (hb hby at_303) rfl k) ?_
        show own_EndsW _ _ _ _ _ _ _ _ _ (T55.setTop (mkF m 305 #[.val (.int p0), .val (.int p1), .val (.int p2), .val (.int l1), .val (.int l2), .val (.int k1), .val (.int k2), .val (.int cp), .val (.int (((p2.toUInt32 >>> ((9 : Int32) &&& 31).toUInt32).toInt32) &&& (3 : Int32))), .val (.int c10), .val (.int c11), .val (.int c20), .val (.int c21), .val (.ref r10), .val (.ref r11), .val (.ref b12), .val (.ref b32), .val (.int sn), .val (.int sv), .unset] [(.int l2)]))
        refine own_goW (fun _ k => XS.iload X55.here hx rfl (hb hby at_305) rfl k) ?_
        show own_EndsW _ _ _ _ _ _ _ _ _ (T55.setTop (mkF m 307 #[.val (.int p0), .val (.int p1), .val (.int p2), .val (.int l1), .val (.int l2), .val (.int k1), .val (.int k2), .val (.int cp), .val (.int (((p2.toUInt32 >>> ((9 : Int32) &&& 31).toUInt32).toInt32) &&& (3 : Int32))), .val (.int c10), .val (.int c11), .val (.int c20), .val (.int c21), .val (.ref r10), .val (.ref r11), .val (.ref b12), .val (.ref b32), .val (.int sn), .val (.int sv), .unset] [(.int c20), (.int l2)]))
        refine own_goW (fun _ k => XS.iload X55.here hx rfl (hb hby at_307) rfl k) ?_
        show own_EndsW _ _ _ _ _ _ _ _ _ (T55.setTop (mkF m 309 #[.val (.int p0), .val (.int p1), .val (.int p2), .val (.int l1), .val (.int l2), .val (.int k1), .val (.int k2), .val (.int cp), .val (.int (((p2.toUInt32 >>> ((9 : Int32) &&& 31).toUInt32).toInt32) &&& (3 : Int32))), .val (.int c10), .val (.int c11), .val (.int c20), .val (.int c21), .val (.ref r10), .val (.ref r11), .val (.ref b12), .val (.ref b32), .val (.int sn), .val (.int sv), .unset] [(.int c21), (.int c20), (.int l2)]))
        obtain ⟨_, _, ⟨T89, L89, k89, n89⟩, -, X89', hS89, gg89, ⟨Lc89, hQ89, l89, y89, z89, C89⟩, st89⟩ := callSS X55 hx (y := (⟨"com/example/shallow_history/shallowhistory/policy/LiteralEqualsPinLaw", "str", "(ICC)Ljava/lang/String;"⟩ : MethodName)) hown (mvT hZ (hw _ (List.mem_of_getElem? (i := 10) rfl))) (mvT hZ (hw _ (List.mem_of_getElem? (i := 11) rfl))) (mvT hZ (hw _ (List.mem_of_getElem? (i := 2) rfl))) (mvT hZ (hw _ (List.mem_of_getElem? (i := 12) rfl))) (by decide) (backOfSH (W := 0) (rmstr l Z ar hw [] l2 c20 c21 w_COMPACT_STRINGS T55.heap n0 F58 B_c20 B_c21 hCS S_COMPACT_STRINGS) hZ (hw _ (List.mem_of_getElem? (i := 12) rfl)) (hw _ (List.mem_of_getElem? (i := 2) rfl)) (by decide) (by decide) (own_EW hw) Wd55.ch) (g := (mkF m 309 #[.val (.int p0), .val (.int p1), .val (.int p2), .val (.int l1), .val (.int l2), .val (.int k1), .val (.int k2), .val (.int cp), .val (.int (((p2.toUInt32 >>> ((9 : Int32) &&& 31).toUInt32).toInt32) &&& (3 : Int32))), .val (.int c10), .val (.int c11), .val (.int c20), .val (.int c21), .val (.ref r10), .val (.ref r11), .val (.ref b12), .val (.ref b32), .val (.int sn), .val (.int sv), .unset] [(.int c21), (.int c20), (.int l2)])) rfl (by rw [hml]; rfl) (argsL := [(.int l2), (.int c20), (.int c21)]) (rest := []) (lenOf pd0_1 rfl) rfl (by show 2 * 0 + _ ≤ _; exact Nat.le_of_eq rfl) (hb hby at_309) (fun _ _ => ⟨rfl, rfl, (by decide : 22 + 6 ≤ _), (by decide : 228 + 12 ≤ _)⟩)
        dsimp only [Pt.U, Pt.locs, Pt.cells, Pt.slots] at X89' hS89 gg89 l89 y89 z89 st89 hQ89 C89
        subst l89 y89 z89
        obtain ⟨X89, Wd89, hZ, hown⟩ := own_fold Wd55 rfl X89' hS89 gg89 C89 hZ hown
        obtain ⟨r89, rfl, N89q, K89, T89_0⟩ := hQ89
        have N89 := Fr.app N55 N89q
        have F90 : own_Str Z T89.heap r18 (own_n l1) (own_b c10 c11) := (F56.keep0 K89)
        have F91 : own_Str Z T89.heap r43 (own_n l2) (own_b c20 c21) := (F57.keep0 K89)
        have F92 : Old Z n0 T89.heap := (F58.keep K89 all0)
        have F93 : Exa Z T89.heap r10 "com/example/shallow_history/shallowhistory/policy/TruthValue" := (F59.keep K89)
        have F94 : Exa Z T89.heap r11 "com/example/shallow_history/shallowhistory/policy/TruthValue" := (F60.keep K89)
        have F95 : Exa Z T89.heap b12 "com/example/shallow_history/shallowhistory/policy/Literal" := (F61.keep K89)
        have F96 : Exa Z T89.heap r18 "java/lang/String" := (F62.keep K89)
        have F97 : Fld Z T89.heap b12 "com/example/shallow_history/shallowhistory/policy/Literal" "variable" "Ljava/lang/String;" (.ref r18) := (F63.keep K89 nin0)
        have F98 : Fld Z T89.heap b12 "com/example/shallow_history/shallowhistory/policy/Literal" "value" "Lcom/example/shallow_history/shallowhistory/policy/TruthValue;" (.ref r10) := (F64.keep K89 nin0)
        have F99 : Exa Z T89.heap b32 "com/example/shallow_history/shallowhistory/policy/Literal" := (E55_0.keep K89)
        have F100 : Exa Z T89.heap r43 "java/lang/String" := (F66.keep K89)
        have F101 : Fld Z T89.heap b32 "com/example/shallow_history/shallowhistory/policy/Literal" "variable" "Ljava/lang/String;" (.ref r43) := (F55_0.keep K89 nin0)
        have F102 : Fld Z T89.heap b32 "com/example/shallow_history/shallowhistory/policy/Literal" "value" "Lcom/example/shallow_history/shallowhistory/policy/TruthValue;" (.ref r11) := (F55_1.keep K89 nin0)
        refine own_goW (fun _ k => st89.trans k) ?_
        show own_EndsW _ _ _ _ _ _ _ _ _ (T89.setTop (mkF m 312 #[.val (.int p0), .val (.int p1), .val (.int p2), .val (.int l1), .val (.int l2), .val (.int k1), .val (.int k2), .val (.int cp), .val (.int (((p2.toUInt32 >>> ((9 : Int32) &&& 31).toUInt32).toInt32) &&& (3 : Int32))), .val (.int c10), .val (.int c11), .val (.int c20), .val (.int c21), .val (.ref r10), .val (.ref r11), .val (.ref b12), .val (.ref b32), .val (.int sn), .val (.int sv), .unset] [(.ref r89)]))
        refine own_goW (fun _ k => XS.astore X89.here hx rfl (hb hby at_312) rfl rfl (l' := #[.val (.int p0), .val (.int p1), .val (.int p2), .val (.int l1), .val (.int l2), .val (.int k1), .val (.int k2), .val (.int cp), .val (.int (((p2.toUInt32 >>> ((9 : Int32) &&& 31).toUInt32).toInt32) &&& (3 : Int32))), .val (.int c10), .val (.int c11), .val (.int c20), .val (.int c21), .val (.ref r10), .val (.ref r11), .val (.ref b12), .val (.ref b32), .val (.int sn), .val (.int sv), .val (.ref r89)]) rfl k) ?_
        show own_EndsW _ _ _ _ _ _ _ _ _ (T89.setTop (mkF m 314 #[.val (.int p0), .val (.int p1), .val (.int p2), .val (.int l1), .val (.int l2), .val (.int k1), .val (.int k2), .val (.int cp), .val (.int (((p2.toUInt32 >>> ((9 : Int32) &&& 31).toUInt32).toInt32) &&& (3 : Int32))), .val (.int c10), .val (.int c11), .val (.int c20), .val (.int c21), .val (.ref r10), .val (.ref r11), .val (.ref b12), .val (.ref b32), .val (.int sn), .val (.int sv), .val (.ref r89)] []))
        refine own_goW (fun _ k => XS.aload X89.here hx rfl (hb hby at_314) rfl rfl k) ?_
        show own_EndsW _ _ _ _ _ _ _ _ _ (T89.setTop (mkF m 316 #[.val (.int p0), .val (.int p1), .val (.int p2), .val (.int l1), .val (.int l2), .val (.int k1), .val (.int k2), .val (.int cp), .val (.int (((p2.toUInt32 >>> ((9 : Int32) &&& 31).toUInt32).toInt32) &&& (3 : Int32))), .val (.int c10), .val (.int c11), .val (.int c20), .val (.int c21), .val (.ref r10), .val (.ref r11), .val (.ref b12), .val (.ref b32), .val (.int sn), .val (.int sv), .val (.ref r89)] [(.ref b12)]))
        refine own_goW (fun _ k => XS.aload X89.here hx rfl (hb hby at_316) rfl rfl k) ?_
        show own_EndsW _ _ _ _ _ _ _ _ _ (T89.setTop (mkF m 318 #[.val (.int p0), .val (.int p1), .val (.int p2), .val (.int l1), .val (.int l2), .val (.int k1), .val (.int k2), .val (.int cp), .val (.int (((p2.toUInt32 >>> ((9 : Int32) &&& 31).toUInt32).toInt32) &&& (3 : Int32))), .val (.int c10), .val (.int c11), .val (.int c20), .val (.int c21), .val (.ref r10), .val (.ref r11), .val (.ref b12), .val (.ref b32), .val (.int sn), .val (.int sv), .val (.ref r89)] [(.ref r89), (.ref b12)]))
        obtain ⟨cq103, kq103, q103a, q103b, q103c⟩ := isOf hZ rfl F95
        obtain ⟨_, _, ⟨T103, L103, k103, n103⟩, -, X103, ⟨Lc103, hQ103, l103, y103, z103⟩, st103⟩ := X89.virtualBack hx (y := (⟨"com/example/shallow_history/shallowhistory/policy/Literal", "equals", "(Ljava/lang/Object;)Z"⟩ : MethodName)) (z := (⟨"com/example/shallow_history/shallowhistory/policy/Literal", "equals", "(Ljava/lang/Object;)Z"⟩ : MethodName)) hown (mvT hZ (hw _ (List.mem_of_getElem? (i := 63) rfl))) (mvT hZ (hw _ (List.mem_of_getElem? (i := 64) rfl))) (notFace_of_selects (args := #[]) (mvT hZ (hw _ (List.mem_of_getElem? (i := 66) rfl)))) (mvT hZ (hw _ (List.mem_of_getElem? (i := 66) rfl))) (mvT hZ (hw _ (List.mem_of_getElem? (i := 65) rfl))) (by decide) (backOf (W := 0) (rmleS l Z ar hw [] b12 r89 T89.heap n0 F92 T89_0.1) hZ (hw _ (List.mem_of_getElem? (i := 67) rfl)) (hw _ (List.mem_of_getElem? (i := 9) rfl)) (by decide) (by decide)) q103a q103c (g := (mkF m 318 #[.val (.int p0), .val (.int p1), .val (.int p2), .val (.int l1), .val (.int l2), .val (.int k1), .val (.int k2), .val (.int cp), .val (.int (((p2.toUInt32 >>> ((9 : Int32) &&& 31).toUInt32).toInt32) &&& (3 : Int32))), .val (.int c10), .val (.int c11), .val (.int c20), .val (.int c21), .val (.ref r10), .val (.ref r11), .val (.ref b12), .val (.ref b32), .val (.int sn), .val (.int sv), .val (.ref r89)] [(.ref r89), (.ref b12)])) rfl (by rw [hml]; rfl) (Steps.refl _) (argsL := [(.ref r89)]) (rest := []) (lenOf pd0_3 rfl) rfl (by show 2 * 0 + _ ≤ _; exact Nat.le_of_eq rfl) (hb hby at_318) (fun _ _ => ⟨rfl, rfl, (by decide : 28 + 0 ≤ _), (by decide : 240 + 0 ≤ _)⟩)
        dsimp only [Pt.U, Pt.locs, Pt.cells, Pt.slots] at X103 l103 y103 z103 st103 hQ103
        subst l103 y103 z103
        obtain ⟨rfl, N103q, eq103⟩ := hQ103
        have e103 : T103.heap = T89.heap := eq103
        have N103 := Fr.app N89 N103q
        refine own_goW (fun _ k => st103.trans k) ?_
        show own_EndsW _ _ _ _ _ _ _ _ _ (T103.setTop (mkF m 321 #[.val (.int p0), .val (.int p1), .val (.int p2), .val (.int l1), .val (.int l2), .val (.int k1), .val (.int k2), .val (.int cp), .val (.int (((p2.toUInt32 >>> ((9 : Int32) &&& 31).toUInt32).toInt32) &&& (3 : Int32))), .val (.int c10), .val (.int c11), .val (.int c20), .val (.int c21), .val (.ref r10), .val (.ref r11), .val (.ref b12), .val (.ref b32), .val (.int sn), .val (.int sv), .val (.ref r89)] [(.int (0 : Int32))]))
        refine own_goW (fun _ k => XS.ifNo X103.here hx rfl (hb hby at_321) rfl ((if0 _ _).trans (teq (by decide)).2) k) ?_
        show own_EndsW _ _ _ _ _ _ _ _ _ (T103.setTop (mkF m 324 #[.val (.int p0), .val (.int p1), .val (.int p2), .val (.int l1), .val (.int l2), .val (.int k1), .val (.int k2), .val (.int cp), .val (.int (((p2.toUInt32 >>> ((9 : Int32) &&& 31).toUInt32).toInt32) &&& (3 : Int32))), .val (.int c10), .val (.int c11), .val (.int c20), .val (.int c21), .val (.ref r10), .val (.ref r11), .val (.ref b12), .val (.ref b32), .val (.int sn), .val (.int sv), .val (.ref r89)] []))
        refine own_goW (fun _ k => XS.iconst X103.here hx rfl (hb hby at_324) k) ?_
        show own_EndsW _ _ _ _ _ _ _ _ _ (T103.setTop (mkF m 325 #[.val (.int p0), .val (.int p1), .val (.int p2), .val (.int l1), .val (.int l2), .val (.int k1), .val (.int k2), .val (.int cp), .val (.int (((p2.toUInt32 >>> ((9 : Int32) &&& 31).toUInt32).toInt32) &&& (3 : Int32))), .val (.int c10), .val (.int c11), .val (.int c20), .val (.int c21), .val (.ref r10), .val (.ref r11), .val (.ref b12), .val (.ref b32), .val (.int sn), .val (.int sv), .val (.ref r89)] [(.int (1 : Int32))]))
        refine own_goW (fun _ k => XS.goto X103.here hx rfl (pc0 := 325) (pc' := 329) rfl (hb hby at_325) (by decide) (by decide) k) ?_
        show own_EndsW _ _ _ _ _ _ _ _ _ (T103.setTop (mkF m 329 #[.val (.int p0), .val (.int p1), .val (.int p2), .val (.int l1), .val (.int l2), .val (.int k1), .val (.int k2), .val (.int cp), .val (.int (((p2.toUInt32 >>> ((9 : Int32) &&& 31).toUInt32).toInt32) &&& (3 : Int32))), .val (.int c10), .val (.int c11), .val (.int c20), .val (.int c21), .val (.ref r10), .val (.ref r11), .val (.ref b12), .val (.ref b32), .val (.int sn), .val (.int sv), .val (.ref r89)] [(.int (1 : Int32))]))
        exact own_retNW X103 hx hlk e103 Wd89 hZ (own_EW hw) (t := .boolean) Bd.returns (by simp) (hb hby at_329) (by decide) (by decide) ⟨rfl, N103⟩
      · refine own_goW (fun _ k => XS.icmpYes X55.here hx rfl (pc0 := 300) (pc' := 330) rfl (hb hby at_300) rfl (feq hc88).2 (by decide) (by decide) k) ?_
        show own_EndsW _ _ _ _ _ _ _ _ _ (T55.setTop (mkF m 330 #[.val (.int p0), .val (.int p1), .val (.int p2), .val (.int l1), .val (.int l2), .val (.int k1), .val (.int k2), .val (.int cp), .val (.int (((p2.toUInt32 >>> ((9 : Int32) &&& 31).toUInt32).toInt32) &&& (3 : Int32))), .val (.int c10), .val (.int c11), .val (.int c20), .val (.int c21), .val (.ref r10), .val (.ref r11), .val (.ref b12), .val (.ref b32), .val (.int sn), .val (.int sv), .unset] []))
        refine own_goW (fun _ k => XS.aload X55.here hx rfl (hb hby at_330) rfl rfl k) ?_
        show own_EndsW _ _ _ _ _ _ _ _ _ (T55.setTop (mkF m 332 #[.val (.int p0), .val (.int p1), .val (.int p2), .val (.int l1), .val (.int l2), .val (.int k1), .val (.int k2), .val (.int cp), .val (.int (((p2.toUInt32 >>> ((9 : Int32) &&& 31).toUInt32).toInt32) &&& (3 : Int32))), .val (.int c10), .val (.int c11), .val (.int c20), .val (.int c21), .val (.ref r10), .val (.ref r11), .val (.ref b12), .val (.ref b32), .val (.int sn), .val (.int sv), .unset] [(.ref b12)]))
        refine own_goW (fun _ k => XS.astore X55.here hx rfl (hb hby at_332) rfl rfl (l' := #[.val (.int p0), .val (.int p1), .val (.int p2), .val (.int l1), .val (.int l2), .val (.int k1), .val (.int k2), .val (.int cp), .val (.int (((p2.toUInt32 >>> ((9 : Int32) &&& 31).toUInt32).toInt32) &&& (3 : Int32))), .val (.int c10), .val (.int c11), .val (.int c20), .val (.int c21), .val (.ref r10), .val (.ref r11), .val (.ref b12), .val (.ref b32), .val (.int sn), .val (.int sv), .val (.ref b12)]) rfl k) ?_
        show own_EndsW _ _ _ _ _ _ _ _ _ (T55.setTop (mkF m 334 #[.val (.int p0), .val (.int p1), .val (.int p2), .val (.int l1), .val (.int l2), .val (.int k1), .val (.int k2), .val (.int cp), .val (.int (((p2.toUInt32 >>> ((9 : Int32) &&& 31).toUInt32).toInt32) &&& (3 : Int32))), .val (.int c10), .val (.int c11), .val (.int c20), .val (.int c21), .val (.ref r10), .val (.ref r11), .val (.ref b12), .val (.ref b32), .val (.int sn), .val (.int sv), .val (.ref b12)] []))
        refine own_goW (fun _ k => XS.aload X55.here hx rfl (hb hby at_334) rfl rfl k) ?_
        show own_EndsW _ _ _ _ _ _ _ _ _ (T55.setTop (mkF m 336 #[.val (.int p0), .val (.int p1), .val (.int p2), .val (.int l1), .val (.int l2), .val (.int k1), .val (.int k2), .val (.int cp), .val (.int (((p2.toUInt32 >>> ((9 : Int32) &&& 31).toUInt32).toInt32) &&& (3 : Int32))), .val (.int c10), .val (.int c11), .val (.int c20), .val (.int c21), .val (.ref r10), .val (.ref r11), .val (.ref b12), .val (.ref b32), .val (.int sn), .val (.int sv), .val (.ref b12)] [(.ref b12)]))
        refine own_goW (fun _ k => XS.aload X55.here hx rfl (hb hby at_336) rfl rfl k) ?_
        show own_EndsW _ _ _ _ _ _ _ _ _ (T55.setTop (mkF m 338 #[.val (.int p0), .val (.int p1), .val (.int p2), .val (.int l1), .val (.int l2), .val (.int k1), .val (.int k2), .val (.int cp), .val (.int (((p2.toUInt32 >>> ((9 : Int32) &&& 31).toUInt32).toInt32) &&& (3 : Int32))), .val (.int c10), .val (.int c11), .val (.int c20), .val (.int c21), .val (.ref r10), .val (.ref r11), .val (.ref b12), .val (.ref b32), .val (.int sn), .val (.int sv), .val (.ref b12)] [(.ref b12), (.ref b12)]))
        obtain ⟨cq104, kq104, q104a, q104b, q104c⟩ := isOf hZ rfl F61
        obtain ⟨_, _, ⟨T104, L104, k104, n104⟩, -, X104, ⟨Lc104, hQ104, l104, y104, z104⟩, st104⟩ := X55.virtualBack hx (y := (⟨"com/example/shallow_history/shallowhistory/policy/Literal", "equals", "(Ljava/lang/Object;)Z"⟩ : MethodName)) (z := (⟨"com/example/shallow_history/shallowhistory/policy/Literal", "equals", "(Ljava/lang/Object;)Z"⟩ : MethodName)) hown (mvT hZ (hw _ (List.mem_of_getElem? (i := 63) rfl))) (mvT hZ (hw _ (List.mem_of_getElem? (i := 64) rfl))) (notFace_of_selects (args := #[]) (mvT hZ (hw _ (List.mem_of_getElem? (i := 66) rfl)))) (mvT hZ (hw _ (List.mem_of_getElem? (i := 66) rfl))) (mvT hZ (hw _ (List.mem_of_getElem? (i := 65) rfl))) (by decide) (backOf (W := 0) (rmleM l Z ar hw [] b12 b12 r18 (own_n l1) (own_b c10 c11) r10 r18 (own_n l1) (own_b c10 c11) r10 w_COMPACT_STRINGS T55.heap n0 F58 F61 F63 F56 (own_nlt _) F64 F63 F56 (own_nlt _) F64 hCS S_COMPACT_STRINGS) hZ (hw _ (List.mem_of_getElem? (i := 67) rfl)) (hw _ (List.mem_of_getElem? (i := 9) rfl)) (by decide) (by decide)) q104a q104c (g := (mkF m 338 #[.val (.int p0), .val (.int p1), .val (.int p2), .val (.int l1), .val (.int l2), .val (.int k1), .val (.int k2), .val (.int cp), .val (.int (((p2.toUInt32 >>> ((9 : Int32) &&& 31).toUInt32).toInt32) &&& (3 : Int32))), .val (.int c10), .val (.int c11), .val (.int c20), .val (.int c21), .val (.ref r10), .val (.ref r11), .val (.ref b12), .val (.ref b32), .val (.int sn), .val (.int sv), .val (.ref b12)] [(.ref b12), (.ref b12)])) rfl (by rw [hml]; rfl) (Steps.refl _) (argsL := [(.ref b12)]) (rest := []) (lenOf pd0_3 rfl) rfl (by show 2 * 0 + _ ≤ _; exact Nat.le_of_eq rfl) (hb hby at_338) (fun _ _ => ⟨rfl, rfl, (by decide : 22 + 0 ≤ _), (by decide : 228 + 0 ≤ _)⟩)
        dsimp only [Pt.U, Pt.locs, Pt.cells, Pt.slots] at X104 l104 y104 z104 st104 hQ104
        subst l104 y104 z104
        obtain ⟨z104, rfl, hz104, N104q, eq104⟩ := hQ104
        have e104 : T104.heap = T55.heap := eq104
        have N104 := Fr.app N55 N104q
        refine own_goW (fun _ k => st104.trans k) ?_
        show own_EndsW _ _ _ _ _ _ _ _ _ (T104.setTop (mkF m 341 #[.val (.int p0), .val (.int p1), .val (.int p2), .val (.int l1), .val (.int l2), .val (.int k1), .val (.int k2), .val (.int cp), .val (.int (((p2.toUInt32 >>> ((9 : Int32) &&& 31).toUInt32).toInt32) &&& (3 : Int32))), .val (.int c10), .val (.int c11), .val (.int c20), .val (.int c21), .val (.ref r10), .val (.ref r11), .val (.ref b12), .val (.ref b32), .val (.int sn), .val (.int sv), .val (.ref b12)] [(.int z104)]))
        exact own_retNW X104 hx hlk e104 Wd55 hZ (own_EW hw) (t := .boolean) Bd.returns (by simp) (hb hby at_341) (by decide) (by decide) ⟨by rw [own_ans.yes hz104 ⟨own_eq.refl _ _, rfl⟩]; rfl, N104⟩
set_option maxRecDepth 65536 in
set_option maxHeartbeats 40000000 in
theorem comes_1 {Post : Tables → Env → Array Value → State → Outcome → State → Prop} (hpost : ∀ tb e args s v u, (limb_1_1.after args s (.returned v) u = true ∧ limb_1_2.after args s (.returned v) u = true ∧ True) → ReturnedEndW s (.returned v) u (Jvm.fieldLocs frame_1_writes args s ++ Jvm.arrayLocs frame_1_arrays args s ++ Jvm.staticLocs frame_1_statics s) 40 3264 → Post tb e args s (.returned v) u) :
    ArmFor flags0 classFile x code maxLocals ret World_1 tables_1 room_1 Calls_1 rest_1 Pre_1 Post := by
  intro l hfl _ _ p e ha hc hk s m args below hf hA hF happ hP
  obtain ⟨hcalls, hrest, hpre⟩ := hP
  obtain ⟨-, -, -, hnamed, -, -, -, hat⟩ := (Spec.applies_iff hf).mp happ
  obtain ⟨hg, hn⟩ := and_e (Cond.before_iff.mp (show (Jvm.Cond.and given_1 narrow_1).before args s = true from hpre))
  obtain ⟨hcount, hg0⟩ := and_e hg
  obtain ⟨ga0, hg1⟩ := and_e hg0
  obtain ⟨ga1, hg2⟩ := and_e hg1
  obtain ⟨w0, w1, w2, rfl⟩ : ∃ w0 w1 w2 : Value, args = #[w0, w1, w2] := by
    have hs : args.size = 3 := by simpa [Cond.value, given_1] using hcount
    obtain ⟨L⟩ := args
    match L, hs with
    | [w0, w1, w2], _ => exact ⟨w0, w1, w2, rfl⟩
  have hw := fun d (hd : d ∈ tables_1) => atoms_spec (ws := Jvm.Cond.code x code maxLocals ret :: tables_1) hat d (List.mem_cons_of_mem _ hd)
  have hfit : Fit s := fun {y c} hc i hi => by
    obtain ⟨ha, rfl⟩ := Array.getElem?_eq_some_iff.mp hc
    have q := List.all_eq_true.mp ((Array.all_eq_true_iff_forall_mem.mp hF) _ (Array.getElem_mem ha)) i (List.mem_range.mpr hi)
    simpa [Array.getElem?_eq_getElem hi] using q
  obtain ⟨hsets, hown0⟩ := atoms_of _ (rest_1_c_eq ▸ (show rest_1_c.before _ s = true from hrest))
  have hr0 := Cond.before_iff.mp hown0
  obtain ⟨p0, ei0⟩ := is_v ga0
  obtain rfl : w0 = (.int p0) := Option.some.inj ei0
  obtain ⟨p1, ei1⟩ := is_v ga1
  obtain rfl : w1 = (.int p1) := Option.some.inj ei1
  obtain ⟨p2, ei2⟩ := is_v hg2
  obtain rfl : w2 = (.int p2) := Option.some.inj ei2
  obtain ⟨hn_0, hn0'⟩ := and_e hn
  obtain ⟨hn_1, hn1'⟩ := and_e hn0'
  obtain ⟨hn_2, hn2'⟩ := and_e hn1'
  obtain ⟨hn_3, hn3'⟩ := and_e hn2'
  obtain ⟨hn_4, hn4'⟩ := and_e hn3'
  have hn_5 := hn4'
  obtain ⟨w_TRUE, ev_TRUE⟩ := exa_v hn_0
  have S_TRUE : Sta s s.heap "com/example/shallow_history/shallowhistory/policy/TruthValue" "TRUE" "Lcom/example/shallow_history/shallowhistory/policy/TruthValue;" (.ref w_TRUE) := Sta.start ev_TRUE (Or.inr ⟨(hw _ (List.mem_of_getElem? (i := 5) rfl)), (hw _ (List.mem_of_getElem? (i := 6) rfl))⟩)
  have E_w_TRUE : Exa s s.heap w_TRUE "com/example/shallow_history/shallowhistory/policy/TruthValue" := Exa.start ev_TRUE hn_0
  obtain ⟨w_FALSE, ev_FALSE⟩ := exa_v hn_1
  have S_FALSE : Sta s s.heap "com/example/shallow_history/shallowhistory/policy/TruthValue" "FALSE" "Lcom/example/shallow_history/shallowhistory/policy/TruthValue;" (.ref w_FALSE) := Sta.start ev_FALSE (Or.inr ⟨(hw _ (List.mem_of_getElem? (i := 5) rfl)), (hw _ (List.mem_of_getElem? (i := 81) rfl))⟩)
  have E_w_FALSE : Exa s s.heap w_FALSE "com/example/shallow_history/shallowhistory/policy/TruthValue" := Exa.start ev_FALSE hn_1
  obtain ⟨w_UNDEFINED, ev_UNDEFINED⟩ := exa_v hn_4
  have S_UNDEFINED : Sta s s.heap "com/example/shallow_history/shallowhistory/policy/TruthValue" "UNDEFINED" "Lcom/example/shallow_history/shallowhistory/policy/TruthValue;" (.ref w_UNDEFINED) := Sta.start ev_UNDEFINED (Or.inr ⟨(hw _ (List.mem_of_getElem? (i := 5) rfl)), (hw _ (List.mem_of_getElem? (i := 97) rfl))⟩)
  have E_w_UNDEFINED : Exa s s.heap w_UNDEFINED "com/example/shallow_history/shallowhistory/policy/TruthValue" := Exa.start ev_UNDEFINED hn_4
  have FZ_TRUE : Fld s s.heap w_TRUE "java/lang/Enum" "ordinal" "I" (.int (0 : Int32)) := Fld.start ((fld_at ev_TRUE).symm.trans (own_eqint hn_2))
  have FZ_FALSE : Fld s s.heap w_FALSE "java/lang/Enum" "ordinal" "I" (.int (1 : Int32)) := Fld.start ((fld_at ev_FALSE).symm.trans (own_eqint hn_3))
  have FZ_UNDEFINED : Fld s s.heap w_UNDEFINED "java/lang/Enum" "ordinal" "I" (.int (2 : Int32)) := Fld.start ((fld_at ev_UNDEFINED).symm.trans (own_eqint hn_5))
  have EZ_TRUE := E_w_TRUE
  have EZ_FALSE := E_w_FALSE
  have EZ_UNDEFINED := E_w_UNDEFINED
  have nTF : w_TRUE ≠ w_FALSE := own_ord FZ_TRUE FZ_FALSE (by decide)
  have nTU : w_TRUE ≠ w_UNDEFINED := own_ord FZ_TRUE FZ_UNDEFINED (by decide)
  have nFU : w_FALSE ≠ w_UNDEFINED := own_ord FZ_FALSE FZ_UNDEFINED (by decide)
  obtain ⟨w_COMPACT_STRINGS, ev_CS⟩ := is_v (Cond.before_iff.mp (hsets _ (List.mem_of_getElem? (i := 1) rfl)))
  have S_COMPACT_STRINGS : Sta s s.heap "java/lang/String" "COMPACT_STRINGS" "Z" (.int w_COMPACT_STRINGS) := Sta.start ev_CS (Or.inl (hsets _ (List.mem_of_getElem? (i := 0) rfl)))
  have hCS : ¬ w_COMPACT_STRINGS = (0 : Int32) := gotF (Cond.eq_ints ev_CS (rfl : (Jvm.Term.int (0 : Int32)).eval _ s none [] s = some (.int 0))) (not_v (Cond.before_iff.mp (hsets _ (List.mem_of_getElem? (i := 2) rfl))))
  obtain ⟨n, o, h1, h2, h3, _, L, rfl, ⟨rfl, N⟩, -, hq⟩ := rm0 l s _ hw tables_1 p0 p1 p2 w_TRUE w_FALSE w_UNDEFINED w_COMPACT_STRINGS s.heap s.heap.size (Old.start s) nTF nTU nFU EZ_TRUE EZ_FALSE EZ_UNDEFINED S_TRUE S_FALSE S_UNDEFINED hCS S_COMPACT_STRINGS p e ha hc hk s m _ below hf ((Spec.applies_iff_loose hf).mp happ).1 ⟨rfl, State.Warmed39.refl s, rfl, (CHv.start (own_EW hw) (fun q hq => hcalls.1 q hq) (hsets _ (List.mem_of_getElem? (i := 2) rfl)) (hw _ (List.mem_of_getElem? (i := 32) rfl)) (hw _ (List.mem_of_getElem? (i := 15) rfl)))⟩ trivial
  refine ⟨n, _, h1, h2, h3, hpost _ _ _ _ _ _ ⟨Cond.after_iff.mpr rfl, Cond.after_iff.mpr (eq_i res_at (Term.int_eval (1)) rfl), trivial⟩ ⟨hq.1, hq.2.1, hq.2.2.1, (hq.2.2.2.sift fun y hy => Or.inr (N y hy)).mono (by decide) (by decide)⟩⟩
theorem main_1_1 : Claimed_1_1 := comes_1 fun _ _ _ _ _ _ h hF => ⟨h.1, hF⟩
theorem main_1_2 : Claimed_1_2 := comes_1 fun _ _ _ _ _ _ h hF => ⟨h.2.1, hF⟩
end Jvm.Pilot.@@N@@
namespace Jvm.Pilot.@@N@@
open Jvm Jvm.ClassFile Sem Op Lib Jvm.Free Jvm.Stand Jvm.Pilot.@@N@@.Jvm.D
/-! MADE BY PROGRAM (witnessworld.py) out of the Statement's table words and the real class files: 23 classes; the members and pool entries that the words name. The judged class is class 1, her method 3. -/
namespace start1
open Jvm.ClassFile
def u (s : String) : CpInfo := .utf8 (stringToUtf16 s)
/-- a pool by its gaps: so many unusable entries, then the entry; so many at the end -/
def gap : Nat → List CpInfo → List CpInfo
  | 0, r => r
  | n + 1, r => .unusable :: gap n r
def poolList (es : List (Nat × CpInfo)) (last : Nat) : List CpInfo := es.foldr (fun e r => gap e.1 (e.2 :: r)) (gap last [])
def pool (es : List (Nat × CpInfo)) (last : Nat) : Array CpInfo := ⟨poolList es last⟩
def fileOf (pool : Array CpInfo) (this : Nat) (attrs : Array Attribute := #[]) (ms : Array MethodInfo := #[]) (fl : Nat := 33) (sup : Nat := 0) (ifs : Array Nat := #[]) (fds : Array FieldInfo := #[]) : ClassFile where
  minorVersion := 0
  majorVersion := 65
  constantPool := pool
  accessFlags := fl
  thisClass := this
  superClass := sup
  interfaces := ifs
  fields := fds
  methods := ms
  attributes := attrs
def plain (name : String) (sup : Option ClassId) : Class where
  name := name
  kind := .ordinary
  loader := none
  accessFlags := 33
  super := sup
  interfaces := #[]
  cf := none
  fields := #[]
  methods := #[]
  instanceTypes := #[]
  staticTypes := #[]
  resolved := #[]
  callSites := []
  init := .initialized
  statics := none
  mirror := none

def pool0 : Array CpInfo := pool [(5, u "<init>"), (0, u "()V"), (1, .class_ 10), (1, u "java/lang/Object")] 113

def k0c0 : Code := { maxStack := 0, maxLocals := 1, code := object_method_1_code, exceptionTable := #[], attributes := #[] }
def k0m0 : Method := { name := "<init>", desc := "()V", sig := { parameters := [], returnType := none }, accessFlags := 1, code := some k0c0 }
/-- java/lang/Object -/
def k0 : Class := { plain "java/lang/Object" none with
  accessFlags := 33
  interfaces := #[]
  cf := some (fileOf pool0 8 #[] #[{ accessFlags := 1, nameIndex := 5, descriptorIndex := 6, attributes := #[] }] 33 0 #[] #[])
  fields := #[]
  methods := #[k0m0]
  instanceTypes := #[]
  staticTypes := #[]
  resolved := Array.replicate 124 none
  statics := none }

def pool1 : Array CpInfo := pool [(2, .class_ 4), (1, u "java/lang/Object"), (0, u "<init>"), (0, u "()V"), (0, .fieldref 8 9), (0, .class_ 10), (0, .nameAndType 11 12), (0, u "com/example/shallow_history/shallowhistory/policy/TruthValue"), (0, u "TRUE"), (0, u "Lcom/example/shallow_history/shallowhistory/policy/TruthValue;"), (0, .fieldref 8 14), (0, .nameAndType 15 12), (0, u "FALSE"), (0, .fieldref 8 17), (0, .nameAndType 18 12), (0, u "UNDEFINED"), (0, .class_ 20), (0, u "java/lang/String"), (0, .methodref 19 22), (0, .nameAndType 5 23), (0, u "([C)V"), (0, .methodref 19 25), (0, .nameAndType 26 27), (0, u "valueOf"), (0, u "(C)Ljava/lang/String;"), (0, .methodref 29 30), (0, .class_ 31), (0, .nameAndType 32 33), (0, u "com/example/shallow_history/shallowhistory/policy/LiteralEqualsPinLaw"), (0, u "tv"), (0, u "(I)Lcom/example/shallow_history/shallowhistory/policy/TruthValue;"), (0, .class_ 35), (0, u "com/example/shallow_history/shallowhistory/policy/Literal"), (0, .methodref 29 37), (0, .nameAndType 38 39), (0, u "str"), (0, u "(ICC)Ljava/lang/String;"), (0, .methodref 34 41), (0, .nameAndType 5 42), (0, u "(Ljava/lang/String;Lcom/example/shallow_history/shallowhistory/policy/TruthValue;)V"), (0, .methodref 34 44), (0, .nameAndType 45 46), (0, u "equals"), (0, u "(Ljava/lang/Object;)Z"), (3, u "law"), (0, u "(III)Z")] 2

def k1m0 : Method := { name := "<init>", desc := "()V", sig := { parameters := [], returnType := none }, accessFlags := 1, code := none }
def k1c1 : Code := { maxStack := 2, maxLocals := 1, code := method_2_code, exceptionTable := #[], attributes := #[] }
def k1m1 : Method := { name := "tv", desc := "(I)Lcom/example/shallow_history/shallowhistory/policy/TruthValue;", sig := { parameters := [.int], returnType := some (.object "com/example/shallow_history/shallowhistory/policy/TruthValue") }, accessFlags := 10, code := some k1c1 }
def k1c2 : Code := { maxStack := 3, maxLocals := 4, code := method_3_code, exceptionTable := #[], attributes := #[] }
def k1m2 : Method := { name := "str", desc := "(ICC)Ljava/lang/String;", sig := { parameters := [.int, .char, .char], returnType := some (.object "java/lang/String") }, accessFlags := 10, code := some k1c2 }
def k1c3 : Code := { maxStack := 5, maxLocals := 20, code := code, exceptionTable := #[], attributes := #[] }
def k1m3 : Method := { name := "law", desc := "(III)Z", sig := { parameters := [.int, .int, .int], returnType := some .boolean }, accessFlags := 9, code := some k1c3 }
/-- com/example/shallow_history/shallowhistory/policy/LiteralEqualsPinLaw -/
def k1 : Class := { plain "com/example/shallow_history/shallowhistory/policy/LiteralEqualsPinLaw" (some 0) with
  accessFlags := 49
  interfaces := #[]
  cf := some (fileOf pool1 29 #[] #[{ accessFlags := 1, nameIndex := 5, descriptorIndex := 6, attributes := #[] }, { accessFlags := 10, nameIndex := 32, descriptorIndex := 33, attributes := #[] }, { accessFlags := 10, nameIndex := 38, descriptorIndex := 39, attributes := #[] }, { accessFlags := 9, nameIndex := 50, descriptorIndex := 51, attributes := #[] }] 49 2 #[] #[])
  fields := #[]
  methods := #[k1m0, k1m1, k1m2, k1m3]
  instanceTypes := #[]
  staticTypes := #[]
  resolved := Array.replicate 54 none
  statics := none }

def pool2 : Array CpInfo := pool [(1, .class_ 2), (0, u "java/lang/constant/Constable"), (0, .class_ 4), (0, u "java/lang/Object")] 6

/-- java/lang/constant/Constable -/
def k2 : Class := { plain "java/lang/constant/Constable" (some 0) with
  accessFlags := 1537
  interfaces := #[]
  cf := some (fileOf pool2 1 #[] #[] 1537 3 #[] #[])
  fields := #[]
  methods := #[]
  instanceTypes := #[]
  staticTypes := #[]
  resolved := Array.replicate 11 none
  statics := none }

def pool3 : Array CpInfo := pool [(1, .class_ 2), (0, u "java/lang/Comparable"), (0, .class_ 4), (0, u "java/lang/Object")] 7

/-- java/lang/Comparable -/
def k3 : Class := { plain "java/lang/Comparable" (some 0) with
  accessFlags := 1537
  interfaces := #[]
  cf := some (fileOf pool3 1 #[] #[] 1537 3 #[] #[])
  fields := #[]
  methods := #[]
  instanceTypes := #[]
  staticTypes := #[]
  resolved := Array.replicate 12 none
  statics := none }

def pool4 : Array CpInfo := pool [(1, .class_ 2), (0, u "java/io/Serializable"), (0, .class_ 4), (0, u "java/lang/Object")] 2

/-- java/io/Serializable -/
def k4 : Class := { plain "java/io/Serializable" (some 0) with
  accessFlags := 1537
  interfaces := #[]
  cf := some (fileOf pool4 1 #[] #[] 1537 3 #[] #[])
  fields := #[]
  methods := #[]
  instanceTypes := #[]
  staticTypes := #[]
  resolved := Array.replicate 7 none
  statics := none }

def pool5 : Array CpInfo := pool [(2, .class_ 4), (1, u "java/lang/Enum"), (0, u "name"), (0, u "Ljava/lang/String;"), (2, u "ordinal"), (0, u "I"), (1, .class_ 14), (1, u "java/lang/Object"), (4, u "hash"), (86, .class_ 108), (1, u "java/lang/Enum$EnumDesc"), (2, .class_ 112), (0, u "java/lang/constant/Constable"), (0, .class_ 114), (0, u "java/lang/Comparable"), (0, .class_ 116), (0, u "java/io/Serializable")] 87

/-- java/lang/Enum -/
def k5 : Class := { plain "java/lang/Enum" (some 0) with
  accessFlags := 1057
  interfaces := #[2, 3, 4]
  cf := some (fileOf pool5 2 #[.nestMembers #[106]] #[] 1057 12 #[111, 113, 115] #[{ accessFlags := 18, nameIndex := 5, descriptorIndex := 6, attributes := #[] }, { accessFlags := 18, nameIndex := 9, descriptorIndex := 10, attributes := #[] }, { accessFlags := 2, nameIndex := 19, descriptorIndex := 10, attributes := #[] }])
  fields := #[{ name := "name", type := (.object "java/lang/String"), accessFlags := 18, slot := 0, constantValue := 0 }, { name := "ordinal", type := .int, accessFlags := 18, slot := 1, constantValue := 0 }, { name := "hash", type := .int, accessFlags := 2, slot := 2, constantValue := 0 }]
  methods := #[]
  instanceTypes := #[(.object "java/lang/String"), .int, .int]
  staticTypes := #[]
  resolved := Array.replicate 204 none
  statics := none }

def pool6 : Array CpInfo := pool [(1, .class_ 2), (0, u "com/example/shallow_history/shallowhistory/policy/TruthValue"), (2, u "TRUE"), (0, u "Lcom/example/shallow_history/shallowhistory/policy/TruthValue;"), (2, u "FALSE"), (2, u "UNDEFINED"), (2, u "$VALUES"), (0, u "[Lcom/example/shallow_history/shallowhistory/policy/TruthValue;"), (6, .class_ 25), (1, u "java/lang/Enum")] 25

/-- com/example/shallow_history/shallowhistory/policy/TruthValue -/
def k6 : Class := { plain "com/example/shallow_history/shallowhistory/policy/TruthValue" (some 5) with
  accessFlags := 16433
  interfaces := #[]
  cf := some (fileOf pool6 1 #[] #[] 16433 23 #[] #[{ accessFlags := 16409, nameIndex := 5, descriptorIndex := 6, attributes := #[] }, { accessFlags := 16409, nameIndex := 9, descriptorIndex := 6, attributes := #[] }, { accessFlags := 16409, nameIndex := 12, descriptorIndex := 6, attributes := #[] }, { accessFlags := 4122, nameIndex := 15, descriptorIndex := 16, attributes := #[] }])
  fields := #[{ name := "TRUE", type := (.object "com/example/shallow_history/shallowhistory/policy/TruthValue"), accessFlags := 16409, slot := 0, constantValue := 0 }, { name := "FALSE", type := (.object "com/example/shallow_history/shallowhistory/policy/TruthValue"), accessFlags := 16409, slot := 1, constantValue := 0 }, { name := "UNDEFINED", type := (.object "com/example/shallow_history/shallowhistory/policy/TruthValue"), accessFlags := 16409, slot := 2, constantValue := 0 }, { name := "$VALUES", type := (.array (.object "com/example/shallow_history/shallowhistory/policy/TruthValue")), accessFlags := 4122, slot := 3, constantValue := 0 }]
  methods := #[]
  instanceTypes := #[(.object "java/lang/String"), .int, .int]
  staticTypes := #[(.object "com/example/shallow_history/shallowhistory/policy/TruthValue"), (.object "com/example/shallow_history/shallowhistory/policy/TruthValue"), (.object "com/example/shallow_history/shallowhistory/policy/TruthValue"), (.array (.object "com/example/shallow_history/shallowhistory/policy/TruthValue"))]
  resolved := Array.replicate 51 none
  statics := some 0 }

def pool7 : Array CpInfo := pool [(4, .class_ 6), (1, u "java/lang/String"), (3, .class_ 12), (1, u "com/example/shallow_history/shallowhistory/policy/TruthValue"), (1, u "Lcom/example/shallow_history/shallowhistory/policy/TruthValue;"), (24, u "<init>"), (1, .class_ 42), (0, u "com/example/shallow_history/shallowhistory/policy/Literal"), (2, u "(Ljava/lang/String;Lcom/example/shallow_history/shallowhistory/policy/TruthValue;)V"), (0, .methodref 47 48), (0, .class_ 49), (0, .nameAndType 39 50), (0, u "java/lang/Object"), (0, u "()V"), (0, .string 52), (0, u "Null variable"), (0, .methodref 54 55), (0, .class_ 56), (0, .nameAndType 57 58), (0, u "java/util/Objects"), (0, u "requireNonNull"), (0, u "(Ljava/lang/Object;Ljava/lang/String;)Ljava/lang/Object;"), (0, .fieldref 41 60), (0, .nameAndType 61 62), (0, u "variable"), (0, u "Ljava/lang/String;"), (0, .string 64), (0, u "Null value"), (0, .fieldref 41 66), (0, .nameAndType 67 14), (0, u "value"), (6, .methodref 4 75), (0, .nameAndType 76 77), (0, u "equals"), (0, u "(Ljava/lang/Object;)Z"), (5, .class_ 85), (1, u "com/example/shallow_history/shallowhistory/policy/Literal$1")] 51

def k7c0 : Code := { maxStack := 3, maxLocals := 3, code := prog_18_method_2_code, exceptionTable := #[], attributes := #[] }
def k7m0 : Method := { name := "<init>", desc := "(Ljava/lang/String;Lcom/example/shallow_history/shallowhistory/policy/TruthValue;)V", sig := { parameters := [(.object "java/lang/String"), (.object "com/example/shallow_history/shallowhistory/policy/TruthValue")], returnType := none }, accessFlags := 1, code := some k7c0 }
def k7c1 : Code := { maxStack := 2, maxLocals := 3, code := prog_18_method_6_code, exceptionTable := #[], attributes := #[] }
def k7m1 : Method := { name := "equals", desc := "(Ljava/lang/Object;)Z", sig := { parameters := [(.object "java/lang/Object")], returnType := some .boolean }, accessFlags := 1, code := some k7c1 }
/-- com/example/shallow_history/shallowhistory/policy/Literal -/
def k7 : Class := { plain "com/example/shallow_history/shallowhistory/policy/Literal" (some 0) with
  accessFlags := 33
  interfaces := #[]
  cf := some (fileOf pool7 41 #[.nestMembers #[83]] #[{ accessFlags := 1, nameIndex := 39, descriptorIndex := 45, attributes := #[] }, { accessFlags := 1, nameIndex := 76, descriptorIndex := 77, attributes := #[] }] 33 47 #[] #[{ accessFlags := 18, nameIndex := 61, descriptorIndex := 62, attributes := #[] }, { accessFlags := 18, nameIndex := 67, descriptorIndex := 14, attributes := #[] }])
  fields := #[{ name := "variable", type := (.object "java/lang/String"), accessFlags := 18, slot := 0, constantValue := 0 }, { name := "value", type := (.object "com/example/shallow_history/shallowhistory/policy/TruthValue"), accessFlags := 18, slot := 1, constantValue := 0 }]
  methods := #[k7m0, k7m1]
  instanceTypes := #[(.object "java/lang/String"), (.object "com/example/shallow_history/shallowhistory/policy/TruthValue")]
  staticTypes := #[]
  resolved := Array.replicate 137 none
  statics := none }

def pool8 : Array CpInfo := pool [(2, .class_ 4), (1, u "java/lang/CharSequence"), (42, .class_ 48), (0, u "java/lang/CharSequence$1CodePointIterator"), (10, .class_ 60), (0, u "java/lang/CharSequence$1CharIterator"), (5, .class_ 67), (0, u "java/lang/Object")] 63

/-- java/lang/CharSequence -/
def k8 : Class := { plain "java/lang/CharSequence" (some 0) with
  accessFlags := 1537
  interfaces := #[]
  cf := some (fileOf pool8 2 #[.nestMembers #[47, 59]] #[] 1537 66 #[] #[])
  fields := #[]
  methods := #[]
  instanceTypes := #[]
  staticTypes := #[]
  resolved := Array.replicate 131 none
  statics := none }

def pool9 : Array CpInfo := pool [(1, .class_ 2), (0, u "java/lang/constant/ConstantDesc"), (0, .class_ 4), (0, u "java/lang/Object")] 32

/-- java/lang/constant/ConstantDesc -/
def k9 : Class := { plain "java/lang/constant/ConstantDesc" (some 0) with
  accessFlags := 1537
  interfaces := #[]
  cf := some (fileOf pool9 1 #[] #[] 1537 3 #[] #[])
  fields := #[]
  methods := #[]
  instanceTypes := #[]
  staticTypes := #[]
  resolved := Array.replicate 37 none
  statics := none }

def pool10 : Array CpInfo := pool [(1, .methodref 2 3), (0, .class_ 4), (0, .nameAndType 5 6), (0, u "java/lang/Object"), (0, u "<init>"), (0, u "()V"), (0, .string 8), (0, u ""), (0, .fieldref 10 11), (0, .class_ 12), (0, .nameAndType 13 14), (0, u "java/lang/String"), (0, u "value"), (0, u "[B"), (0, .fieldref 10 16), (0, .nameAndType 17 18), (0, u "coder"), (0, u "B"), (2, u "hash"), (0, u "I"), (2, u "hashIsZero"), (0, u "Z"), (0, .methodref 10 28), (0, .nameAndType 5 29), (0, u "([CIILjava/lang/Void;)V"), (8, .fieldref 10 39), (0, .nameAndType 40 26), (0, u "COMPACT_STRINGS"), (1, .class_ 44), (1, u "java/lang/StringUTF16"), (0, u "compress"), (1, .methodref 42 48), (0, .nameAndType 49 50), (0, u "coderFromArrayLen"), (0, u "([BI)B"), (2, u "toBytes"), (53, .class_ 109), (1, u "java/lang/StringLatin1"), (67, .methodref 42 178), (0, .nameAndType 45 179), (0, u "([CII)[B"), (29, .methodref 10 210), (0, .nameAndType 5 211), (0, u "([BB)V"), (157, u "(C)Z"), (171, .methodref 107 542), (0, .nameAndType 543 544), (0, u "equals"), (0, u "([B[B)Z"), (28, u "(Ljava/lang/Object;)Z"), (1, .class_ 576), (0, u "java/lang/CharSequence"), (22, u "CASE_INSENSITIVE_ORDER"), (0, u "Ljava/util/Comparator;"), (181, u "valueOf"), (0, u "(C)Ljava/lang/String;"), (226, u "([C)V"), (4, .methodref 107 1016), (0, .nameAndType 1017 369), (0, u "canEncode"), (0, .methodref 107 1019), (0, .nameAndType 53 1020), (0, u "(C)[B"), (80, u "serialPersistentFields"), (0, u "[Ljava/io/ObjectStreamField;"), (0, .class_ 1104), (0, u "java/lang/String$CaseInsensitiveComparator"), (1, .class_ 1107), (0, u "java/io/Serializable"), (0, .class_ 1109), (0, u "java/lang/Comparable"), (0, .class_ 1111), (0, u "java/lang/constant/Constable"), (0, .class_ 1113), (0, u "java/lang/constant/ConstantDesc"), (2, u "serialVersionUID"), (0, u "J"), (3, u "REPL"), (0, u "C"), (2, u "LATIN1"), (1, u "UTF16")] 323

def k10m0 : Method := { name := "<init>", desc := "()V", sig := { parameters := [], returnType := none }, accessFlags := 1, code := none }
def k10c1 : Code := { maxStack := 5, maxLocals := 2, code := jdk_42_method_3_code, exceptionTable := #[], attributes := #[] }
def k10m1 : Method := { name := "<init>", desc := "([C)V", sig := { parameters := [(.array .char)], returnType := none }, accessFlags := 1, code := some k10c1 }
def k10c2 : Code := { maxStack := 2, maxLocals := 3, code := jdk_42_method_66_code, exceptionTable := #[], attributes := #[] }
def k10m2 : Method := { name := "equals", desc := "(Ljava/lang/Object;)Z", sig := { parameters := [(.object "java/lang/Object")], returnType := some .boolean }, accessFlags := 1, code := some k10c2 }
def k10c3 : Code := { maxStack := 4, maxLocals := 1, code := jdk_42_method_139_code, exceptionTable := #[], attributes := #[] }
def k10m3 : Method := { name := "valueOf", desc := "(C)Ljava/lang/String;", sig := { parameters := [.char], returnType := some (.object "java/lang/String") }, accessFlags := 9, code := some k10c3 }
def k10c4 : Code := { maxStack := 4, maxLocals := 6, code := jdk_42_method_149_code, exceptionTable := #[], attributes := #[] }
def k10m4 : Method := { name := "<init>", desc := "([CIILjava/lang/Void;)V", sig := { parameters := [(.array .char), .int, .int, (.object "java/lang/Void")], returnType := none }, accessFlags := 2, code := some k10c4 }
def k10c5 : Code := { maxStack := 2, maxLocals := 3, code := jdk_42_method_151_code, exceptionTable := #[], attributes := #[] }
def k10m5 : Method := { name := "<init>", desc := "([BB)V", sig := { parameters := [(.array .byte), .byte], returnType := none }, accessFlags := 0, code := some k10c5 }
/-- java/lang/String -/
def k10 : Class := { plain "java/lang/String" (some 0) with
  accessFlags := 49
  interfaces := #[4, 3, 8, 2, 9]
  cf := some (fileOf pool10 10 #[.nestMembers #[1103]] #[{ accessFlags := 1, nameIndex := 5, descriptorIndex := 6, attributes := #[] }, { accessFlags := 1, nameIndex := 5, descriptorIndex := 1010, attributes := #[] }, { accessFlags := 1, nameIndex := 543, descriptorIndex := 573, attributes := #[] }, { accessFlags := 9, nameIndex := 782, descriptorIndex := 783, attributes := #[] }, { accessFlags := 2, nameIndex := 5, descriptorIndex := 29, attributes := #[] }, { accessFlags := 0, nameIndex := 5, descriptorIndex := 211, attributes := #[] }] 49 2 #[1106, 1108, 575, 1110, 1112] #[{ accessFlags := 18, nameIndex := 13, descriptorIndex := 14, attributes := #[] }, { accessFlags := 18, nameIndex := 17, descriptorIndex := 18, attributes := #[] }, { accessFlags := 2, nameIndex := 21, descriptorIndex := 22, attributes := #[] }, { accessFlags := 2, nameIndex := 25, descriptorIndex := 26, attributes := #[] }, { accessFlags := 26, nameIndex := 1116, descriptorIndex := 1117, attributes := #[] }, { accessFlags := 24, nameIndex := 40, descriptorIndex := 26, attributes := #[] }, { accessFlags := 26, nameIndex := 1101, descriptorIndex := 1102, attributes := #[] }, { accessFlags := 26, nameIndex := 1121, descriptorIndex := 1122, attributes := #[] }, { accessFlags := 25, nameIndex := 599, descriptorIndex := 600, attributes := #[] }, { accessFlags := 24, nameIndex := 1125, descriptorIndex := 18, attributes := #[] }, { accessFlags := 24, nameIndex := 1127, descriptorIndex := 18, attributes := #[] }])
  fields := #[{ name := "value", type := (.array .byte), accessFlags := 18, slot := 0, constantValue := 0 }, { name := "coder", type := .byte, accessFlags := 18, slot := 1, constantValue := 0 }, { name := "hash", type := .int, accessFlags := 2, slot := 2, constantValue := 0 }, { name := "hashIsZero", type := .boolean, accessFlags := 2, slot := 3, constantValue := 0 }, { name := "serialVersionUID", type := .long, accessFlags := 26, slot := 0, constantValue := 0 }, { name := "COMPACT_STRINGS", type := .boolean, accessFlags := 24, slot := 1, constantValue := 0 }, { name := "serialPersistentFields", type := (.array (.object "java/io/ObjectStreamField")), accessFlags := 26, slot := 2, constantValue := 0 }, { name := "REPL", type := .char, accessFlags := 26, slot := 3, constantValue := 0 }, { name := "CASE_INSENSITIVE_ORDER", type := (.object "java/util/Comparator"), accessFlags := 25, slot := 4, constantValue := 0 }, { name := "LATIN1", type := .byte, accessFlags := 24, slot := 5, constantValue := 0 }, { name := "UTF16", type := .byte, accessFlags := 24, slot := 6, constantValue := 0 }]
  methods := #[k10m0, k10m1, k10m2, k10m3, k10m4, k10m5]
  instanceTypes := #[(.array .byte), .byte, .int, .boolean]
  staticTypes := #[.long, .boolean, (.array (.object "java/io/ObjectStreamField")), .char, (.object "java/util/Comparator"), .byte, .byte]
  resolved := Array.replicate 1451 none
  statics := some 1 }

def pool11 : Array CpInfo := pool [(6, .class_ 8), (1, u "java/lang/Object"), (0, u "<init>"), (0, u "()V"), (1, .class_ 14), (1, u "java/lang/StringUTF16"), (31, u "$assertionsDisabled"), (0, u "Z"), (13, u "HI_BYTE_SHIFT"), (0, u "I"), (2, u "LO_BYTE_SHIFT"), (49, .methodref 12 116), (0, .nameAndType 117 118), (0, u "compress"), (0, u "([CI[BII)I"), (3, u "([CII)[B"), (138, u "coderFromArrayLen"), (0, u "([BI)B"), (106, .class_ 371), (1, u "java/lang/StringUTF16$LinesSpliterator"), (58, u "MAX_LENGTH"), (196, .class_ 628), (0, u "java/lang/StringUTF16$CodePointsSpliterator"), (0, .class_ 630), (0, u "java/lang/StringUTF16$CharsSpliterator")] 4

def k11m0 : Method := { name := "<init>", desc := "()V", sig := { parameters := [], returnType := none }, accessFlags := 0, code := none }
def k11c1 : Code := { maxStack := 2, maxLocals := 2, code := jdk_52_method_15_code, exceptionTable := #[], attributes := #[] }
def k11m1 : Method := { name := "coderFromArrayLen", desc := "([BI)B", sig := { parameters := [(.array .byte), .int], returnType := some .byte }, accessFlags := 8, code := some k11c1 }
def k11c2 : Code := { maxStack := 5, maxLocals := 6, code := jdk_52_method_16_code, exceptionTable := #[], attributes := #[] }
def k11m2 : Method := { name := "compress", desc := "([CII)[B", sig := { parameters := [(.array .char), .int, .int], returnType := some (.array .byte) }, accessFlags := 9, code := some k11c2 }
def k11c3 : Code := { maxStack := 3, maxLocals := 7, code := jdk_52_method_21_code, exceptionTable := #[], attributes := #[] }
def k11m3 : Method := { name := "compress", desc := "([CI[BII)I", sig := { parameters := [(.array .char), .int, (.array .byte), .int, .int], returnType := some .int }, accessFlags := 9, code := some k11c3 }
/-- java/lang/StringUTF16 -/
def k11 : Class := { plain "java/lang/StringUTF16" (some 0) with
  accessFlags := 48
  interfaces := #[]
  cf := some (fileOf pool11 12 #[.nestMembers #[627, 629, 369]] #[{ accessFlags := 0, nameIndex := 9, descriptorIndex := 10, attributes := #[] }, { accessFlags := 8, nameIndex := 261, descriptorIndex := 262, attributes := #[] }, { accessFlags := 9, nameIndex := 117, descriptorIndex := 122, attributes := #[] }, { accessFlags := 9, nameIndex := 117, descriptorIndex := 118, attributes := #[] }] 48 6 #[] #[{ accessFlags := 26, nameIndex := 61, descriptorIndex := 62, attributes := #[] }, { accessFlags := 26, nameIndex := 65, descriptorIndex := 62, attributes := #[] }, { accessFlags := 24, nameIndex := 430, descriptorIndex := 62, attributes := #[] }, { accessFlags := 4120, nameIndex := 46, descriptorIndex := 47, attributes := #[] }])
  fields := #[{ name := "HI_BYTE_SHIFT", type := .int, accessFlags := 26, slot := 0, constantValue := 0 }, { name := "LO_BYTE_SHIFT", type := .int, accessFlags := 26, slot := 1, constantValue := 0 }, { name := "MAX_LENGTH", type := .int, accessFlags := 24, slot := 2, constantValue := 0 }, { name := "$assertionsDisabled", type := .boolean, accessFlags := 4120, slot := 3, constantValue := 0 }]
  methods := #[k11m0, k11m1, k11m2, k11m3]
  instanceTypes := #[]
  staticTypes := #[.int, .int, .int, .boolean]
  resolved := Array.replicate 635 none
  statics := none }

def pool12 : Array CpInfo := pool [(2, .class_ 4), (1, u "java/lang/Object"), (0, u "<init>"), (0, u "()V"), (35, .class_ 44), (1, u "java/util/Objects"), (0, u "requireNonNull"), (48, u "(Ljava/lang/Object;Ljava/lang/String;)Ljava/lang/Object;")] 89

def k12m0 : Method := { name := "<init>", desc := "()V", sig := { parameters := [], returnType := none }, accessFlags := 2, code := none }
def k12c1 : Code := { maxStack := 3, maxLocals := 2, code := jdk_31_method_11_code, exceptionTable := #[], attributes := #[] }
def k12m1 : Method := { name := "requireNonNull", desc := "(Ljava/lang/Object;Ljava/lang/String;)Ljava/lang/Object;", sig := { parameters := [(.object "java/lang/Object"), (.object "java/lang/String")], returnType := some (.object "java/lang/Object") }, accessFlags := 9, code := some k12c1 }
/-- java/util/Objects -/
def k12 : Class := { plain "java/util/Objects" (some 0) with
  accessFlags := 49
  interfaces := #[]
  cf := some (fileOf pool12 42 #[] #[{ accessFlags := 2, nameIndex := 5, descriptorIndex := 6, attributes := #[] }, { accessFlags := 9, nameIndex := 45, descriptorIndex := 94, attributes := #[] }] 49 2 #[] #[])
  fields := #[]
  methods := #[k12m0, k12m1]
  instanceTypes := #[]
  staticTypes := #[]
  resolved := Array.replicate 184 none
  statics := none }

def pool13 : Array CpInfo := pool [(4, .class_ 6), (1, u "java/lang/Object"), (0, u "<init>"), (0, u "()V"), (5, .class_ 16), (1, u "java/lang/StringLatin1"), (73, u "canEncode"), (14, u "(C)Z"), (15, u "$assertionsDisabled"), (0, u "Z"), (98, .class_ 223), (1, u "java/lang/StringLatin1$LinesSpliterator"), (57, u "equals"), (0, u "([B[B)Z"), (97, u "toBytes"), (1, u "(C)[B"), (7, .class_ 391), (0, u "java/lang/StringLatin1$CharsSpliterator")] 3

def k13m0 : Method := { name := "<init>", desc := "()V", sig := { parameters := [], returnType := none }, accessFlags := 0, code := none }
def k13c1 : Code := { maxStack := 2, maxLocals := 1, code := jdk_43_method_3_code, exceptionTable := #[], attributes := #[] }
def k13m1 : Method := { name := "canEncode", desc := "(C)Z", sig := { parameters := [.char], returnType := some .boolean }, accessFlags := 9, code := some k13c1 }
def k13c2 : Code := { maxStack := 3, maxLocals := 3, code := jdk_43_method_13_code, exceptionTable := #[], attributes := #[] }
def k13m2 : Method := { name := "equals", desc := "([B[B)Z", sig := { parameters := [(.array .byte), (.array .byte)], returnType := some .boolean }, accessFlags := 9, code := some k13c2 }
def k13c3 : Code := { maxStack := 4, maxLocals := 1, code := jdk_43_method_46_code, exceptionTable := #[], attributes := #[] }
def k13m3 : Method := { name := "toBytes", desc := "(C)[B", sig := { parameters := [.char], returnType := some (.array .byte) }, accessFlags := 9, code := some k13c3 }
/-- java/lang/StringLatin1 -/
def k13 : Class := { plain "java/lang/StringLatin1" (some 0) with
  accessFlags := 48
  interfaces := #[]
  cf := some (fileOf pool13 14 #[.nestMembers #[390, 221]] #[{ accessFlags := 0, nameIndex := 7, descriptorIndex := 8, attributes := #[] }, { accessFlags := 9, nameIndex := 90, descriptorIndex := 105, attributes := #[] }, { accessFlags := 9, nameIndex := 281, descriptorIndex := 282, attributes := #[] }, { accessFlags := 9, nameIndex := 380, descriptorIndex := 382, attributes := #[] }] 48 4 #[] #[{ accessFlags := 4120, nameIndex := 121, descriptorIndex := 122, attributes := #[] }])
  fields := #[{ name := "$assertionsDisabled", type := .boolean, accessFlags := 4120, slot := 0, constantValue := 0 }]
  methods := #[k13m0, k13m1, k13m2, k13m3]
  instanceTypes := #[]
  staticTypes := #[.boolean]
  resolved := Array.replicate 395 none
  statics := none }

def pool14 : Array CpInfo := pool [(2, .class_ 4), (1, u "java/lang/Object"), (0, u "<init>"), (0, u "()V"), (17, .class_ 26), (1, u "jdk/internal/util/Preconditions"), (28, .class_ 56), (0, u "jdk/internal/util/Preconditions$4"), (57, .class_ 115), (0, u "jdk/internal/util/Preconditions$1"), (7, u "SIOOBE_FORMATTER"), (0, u "Ljava/util/function/BiFunction;"), (0, .class_ 126), (0, u "jdk/internal/util/Preconditions$2"), (3, u "AIOOBE_FORMATTER"), (0, .class_ 132), (0, u "jdk/internal/util/Preconditions$3"), (3, u "IOOBE_FORMATTER")] 57

def k14m0 : Method := { name := "<init>", desc := "()V", sig := { parameters := [], returnType := none }, accessFlags := 1, code := none }
/-- jdk/internal/util/Preconditions -/
def k14 : Class := { plain "jdk/internal/util/Preconditions" (some 0) with
  accessFlags := 33
  interfaces := #[]
  cf := some (fileOf pool14 24 #[.nestMembers #[55, 131, 125, 114]] #[{ accessFlags := 1, nameIndex := 5, descriptorIndex := 6, attributes := #[] }] 33 2 #[] #[{ accessFlags := 25, nameIndex := 123, descriptorIndex := 124, attributes := #[] }, { accessFlags := 25, nameIndex := 130, descriptorIndex := 124, attributes := #[] }, { accessFlags := 25, nameIndex := 136, descriptorIndex := 124, attributes := #[] }])
  fields := #[{ name := "SIOOBE_FORMATTER", type := (.object "java/util/function/BiFunction"), accessFlags := 25, slot := 0, constantValue := 0 }, { name := "AIOOBE_FORMATTER", type := (.object "java/util/function/BiFunction"), accessFlags := 25, slot := 1, constantValue := 0 }, { name := "IOOBE_FORMATTER", type := (.object "java/util/function/BiFunction"), accessFlags := 25, slot := 2, constantValue := 0 }]
  methods := #[k14m0]
  instanceTypes := #[]
  staticTypes := #[(.object "java/util/function/BiFunction"), (.object "java/util/function/BiFunction"), (.object "java/util/function/BiFunction")]
  resolved := Array.replicate 194 none
  statics := some 2 }

def pool15 : Array CpInfo := pool [(9, u "<init>"), (6, .class_ 18), (1, u "java/lang/Object"), (0, u "()V"), (1, .class_ 23), (1, u "jdk/internal/util/ArraysSupport"), (0, u "LOG2_ARRAY_LONG_INDEX_SCALE"), (0, u "I"), (2, u "U"), (0, u "Ljdk/internal/misc/Unsafe;"), (8, u "BIG_ENDIAN"), (0, u "Z"), (8, u "LOG2_BYTE_BIT_SIZE"), (4, u "LOG2_ARRAY_INT_INDEX_SCALE"), (54, u "JLA"), (0, u "Ljdk/internal/access/JavaLangAccess;"), (11, u "LOG2_ARRAY_BOOLEAN_INDEX_SCALE"), (9, u "LOG2_ARRAY_BYTE_INDEX_SCALE"), (5, u "LOG2_ARRAY_CHAR_INDEX_SCALE"), (5, u "LOG2_ARRAY_SHORT_INDEX_SCALE"), (18, u "LOG2_ARRAY_FLOAT_INDEX_SCALE"), (24, u "LOG2_ARRAY_DOUBLE_INDEX_SCALE"), (89, u "T_BOOLEAN"), (2, u "T_CHAR"), (1, u "T_FLOAT"), (1, u "T_DOUBLE"), (1, u "T_BYTE"), (1, u "T_SHORT"), (1, u "T_INT"), (1, u "T_LONG"), (1, u "SOFT_MAX_ARRAY_LENGTH")] 83

def k15m0 : Method := { name := "<init>", desc := "()V", sig := { parameters := [], returnType := none }, accessFlags := 2, code := none }
/-- jdk/internal/util/ArraysSupport -/
def k15 : Class := { plain "jdk/internal/util/ArraysSupport" (some 0) with
  accessFlags := 33
  interfaces := #[]
  cf := some (fileOf pool15 21 #[] #[{ accessFlags := 2, nameIndex := 9, descriptorIndex := 19, attributes := #[] }] 33 16 #[] #[{ accessFlags := 24, nameIndex := 28, descriptorIndex := 29, attributes := #[] }, { accessFlags := 26, nameIndex := 38, descriptorIndex := 39, attributes := #[] }, { accessFlags := 25, nameIndex := 121, descriptorIndex := 25, attributes := #[] }, { accessFlags := 25, nameIndex := 131, descriptorIndex := 25, attributes := #[] }, { accessFlags := 25, nameIndex := 137, descriptorIndex := 25, attributes := #[] }, { accessFlags := 25, nameIndex := 143, descriptorIndex := 25, attributes := #[] }, { accessFlags := 25, nameIndex := 53, descriptorIndex := 25, attributes := #[] }, { accessFlags := 25, nameIndex := 24, descriptorIndex := 25, attributes := #[] }, { accessFlags := 25, nameIndex := 162, descriptorIndex := 25, attributes := #[] }, { accessFlags := 25, nameIndex := 187, descriptorIndex := 25, attributes := #[] }, { accessFlags := 26, nameIndex := 48, descriptorIndex := 25, attributes := #[] }, { accessFlags := 25, nameIndex := 277, descriptorIndex := 25, attributes := #[] }, { accessFlags := 25, nameIndex := 280, descriptorIndex := 25, attributes := #[] }, { accessFlags := 25, nameIndex := 282, descriptorIndex := 25, attributes := #[] }, { accessFlags := 25, nameIndex := 284, descriptorIndex := 25, attributes := #[] }, { accessFlags := 25, nameIndex := 286, descriptorIndex := 25, attributes := #[] }, { accessFlags := 25, nameIndex := 288, descriptorIndex := 25, attributes := #[] }, { accessFlags := 25, nameIndex := 290, descriptorIndex := 25, attributes := #[] }, { accessFlags := 25, nameIndex := 292, descriptorIndex := 25, attributes := #[] }, { accessFlags := 26, nameIndex := 108, descriptorIndex := 109, attributes := #[] }, { accessFlags := 25, nameIndex := 294, descriptorIndex := 25, attributes := #[] }])
  fields := #[{ name := "U", type := (.object "jdk/internal/misc/Unsafe"), accessFlags := 24, slot := 0, constantValue := 0 }, { name := "BIG_ENDIAN", type := .boolean, accessFlags := 26, slot := 1, constantValue := 0 }, { name := "LOG2_ARRAY_BOOLEAN_INDEX_SCALE", type := .int, accessFlags := 25, slot := 2, constantValue := 0 }, { name := "LOG2_ARRAY_BYTE_INDEX_SCALE", type := .int, accessFlags := 25, slot := 3, constantValue := 0 }, { name := "LOG2_ARRAY_CHAR_INDEX_SCALE", type := .int, accessFlags := 25, slot := 4, constantValue := 0 }, { name := "LOG2_ARRAY_SHORT_INDEX_SCALE", type := .int, accessFlags := 25, slot := 5, constantValue := 0 }, { name := "LOG2_ARRAY_INT_INDEX_SCALE", type := .int, accessFlags := 25, slot := 6, constantValue := 0 }, { name := "LOG2_ARRAY_LONG_INDEX_SCALE", type := .int, accessFlags := 25, slot := 7, constantValue := 0 }, { name := "LOG2_ARRAY_FLOAT_INDEX_SCALE", type := .int, accessFlags := 25, slot := 8, constantValue := 0 }, { name := "LOG2_ARRAY_DOUBLE_INDEX_SCALE", type := .int, accessFlags := 25, slot := 9, constantValue := 0 }, { name := "LOG2_BYTE_BIT_SIZE", type := .int, accessFlags := 26, slot := 10, constantValue := 0 }, { name := "T_BOOLEAN", type := .int, accessFlags := 25, slot := 11, constantValue := 0 }, { name := "T_CHAR", type := .int, accessFlags := 25, slot := 12, constantValue := 0 }, { name := "T_FLOAT", type := .int, accessFlags := 25, slot := 13, constantValue := 0 }, { name := "T_DOUBLE", type := .int, accessFlags := 25, slot := 14, constantValue := 0 }, { name := "T_BYTE", type := .int, accessFlags := 25, slot := 15, constantValue := 0 }, { name := "T_SHORT", type := .int, accessFlags := 25, slot := 16, constantValue := 0 }, { name := "T_INT", type := .int, accessFlags := 25, slot := 17, constantValue := 0 }, { name := "T_LONG", type := .int, accessFlags := 25, slot := 18, constantValue := 0 }, { name := "JLA", type := (.object "jdk/internal/access/JavaLangAccess"), accessFlags := 26, slot := 19, constantValue := 0 }, { name := "SOFT_MAX_ARRAY_LENGTH", type := .int, accessFlags := 25, slot := 20, constantValue := 0 }]
  methods := #[k15m0]
  instanceTypes := #[]
  staticTypes := #[(.object "jdk/internal/misc/Unsafe"), .boolean, .int, .int, .int, .int, .int, .int, .int, .int, .int, .int, .int, .int, .int, .int, .int, .int, .int, (.object "jdk/internal/access/JavaLangAccess"), .int]
  resolved := Array.replicate 378 none
  statics := none }

def pool16 : Array CpInfo := pool [(1, u "java/lang/Cloneable"), (0, .class_ 1), (0, u "java/lang/Object"), (0, .class_ 3)] 3

/-- java/lang/Cloneable -/
def k16 : Class := { plain "java/lang/Cloneable" (some 0) with
  accessFlags := 1537
  interfaces := #[]
  cf := some (fileOf pool16 2 #[] #[] 1537 4 #[] #[])
  fields := #[]
  methods := #[]
  instanceTypes := #[]
  staticTypes := #[]
  resolved := Array.replicate 8 none
  statics := none }

/-- the primitive byte -/
def k17 : Class := { plain "byte" none with kind := .primitive 'B', accessFlags := 0x411 }
/-- [B -/
def k18 : Class := { plain "[B" (some 0) with kind := .array 17 .byte, interfaces := #[16, 4], accessFlags := 1041 }

/-- the primitive char -/
def k19 : Class := { plain "char" none with kind := .primitive 'C', accessFlags := 0x411 }
/-- [C -/
def k20 : Class := { plain "[C" (some 0) with kind := .array 19 .char, interfaces := #[16, 4], accessFlags := 1041 }

/-- the primitive int -/
def k21 : Class := { plain "int" none with kind := .primitive 'I', accessFlags := 0x411 }
/-- [I -/
def k22 : Class := { plain "[I" (some 0) with kind := .array 21 .int, interfaces := #[16, 4], accessFlags := 1041 }

def heap : Heap := #[{ cls := 6, slots := #[.ref 3, .ref 4, .ref 5, .null], vm := .statics 6 },
  { cls := 10, slots := #[.long 0, .int 1, .null, .int 0, .null, .int 0, .int 0], vm := .statics 10 },
  { cls := 14, slots := #[.null, .null, .null], vm := .statics 14 },
  { cls := 6, slots := #[.null, .int 0, .int 0], vm := .none },
  { cls := 6, slots := #[.null, .int 1, .int 0], vm := .none },
  { cls := 6, slots := #[.null, .int 2, .int 0], vm := .none }]
def classes : Array Class := #[k0, k1, k2, k3, k4, k5, k6, k7, k8, k9, k10, k11, k12, k13, k14, k15, k16, k17, k18, k19, k20, k21, k22]
def interned : List (Array UInt16 × Addr) := []
def slotsUsed : Nat := 23
def theMethod : MethodId := ⟨1, 3⟩
def args0 : Array Value := #[.int 5, .int 3, .int 7]
def aboutOver (below : List Frame) : State where
  vm := { classes := classes, interned := interned.toArray }
  heap := heap
  slotsUsed := slotsUsed
  threads := #[{ frames := .invoking theMethod args0 :: below }]
def below0 : List Frame := [.native { method := ⟨0, 0⟩, args := #[] }]
def about1 : State := aboutOver below0
def p0 : Program := .bare "" "" ""
def e0 : Env := launch0.env 0 0 0
theorem w_frames : about1.frames = Frame.invoking theMethod args0 :: below0 := rfl
set_option maxRecDepth 65536 in
theorem w_args : argsFit about1.vm theMethod args0 = true := by decide +kernel
set_option maxRecDepth 65536 in
theorem w_heap : heapFits about1 = true := by decide +kernel
set_option maxRecDepth 65536 in
theorem w_runnable : about1.curStatus? = some .runnable := by decide +kernel
set_option maxRecDepth 65536 in
theorem w_alone : about1.alone = true := by decide +kernel
set_option maxRecDepth 65536 in
theorem w_named : about1.methodNamed? x = some theMethod := by decide +kernel
set_option maxRecDepth 65536 in
theorem w_hears : about1.hears theMethod below0 = true := by decide +kernel
set_option maxRecDepth 65536 in
theorem w_ripe : about1.ripe theMethod args0 below0 = true := by decide +kernel
theorem w_running : about1.status = .running := rfl
set_option maxRecDepth 65536 in
theorem w_room : about1.hasRoom e0.platform room_1 = true :=
  launch0.hasRoom_least _ room_1 (by decide +kernel) (by decide +kernel) (by decide +kernel) (by decide +kernel) (by decide +kernel) (by decide +kernel)
theorem allAtoms_all (ts : List Jvm.Cond) (a : Array Jvm.Value) (st : Jvm.State) : (allAtoms ts).before a st = ts.all (fun c => c.before a st) := by
  induction ts with
  | nil => rfl
  | cons c t ih =>
    show (Jvm.Cond.and c (allAtoms t)).before a st = _
    rw [Jvm.Cond.before_and, ih, List.all_cons]
def words1 : List Jvm.Cond := Jvm.Cond.code x code maxLocals ret :: tables_1
/-- a 'code' word, met by the world's own term for the bytes: nothing is compared byte by byte -/
theorem code_word {y : MethodName} {bytes : ByteArray} {mx : Nat} {rt : Option FieldType} {a : Array Value} {s : State} {m : MethodId} {meth : Method} {c : Code} (h1 : s.methodNamed? y = some m) (h2 : s.vm.method? m = some meth) (h3 : meth.code = some c) (h4 : c.code = bytes)
    (h5 : (c.maxLocals == mx && c.exceptionTable.isEmpty && decide (c.maxStack ≤ mostOperands) && decide (meth.sig.returnType = rt) && !meth.locks && decide (parseMethodDescriptor y.desc = some meth.sig)) = true) : (Jvm.Cond.code y bytes mx rt).before a s = true := by
  simp only [Bool.and_eq_true, beq_iff_eq, Bool.not_eq_true', decide_eq_true_eq] at h5
  obtain ⟨⟨⟨⟨⟨g1, g2⟩, g3⟩, g4⟩, g5⟩, g6⟩ := h5
  simp [Cond.before, Cond.holds, Cond.value, h1, h2, h3, h4, g1, g2, g3, g4, g5, g6]
def isCode : Jvm.Cond → Bool
  | .code _ _ _ _ => true
  | _ => false
theorem all_split {L : List Jvm.Cond} {P : Jvm.Cond → Bool} (h1 : L.all (fun c => isCode c || P c) = true) (h2 : ∀ c ∈ L.filter isCode, P c = true) : L.all P = true := by
  refine List.all_eq_true.mpr fun c hc => ?_
  have h := List.all_eq_true.mp h1 c hc
  rcases Bool.eq_false_or_eq_true (isCode c) with hi | hi
  · exact h2 c (List.mem_filter.mpr ⟨hc, hi⟩)
  · simpa [hi] using h
set_option maxRecDepth 65536 in
theorem w_c0 : (Jvm.Cond.code x code maxLocals ret).before args0 about1 = true := code_word (m := ⟨1, 3⟩) (meth := k1m3) (c := k1c3) (by decide +kernel) rfl rfl rfl (by decide +kernel)
set_option maxRecDepth 65536 in
theorem w_c1 : (Jvm.Cond.code ({ cls := "com/example/shallow_history/shallowhistory/policy/LiteralEqualsPinLaw", name := "tv", desc := "(I)Lcom/example/shallow_history/shallowhistory/policy/TruthValue;" } : Jvm.MethodName) method_2_code (1 : Nat) (Option.some (Jvm.ClassFile.FieldType.object "com/example/shallow_history/shallowhistory/policy/TruthValue"))).before args0 about1 = true := code_word (m := ⟨1, 1⟩) (meth := k1m1) (c := k1c1) (by decide +kernel) rfl rfl rfl (by decide +kernel)
set_option maxRecDepth 65536 in
theorem w_c2 : (Jvm.Cond.code ({ cls := "com/example/shallow_history/shallowhistory/policy/LiteralEqualsPinLaw", name := "str", desc := "(ICC)Ljava/lang/String;" } : Jvm.MethodName) method_3_code (4 : Nat) (Option.some (Jvm.ClassFile.FieldType.object "java/lang/String"))).before args0 about1 = true := code_word (m := ⟨1, 2⟩) (meth := k1m2) (c := k1c2) (by decide +kernel) rfl rfl rfl (by decide +kernel)
set_option maxRecDepth 65536 in
theorem w_c3 : (Jvm.Cond.code ({ cls := "java/lang/String", name := "<init>", desc := "([C)V" } : Jvm.MethodName) jdk_42_method_3_code (2 : Nat) (Option.none : Option Jvm.ClassFile.FieldType)).before args0 about1 = true := code_word (m := ⟨10, 1⟩) (meth := k10m1) (c := k10c1) (by decide +kernel) rfl rfl rfl (by decide +kernel)
set_option maxRecDepth 65536 in
theorem w_c4 : (Jvm.Cond.code ({ cls := "java/lang/String", name := "<init>", desc := "([CIILjava/lang/Void;)V" } : Jvm.MethodName) jdk_42_method_149_code (6 : Nat) (Option.none : Option Jvm.ClassFile.FieldType)).before args0 about1 = true := code_word (m := ⟨10, 4⟩) (meth := k10m4) (c := k10c4) (by decide +kernel) rfl rfl rfl (by decide +kernel)
set_option maxRecDepth 65536 in
theorem w_c5 : (Jvm.Cond.code ({ cls := "java/lang/Object", name := "<init>", desc := "()V" } : Jvm.MethodName) object_method_1_code (1 : Nat) (Option.none : Option Jvm.ClassFile.FieldType)).before args0 about1 = true := code_word (m := ⟨0, 0⟩) (meth := k0m0) (c := k0c0) (by decide +kernel) rfl rfl rfl (by decide +kernel)
set_option maxRecDepth 65536 in
theorem w_c6 : (Jvm.Cond.code ({ cls := "java/lang/StringUTF16", name := "compress", desc := "([CII)[B" } : Jvm.MethodName) jdk_52_method_16_code (6 : Nat) (Option.some (Jvm.ClassFile.FieldType.array Jvm.ClassFile.FieldType.byte))).before args0 about1 = true := code_word (m := ⟨11, 2⟩) (meth := k11m2) (c := k11c2) (by decide +kernel) rfl rfl rfl (by decide +kernel)
set_option maxRecDepth 65536 in
theorem w_c7 : (Jvm.Cond.code ({ cls := "java/lang/StringUTF16", name := "compress", desc := "([CI[BII)I" } : Jvm.MethodName) jdk_52_method_21_code (7 : Nat) (Option.some Jvm.ClassFile.FieldType.int)).before args0 about1 = true := code_word (m := ⟨11, 3⟩) (meth := k11m3) (c := k11c3) (by decide +kernel) rfl rfl rfl (by decide +kernel)
set_option maxRecDepth 65536 in
theorem w_c8 : (Jvm.Cond.code ({ cls := "java/lang/StringUTF16", name := "coderFromArrayLen", desc := "([BI)B" } : Jvm.MethodName) jdk_52_method_15_code (2 : Nat) (Option.some Jvm.ClassFile.FieldType.byte)).before args0 about1 = true := code_word (m := ⟨11, 1⟩) (meth := k11m1) (c := k11c1) (by decide +kernel) rfl rfl rfl (by decide +kernel)
set_option maxRecDepth 65536 in
theorem w_c9 : (Jvm.Cond.code ({ cls := "com/example/shallow_history/shallowhistory/policy/Literal", name := "<init>", desc := "(Ljava/lang/String;Lcom/example/shallow_history/shallowhistory/policy/TruthValue;)V" } : Jvm.MethodName) prog_18_method_2_code (3 : Nat) (Option.none : Option Jvm.ClassFile.FieldType)).before args0 about1 = true := code_word (m := ⟨7, 0⟩) (meth := k7m0) (c := k7c0) (by decide +kernel) rfl rfl rfl (by decide +kernel)
set_option maxRecDepth 65536 in
theorem w_c10 : (Jvm.Cond.code ({ cls := "java/util/Objects", name := "requireNonNull", desc := "(Ljava/lang/Object;Ljava/lang/String;)Ljava/lang/Object;" } : Jvm.MethodName) jdk_31_method_11_code (2 : Nat) (Option.some (Jvm.ClassFile.FieldType.object "java/lang/Object"))).before args0 about1 = true := code_word (m := ⟨12, 1⟩) (meth := k12m1) (c := k12c1) (by decide +kernel) rfl rfl rfl (by decide +kernel)
set_option maxRecDepth 65536 in
theorem w_c11 : (Jvm.Cond.code ({ cls := "com/example/shallow_history/shallowhistory/policy/Literal", name := "equals", desc := "(Ljava/lang/Object;)Z" } : Jvm.MethodName) prog_18_method_6_code (3 : Nat) (Option.some Jvm.ClassFile.FieldType.boolean)).before args0 about1 = true := code_word (m := ⟨7, 1⟩) (meth := k7m1) (c := k7c1) (by decide +kernel) rfl rfl rfl (by decide +kernel)
set_option maxRecDepth 65536 in
theorem w_c12 : (Jvm.Cond.code ({ cls := "java/lang/String", name := "equals", desc := "(Ljava/lang/Object;)Z" } : Jvm.MethodName) jdk_42_method_66_code (3 : Nat) (Option.some Jvm.ClassFile.FieldType.boolean)).before args0 about1 = true := code_word (m := ⟨10, 2⟩) (meth := k10m2) (c := k10c2) (by decide +kernel) rfl rfl rfl (by decide +kernel)
set_option maxRecDepth 65536 in
theorem w_c13 : (Jvm.Cond.code ({ cls := "java/lang/StringLatin1", name := "equals", desc := "([B[B)Z" } : Jvm.MethodName) jdk_43_method_13_code (3 : Nat) (Option.some Jvm.ClassFile.FieldType.boolean)).before args0 about1 = true := code_word (m := ⟨13, 2⟩) (meth := k13m2) (c := k13c2) (by decide +kernel) rfl rfl rfl (by decide +kernel)
set_option maxRecDepth 65536 in
theorem w_c14 : (Jvm.Cond.code ({ cls := "java/lang/String", name := "valueOf", desc := "(C)Ljava/lang/String;" } : Jvm.MethodName) jdk_42_method_139_code (1 : Nat) (Option.some (Jvm.ClassFile.FieldType.object "java/lang/String"))).before args0 about1 = true := code_word (m := ⟨10, 3⟩) (meth := k10m3) (c := k10c3) (by decide +kernel) rfl rfl rfl (by decide +kernel)
set_option maxRecDepth 65536 in
theorem w_c15 : (Jvm.Cond.code ({ cls := "java/lang/StringLatin1", name := "canEncode", desc := "(C)Z" } : Jvm.MethodName) jdk_43_method_3_code (1 : Nat) (Option.some Jvm.ClassFile.FieldType.boolean)).before args0 about1 = true := code_word (m := ⟨13, 1⟩) (meth := k13m1) (c := k13c1) (by decide +kernel) rfl rfl rfl (by decide +kernel)
set_option maxRecDepth 65536 in
theorem w_c16 : (Jvm.Cond.code ({ cls := "java/lang/StringLatin1", name := "toBytes", desc := "(C)[B" } : Jvm.MethodName) jdk_43_method_46_code (1 : Nat) (Option.some (Jvm.ClassFile.FieldType.array Jvm.ClassFile.FieldType.byte))).before args0 about1 = true := code_word (m := ⟨13, 3⟩) (meth := k13m3) (c := k13c3) (by decide +kernel) rfl rfl rfl (by decide +kernel)
set_option maxRecDepth 65536 in
theorem w_c17 : (Jvm.Cond.code ({ cls := "java/lang/String", name := "<init>", desc := "([BB)V" } : Jvm.MethodName) jdk_42_method_151_code (3 : Nat) (Option.none : Option Jvm.ClassFile.FieldType)).before args0 about1 = true := code_word (m := ⟨10, 5⟩) (meth := k10m5) (c := k10c5) (by decide +kernel) rfl rfl rfl (by decide +kernel)
def codes1 : List Jvm.Cond := [Jvm.Cond.code x code maxLocals ret, Jvm.Cond.code ({ cls := "com/example/shallow_history/shallowhistory/policy/LiteralEqualsPinLaw", name := "tv", desc := "(I)Lcom/example/shallow_history/shallowhistory/policy/TruthValue;" } : Jvm.MethodName) method_2_code (1 : Nat) (Option.some (Jvm.ClassFile.FieldType.object "com/example/shallow_history/shallowhistory/policy/TruthValue")), Jvm.Cond.code ({ cls := "com/example/shallow_history/shallowhistory/policy/LiteralEqualsPinLaw", name := "str", desc := "(ICC)Ljava/lang/String;" } : Jvm.MethodName) method_3_code (4 : Nat) (Option.some (Jvm.ClassFile.FieldType.object "java/lang/String")), Jvm.Cond.code ({ cls := "java/lang/String", name := "<init>", desc := "([C)V" } : Jvm.MethodName) jdk_42_method_3_code (2 : Nat) (Option.none : Option Jvm.ClassFile.FieldType), Jvm.Cond.code ({ cls := "java/lang/String", name := "<init>", desc := "([CIILjava/lang/Void;)V" } : Jvm.MethodName) jdk_42_method_149_code (6 : Nat) (Option.none : Option Jvm.ClassFile.FieldType), Jvm.Cond.code ({ cls := "java/lang/Object", name := "<init>", desc := "()V" } : Jvm.MethodName) object_method_1_code (1 : Nat) (Option.none : Option Jvm.ClassFile.FieldType), Jvm.Cond.code ({ cls := "java/lang/StringUTF16", name := "compress", desc := "([CII)[B" } : Jvm.MethodName) jdk_52_method_16_code (6 : Nat) (Option.some (Jvm.ClassFile.FieldType.array Jvm.ClassFile.FieldType.byte)), Jvm.Cond.code ({ cls := "java/lang/StringUTF16", name := "compress", desc := "([CI[BII)I" } : Jvm.MethodName) jdk_52_method_21_code (7 : Nat) (Option.some Jvm.ClassFile.FieldType.int), Jvm.Cond.code ({ cls := "java/lang/StringUTF16", name := "coderFromArrayLen", desc := "([BI)B" } : Jvm.MethodName) jdk_52_method_15_code (2 : Nat) (Option.some Jvm.ClassFile.FieldType.byte), Jvm.Cond.code ({ cls := "com/example/shallow_history/shallowhistory/policy/Literal", name := "<init>", desc := "(Ljava/lang/String;Lcom/example/shallow_history/shallowhistory/policy/TruthValue;)V" } : Jvm.MethodName) prog_18_method_2_code (3 : Nat) (Option.none : Option Jvm.ClassFile.FieldType), Jvm.Cond.code ({ cls := "java/util/Objects", name := "requireNonNull", desc := "(Ljava/lang/Object;Ljava/lang/String;)Ljava/lang/Object;" } : Jvm.MethodName) jdk_31_method_11_code (2 : Nat) (Option.some (Jvm.ClassFile.FieldType.object "java/lang/Object")), Jvm.Cond.code ({ cls := "com/example/shallow_history/shallowhistory/policy/Literal", name := "equals", desc := "(Ljava/lang/Object;)Z" } : Jvm.MethodName) prog_18_method_6_code (3 : Nat) (Option.some Jvm.ClassFile.FieldType.boolean), Jvm.Cond.code ({ cls := "java/lang/String", name := "equals", desc := "(Ljava/lang/Object;)Z" } : Jvm.MethodName) jdk_42_method_66_code (3 : Nat) (Option.some Jvm.ClassFile.FieldType.boolean), Jvm.Cond.code ({ cls := "java/lang/StringLatin1", name := "equals", desc := "([B[B)Z" } : Jvm.MethodName) jdk_43_method_13_code (3 : Nat) (Option.some Jvm.ClassFile.FieldType.boolean), Jvm.Cond.code ({ cls := "java/lang/String", name := "valueOf", desc := "(C)Ljava/lang/String;" } : Jvm.MethodName) jdk_42_method_139_code (1 : Nat) (Option.some (Jvm.ClassFile.FieldType.object "java/lang/String")), Jvm.Cond.code ({ cls := "java/lang/StringLatin1", name := "canEncode", desc := "(C)Z" } : Jvm.MethodName) jdk_43_method_3_code (1 : Nat) (Option.some Jvm.ClassFile.FieldType.boolean), Jvm.Cond.code ({ cls := "java/lang/StringLatin1", name := "toBytes", desc := "(C)[B" } : Jvm.MethodName) jdk_43_method_46_code (1 : Nat) (Option.some (Jvm.ClassFile.FieldType.array Jvm.ClassFile.FieldType.byte)), Jvm.Cond.code ({ cls := "java/lang/String", name := "<init>", desc := "([BB)V" } : Jvm.MethodName) jdk_42_method_151_code (3 : Nat) (Option.none : Option Jvm.ClassFile.FieldType)]
set_option maxRecDepth 65536 in
theorem codes_eq : words1.filter isCode = codes1 := rfl
theorem w_codes : ∀ c ∈ words1.filter isCode, c.before args0 about1 = true := by
  rw [codes_eq]
  intro c hc
  simp only [codes1, List.mem_cons, List.not_mem_nil, or_false] at hc
  rcases hc with rfl | rfl | rfl | rfl | rfl | rfl | rfl | rfl | rfl | rfl | rfl | rfl | rfl | rfl | rfl | rfl | rfl | rfl
  · exact w_c0
  · exact w_c1
  · exact w_c2
  · exact w_c3
  · exact w_c4
  · exact w_c5
  · exact w_c6
  · exact w_c7
  · exact w_c8
  · exact w_c9
  · exact w_c10
  · exact w_c11
  · exact w_c12
  · exact w_c13
  · exact w_c14
  · exact w_c15
  · exact w_c16
  · exact w_c17
set_option maxRecDepth 65536 in
theorem w_t1 : (words1.take 24).all (fun c => isCode c || c.before args0 about1) = true := by decide +kernel
set_option maxRecDepth 65536 in
theorem w_t2 : ((words1.drop 24).take 24).all (fun c => isCode c || c.before args0 about1) = true := by decide +kernel
set_option maxRecDepth 65536 in
theorem w_t3 : (((words1.drop 24).drop 24).take 24).all (fun c => isCode c || c.before args0 about1) = true := by decide +kernel
set_option maxRecDepth 65536 in
theorem w_t4 : ((((words1.drop 24).drop 24).drop 24).take 24).all (fun c => isCode c || c.before args0 about1) = true := by decide +kernel
set_option maxRecDepth 65536 in
theorem w_t5 : ((((words1.drop 24).drop 24).drop 24).drop 24).all (fun c => isCode c || c.before args0 about1) = true := by decide +kernel
theorem w_tables : (allAtoms (Jvm.Cond.code x code maxLocals ret :: tables_1)).before args0 about1 = true := by
  rw [allAtoms_all]
  show words1.all (fun c => c.before args0 about1) = true
  refine all_split ?_ w_codes
  rw [← List.take_append_drop 24 words1, List.all_append, w_t1, ← List.take_append_drop 24 (words1.drop 24), List.all_append, w_t2, ← List.take_append_drop 24 ((words1.drop 24).drop 24), List.all_append, w_t3, ← List.take_append_drop 24 (((words1.drop 24).drop 24).drop 24), List.all_append, w_t4, w_t5]
  rfl
set_option maxRecDepth 65536 in
theorem w_rest : rest_1_c.before args0 about1 = true := by decide +kernel
set_option maxRecDepth 65536 in
theorem w_case : (Jvm.Cond.and given_1 narrow_1).before args0 about1 = true := by decide +kernel
set_option maxRecDepth 65536 in
theorem w_consts : constsHeld consts_1 about1 := Jvm.Lit.constsHeldB_iff.mp (by decide +kernel)
theorem w_applies : (headSpec (Jvm.Cond.code x code maxLocals ret :: tables_1) room_1).applies x e0.platform about1 = true :=
  (Spec.applies_iff w_frames).mpr ⟨w_running, w_runnable, w_alone, w_named, w_hears, w_ripe, w_room, w_tables⟩
theorem atStart : AtStart classFile x code maxLocals ret World_1 tables_1 room_1 Calls_1 rest_1 Pre_1 launch0 p0 e0 about1 theMethod args0 below0 :=
  ⟨lists_1, trivial, launch0.admits_env _ _ _, launch0.least_env, fairChoices_fair.cas, fairChoices_fair.clock, w_frames, w_args, w_heap, w_applies, ⟨w_consts, trivial⟩, w_rest, w_case⟩
end start1
theorem witness_1 : WitnessClaimed_1 := ⟨start1.p0, start1.e0, start1.about1, start1.theMethod, start1.args0, start1.below0, start1.atStart⟩
end Jvm.Pilot.@@N@@
