import JvmDerived
import JvmDerived.Pilot.@@N@@Statement
import JvmDerived.Pilot.@@N@@Code
set_option linter.unusedVariables false
set_option linter.unusedSimpArgs false
@@BLOCK:NumsL.lean.txt@@
namespace Jvm.Pilot.@@N@@
open Jvm Jvm.ClassFile Sem Op Lib Jvm.Free Jvm.Stand Jvm.LawKit Jvm.RoadKit Bundle Jvm.Pilot.@@N@@.Jvm.D
theorem own_ne {k : Int32} {n : Int} (z : Int32) (hl : z.toInt = n) (h : ¬ k = z) : n ≠ k.toInt := fun e => h (Int32.toInt_inj.mp (by rw [hl]; exact e.symm))
theorem own_ext {Z : State} {n0 : Nat} {h : Heap} (O : Old Z n0 h) : Ext Z.heap h := O.2
theorem own_sz {Z : State} {n0 : Nat} {h : Heap} (O : Old Z n0 h) : n0 ≤ h.size := by have := O.2.1; rw [O.1] at this; exact this
def own_Ends (p : Program) (e : Env) (below : List Frame) (s : State) (Q : Option Value → Heap → List Loc → Prop) (k n : Nat) (A : State) : Prop :=
  ∃ (U : State) (o : Outcome), Steps p.tables e below A U ∧ U.status = .running ∧ Ended U below o ∧ ∃ v L, o = .returned v ∧ Q v U.heap L ∧ FrameEnd s o U L k n
section OwnKit
variable {p : Program} {l : Launch} {e : Env} {R : Room} {s : State} {m : MethodId} {args : Array Value} {below : List Frame} {meth : Method} {c : Code} {T : State} {locs : List Loc} {cells slots k n : Nat} {Q : Option Value → Heap → List Loc → Prop} {A B : State}
theorem own_go (h : ∀ t, Steps p.tables e below B t → Steps p.tables e below A t) (K : own_Ends p e below s Q k n B) : own_Ends p e below s Q k n A := by
  obtain ⟨U, o, h1, r⟩ := K
  exact ⟨U, o, h U h1, r⟩
theorem own_ret (X : Stand p l e R s m args below meth c T locs cells slots) (hx : p.tables.exec = Jvm.exec) (hlk : meth.locks = false) {pc : Nat} {Ls : Array Slot} {w : Value} {t : FieldType} {i : Instr} {rest : List Value} (hret : meth.sig.returnType = some t) (hn : narrow t w = w)
    (hi : (i = .ireturn ∧ (t = .int ∨ t = .boolean ∨ t = .byte ∨ t = .char ∨ t = .short) ∧ ∃ z, w = .int z) ∨ (i = .lreturn ∧ t = .long ∧ ∃ z, w = .long z) ∨ (i = .dreturn ∧ t = .double ∧ ∃ z, w = .double z) ∨ (i = .freturn ∧ t = .float ∧ ∃ z, w = .float z) ∨ (i = .areturn ∧ t.isReference = true ∧ w.isRef = true))
    (hd : decode c.code pc = .ok (i, 1)) (hk : cells ≤ k) (hs : slots ≤ n) (hQ : Q (some w) T.heap locs) : own_Ends p e below s Q k n (T.setTop (mkF m pc Ls (w :: rest))) := by
  obtain ⟨fs, hr, hrun, hended, hW, hsame⟩ := X.leave (v := some w) (fun h => by rw [hret] at h; cases h) hlk
  exact ⟨_, _, retOut X hx hret hn hi hd hr, hrun, hended, _, _, rfl, hQ, ⟨_, rfl⟩, hW, hsame.mono hk hs⟩
theorem own_retI (X : Stand p l e R s m args below meth c T locs cells slots) (hx : p.tables.exec = Jvm.exec) (hlk : meth.locks = false) {pc : Nat} {Ls : Array Slot} {z : Int32} {rest : List Value} (hret : meth.sig.returnType = some .int) (hd : decode c.code pc = .ok (.ireturn, 1)) (hk : cells ≤ k) (hs : slots ≤ n) (hQ : Q (some (.int z)) T.heap locs) : own_Ends p e below s Q k n (T.setTop (mkF m pc Ls (.int z :: rest))) :=
  own_ret X hx hlk hret rfl (Or.inl ⟨rfl, Or.inl rfl, _, rfl⟩) hd hk hs hQ
theorem own_retJ (X : Stand p l e R s m args below meth c T locs cells slots) (hx : p.tables.exec = Jvm.exec) (hlk : meth.locks = false) {pc : Nat} {Ls : Array Slot} {z : Int64} {rest : List Value} (hret : meth.sig.returnType = some .long) (hd : decode c.code pc = .ok (.lreturn, 1)) (hk : cells ≤ k) (hs : slots ≤ n) (hQ : Q (some (.long z)) T.heap locs) : own_Ends p e below s Q k n (T.setTop (mkF m pc Ls (.long z :: rest))) :=
  own_ret X hx hlk hret rfl (Or.inr (Or.inl ⟨rfl, rfl, _, rfl⟩)) hd hk hs hQ
theorem own_retD (X : Stand p l e R s m args below meth c T locs cells slots) (hx : p.tables.exec = Jvm.exec) (hlk : meth.locks = false) {pc : Nat} {Ls : Array Slot} {z : UInt64} {rest : List Value} (hret : meth.sig.returnType = some .double) (hd : decode c.code pc = .ok (.dreturn, 1)) (hk : cells ≤ k) (hs : slots ≤ n) (hQ : Q (some (.double z)) T.heap locs) : own_Ends p e below s Q k n (T.setTop (mkF m pc Ls (.double z :: rest))) :=
  own_ret X hx hlk hret rfl (Or.inr (Or.inr (Or.inl ⟨rfl, rfl, _, rfl⟩))) hd hk hs hQ
theorem own_retA (X : Stand p l e R s m args below meth c T locs cells slots) (hx : p.tables.exec = Jvm.exec) (hlk : meth.locks = false) {pc : Nat} {Ls : Array Slot} {w : Value} {t : FieldType} {rest : List Value} (hret : meth.sig.returnType = some t) (ht : t.isReference = true) (hw : w.isRef = true) (hn : narrow t w = w) (hd : decode c.code pc = .ok (.areturn, 1)) (hk : cells ≤ k) (hs : slots ≤ n) (hQ : Q (some w) T.heap locs) : own_Ends p e below s Q k n (T.setTop (mkF m pc Ls (w :: rest))) :=
  own_ret X hx hlk hret hn (Or.inr (Or.inr (Or.inr (Or.inr ⟨rfl, ht, hw⟩)))) hd hk hs hQ
theorem own_retN (X : Stand p l e R s m args below meth c T locs cells slots) (hx : p.tables.exec = Jvm.exec) (hlk : meth.locks = false) {pc : Nat} {Ls : Array Slot} {z : Int32} {t : FieldType} {rest : List Value} (hret : meth.sig.returnType = some t) (ht : t = .boolean ∨ t = .byte ∨ t = .char ∨ t = .short) (hd : decode c.code pc = .ok (.ireturn, 1)) (hk : cells ≤ k) (hs : slots ≤ n) (hQ : Q (some (.int (nar t z))) T.heap locs) : own_Ends p e below s Q k n (T.setTop (mkF m pc Ls (.int z :: rest))) := by
  obtain ⟨fs, hr, hrun, hended, hW, hsame⟩ := X.leave (v := some (.int (nar t z))) (fun h => by rw [hret] at h; cases h) hlk
  exact ⟨_, _, retN X hx hret ht hd hr, hrun, hended, _, _, rfl, hQ, ⟨_, rfl⟩, hW, hsame.mono hk hs⟩
theorem own_retV (X : Stand p l e R s m args below meth c T locs cells slots) (hx : p.tables.exec = Jvm.exec) (hlk : meth.locks = false) {pc : Nat} {Ls : Array Slot} (hret : meth.sig.returnType = none) (hd : decode c.code pc = .ok (.return_, 1)) (hk : cells ≤ k) (hs : slots ≤ n) (hQ : Q none T.heap locs) : own_Ends p e below s Q k n (T.setTop (mkF m pc Ls [])) := by
  obtain ⟨fs, hr, hrun, hended, hW, hsame⟩ := X.leave (v := none) (fun _ => rfl) hlk
  exact ⟨_, _, X.returnOut hx hret hd hr, hrun, hended, _, _, rfl, hQ, ⟨_, rfl⟩, hW, hsame.mono hk hs⟩
end OwnKit

def own_Ar (Z : State) (h : Heap) (a : Addr) (ty : FieldType) (n : Nat) (f : Nat → Value) : Prop := ∃ c : Cell, Arr Z h a c ty ∧ c.slots.size = n ∧ ∀ i, i < n → c.slots[i]? = some (f i)
section OwnArr
variable {Z : State} {h h' : Heap} {a b : Addr} {ty : FieldType} {n sl : Nat} {f : Nat → Value} {v : Value} {ws : List Addr}
theorem own_Ar.lt (F : own_Ar Z h a ty n f) : a < h.size := by obtain ⟨c, A, -⟩ := F; exact A.lt
theorem own_Ar.ext (F : own_Ar Z h a ty n f) (E : Ext h h') : own_Ar Z h' a ty n f := by obtain ⟨c, A, r⟩ := F; exact ⟨c, A.ext E, r⟩
theorem own_Ar.other (F : own_Ar Z h b ty n f) (W : Wr h h' a sl v) (q : b ≠ a) : own_Ar Z h' b ty n f := by obtain ⟨c, A, r⟩ := F; exact ⟨c, A.other W q, r⟩
theorem own_Ar.keep (F : own_Ar Z h a ty n f) (K : Keep h h' ws) (q : a ∉ ws) : own_Ar Z h' a ty n f := by obtain ⟨c, A, r⟩ := F; exact ⟨c, ⟨K.2.1 a c A.1 q, A.2⟩, r⟩
theorem own_Ar.at (F : own_Ar Z h a ty n f) (j : Int32) (h0 : ¬ j < 0) (h1 : j.toNatClampNeg < n) : ∃ c : Cell, Arr Z h a c ty ∧ ¬ (j < 0 ∨ c.slots.size ≤ j.toNatClampNeg) ∧ c.slots[j.toNatClampNeg]? = some (f j.toNatClampNeg) := by
  obtain ⟨c, A, e, r⟩ := F
  exact ⟨c, A, fun q => q.elim h0 (fun z => by omega), r _ h1⟩
theorem own_Ar.len (F : own_Ar Z h a ty n f) : ∃ c : Cell, Arr Z h a c ty ∧ c.slots.size.toInt32 = Int32.ofNat n := by
  obtain ⟨c, A, e, r⟩ := F
  exact ⟨c, A, by rw [e]⟩
theorem own_Ar.newI {k : ClassId} {z : Int32} (A : Arr Z h a (newA k ty z) ty) (hz : z.toNatClampNeg = n) (hd : defaultValue ty = .int 0) : own_Ar Z h a ty n (fun _ => .int 0) :=
  ⟨_, A, by rw [sz_new]; exact hz, fun i hi => by simp [newA, hz, hi, hd]⟩
theorem own_Ar.newJ {k : ClassId} {z : Int32} (A : Arr Z h a (newA k .long z) .long) (hz : z.toNatClampNeg = n) : own_Ar Z h a .long n (fun _ => .long 0) :=
  ⟨_, A, by rw [sz_new]; exact hz, fun i hi => by simp [newA, hz, hi, defaultValue]⟩
theorem own_Ar.set (F : own_Ar Z h a ty n f) (W : Wr h h' a sl v) {f' : Nat → Value} (hf : ∀ i, i < n → f' i = if i = sl then v else f i) : own_Ar Z h' a ty n f' := by
  obtain ⟨c, A, e, r⟩ := F
  refine ⟨_, A.same W, by simp [Cell.setSlot, e], fun i hi => ?_⟩
  obtain ⟨c', w1, -, w3, w4⟩ := W
  cases A.1.symm.trans w1
  rw [hf i hi]
  by_cases q : i = sl
  · subst q; simp [Cell.setSlot, w3]
  · rw [if_neg q, ← r i hi]; exact Array.getElem?_setIfInBounds_ne (Ne.symm q)
theorem own_Ar.setI {G : Nat → Int32} {x : Int32} (F : own_Ar Z h a ty n (fun i => .int (G i))) (W : Wr h h' a sl (.int x)) : own_Ar Z h' a ty n (fun i => .int (if i = sl then x else G i)) :=
  F.set W fun i _ => by by_cases q : i = sl <;> simp [q]
theorem own_Ar.setJ {G : Nat → Int64} {x : Int64} (F : own_Ar Z h a ty n (fun i => .long (G i))) (W : Wr h h' a sl (.long x)) : own_Ar Z h' a ty n (fun i => .long (if i = sl then x else G i)) :=
  F.set W fun i _ => by by_cases q : i = sl <;> simp [q]
theorem own_Ar.cong (F : own_Ar Z h a ty n f) {f' : Nat → Value} (hf : ∀ i, i < n → f' i = f i) : own_Ar Z h a ty n f' := by
  obtain ⟨c, A, e, r⟩ := F
  exact ⟨c, A, e, fun i hi => by rw [hf i hi]; exact r i hi⟩
end OwnArr
theorem own_c32 {i : Nat} (h : i < 2147483648) : (Int32.ofNat i).toInt = (i : Int) := Int32.toInt_ofNat_of_lt h
theorem own_tn {x : Int32} : x.toNatClampNeg = x.toInt.toNat := rfl
theorem own_cn {i : Nat} (h : i < 2147483648) : (Int32.ofNat i).toNatClampNeg = i := by rw [own_tn, own_c32 h]; rfl
theorem own_succ {i : Nat} : Int32.ofNat i + (1 : Int32) = Int32.ofNat (i + 1) := (Int32.ofNat_add i 1).symm
def own_sum (G : Nat → Int64) : Nat → Int64
  | 0 => 0
  | i + 1 => own_sum G i + G i
theorem own_sum_step {G : Nat → Int64} {i : Nat} (h : i < 2147483648) : own_sum G i + G (Int32.ofNat i).toNatClampNeg = own_sum G (i + 1) := by rw [own_cn h]; rfl
theorem own_18z {i : Nat} (h : i = 55296) : ¬ Int32.ofNat i < Int32.ofNat 55296 := by rw [h]; exact Int32.lt_irrefl
theorem own_18s {i : Nat} (h : i < 55296) : Int32.ofNat i < Int32.ofNat 55296 := by
  rw [Int32.lt_iff_toInt_lt, own_c32 (by omega), own_c32 (by omega)]; omega
theorem own_nn0 {i : Nat} (h : i < 2147483648) : ¬ Int32.ofNat i < 0 := by
  rw [Int32.lt_iff_toInt_lt, own_c32 h, show (0 : Int32).toInt = 0 by decide]; omega
theorem own_lt0 {i : Nat} (h : i < 55296) : (Int32.ofNat i).toNatClampNeg < 55296 := by rw [own_cn (by omega)]; exact h
theorem own_st6 {s6 s7 z0 z1 z2 z3 z4 z5 : Slot} {x : Int64} (hs : (s6 = .unset ∧ s7 = .unset) ∨ ∃ w, s6 = .val (.long w) ∧ s7 = .second) : storeLocals #[z0, z1, z2, z3, z4, z5, s6, s7] 6 (.long x) = some #[z0, z1, z2, z3, z4, z5, .val (.long x), .second] := by
  rcases hs with ⟨rfl, rfl⟩ | ⟨w, rfl, rfl⟩ <;> rfl
theorem dmaxI_0 : decode jdk_29_method_65_code 0 = .ok (.iload_n 0, 1) := by decide +kernel
theorem dmaxI_1 : decode jdk_29_method_65_code 1 = .ok (.iload_n 1, 1) := by decide +kernel
theorem dmaxI_2 : decode jdk_29_method_65_code 2 = .ok (.if_icmp .lt 7, 3) := by decide +kernel
theorem dmaxI_5 : decode jdk_29_method_65_code 5 = .ok (.iload_n 0, 1) := by decide +kernel
theorem dmaxI_6 : decode jdk_29_method_65_code 6 = .ok (.goto 4, 3) := by decide +kernel
theorem dmaxI_9 : decode jdk_29_method_65_code 9 = .ok (.iload_n 1, 1) := by decide +kernel
theorem dmaxI_10 : decode jdk_29_method_65_code 10 = .ok (.ireturn, 1) := by decide +kernel
theorem efmaxI (m : MethodId) (p0 : Int32) (p1 : Int32) : entryFrame m #[(.int p0), (.int p1)] 2 = mkF m 0 #[.val (.int p0), .val (.int p1)] [] := by first | (simp [entryFrame, mkF, argsToLocals, Value.category]; done) | rfl
def fmaxI (p0 : Int32) (p1 : Int32) : Int32 := (if p0 < p1 then p1 else p0)
def QmaxI (Z : State) (p0 : Int32) (p1 : Int32) (h0 : Heap) (n0 : Nat) (v : Option Value) (h : Heap) (L : List Loc) : Prop := v = some (.int (fmaxI p0 p1)) ∧ Fr n0 L ∧ h = h0
set_option maxRecDepth 65536 in
set_option maxHeartbeats 40000000 in
theorem rmmaxI (l : Launch) (Z : State) (ar : Array Value) (hw : ∀ d ∈ tables_1, d.before ar Z = true) (ws : List Jvm.Cond) (p0 : Int32) (p1 : Int32) (h0 : Heap) (n0 : Nat) (O0 : Old Z n0 h0) :
    MetFree l (⟨"java/lang/Math", "max", "(II)I"⟩ : MethodName) (head1 (Jvm.Cond.code (⟨"java/lang/Math", "max", "(II)I"⟩ : MethodName) jdk_29_method_65_code 2 (some .int) :: ws) ({ frames := 0, cells := 0, slots := 0, locals := 0 } : Room)) (fun a U => a = #[(.int p0), (.int p1)] ∧ Z.Warmed39 U.vm ∧ U.heap = h0) (fun _ _ _ _ _ => True) (fun _ U o U' => ∃ v L, o = .returned v ∧ QmaxI Z p0 p1 h0 n0 v U'.heap L ∧ FrameEnd U o U' L ({ frames := 0, cells := 0, slots := 0, locals := 0 } : Room).cells ({ frames := 0, cells := 0, slots := 0, locals := 0 } : Room).slots) := by
  refine MetFree.of_bodySF (Jvm.Free.JP.mathPlain rfl (by decide +kernel)) hisR ?_
  intro p e s m args below meth c s₁ Bd hml0 hP hK
  obtain ⟨rfl, hZ, hh⟩ := hP
  have hx := Bd.exec
  have hby := Bd.bytes
  have hml : c.maxLocals = 2 := hml0
  have hown : s.vm.findClass "java/lang/Math" = some m.cls := findClass_of_methodNamed Bd.named
  have hnm := (name_of_methodNamed Bd.named Bd.method).1
  have hlk : meth.locks = false := BodyLoose.notSynchronized Bd
  have X0 : Stand p l e ({ frames := 0, cells := 0, slots := 0, locals := 0 } : Room) s m #[(.int p0), (.int p1)] below meth c s₁ [] 0 0 := Stand.of_body Bd
  have e0 : s₁.heap = h0 := by rw [← hh, Bd.state]; rfl
  have N0 := Fr.nil n0
  suffices hmain : own_Ends p e below s (QmaxI Z p0 p1 h0 n0) 0 0 (s₁.setTop (mkF m 0 #[.val (.int p0), .val (.int p1)] [])) by
    obtain ⟨U, o, h1, r⟩ := hmain
    exact ⟨U, o, castTop (efmaxI m p0 p1) h1, r⟩
  show own_Ends _ _ _ _ _ _ _ (s₁.setTop (mkF m 0 #[.val (.int p0), .val (.int p1)] []))
  refine own_go (fun _ k => XS.iloadN X0.here hx rfl (hb hby dmaxI_0) rfl k) ?_
  show own_Ends _ _ _ _ _ _ _ (s₁.setTop (mkF m 1 #[.val (.int p0), .val (.int p1)] [(.int p0)]))
  refine own_go (fun _ k => XS.iloadN X0.here hx rfl (hb hby dmaxI_1) rfl k) ?_
  show own_Ends _ _ _ _ _ _ _ (s₁.setTop (mkF m 2 #[.val (.int p0), .val (.int p1)] [(.int p1), (.int p0)]))
  by_cases hc1 : p0 < p1
  · refine own_go (fun _ k => XS.icmpYes X0.here hx rfl (pc0 := 2) (pc' := 9) rfl (hb hby dmaxI_2) rfl (tlt hc1).1 (by decide) (by decide) k) ?_
    show own_Ends _ _ _ _ _ _ _ (s₁.setTop (mkF m 9 #[.val (.int p0), .val (.int p1)] []))
    refine own_go (fun _ k => XS.iloadN X0.here hx rfl (hb hby dmaxI_9) rfl k) ?_
    show own_Ends _ _ _ _ _ _ _ (s₁.setTop (mkF m 10 #[.val (.int p0), .val (.int p1)] [(.int p1)]))
    exact own_retI X0 hx hlk Bd.returns (hb hby dmaxI_10) (by decide) (by decide) ⟨congrArg (fun z => some (Value.int z)) (by exact ((if_pos hc1)).symm), N0, e0⟩
  · refine own_go (fun _ k => XS.icmpNo X0.here hx rfl (hb hby dmaxI_2) rfl (flt hc1).1 k) ?_
    show own_Ends _ _ _ _ _ _ _ (s₁.setTop (mkF m 5 #[.val (.int p0), .val (.int p1)] []))
    refine own_go (fun _ k => XS.iloadN X0.here hx rfl (hb hby dmaxI_5) rfl k) ?_
    show own_Ends _ _ _ _ _ _ _ (s₁.setTop (mkF m 6 #[.val (.int p0), .val (.int p1)] [(.int p0)]))
    refine own_go (fun _ k => XS.goto X0.here hx rfl (pc0 := 6) (pc' := 10) rfl (hb hby dmaxI_6) (by decide) (by decide) k) ?_
    show own_Ends _ _ _ _ _ _ _ (s₁.setTop (mkF m 10 #[.val (.int p0), .val (.int p1)] [(.int p0)]))
    exact own_retI X0 hx hlk Bd.returns (hb hby dmaxI_10) (by decide) (by decide) ⟨congrArg (fun z => some (Value.int z)) (by exact ((if_neg hc1)).symm), N0, e0⟩
theorem dmaxJ_0 : decode jdk_29_method_66_code 0 = .ok (.lload_n 0, 1) := by decide +kernel
theorem dmaxJ_1 : decode jdk_29_method_66_code 1 = .ok (.lload_n 2, 1) := by decide +kernel
theorem dmaxJ_2 : decode jdk_29_method_66_code 2 = .ok (.lcmp, 1) := by decide +kernel
theorem dmaxJ_3 : decode jdk_29_method_66_code 3 = .ok (.ifCond .lt 7, 3) := by decide +kernel
theorem dmaxJ_6 : decode jdk_29_method_66_code 6 = .ok (.lload_n 0, 1) := by decide +kernel
theorem dmaxJ_7 : decode jdk_29_method_66_code 7 = .ok (.goto 4, 3) := by decide +kernel
theorem dmaxJ_10 : decode jdk_29_method_66_code 10 = .ok (.lload_n 2, 1) := by decide +kernel
theorem dmaxJ_11 : decode jdk_29_method_66_code 11 = .ok (.lreturn, 1) := by decide +kernel
theorem efmaxJ (m : MethodId) (q0 : Int64) (q1 : Int64) : entryFrame m #[(.long q0), (.long q1)] 4 = mkF m 0 #[.val (.long q0), .second, .val (.long q1), .second] [] := by first | (simp [entryFrame, mkF, argsToLocals, Value.category]; done) | rfl
def fmaxJ (q0 : Int64) (q1 : Int64) : Int64 := (if (lcmpW q0 q1) < (0 : Int32) then q1 else q0)
def QmaxJ (Z : State) (q0 : Int64) (q1 : Int64) (h0 : Heap) (n0 : Nat) (v : Option Value) (h : Heap) (L : List Loc) : Prop := v = some (.long (fmaxJ q0 q1)) ∧ Fr n0 L ∧ h = h0
set_option maxRecDepth 65536 in
set_option maxHeartbeats 40000000 in
theorem rmmaxJ (l : Launch) (Z : State) (ar : Array Value) (hw : ∀ d ∈ tables_1, d.before ar Z = true) (ws : List Jvm.Cond) (q0 : Int64) (q1 : Int64) (h0 : Heap) (n0 : Nat) (O0 : Old Z n0 h0) :
    MetFree l (⟨"java/lang/Math", "max", "(JJ)J"⟩ : MethodName) (head1 (Jvm.Cond.code (⟨"java/lang/Math", "max", "(JJ)J"⟩ : MethodName) jdk_29_method_66_code 4 (some .long) :: ws) ({ frames := 0, cells := 0, slots := 0, locals := 0 } : Room)) (fun a U => a = #[(.long q0), (.long q1)] ∧ Z.Warmed39 U.vm ∧ U.heap = h0) (fun _ _ _ _ _ => True) (fun _ U o U' => ∃ v L, o = .returned v ∧ QmaxJ Z q0 q1 h0 n0 v U'.heap L ∧ FrameEnd U o U' L ({ frames := 0, cells := 0, slots := 0, locals := 0 } : Room).cells ({ frames := 0, cells := 0, slots := 0, locals := 0 } : Room).slots) := by
  refine MetFree.of_bodySF (Jvm.Free.JP.mathPlain rfl (by decide +kernel)) hisR ?_
  intro p e s m args below meth c s₁ Bd hml0 hP hK
  obtain ⟨rfl, hZ, hh⟩ := hP
  have hx := Bd.exec
  have hby := Bd.bytes
  have hml : c.maxLocals = 4 := hml0
  have hown : s.vm.findClass "java/lang/Math" = some m.cls := findClass_of_methodNamed Bd.named
  have hnm := (name_of_methodNamed Bd.named Bd.method).1
  have hlk : meth.locks = false := BodyLoose.notSynchronized Bd
  have X0 : Stand p l e ({ frames := 0, cells := 0, slots := 0, locals := 0 } : Room) s m #[(.long q0), (.long q1)] below meth c s₁ [] 0 0 := Stand.of_body Bd
  have e0 : s₁.heap = h0 := by rw [← hh, Bd.state]; rfl
  have N0 := Fr.nil n0
  suffices hmain : own_Ends p e below s (QmaxJ Z q0 q1 h0 n0) 0 0 (s₁.setTop (mkF m 0 #[.val (.long q0), .second, .val (.long q1), .second] [])) by
    obtain ⟨U, o, h1, r⟩ := hmain
    exact ⟨U, o, castTop (efmaxJ m q0 q1) h1, r⟩
  show own_Ends _ _ _ _ _ _ _ (s₁.setTop (mkF m 0 #[.val (.long q0), .second, .val (.long q1), .second] []))
  refine own_go (fun _ k => XS.lloadN X0.here hx rfl (hb hby dmaxJ_0) rfl k) ?_
  show own_Ends _ _ _ _ _ _ _ (s₁.setTop (mkF m 1 #[.val (.long q0), .second, .val (.long q1), .second] [(.long q0)]))
  refine own_go (fun _ k => XS.lloadN X0.here hx rfl (hb hby dmaxJ_1) rfl k) ?_
  show own_Ends _ _ _ _ _ _ _ (s₁.setTop (mkF m 2 #[.val (.long q0), .second, .val (.long q1), .second] [(.long q1), (.long q0)]))
  refine own_go (fun _ k => XS.lcmp X0.here hx rfl (hb hby dmaxJ_2) rfl k) ?_
  show own_Ends _ _ _ _ _ _ _ (s₁.setTop (mkF m 3 #[.val (.long q0), .second, .val (.long q1), .second] [(.int (lcmpW q0 q1))]))
  by_cases hc1 : (lcmpW q0 q1) < (0 : Int32)
  · refine own_go (fun _ k => XS.ifYes X0.here hx rfl (pc0 := 3) (pc' := 10) rfl (hb hby dmaxJ_3) rfl ((if0 _ _).trans (tlt hc1).1) (by decide) (by decide) k) ?_
    show own_Ends _ _ _ _ _ _ _ (s₁.setTop (mkF m 10 #[.val (.long q0), .second, .val (.long q1), .second] []))
    refine own_go (fun _ k => XS.lloadN X0.here hx rfl (hb hby dmaxJ_10) rfl k) ?_
    show own_Ends _ _ _ _ _ _ _ (s₁.setTop (mkF m 11 #[.val (.long q0), .second, .val (.long q1), .second] [(.long q1)]))
    exact own_retJ X0 hx hlk Bd.returns (hb hby dmaxJ_11) (by decide) (by decide) ⟨congrArg (fun z => some (Value.long z)) (by exact ((if_pos hc1)).symm), N0, e0⟩
  · refine own_go (fun _ k => XS.ifNo X0.here hx rfl (hb hby dmaxJ_3) rfl ((if0 _ _).trans (flt hc1).1) k) ?_
    show own_Ends _ _ _ _ _ _ _ (s₁.setTop (mkF m 6 #[.val (.long q0), .second, .val (.long q1), .second] []))
    refine own_go (fun _ k => XS.lloadN X0.here hx rfl (hb hby dmaxJ_6) rfl k) ?_
    show own_Ends _ _ _ _ _ _ _ (s₁.setTop (mkF m 7 #[.val (.long q0), .second, .val (.long q1), .second] [(.long q0)]))
    refine own_go (fun _ k => XS.goto X0.here hx rfl (pc0 := 7) (pc' := 11) rfl (hb hby dmaxJ_7) (by decide) (by decide) k) ?_
    show own_Ends _ _ _ _ _ _ _ (s₁.setTop (mkF m 11 #[.val (.long q0), .second, .val (.long q1), .second] [(.long q0)]))
    exact own_retJ X0 hx hlk Bd.returns (hb hby dmaxJ_11) (by decide) (by decide) ⟨congrArg (fun z => some (Value.long z)) (by exact ((if_neg hc1)).symm), N0, e0⟩
theorem dnlzI_0 : decode jdk_33_method_47_code 0 = .ok (.iload_n 0, 1) := by decide +kernel
theorem dnlzI_1 : decode jdk_33_method_47_code 1 = .ok (.ifCond .gt 14, 3) := by decide +kernel
theorem dnlzI_4 : decode jdk_33_method_47_code 4 = .ok (.iload_n 0, 1) := by decide +kernel
theorem dnlzI_5 : decode jdk_33_method_47_code 5 = .ok (.ifCond .ne 8, 3) := by decide +kernel
theorem dnlzI_8 : decode jdk_33_method_47_code 8 = .ok (.bipush 32, 2) := by decide +kernel
theorem dnlzI_10 : decode jdk_33_method_47_code 10 = .ok (.goto 4, 3) := by decide +kernel
theorem dnlzI_13 : decode jdk_33_method_47_code 13 = .ok (.iconst 0, 1) := by decide +kernel
theorem dnlzI_14 : decode jdk_33_method_47_code 14 = .ok (.ireturn, 1) := by decide +kernel
theorem dnlzI_15 : decode jdk_33_method_47_code 15 = .ok (.bipush 31, 2) := by decide +kernel
theorem dnlzI_17 : decode jdk_33_method_47_code 17 = .ok (.istore_n 1, 1) := by decide +kernel
theorem dnlzI_18 : decode jdk_33_method_47_code 18 = .ok (.iload_n 0, 1) := by decide +kernel
theorem dnlzI_19 : decode jdk_33_method_47_code 19 = .ok (.ldc_w 264, 3) := by decide +kernel
theorem dnlzI_22 : decode jdk_33_method_47_code 22 = .ok (.if_icmp .lt 11, 3) := by decide +kernel
theorem dnlzI_25 : decode jdk_33_method_47_code 25 = .ok (.iinc 1 (-16), 3) := by decide +kernel
theorem dnlzI_28 : decode jdk_33_method_47_code 28 = .ok (.iload_n 0, 1) := by decide +kernel
theorem dnlzI_29 : decode jdk_33_method_47_code 29 = .ok (.bipush 16, 2) := by decide +kernel
theorem dnlzI_31 : decode jdk_33_method_47_code 31 = .ok (.iushr, 1) := by decide +kernel
theorem dnlzI_32 : decode jdk_33_method_47_code 32 = .ok (.istore_n 0, 1) := by decide +kernel
theorem dnlzI_33 : decode jdk_33_method_47_code 33 = .ok (.iload_n 0, 1) := by decide +kernel
theorem dnlzI_34 : decode jdk_33_method_47_code 34 = .ok (.sipush 256, 3) := by decide +kernel
theorem dnlzI_37 : decode jdk_33_method_47_code 37 = .ok (.if_icmp .lt 11, 3) := by decide +kernel
theorem dnlzI_40 : decode jdk_33_method_47_code 40 = .ok (.iinc 1 (-8), 3) := by decide +kernel
theorem dnlzI_43 : decode jdk_33_method_47_code 43 = .ok (.iload_n 0, 1) := by decide +kernel
theorem dnlzI_44 : decode jdk_33_method_47_code 44 = .ok (.bipush 8, 2) := by decide +kernel
theorem dnlzI_46 : decode jdk_33_method_47_code 46 = .ok (.iushr, 1) := by decide +kernel
theorem dnlzI_47 : decode jdk_33_method_47_code 47 = .ok (.istore_n 0, 1) := by decide +kernel
theorem dnlzI_48 : decode jdk_33_method_47_code 48 = .ok (.iload_n 0, 1) := by decide +kernel
theorem dnlzI_49 : decode jdk_33_method_47_code 49 = .ok (.bipush 16, 2) := by decide +kernel
theorem dnlzI_51 : decode jdk_33_method_47_code 51 = .ok (.if_icmp .lt 10, 3) := by decide +kernel
theorem dnlzI_54 : decode jdk_33_method_47_code 54 = .ok (.iinc 1 (-4), 3) := by decide +kernel
theorem dnlzI_57 : decode jdk_33_method_47_code 57 = .ok (.iload_n 0, 1) := by decide +kernel
theorem dnlzI_58 : decode jdk_33_method_47_code 58 = .ok (.iconst 4, 1) := by decide +kernel
theorem dnlzI_59 : decode jdk_33_method_47_code 59 = .ok (.iushr, 1) := by decide +kernel
theorem dnlzI_60 : decode jdk_33_method_47_code 60 = .ok (.istore_n 0, 1) := by decide +kernel
theorem dnlzI_61 : decode jdk_33_method_47_code 61 = .ok (.iload_n 0, 1) := by decide +kernel
theorem dnlzI_62 : decode jdk_33_method_47_code 62 = .ok (.iconst 4, 1) := by decide +kernel
theorem dnlzI_63 : decode jdk_33_method_47_code 63 = .ok (.if_icmp .lt 10, 3) := by decide +kernel
theorem dnlzI_66 : decode jdk_33_method_47_code 66 = .ok (.iinc 1 (-2), 3) := by decide +kernel
theorem dnlzI_69 : decode jdk_33_method_47_code 69 = .ok (.iload_n 0, 1) := by decide +kernel
theorem dnlzI_70 : decode jdk_33_method_47_code 70 = .ok (.iconst 2, 1) := by decide +kernel
theorem dnlzI_71 : decode jdk_33_method_47_code 71 = .ok (.iushr, 1) := by decide +kernel
theorem dnlzI_72 : decode jdk_33_method_47_code 72 = .ok (.istore_n 0, 1) := by decide +kernel
theorem dnlzI_73 : decode jdk_33_method_47_code 73 = .ok (.iload_n 1, 1) := by decide +kernel
theorem dnlzI_74 : decode jdk_33_method_47_code 74 = .ok (.iload_n 0, 1) := by decide +kernel
theorem dnlzI_75 : decode jdk_33_method_47_code 75 = .ok (.iconst 1, 1) := by decide +kernel
theorem dnlzI_76 : decode jdk_33_method_47_code 76 = .ok (.iushr, 1) := by decide +kernel
theorem dnlzI_77 : decode jdk_33_method_47_code 77 = .ok (.isub, 1) := by decide +kernel
theorem dnlzI_78 : decode jdk_33_method_47_code 78 = .ok (.ireturn, 1) := by decide +kernel
theorem pnnlzI : plainName "java/lang/Integer" = true := by first | (simp [plainName, overriddenIn]; done) | decide +kernel
theorem efnlzI (m : MethodId) (p0 : Int32) : entryFrame m #[(.int p0)] 2 = mkF m 0 #[.val (.int p0), .unset] [] := by first | (simp [entryFrame, mkF, argsToLocals, Value.category]; done) | rfl
def fnlzI (p0 : Int32) : Int32 := (if (0 : Int32) < p0 then (let z2 : Int32 := (if p0 < (65536 : Int32) then p0 else ((p0.toUInt32 >>> ((16 : Int32) &&& 31).toUInt32).toInt32)); (let z3 : Int32 := (if p0 < (65536 : Int32) then (31 : Int32) else ((31 : Int32) + (-16 : Int32))); (let z6 : Int32 := (if z2 < (256 : Int32) then z2 else ((z2.toUInt32 >>> ((8 : Int32) &&& 31).toUInt32).toInt32)); (let z7 : Int32 := (if z2 < (256 : Int32) then z3 else (z3 + (-8 : Int32))); (let z10 : Int32 := (if z6 < (16 : Int32) then z6 else ((z6.toUInt32 >>> ((4 : Int32) &&& 31).toUInt32).toInt32)); (let z11 : Int32 := (if z6 < (16 : Int32) then z7 else (z7 + (-4 : Int32))); (let z14 : Int32 := (if z10 < (4 : Int32) then z10 else ((z10.toUInt32 >>> ((2 : Int32) &&& 31).toUInt32).toInt32)); (let z15 : Int32 := (if z10 < (4 : Int32) then z11 else (z11 + (-2 : Int32))); (z15 - ((z14.toUInt32 >>> ((1 : Int32) &&& 31).toUInt32).toInt32)))))))))) else (if p0 = (0 : Int32) then (32 : Int32) else (0 : Int32)))
def QnlzI (Z : State) (p0 : Int32) (h0 : Heap) (n0 : Nat) (v : Option Value) (h : Heap) (L : List Loc) : Prop := v = some (.int (fnlzI p0)) ∧ Fr n0 L ∧ h = h0
set_option maxRecDepth 65536 in
set_option maxHeartbeats 40000000 in
theorem rmnlzI (l : Launch) (Z : State) (ar : Array Value) (hw : ∀ d ∈ tables_1, d.before ar Z = true) (ws : List Jvm.Cond) (p0 : Int32) (h0 : Heap) (n0 : Nat) (O0 : Old Z n0 h0) :
    MetFree l (⟨"java/lang/Integer", "numberOfLeadingZeros", "(I)I"⟩ : MethodName) (head1 (Jvm.Cond.code (⟨"java/lang/Integer", "numberOfLeadingZeros", "(I)I"⟩ : MethodName) jdk_33_method_47_code 2 (some .int) :: ws) ({ frames := 0, cells := 0, slots := 0, locals := 0 } : Room)) (fun a U => a = #[(.int p0)] ∧ Z.Warmed39 U.vm ∧ U.heap = h0) (fun _ _ _ _ _ => True) (fun _ U o U' => ∃ v L, o = .returned v ∧ QnlzI Z p0 h0 n0 v U'.heap L ∧ FrameEnd U o U' L ({ frames := 0, cells := 0, slots := 0, locals := 0 } : Room).cells ({ frames := 0, cells := 0, slots := 0, locals := 0 } : Room).slots) := by
  refine MetFree.of_bodySF (plainFor_of_name pnnlzI) hisR ?_
  intro p e s m args below meth c s₁ Bd hml0 hP hK
  obtain ⟨rfl, hZ, hh⟩ := hP
  have hx := Bd.exec
  have hby := Bd.bytes
  have hml : c.maxLocals = 2 := hml0
  have hown : s.vm.findClass "java/lang/Integer" = some m.cls := findClass_of_methodNamed Bd.named
  have hnm := (name_of_methodNamed Bd.named Bd.method).1
  have hlk : meth.locks = false := BodyLoose.notSynchronized Bd
  have X0 : Stand p l e ({ frames := 0, cells := 0, slots := 0, locals := 0 } : Room) s m #[(.int p0)] below meth c s₁ [] 0 0 := Stand.of_body Bd
  have e0 : s₁.heap = h0 := by rw [← hh, Bd.state]; rfl
  have N0 := Fr.nil n0
  suffices hmain : own_Ends p e below s (QnlzI Z p0 h0 n0) 0 0 (s₁.setTop (mkF m 0 #[.val (.int p0), .unset] [])) by
    obtain ⟨U, o, h1, r⟩ := hmain
    exact ⟨U, o, castTop (efnlzI m p0) h1, r⟩
  show own_Ends _ _ _ _ _ _ _ (s₁.setTop (mkF m 0 #[.val (.int p0), .unset] []))
  refine own_go (fun _ k => XS.iloadN X0.here hx rfl (hb hby dnlzI_0) rfl k) ?_
  show own_Ends _ _ _ _ _ _ _ (s₁.setTop (mkF m 1 #[.val (.int p0), .unset] [(.int p0)]))
  by_cases hc1 : (0 : Int32) < p0
  · refine own_go (fun _ k => XS.ifYes X0.here hx rfl (pc0 := 1) (pc' := 15) rfl (hb hby dnlzI_1) rfl ((if0 _ _).trans (tlt hc1).2.2.1) (by decide) (by decide) k) ?_
    show own_Ends _ _ _ _ _ _ _ (s₁.setTop (mkF m 15 #[.val (.int p0), .unset] []))
    refine own_go (fun _ k => XS.bipush X0.here hx rfl (hb hby dnlzI_15) k) ?_
    show own_Ends _ _ _ _ _ _ _ (s₁.setTop (mkF m 17 #[.val (.int p0), .unset] [(.int (31 : Int32))]))
    refine own_go (fun _ k => XS.istoreN X0.here hx rfl (hb hby dnlzI_17) rfl (l' := #[.val (.int p0), .val (.int (31 : Int32))]) rfl k) ?_
    show own_Ends _ _ _ _ _ _ _ (s₁.setTop (mkF m 18 #[.val (.int p0), .val (.int (31 : Int32))] []))
    refine own_go (fun _ k => XS.iloadN X0.here hx rfl (hb hby dnlzI_18) rfl k) ?_
    show own_Ends _ _ _ _ _ _ _ (s₁.setTop (mkF m 19 #[.val (.int p0), .val (.int (31 : Int32))] [(.int p0)]))
    refine own_go (fun _ k => X0.ldcwInt hx hown (mvT hZ (hw _ (List.mem_of_getElem? (i := 45) rfl))) (g := (mkF m 19 #[.val (.int p0), .val (.int (31 : Int32))] [(.int p0)])) rfl (hb hby dnlzI_19) _ k) ?_
    show own_Ends _ _ _ _ _ _ _ (s₁.setTop (mkF m 22 #[.val (.int p0), .val (.int (31 : Int32))] [(.int (65536 : Int32)), (.int p0)]))
    suffices hj4 : ∀ z2 : Int32, z2 = (if p0 < (65536 : Int32) then p0 else ((p0.toUInt32 >>> ((16 : Int32) &&& 31).toUInt32).toInt32)) → ∀ z3 : Int32, z3 = (if p0 < (65536 : Int32) then (31 : Int32) else ((31 : Int32) + (-16 : Int32))) → own_Ends p e below s (QnlzI Z p0 h0 n0) 0 0 (s₁.setTop (mkF m 33 #[.val (.int z2), .val (.int z3)] [])) by
      show own_Ends _ _ _ _ _ _ _ (s₁.setTop (mkF m 22 #[.val (.int p0), .val (.int (31 : Int32))] [(.int (65536 : Int32)), (.int p0)]))
      by_cases hc5 : p0 < (65536 : Int32)
      · refine own_go (fun _ k => XS.icmpYes X0.here hx rfl (pc0 := 22) (pc' := 33) rfl (hb hby dnlzI_22) rfl (tlt hc5).1 (by decide) (by decide) k) ?_
        exact hj4 _ ((if_pos hc5)).symm _ ((if_pos hc5)).symm
      · refine own_go (fun _ k => XS.icmpNo X0.here hx rfl (hb hby dnlzI_22) rfl (flt hc5).1 k) ?_
        show own_Ends _ _ _ _ _ _ _ (s₁.setTop (mkF m 25 #[.val (.int p0), .val (.int (31 : Int32))] []))
        refine own_go (fun _ k => XS.iinc X0.here hx rfl (hb hby dnlzI_25) rfl (l' := #[.val (.int p0), .val (.int ((31 : Int32) + (-16 : Int32)))]) rfl k) ?_
        show own_Ends _ _ _ _ _ _ _ (s₁.setTop (mkF m 28 #[.val (.int p0), .val (.int ((31 : Int32) + (-16 : Int32)))] []))
        refine own_go (fun _ k => XS.iloadN X0.here hx rfl (hb hby dnlzI_28) rfl k) ?_
        show own_Ends _ _ _ _ _ _ _ (s₁.setTop (mkF m 29 #[.val (.int p0), .val (.int ((31 : Int32) + (-16 : Int32)))] [(.int p0)]))
        refine own_go (fun _ k => XS.bipush X0.here hx rfl (hb hby dnlzI_29) k) ?_
        show own_Ends _ _ _ _ _ _ _ (s₁.setTop (mkF m 31 #[.val (.int p0), .val (.int ((31 : Int32) + (-16 : Int32)))] [(.int (16 : Int32)), (.int p0)]))
        refine own_go (fun _ k => XS.iushr X0.here hx rfl (hb hby dnlzI_31) rfl k) ?_
        show own_Ends _ _ _ _ _ _ _ (s₁.setTop (mkF m 32 #[.val (.int p0), .val (.int ((31 : Int32) + (-16 : Int32)))] [(.int ((p0.toUInt32 >>> ((16 : Int32) &&& 31).toUInt32).toInt32))]))
        refine own_go (fun _ k => XS.istoreN X0.here hx rfl (hb hby dnlzI_32) rfl (l' := #[.val (.int ((p0.toUInt32 >>> ((16 : Int32) &&& 31).toUInt32).toInt32)), .val (.int ((31 : Int32) + (-16 : Int32)))]) rfl k) ?_
        exact hj4 _ ((if_neg hc5)).symm _ ((if_neg hc5)).symm
    intro z2 hz2
    intro z3 hz3
    show own_Ends _ _ _ _ _ _ _ (s₁.setTop (mkF m 33 #[.val (.int z2), .val (.int z3)] []))
    refine own_go (fun _ k => XS.iloadN X0.here hx rfl (hb hby dnlzI_33) rfl k) ?_
    show own_Ends _ _ _ _ _ _ _ (s₁.setTop (mkF m 34 #[.val (.int z2), .val (.int z3)] [(.int z2)]))
    refine own_go (fun _ k => XS.sipush X0.here hx rfl (hb hby dnlzI_34) k) ?_
    show own_Ends _ _ _ _ _ _ _ (s₁.setTop (mkF m 37 #[.val (.int z2), .val (.int z3)] [(.int (256 : Int32)), (.int z2)]))
    suffices hj8 : ∀ z6 : Int32, z6 = (if z2 < (256 : Int32) then z2 else ((z2.toUInt32 >>> ((8 : Int32) &&& 31).toUInt32).toInt32)) → ∀ z7 : Int32, z7 = (if z2 < (256 : Int32) then z3 else (z3 + (-8 : Int32))) → own_Ends p e below s (QnlzI Z p0 h0 n0) 0 0 (s₁.setTop (mkF m 48 #[.val (.int z6), .val (.int z7)] [])) by
      show own_Ends _ _ _ _ _ _ _ (s₁.setTop (mkF m 37 #[.val (.int z2), .val (.int z3)] [(.int (256 : Int32)), (.int z2)]))
      by_cases hc9 : z2 < (256 : Int32)
      · refine own_go (fun _ k => XS.icmpYes X0.here hx rfl (pc0 := 37) (pc' := 48) rfl (hb hby dnlzI_37) rfl (tlt hc9).1 (by decide) (by decide) k) ?_
        exact hj8 _ ((if_pos hc9)).symm _ ((if_pos hc9)).symm
      · refine own_go (fun _ k => XS.icmpNo X0.here hx rfl (hb hby dnlzI_37) rfl (flt hc9).1 k) ?_
        show own_Ends _ _ _ _ _ _ _ (s₁.setTop (mkF m 40 #[.val (.int z2), .val (.int z3)] []))
        refine own_go (fun _ k => XS.iinc X0.here hx rfl (hb hby dnlzI_40) rfl (l' := #[.val (.int z2), .val (.int (z3 + (-8 : Int32)))]) rfl k) ?_
        show own_Ends _ _ _ _ _ _ _ (s₁.setTop (mkF m 43 #[.val (.int z2), .val (.int (z3 + (-8 : Int32)))] []))
        refine own_go (fun _ k => XS.iloadN X0.here hx rfl (hb hby dnlzI_43) rfl k) ?_
        show own_Ends _ _ _ _ _ _ _ (s₁.setTop (mkF m 44 #[.val (.int z2), .val (.int (z3 + (-8 : Int32)))] [(.int z2)]))
        refine own_go (fun _ k => XS.bipush X0.here hx rfl (hb hby dnlzI_44) k) ?_
        show own_Ends _ _ _ _ _ _ _ (s₁.setTop (mkF m 46 #[.val (.int z2), .val (.int (z3 + (-8 : Int32)))] [(.int (8 : Int32)), (.int z2)]))
        refine own_go (fun _ k => XS.iushr X0.here hx rfl (hb hby dnlzI_46) rfl k) ?_
        show own_Ends _ _ _ _ _ _ _ (s₁.setTop (mkF m 47 #[.val (.int z2), .val (.int (z3 + (-8 : Int32)))] [(.int ((z2.toUInt32 >>> ((8 : Int32) &&& 31).toUInt32).toInt32))]))
        refine own_go (fun _ k => XS.istoreN X0.here hx rfl (hb hby dnlzI_47) rfl (l' := #[.val (.int ((z2.toUInt32 >>> ((8 : Int32) &&& 31).toUInt32).toInt32)), .val (.int (z3 + (-8 : Int32)))]) rfl k) ?_
        exact hj8 _ ((if_neg hc9)).symm _ ((if_neg hc9)).symm
    intro z6 hz6
    intro z7 hz7
    show own_Ends _ _ _ _ _ _ _ (s₁.setTop (mkF m 48 #[.val (.int z6), .val (.int z7)] []))
    refine own_go (fun _ k => XS.iloadN X0.here hx rfl (hb hby dnlzI_48) rfl k) ?_
    show own_Ends _ _ _ _ _ _ _ (s₁.setTop (mkF m 49 #[.val (.int z6), .val (.int z7)] [(.int z6)]))
    refine own_go (fun _ k => XS.bipush X0.here hx rfl (hb hby dnlzI_49) k) ?_
    show own_Ends _ _ _ _ _ _ _ (s₁.setTop (mkF m 51 #[.val (.int z6), .val (.int z7)] [(.int (16 : Int32)), (.int z6)]))
    suffices hj12 : ∀ z10 : Int32, z10 = (if z6 < (16 : Int32) then z6 else ((z6.toUInt32 >>> ((4 : Int32) &&& 31).toUInt32).toInt32)) → ∀ z11 : Int32, z11 = (if z6 < (16 : Int32) then z7 else (z7 + (-4 : Int32))) → own_Ends p e below s (QnlzI Z p0 h0 n0) 0 0 (s₁.setTop (mkF m 61 #[.val (.int z10), .val (.int z11)] [])) by
      show own_Ends _ _ _ _ _ _ _ (s₁.setTop (mkF m 51 #[.val (.int z6), .val (.int z7)] [(.int (16 : Int32)), (.int z6)]))
      by_cases hc13 : z6 < (16 : Int32)
      · refine own_go (fun _ k => XS.icmpYes X0.here hx rfl (pc0 := 51) (pc' := 61) rfl (hb hby dnlzI_51) rfl (tlt hc13).1 (by decide) (by decide) k) ?_
        exact hj12 _ ((if_pos hc13)).symm _ ((if_pos hc13)).symm
      · refine own_go (fun _ k => XS.icmpNo X0.here hx rfl (hb hby dnlzI_51) rfl (flt hc13).1 k) ?_
        show own_Ends _ _ _ _ _ _ _ (s₁.setTop (mkF m 54 #[.val (.int z6), .val (.int z7)] []))
        refine own_go (fun _ k => XS.iinc X0.here hx rfl (hb hby dnlzI_54) rfl (l' := #[.val (.int z6), .val (.int (z7 + (-4 : Int32)))]) rfl k) ?_
        show own_Ends _ _ _ _ _ _ _ (s₁.setTop (mkF m 57 #[.val (.int z6), .val (.int (z7 + (-4 : Int32)))] []))
        refine own_go (fun _ k => XS.iloadN X0.here hx rfl (hb hby dnlzI_57) rfl k) ?_
        show own_Ends _ _ _ _ _ _ _ (s₁.setTop (mkF m 58 #[.val (.int z6), .val (.int (z7 + (-4 : Int32)))] [(.int z6)]))
        refine own_go (fun _ k => XS.iconst X0.here hx rfl (hb hby dnlzI_58) k) ?_
        show own_Ends _ _ _ _ _ _ _ (s₁.setTop (mkF m 59 #[.val (.int z6), .val (.int (z7 + (-4 : Int32)))] [(.int (4 : Int32)), (.int z6)]))
        refine own_go (fun _ k => XS.iushr X0.here hx rfl (hb hby dnlzI_59) rfl k) ?_
        show own_Ends _ _ _ _ _ _ _ (s₁.setTop (mkF m 60 #[.val (.int z6), .val (.int (z7 + (-4 : Int32)))] [(.int ((z6.toUInt32 >>> ((4 : Int32) &&& 31).toUInt32).toInt32))]))
        refine own_go (fun _ k => XS.istoreN X0.here hx rfl (hb hby dnlzI_60) rfl (l' := #[.val (.int ((z6.toUInt32 >>> ((4 : Int32) &&& 31).toUInt32).toInt32)), .val (.int (z7 + (-4 : Int32)))]) rfl k) ?_
        exact hj12 _ ((if_neg hc13)).symm _ ((if_neg hc13)).symm
    intro z10 hz10
    intro z11 hz11
    show own_Ends _ _ _ _ _ _ _ (s₁.setTop (mkF m 61 #[.val (.int z10), .val (.int z11)] []))
    refine own_go (fun _ k => XS.iloadN X0.here hx rfl (hb hby dnlzI_61) rfl k) ?_
    show own_Ends _ _ _ _ _ _ _ (s₁.setTop (mkF m 62 #[.val (.int z10), .val (.int z11)] [(.int z10)]))
    refine own_go (fun _ k => XS.iconst X0.here hx rfl (hb hby dnlzI_62) k) ?_
    show own_Ends _ _ _ _ _ _ _ (s₁.setTop (mkF m 63 #[.val (.int z10), .val (.int z11)] [(.int (4 : Int32)), (.int z10)]))
    suffices hj16 : ∀ z14 : Int32, z14 = (if z10 < (4 : Int32) then z10 else ((z10.toUInt32 >>> ((2 : Int32) &&& 31).toUInt32).toInt32)) → ∀ z15 : Int32, z15 = (if z10 < (4 : Int32) then z11 else (z11 + (-2 : Int32))) → own_Ends p e below s (QnlzI Z p0 h0 n0) 0 0 (s₁.setTop (mkF m 73 #[.val (.int z14), .val (.int z15)] [])) by
      show own_Ends _ _ _ _ _ _ _ (s₁.setTop (mkF m 63 #[.val (.int z10), .val (.int z11)] [(.int (4 : Int32)), (.int z10)]))
      by_cases hc17 : z10 < (4 : Int32)
      · refine own_go (fun _ k => XS.icmpYes X0.here hx rfl (pc0 := 63) (pc' := 73) rfl (hb hby dnlzI_63) rfl (tlt hc17).1 (by decide) (by decide) k) ?_
        exact hj16 _ ((if_pos hc17)).symm _ ((if_pos hc17)).symm
      · refine own_go (fun _ k => XS.icmpNo X0.here hx rfl (hb hby dnlzI_63) rfl (flt hc17).1 k) ?_
        show own_Ends _ _ _ _ _ _ _ (s₁.setTop (mkF m 66 #[.val (.int z10), .val (.int z11)] []))
        refine own_go (fun _ k => XS.iinc X0.here hx rfl (hb hby dnlzI_66) rfl (l' := #[.val (.int z10), .val (.int (z11 + (-2 : Int32)))]) rfl k) ?_
        show own_Ends _ _ _ _ _ _ _ (s₁.setTop (mkF m 69 #[.val (.int z10), .val (.int (z11 + (-2 : Int32)))] []))
        refine own_go (fun _ k => XS.iloadN X0.here hx rfl (hb hby dnlzI_69) rfl k) ?_
        show own_Ends _ _ _ _ _ _ _ (s₁.setTop (mkF m 70 #[.val (.int z10), .val (.int (z11 + (-2 : Int32)))] [(.int z10)]))
        refine own_go (fun _ k => XS.iconst X0.here hx rfl (hb hby dnlzI_70) k) ?_
        show own_Ends _ _ _ _ _ _ _ (s₁.setTop (mkF m 71 #[.val (.int z10), .val (.int (z11 + (-2 : Int32)))] [(.int (2 : Int32)), (.int z10)]))
        refine own_go (fun _ k => XS.iushr X0.here hx rfl (hb hby dnlzI_71) rfl k) ?_
        show own_Ends _ _ _ _ _ _ _ (s₁.setTop (mkF m 72 #[.val (.int z10), .val (.int (z11 + (-2 : Int32)))] [(.int ((z10.toUInt32 >>> ((2 : Int32) &&& 31).toUInt32).toInt32))]))
        refine own_go (fun _ k => XS.istoreN X0.here hx rfl (hb hby dnlzI_72) rfl (l' := #[.val (.int ((z10.toUInt32 >>> ((2 : Int32) &&& 31).toUInt32).toInt32)), .val (.int (z11 + (-2 : Int32)))]) rfl k) ?_
        exact hj16 _ ((if_neg hc17)).symm _ ((if_neg hc17)).symm
    intro z14 hz14
    intro z15 hz15
    show own_Ends _ _ _ _ _ _ _ (s₁.setTop (mkF m 73 #[.val (.int z14), .val (.int z15)] []))
    refine own_go (fun _ k => XS.iloadN X0.here hx rfl (hb hby dnlzI_73) rfl k) ?_
    show own_Ends _ _ _ _ _ _ _ (s₁.setTop (mkF m 74 #[.val (.int z14), .val (.int z15)] [(.int z15)]))
    refine own_go (fun _ k => XS.iloadN X0.here hx rfl (hb hby dnlzI_74) rfl k) ?_
    show own_Ends _ _ _ _ _ _ _ (s₁.setTop (mkF m 75 #[.val (.int z14), .val (.int z15)] [(.int z14), (.int z15)]))
    refine own_go (fun _ k => XS.iconst X0.here hx rfl (hb hby dnlzI_75) k) ?_
    show own_Ends _ _ _ _ _ _ _ (s₁.setTop (mkF m 76 #[.val (.int z14), .val (.int z15)] [(.int (1 : Int32)), (.int z14), (.int z15)]))
    refine own_go (fun _ k => XS.iushr X0.here hx rfl (hb hby dnlzI_76) rfl k) ?_
    show own_Ends _ _ _ _ _ _ _ (s₁.setTop (mkF m 77 #[.val (.int z14), .val (.int z15)] [(.int ((z14.toUInt32 >>> ((1 : Int32) &&& 31).toUInt32).toInt32)), (.int z15)]))
    refine own_go (fun _ k => XS.isub X0.here hx rfl (hb hby dnlzI_77) rfl k) ?_
    show own_Ends _ _ _ _ _ _ _ (s₁.setTop (mkF m 78 #[.val (.int z14), .val (.int z15)] [(.int (z15 - ((z14.toUInt32 >>> ((1 : Int32) &&& 31).toUInt32).toInt32)))]))
    exact own_retI X0 hx hlk Bd.returns (hb hby dnlzI_78) (by decide) (by decide) ⟨congrArg (fun z => some (Value.int z)) (by subst hz15 hz14 hz11 hz10 hz7 hz6 hz3 hz2; exact ((if_pos hc1)).symm), N0, e0⟩
  · refine own_go (fun _ k => XS.ifNo X0.here hx rfl (hb hby dnlzI_1) rfl ((if0 _ _).trans (flt hc1).2.2.1) k) ?_
    show own_Ends _ _ _ _ _ _ _ (s₁.setTop (mkF m 4 #[.val (.int p0), .unset] []))
    refine own_go (fun _ k => XS.iloadN X0.here hx rfl (hb hby dnlzI_4) rfl k) ?_
    show own_Ends _ _ _ _ _ _ _ (s₁.setTop (mkF m 5 #[.val (.int p0), .unset] [(.int p0)]))
    by_cases hc18 : p0 = (0 : Int32)
    · refine own_go (fun _ k => XS.ifNo X0.here hx rfl (hb hby dnlzI_5) rfl ((if0 _ _).trans (teq hc18).2) k) ?_
      show own_Ends _ _ _ _ _ _ _ (s₁.setTop (mkF m 8 #[.val (.int p0), .unset] []))
      refine own_go (fun _ k => XS.bipush X0.here hx rfl (hb hby dnlzI_8) k) ?_
      show own_Ends _ _ _ _ _ _ _ (s₁.setTop (mkF m 10 #[.val (.int p0), .unset] [(.int (32 : Int32))]))
      refine own_go (fun _ k => XS.goto X0.here hx rfl (pc0 := 10) (pc' := 14) rfl (hb hby dnlzI_10) (by decide) (by decide) k) ?_
      show own_Ends _ _ _ _ _ _ _ (s₁.setTop (mkF m 14 #[.val (.int p0), .unset] [(.int (32 : Int32))]))
      exact own_retI X0 hx hlk Bd.returns (hb hby dnlzI_14) (by decide) (by decide) ⟨congrArg (fun z => some (Value.int z)) (by exact (((if_neg hc1).trans (if_pos hc18))).symm), N0, e0⟩
    · refine own_go (fun _ k => XS.ifYes X0.here hx rfl (pc0 := 5) (pc' := 13) rfl (hb hby dnlzI_5) rfl ((if0 _ _).trans (feq hc18).2) (by decide) (by decide) k) ?_
      show own_Ends _ _ _ _ _ _ _ (s₁.setTop (mkF m 13 #[.val (.int p0), .unset] []))
      refine own_go (fun _ k => XS.iconst X0.here hx rfl (hb hby dnlzI_13) k) ?_
      show own_Ends _ _ _ _ _ _ _ (s₁.setTop (mkF m 14 #[.val (.int p0), .unset] [(.int (0 : Int32))]))
      exact own_retI X0 hx hlk Bd.returns (hb hby dnlzI_14) (by decide) (by decide) ⟨congrArg (fun z => some (Value.int z)) (by exact (((if_neg hc1).trans (if_neg hc18))).symm), N0, e0⟩
theorem dnlzJ_0 : decode jdk_35_method_48_code 0 = .ok (.lload_n 0, 1) := by decide +kernel
theorem dnlzJ_1 : decode jdk_35_method_48_code 1 = .ok (.bipush 32, 2) := by decide +kernel
theorem dnlzJ_3 : decode jdk_35_method_48_code 3 = .ok (.lushr, 1) := by decide +kernel
theorem dnlzJ_4 : decode jdk_35_method_48_code 4 = .ok (.l2i, 1) := by decide +kernel
theorem dnlzJ_5 : decode jdk_35_method_48_code 5 = .ok (.istore_n 2, 1) := by decide +kernel
theorem dnlzJ_6 : decode jdk_35_method_48_code 6 = .ok (.iload_n 2, 1) := by decide +kernel
theorem dnlzJ_7 : decode jdk_35_method_48_code 7 = .ok (.ifCond .ne 14, 3) := by decide +kernel
theorem dnlzJ_10 : decode jdk_35_method_48_code 10 = .ok (.bipush 32, 2) := by decide +kernel
theorem dnlzJ_12 : decode jdk_35_method_48_code 12 = .ok (.lload_n 0, 1) := by decide +kernel
theorem dnlzJ_13 : decode jdk_35_method_48_code 13 = .ok (.l2i, 1) := by decide +kernel
theorem dnlzJ_14 : decode jdk_35_method_48_code 14 = .ok (.invokestatic 308, 3) := by decide +kernel
theorem dnlzJ_17 : decode jdk_35_method_48_code 17 = .ok (.iadd, 1) := by decide +kernel
theorem dnlzJ_18 : decode jdk_35_method_48_code 18 = .ok (.goto 7, 3) := by decide +kernel
theorem dnlzJ_21 : decode jdk_35_method_48_code 21 = .ok (.iload_n 2, 1) := by decide +kernel
theorem dnlzJ_22 : decode jdk_35_method_48_code 22 = .ok (.invokestatic 308, 3) := by decide +kernel
theorem dnlzJ_25 : decode jdk_35_method_48_code 25 = .ok (.ireturn, 1) := by decide +kernel
theorem pnnlzJ : plainName "java/lang/Long" = true := by first | (simp [plainName, overriddenIn]; done) | decide +kernel
theorem pdnlzJ_0 : parseMethodDescriptor "(I)I" = some ⟨[.int], some .int⟩ := by decide +kernel
theorem efnlzJ (m : MethodId) (q0 : Int64) : entryFrame m #[(.long q0)] 3 = mkF m 0 #[.val (.long q0), .second, .unset] [] := by first | (simp [entryFrame, mkF, argsToLocals, Value.category]; done) | rfl
def fnlzJ (q0 : Int64) : Int32 := (if (((q0.toUInt64 >>> ((32 : Int32) &&& 0x3f).toInt64.toUInt64).toInt64).toInt32) = (0 : Int32) then ((32 : Int32) + (fnlzI (q0.toInt32))) else (fnlzI (((q0.toUInt64 >>> ((32 : Int32) &&& 0x3f).toInt64.toUInt64).toInt64).toInt32)))
def QnlzJ (Z : State) (q0 : Int64) (h0 : Heap) (n0 : Nat) (v : Option Value) (h : Heap) (L : List Loc) : Prop := v = some (.int (fnlzJ q0)) ∧ Fr n0 L ∧ h = h0
set_option maxRecDepth 65536 in
set_option maxHeartbeats 40000000 in
theorem rmnlzJ (l : Launch) (Z : State) (ar : Array Value) (hw : ∀ d ∈ tables_1, d.before ar Z = true) (ws : List Jvm.Cond) (q0 : Int64) (h0 : Heap) (n0 : Nat) (O0 : Old Z n0 h0) :
    MetFree l (⟨"java/lang/Long", "numberOfLeadingZeros", "(J)I"⟩ : MethodName) (head1 (Jvm.Cond.code (⟨"java/lang/Long", "numberOfLeadingZeros", "(J)I"⟩ : MethodName) jdk_35_method_48_code 3 (some .int) :: ws) ({ frames := 1, cells := 0, slots := 0, locals := 14 } : Room)) (fun a U => a = #[(.long q0)] ∧ Z.Warmed39 U.vm ∧ U.heap = h0) (fun _ _ _ _ _ => True) (fun _ U o U' => ∃ v L, o = .returned v ∧ QnlzJ Z q0 h0 n0 v U'.heap L ∧ FrameEnd U o U' L ({ frames := 1, cells := 0, slots := 0, locals := 14 } : Room).cells ({ frames := 1, cells := 0, slots := 0, locals := 14 } : Room).slots) := by
  refine MetFree.of_bodySF (plainFor_of_name pnnlzJ) hisR ?_
  intro p e s m args below meth c s₁ Bd hml0 hP hK
  obtain ⟨rfl, hZ, hh⟩ := hP
  have hx := Bd.exec
  have hby := Bd.bytes
  have hml : c.maxLocals = 3 := hml0
  have hown : s.vm.findClass "java/lang/Long" = some m.cls := findClass_of_methodNamed Bd.named
  have hnm := (name_of_methodNamed Bd.named Bd.method).1
  have hlk : meth.locks = false := BodyLoose.notSynchronized Bd
  have X0 : Stand p l e ({ frames := 1, cells := 0, slots := 0, locals := 14 } : Room) s m #[(.long q0)] below meth c s₁ [] 0 0 := Stand.of_body Bd
  have e0 : s₁.heap = h0 := by rw [← hh, Bd.state]; rfl
  have N0 := Fr.nil n0
  suffices hmain : own_Ends p e below s (QnlzJ Z q0 h0 n0) 0 0 (s₁.setTop (mkF m 0 #[.val (.long q0), .second, .unset] [])) by
    obtain ⟨U, o, h1, r⟩ := hmain
    exact ⟨U, o, castTop (efnlzJ m q0) h1, r⟩
  show own_Ends _ _ _ _ _ _ _ (s₁.setTop (mkF m 0 #[.val (.long q0), .second, .unset] []))
  refine own_go (fun _ k => XS.lloadN X0.here hx rfl (hb hby dnlzJ_0) rfl k) ?_
  show own_Ends _ _ _ _ _ _ _ (s₁.setTop (mkF m 1 #[.val (.long q0), .second, .unset] [(.long q0)]))
  refine own_go (fun _ k => XS.bipush X0.here hx rfl (hb hby dnlzJ_1) k) ?_
  show own_Ends _ _ _ _ _ _ _ (s₁.setTop (mkF m 3 #[.val (.long q0), .second, .unset] [(.int (32 : Int32)), (.long q0)]))
  refine own_go (fun _ k => XS.lushr X0.here hx rfl (hb hby dnlzJ_3) rfl k) ?_
  show own_Ends _ _ _ _ _ _ _ (s₁.setTop (mkF m 4 #[.val (.long q0), .second, .unset] [(.long ((q0.toUInt64 >>> ((32 : Int32) &&& 0x3f).toInt64.toUInt64).toInt64))]))
  refine own_go (fun _ k => XS.l2i X0.here hx rfl (hb hby dnlzJ_4) rfl k) ?_
  show own_Ends _ _ _ _ _ _ _ (s₁.setTop (mkF m 5 #[.val (.long q0), .second, .unset] [(.int (((q0.toUInt64 >>> ((32 : Int32) &&& 0x3f).toInt64.toUInt64).toInt64).toInt32))]))
  refine own_go (fun _ k => XS.istoreN X0.here hx rfl (hb hby dnlzJ_5) rfl (l' := #[.val (.long q0), .second, .val (.int (((q0.toUInt64 >>> ((32 : Int32) &&& 0x3f).toInt64.toUInt64).toInt64).toInt32))]) rfl k) ?_
  show own_Ends _ _ _ _ _ _ _ (s₁.setTop (mkF m 6 #[.val (.long q0), .second, .val (.int (((q0.toUInt64 >>> ((32 : Int32) &&& 0x3f).toInt64.toUInt64).toInt64).toInt32))] []))
  refine own_go (fun _ k => XS.iloadN X0.here hx rfl (hb hby dnlzJ_6) rfl k) ?_
  show own_Ends _ _ _ _ _ _ _ (s₁.setTop (mkF m 7 #[.val (.long q0), .second, .val (.int (((q0.toUInt64 >>> ((32 : Int32) &&& 0x3f).toInt64.toUInt64).toInt64).toInt32))] [(.int (((q0.toUInt64 >>> ((32 : Int32) &&& 0x3f).toInt64.toUInt64).toInt64).toInt32))]))
  by_cases hc1 : (((q0.toUInt64 >>> ((32 : Int32) &&& 0x3f).toInt64.toUInt64).toInt64).toInt32) = (0 : Int32)
  · refine own_go (fun _ k => XS.ifNo X0.here hx rfl (hb hby dnlzJ_7) rfl ((if0 _ _).trans (teq hc1).2) k) ?_
    show own_Ends _ _ _ _ _ _ _ (s₁.setTop (mkF m 10 #[.val (.long q0), .second, .val (.int (((q0.toUInt64 >>> ((32 : Int32) &&& 0x3f).toInt64.toUInt64).toInt64).toInt32))] []))
    refine own_go (fun _ k => XS.bipush X0.here hx rfl (hb hby dnlzJ_10) k) ?_
    show own_Ends _ _ _ _ _ _ _ (s₁.setTop (mkF m 12 #[.val (.long q0), .second, .val (.int (((q0.toUInt64 >>> ((32 : Int32) &&& 0x3f).toInt64.toUInt64).toInt64).toInt32))] [(.int (32 : Int32))]))
    refine own_go (fun _ k => XS.lloadN X0.here hx rfl (hb hby dnlzJ_12) rfl k) ?_
    show own_Ends _ _ _ _ _ _ _ (s₁.setTop (mkF m 13 #[.val (.long q0), .second, .val (.int (((q0.toUInt64 >>> ((32 : Int32) &&& 0x3f).toInt64.toUInt64).toInt64).toInt32))] [(.long q0), (.int (32 : Int32))]))
    refine own_go (fun _ k => XS.l2i X0.here hx rfl (hb hby dnlzJ_13) rfl k) ?_
    show own_Ends _ _ _ _ _ _ _ (s₁.setTop (mkF m 14 #[.val (.long q0), .second, .val (.int (((q0.toUInt64 >>> ((32 : Int32) &&& 0x3f).toInt64.toUInt64).toInt64).toInt32))] [(.int (q0.toInt32)), (.int (32 : Int32))]))
    obtain ⟨_, _, ⟨T2, L2, k2, n2⟩, -, X2, ⟨Lc2, hQ2, l2, y2, z2⟩, st2⟩ := Jvm.LawKit.callS X0 hx (y := (⟨"java/lang/Integer", "numberOfLeadingZeros", "(I)I"⟩ : MethodName)) hown (mvT hZ (hw _ (List.mem_of_getElem? (i := 41) rfl))) (mvT hZ (hw _ (List.mem_of_getElem? (i := 42) rfl))) (mvT hZ (hw _ (List.mem_of_getElem? (i := 43) rfl))) (mvT hZ (hw _ (List.mem_of_getElem? (i := 44) rfl))) (by decide) (backOf (W := 1) (rmnlzI l Z ar hw [] (q0.toInt32) h0 n0 O0) hZ (hw _ (List.mem_of_getElem? (i := 44) rfl)) (hw _ (List.mem_of_getElem? (i := 43) rfl)) (by decide) (by decide)) (g := (mkF m 14 #[.val (.long q0), .second, .val (.int (((q0.toUInt64 >>> ((32 : Int32) &&& 0x3f).toInt64.toUInt64).toInt64).toInt32))] [(.int (q0.toInt32)), (.int (32 : Int32))])) rfl (by rw [hml]; rfl) (argsL := [(.int (q0.toInt32))]) (rest := [(.int (32 : Int32))]) (lenOf pdnlzJ_0 rfl) rfl (by show 2 * 0 + _ ≤ _; exact Nat.le_of_eq rfl) (hb hby dnlzJ_14) (fun _ _ => ⟨rfl, e0, (by decide : 0 + 0 ≤ _), (by decide : 0 + 0 ≤ _)⟩)
    dsimp only [Pt.U, Pt.locs, Pt.cells, Pt.slots] at X2 l2 y2 z2 st2 hQ2
    subst l2 y2 z2
    obtain ⟨rfl, N2q, eq2⟩ := hQ2
    have e2 : T2.heap = h0 := eq2
    have N2 := Fr.app N0 N2q
    refine own_go (fun _ k => st2 _ k) ?_
    show own_Ends _ _ _ _ _ _ _ (T2.setTop (mkF m 17 #[.val (.long q0), .second, .val (.int (((q0.toUInt64 >>> ((32 : Int32) &&& 0x3f).toInt64.toUInt64).toInt64).toInt32))] [(.int (fnlzI (q0.toInt32))), (.int (32 : Int32))]))
    refine own_go (fun _ k => XS.iadd X2.here hx rfl (hb hby dnlzJ_17) rfl k) ?_
    show own_Ends _ _ _ _ _ _ _ (T2.setTop (mkF m 18 #[.val (.long q0), .second, .val (.int (((q0.toUInt64 >>> ((32 : Int32) &&& 0x3f).toInt64.toUInt64).toInt64).toInt32))] [(.int ((32 : Int32) + (fnlzI (q0.toInt32))))]))
    refine own_go (fun _ k => XS.goto X2.here hx rfl (pc0 := 18) (pc' := 25) rfl (hb hby dnlzJ_18) (by decide) (by decide) k) ?_
    show own_Ends _ _ _ _ _ _ _ (T2.setTop (mkF m 25 #[.val (.long q0), .second, .val (.int (((q0.toUInt64 >>> ((32 : Int32) &&& 0x3f).toInt64.toUInt64).toInt64).toInt32))] [(.int ((32 : Int32) + (fnlzI (q0.toInt32))))]))
    exact own_retI X2 hx hlk Bd.returns (hb hby dnlzJ_25) (by decide) (by decide) ⟨congrArg (fun z => some (Value.int z)) (by exact ((if_pos hc1)).symm), N2, e2⟩
  · refine own_go (fun _ k => XS.ifYes X0.here hx rfl (pc0 := 7) (pc' := 21) rfl (hb hby dnlzJ_7) rfl ((if0 _ _).trans (feq hc1).2) (by decide) (by decide) k) ?_
    show own_Ends _ _ _ _ _ _ _ (s₁.setTop (mkF m 21 #[.val (.long q0), .second, .val (.int (((q0.toUInt64 >>> ((32 : Int32) &&& 0x3f).toInt64.toUInt64).toInt64).toInt32))] []))
    refine own_go (fun _ k => XS.iloadN X0.here hx rfl (hb hby dnlzJ_21) rfl k) ?_
    show own_Ends _ _ _ _ _ _ _ (s₁.setTop (mkF m 22 #[.val (.long q0), .second, .val (.int (((q0.toUInt64 >>> ((32 : Int32) &&& 0x3f).toInt64.toUInt64).toInt64).toInt32))] [(.int (((q0.toUInt64 >>> ((32 : Int32) &&& 0x3f).toInt64.toUInt64).toInt64).toInt32))]))
    obtain ⟨_, _, ⟨T3, L3, k3, n3⟩, -, X3, ⟨Lc3, hQ3, l3, y3, z3⟩, st3⟩ := Jvm.LawKit.callS X0 hx (y := (⟨"java/lang/Integer", "numberOfLeadingZeros", "(I)I"⟩ : MethodName)) hown (mvT hZ (hw _ (List.mem_of_getElem? (i := 41) rfl))) (mvT hZ (hw _ (List.mem_of_getElem? (i := 42) rfl))) (mvT hZ (hw _ (List.mem_of_getElem? (i := 43) rfl))) (mvT hZ (hw _ (List.mem_of_getElem? (i := 44) rfl))) (by decide) (backOf (W := 0) (rmnlzI l Z ar hw [] (((q0.toUInt64 >>> ((32 : Int32) &&& 0x3f).toInt64.toUInt64).toInt64).toInt32) h0 n0 O0) hZ (hw _ (List.mem_of_getElem? (i := 44) rfl)) (hw _ (List.mem_of_getElem? (i := 43) rfl)) (by decide) (by decide)) (g := (mkF m 22 #[.val (.long q0), .second, .val (.int (((q0.toUInt64 >>> ((32 : Int32) &&& 0x3f).toInt64.toUInt64).toInt64).toInt32))] [(.int (((q0.toUInt64 >>> ((32 : Int32) &&& 0x3f).toInt64.toUInt64).toInt64).toInt32))])) rfl (by rw [hml]; rfl) (argsL := [(.int (((q0.toUInt64 >>> ((32 : Int32) &&& 0x3f).toInt64.toUInt64).toInt64).toInt32))]) (rest := []) (lenOf pdnlzJ_0 rfl) rfl (by show 2 * 0 + _ ≤ _; exact Nat.le_of_eq rfl) (hb hby dnlzJ_22) (fun _ _ => ⟨rfl, e0, (by decide : 0 + 0 ≤ _), (by decide : 0 + 0 ≤ _)⟩)
    dsimp only [Pt.U, Pt.locs, Pt.cells, Pt.slots] at X3 l3 y3 z3 st3 hQ3
    subst l3 y3 z3
    obtain ⟨rfl, N3q, eq3⟩ := hQ3
    have e3 : T3.heap = h0 := eq3
    have N3 := Fr.app N0 N3q
    refine own_go (fun _ k => st3 _ k) ?_
    show own_Ends _ _ _ _ _ _ _ (T3.setTop (mkF m 25 #[.val (.long q0), .second, .val (.int (((q0.toUInt64 >>> ((32 : Int32) &&& 0x3f).toInt64.toUInt64).toInt64).toInt32))] [(.int (fnlzI (((q0.toUInt64 >>> ((32 : Int32) &&& 0x3f).toInt64.toUInt64).toInt64).toInt32)))]))
    exact own_retI X3 hx hlk Bd.returns (hb hby dnlzJ_25) (by decide) (by decide) ⟨congrArg (fun z => some (Value.int z)) (by exact ((if_neg hc1)).symm), N3, e3⟩
theorem dindex_0 : decode prog_10_method_5_code 0 = .ok (.bipush 63, 2) := by decide +kernel
theorem dindex_2 : decode prog_10_method_5_code 2 = .ok (.lload_n 0, 1) := by decide +kernel
theorem dindex_3 : decode prog_10_method_5_code 3 = .ok (.invokestatic 49, 3) := by decide +kernel
theorem dindex_6 : decode prog_10_method_5_code 6 = .ok (.isub, 1) := by decide +kernel
theorem dindex_7 : decode prog_10_method_5_code 7 = .ok (.istore_n 2, 1) := by decide +kernel
theorem dindex_8 : decode prog_10_method_5_code 8 = .ok (.iconst 0, 1) := by decide +kernel
theorem dindex_9 : decode prog_10_method_5_code 9 = .ok (.iload_n 2, 1) := by decide +kernel
theorem dindex_10 : decode prog_10_method_5_code 10 = .ok (.bipush 10, 2) := by decide +kernel
theorem dindex_12 : decode prog_10_method_5_code 12 = .ok (.isub, 1) := by decide +kernel
theorem dindex_13 : decode prog_10_method_5_code 13 = .ok (.invokestatic 52, 3) := by decide +kernel
theorem dindex_16 : decode prog_10_method_5_code 16 = .ok (.istore_n 3, 1) := by decide +kernel
theorem dindex_17 : decode prog_10_method_5_code 17 = .ok (.iload_n 3, 1) := by decide +kernel
theorem dindex_18 : decode prog_10_method_5_code 18 = .ok (.i2l, 1) := by decide +kernel
theorem dindex_19 : decode prog_10_method_5_code 19 = .ok (.ldc2_w 55, 3) := by decide +kernel
theorem dindex_22 : decode prog_10_method_5_code 22 = .ok (.lmul, 1) := by decide +kernel
theorem dindex_23 : decode prog_10_method_5_code 23 = .ok (.lload_n 0, 1) := by decide +kernel
theorem dindex_24 : decode prog_10_method_5_code 24 = .ok (.iload_n 3, 1) := by decide +kernel
theorem dindex_25 : decode prog_10_method_5_code 25 = .ok (.lshr, 1) := by decide +kernel
theorem dindex_26 : decode prog_10_method_5_code 26 = .ok (.ladd, 1) := by decide +kernel
theorem dindex_27 : decode prog_10_method_5_code 27 = .ok (.l2i, 1) := by decide +kernel
theorem dindex_28 : decode prog_10_method_5_code 28 = .ok (.ireturn, 1) := by decide +kernel
theorem pnindex : plainName "com/example/rate_keeper/ratekeeper/server/bench/LatencyHistogram" = true := by first | (simp [plainName, overriddenIn]; done) | decide +kernel
theorem pdindex_0 : parseMethodDescriptor "(J)I" = some ⟨[.long], some .int⟩ := by decide +kernel
theorem pdindex_1 : parseMethodDescriptor "(II)I" = some ⟨[.int, .int], some .int⟩ := by decide +kernel
theorem efindex (m : MethodId) (q0 : Int64) : entryFrame m #[(.long q0)] 4 = mkF m 0 #[.val (.long q0), .second, .unset, .unset] [] := by first | (simp [entryFrame, mkF, argsToLocals, Value.category]; done) | rfl
def findex (q0 : Int64) : Int32 := (((((fmaxI (0 : Int32) (((63 : Int32) - (fnlzJ q0)) - (10 : Int32))).toInt64) * (1024 : Int64)) + (q0 >>> ((fmaxI (0 : Int32) (((63 : Int32) - (fnlzJ q0)) - (10 : Int32))) &&& 0x3f).toInt64)).toInt32)
def Qindex (Z : State) (q0 : Int64) (h0 : Heap) (n0 : Nat) (v : Option Value) (h : Heap) (L : List Loc) : Prop := v = some (.int (findex q0)) ∧ Fr n0 L ∧ h = h0
set_option maxRecDepth 65536 in
set_option maxHeartbeats 40000000 in
theorem rmindex (l : Launch) (Z : State) (ar : Array Value) (hw : ∀ d ∈ tables_1, d.before ar Z = true) (ws : List Jvm.Cond) (q0 : Int64) (h0 : Heap) (n0 : Nat) (O0 : Old Z n0 h0) :
    MetFree l (⟨"com/example/rate_keeper/ratekeeper/server/bench/LatencyHistogram", "index", "(J)I"⟩ : MethodName) (head1 (Jvm.Cond.code (⟨"com/example/rate_keeper/ratekeeper/server/bench/LatencyHistogram", "index", "(J)I"⟩ : MethodName) prog_10_method_5_code 4 (some .int) :: ws) ({ frames := 2, cells := 0, slots := 0, locals := 29 } : Room)) (fun a U => a = #[(.long q0)] ∧ Z.Warmed39 U.vm ∧ U.heap = h0) (fun _ _ _ _ _ => True) (fun _ U o U' => ∃ v L, o = .returned v ∧ Qindex Z q0 h0 n0 v U'.heap L ∧ FrameEnd U o U' L ({ frames := 2, cells := 0, slots := 0, locals := 29 } : Room).cells ({ frames := 2, cells := 0, slots := 0, locals := 29 } : Room).slots) := by
  refine MetFree.of_bodySF (plainFor_of_name pnindex) hisR ?_
  intro p e s m args below meth c s₁ Bd hml0 hP hK
  obtain ⟨rfl, hZ, hh⟩ := hP
  have hx := Bd.exec
  have hby := Bd.bytes
  have hml : c.maxLocals = 4 := hml0
  have hown : s.vm.findClass "com/example/rate_keeper/ratekeeper/server/bench/LatencyHistogram" = some m.cls := findClass_of_methodNamed Bd.named
  have hnm := (name_of_methodNamed Bd.named Bd.method).1
  have hlk : meth.locks = false := BodyLoose.notSynchronized Bd
  have X0 : Stand p l e ({ frames := 2, cells := 0, slots := 0, locals := 29 } : Room) s m #[(.long q0)] below meth c s₁ [] 0 0 := Stand.of_body Bd
  have e0 : s₁.heap = h0 := by rw [← hh, Bd.state]; rfl
  have N0 := Fr.nil n0
  suffices hmain : own_Ends p e below s (Qindex Z q0 h0 n0) 0 0 (s₁.setTop (mkF m 0 #[.val (.long q0), .second, .unset, .unset] [])) by
    obtain ⟨U, o, h1, r⟩ := hmain
    exact ⟨U, o, castTop (efindex m q0) h1, r⟩
  show own_Ends _ _ _ _ _ _ _ (s₁.setTop (mkF m 0 #[.val (.long q0), .second, .unset, .unset] []))
  refine own_go (fun _ k => XS.bipush X0.here hx rfl (hb hby dindex_0) k) ?_
  show own_Ends _ _ _ _ _ _ _ (s₁.setTop (mkF m 2 #[.val (.long q0), .second, .unset, .unset] [(.int (63 : Int32))]))
  refine own_go (fun _ k => XS.lloadN X0.here hx rfl (hb hby dindex_2) rfl k) ?_
  show own_Ends _ _ _ _ _ _ _ (s₁.setTop (mkF m 3 #[.val (.long q0), .second, .unset, .unset] [(.long q0), (.int (63 : Int32))]))
  obtain ⟨_, _, ⟨T1, L1, k1, n1⟩, -, X1, ⟨Lc1, hQ1, l1, y1, z1⟩, st1⟩ := Jvm.LawKit.callS X0 hx (y := (⟨"java/lang/Long", "numberOfLeadingZeros", "(J)I"⟩ : MethodName)) hown (mvT hZ (hw _ (List.mem_of_getElem? (i := 37) rfl))) (mvT hZ (hw _ (List.mem_of_getElem? (i := 38) rfl))) (mvT hZ (hw _ (List.mem_of_getElem? (i := 39) rfl))) (mvT hZ (hw _ (List.mem_of_getElem? (i := 40) rfl))) (by decide) (backOf (W := 1) (rmnlzJ l Z ar hw [] q0 h0 n0 O0) hZ (hw _ (List.mem_of_getElem? (i := 40) rfl)) (hw _ (List.mem_of_getElem? (i := 39) rfl)) (by decide) (by decide)) (g := (mkF m 3 #[.val (.long q0), .second, .unset, .unset] [(.long q0), (.int (63 : Int32))])) rfl (by rw [hml]; rfl) (argsL := [(.long q0)]) (rest := [(.int (63 : Int32))]) (lenOf pdindex_0 rfl) rfl (by show 2 * 0 + _ ≤ _; exact Nat.le_of_eq rfl) (hb hby dindex_3) (fun _ _ => ⟨rfl, e0, (by decide : 0 + 0 ≤ _), (by decide : 0 + 0 ≤ _)⟩)
  dsimp only [Pt.U, Pt.locs, Pt.cells, Pt.slots] at X1 l1 y1 z1 st1 hQ1
  subst l1 y1 z1
  obtain ⟨rfl, N1q, eq1⟩ := hQ1
  have e1 : T1.heap = h0 := eq1
  have N1 := Fr.app N0 N1q
  refine own_go (fun _ k => st1 _ k) ?_
  show own_Ends _ _ _ _ _ _ _ (T1.setTop (mkF m 6 #[.val (.long q0), .second, .unset, .unset] [(.int (fnlzJ q0)), (.int (63 : Int32))]))
  refine own_go (fun _ k => XS.isub X1.here hx rfl (hb hby dindex_6) rfl k) ?_
  show own_Ends _ _ _ _ _ _ _ (T1.setTop (mkF m 7 #[.val (.long q0), .second, .unset, .unset] [(.int ((63 : Int32) - (fnlzJ q0)))]))
  refine own_go (fun _ k => XS.istoreN X1.here hx rfl (hb hby dindex_7) rfl (l' := #[.val (.long q0), .second, .val (.int ((63 : Int32) - (fnlzJ q0))), .unset]) rfl k) ?_
  show own_Ends _ _ _ _ _ _ _ (T1.setTop (mkF m 8 #[.val (.long q0), .second, .val (.int ((63 : Int32) - (fnlzJ q0))), .unset] []))
  refine own_go (fun _ k => XS.iconst X1.here hx rfl (hb hby dindex_8) k) ?_
  show own_Ends _ _ _ _ _ _ _ (T1.setTop (mkF m 9 #[.val (.long q0), .second, .val (.int ((63 : Int32) - (fnlzJ q0))), .unset] [(.int (0 : Int32))]))
  refine own_go (fun _ k => XS.iloadN X1.here hx rfl (hb hby dindex_9) rfl k) ?_
  show own_Ends _ _ _ _ _ _ _ (T1.setTop (mkF m 10 #[.val (.long q0), .second, .val (.int ((63 : Int32) - (fnlzJ q0))), .unset] [(.int ((63 : Int32) - (fnlzJ q0))), (.int (0 : Int32))]))
  refine own_go (fun _ k => XS.bipush X1.here hx rfl (hb hby dindex_10) k) ?_
  show own_Ends _ _ _ _ _ _ _ (T1.setTop (mkF m 12 #[.val (.long q0), .second, .val (.int ((63 : Int32) - (fnlzJ q0))), .unset] [(.int (10 : Int32)), (.int ((63 : Int32) - (fnlzJ q0))), (.int (0 : Int32))]))
  refine own_go (fun _ k => XS.isub X1.here hx rfl (hb hby dindex_12) rfl k) ?_
  show own_Ends _ _ _ _ _ _ _ (T1.setTop (mkF m 13 #[.val (.long q0), .second, .val (.int ((63 : Int32) - (fnlzJ q0))), .unset] [(.int (((63 : Int32) - (fnlzJ q0)) - (10 : Int32))), (.int (0 : Int32))]))
  obtain ⟨_, _, ⟨T2, L2, k2, n2⟩, -, X2, ⟨Lc2, hQ2, l2, y2, z2⟩, st2⟩ := Jvm.LawKit.callS X1 hx (y := (⟨"java/lang/Math", "max", "(II)I"⟩ : MethodName)) hown (mvT hZ (hw _ (List.mem_of_getElem? (i := 46) rfl))) (mvT hZ (hw _ (List.mem_of_getElem? (i := 47) rfl))) (mvT hZ (hw _ (List.mem_of_getElem? (i := 32) rfl))) (mvT hZ (hw _ (List.mem_of_getElem? (i := 48) rfl))) (by decide) (backOf (W := 0) (rmmaxI l Z ar hw [] (0 : Int32) (((63 : Int32) - (fnlzJ q0)) - (10 : Int32)) h0 n0 O0) hZ (hw _ (List.mem_of_getElem? (i := 48) rfl)) (hw _ (List.mem_of_getElem? (i := 32) rfl)) (by decide) (by decide)) (g := (mkF m 13 #[.val (.long q0), .second, .val (.int ((63 : Int32) - (fnlzJ q0))), .unset] [(.int (((63 : Int32) - (fnlzJ q0)) - (10 : Int32))), (.int (0 : Int32))])) rfl (by rw [hml]; rfl) (argsL := [(.int (0 : Int32)), (.int (((63 : Int32) - (fnlzJ q0)) - (10 : Int32)))]) (rest := []) (lenOf pdindex_1 rfl) rfl (by show 2 * 0 + _ ≤ _; exact Nat.le_of_eq rfl) (hb hby dindex_13) (fun _ _ => ⟨rfl, e1, (by decide : 0 + 0 ≤ _), (by decide : 0 + 0 ≤ _)⟩)
  dsimp only [Pt.U, Pt.locs, Pt.cells, Pt.slots] at X2 l2 y2 z2 st2 hQ2
  subst l2 y2 z2
  obtain ⟨rfl, N2q, eq2⟩ := hQ2
  have e2 : T2.heap = h0 := eq2
  have N2 := Fr.app N1 N2q
  refine own_go (fun _ k => st2 _ k) ?_
  show own_Ends _ _ _ _ _ _ _ (T2.setTop (mkF m 16 #[.val (.long q0), .second, .val (.int ((63 : Int32) - (fnlzJ q0))), .unset] [(.int (fmaxI (0 : Int32) (((63 : Int32) - (fnlzJ q0)) - (10 : Int32))))]))
  refine own_go (fun _ k => XS.istoreN X2.here hx rfl (hb hby dindex_16) rfl (l' := #[.val (.long q0), .second, .val (.int ((63 : Int32) - (fnlzJ q0))), .val (.int (fmaxI (0 : Int32) (((63 : Int32) - (fnlzJ q0)) - (10 : Int32))))]) rfl k) ?_
  show own_Ends _ _ _ _ _ _ _ (T2.setTop (mkF m 17 #[.val (.long q0), .second, .val (.int ((63 : Int32) - (fnlzJ q0))), .val (.int (fmaxI (0 : Int32) (((63 : Int32) - (fnlzJ q0)) - (10 : Int32))))] []))
  refine own_go (fun _ k => XS.iloadN X2.here hx rfl (hb hby dindex_17) rfl k) ?_
  show own_Ends _ _ _ _ _ _ _ (T2.setTop (mkF m 18 #[.val (.long q0), .second, .val (.int ((63 : Int32) - (fnlzJ q0))), .val (.int (fmaxI (0 : Int32) (((63 : Int32) - (fnlzJ q0)) - (10 : Int32))))] [(.int (fmaxI (0 : Int32) (((63 : Int32) - (fnlzJ q0)) - (10 : Int32))))]))
  refine own_go (fun _ k => XS.i2l X2.here hx rfl (hb hby dindex_18) rfl k) ?_
  show own_Ends _ _ _ _ _ _ _ (T2.setTop (mkF m 19 #[.val (.long q0), .second, .val (.int ((63 : Int32) - (fnlzJ q0))), .val (.int (fmaxI (0 : Int32) (((63 : Int32) - (fnlzJ q0)) - (10 : Int32))))] [(.long ((fmaxI (0 : Int32) (((63 : Int32) - (fnlzJ q0)) - (10 : Int32))).toInt64))]))
  refine own_go (fun _ k => X2.ldc2Long hx hown (mvT hZ (hw _ (List.mem_of_getElem? (i := 49) rfl))) (g := (mkF m 19 #[.val (.long q0), .second, .val (.int ((63 : Int32) - (fnlzJ q0))), .val (.int (fmaxI (0 : Int32) (((63 : Int32) - (fnlzJ q0)) - (10 : Int32))))] [(.long ((fmaxI (0 : Int32) (((63 : Int32) - (fnlzJ q0)) - (10 : Int32))).toInt64))])) rfl (hb hby dindex_19) _ k) ?_
  show own_Ends _ _ _ _ _ _ _ (T2.setTop (mkF m 22 #[.val (.long q0), .second, .val (.int ((63 : Int32) - (fnlzJ q0))), .val (.int (fmaxI (0 : Int32) (((63 : Int32) - (fnlzJ q0)) - (10 : Int32))))] [(.long (1024 : Int64)), (.long ((fmaxI (0 : Int32) (((63 : Int32) - (fnlzJ q0)) - (10 : Int32))).toInt64))]))
  refine own_go (fun _ k => XS.lmul X2.here hx rfl (hb hby dindex_22) rfl k) ?_
  show own_Ends _ _ _ _ _ _ _ (T2.setTop (mkF m 23 #[.val (.long q0), .second, .val (.int ((63 : Int32) - (fnlzJ q0))), .val (.int (fmaxI (0 : Int32) (((63 : Int32) - (fnlzJ q0)) - (10 : Int32))))] [(.long (((fmaxI (0 : Int32) (((63 : Int32) - (fnlzJ q0)) - (10 : Int32))).toInt64) * (1024 : Int64)))]))
  refine own_go (fun _ k => XS.lloadN X2.here hx rfl (hb hby dindex_23) rfl k) ?_
  show own_Ends _ _ _ _ _ _ _ (T2.setTop (mkF m 24 #[.val (.long q0), .second, .val (.int ((63 : Int32) - (fnlzJ q0))), .val (.int (fmaxI (0 : Int32) (((63 : Int32) - (fnlzJ q0)) - (10 : Int32))))] [(.long q0), (.long (((fmaxI (0 : Int32) (((63 : Int32) - (fnlzJ q0)) - (10 : Int32))).toInt64) * (1024 : Int64)))]))
  refine own_go (fun _ k => XS.iloadN X2.here hx rfl (hb hby dindex_24) rfl k) ?_
  show own_Ends _ _ _ _ _ _ _ (T2.setTop (mkF m 25 #[.val (.long q0), .second, .val (.int ((63 : Int32) - (fnlzJ q0))), .val (.int (fmaxI (0 : Int32) (((63 : Int32) - (fnlzJ q0)) - (10 : Int32))))] [(.int (fmaxI (0 : Int32) (((63 : Int32) - (fnlzJ q0)) - (10 : Int32)))), (.long q0), (.long (((fmaxI (0 : Int32) (((63 : Int32) - (fnlzJ q0)) - (10 : Int32))).toInt64) * (1024 : Int64)))]))
  refine own_go (fun _ k => XS.lshr X2.here hx rfl (hb hby dindex_25) rfl k) ?_
  show own_Ends _ _ _ _ _ _ _ (T2.setTop (mkF m 26 #[.val (.long q0), .second, .val (.int ((63 : Int32) - (fnlzJ q0))), .val (.int (fmaxI (0 : Int32) (((63 : Int32) - (fnlzJ q0)) - (10 : Int32))))] [(.long (q0 >>> ((fmaxI (0 : Int32) (((63 : Int32) - (fnlzJ q0)) - (10 : Int32))) &&& 0x3f).toInt64)), (.long (((fmaxI (0 : Int32) (((63 : Int32) - (fnlzJ q0)) - (10 : Int32))).toInt64) * (1024 : Int64)))]))
  refine own_go (fun _ k => XS.ladd X2.here hx rfl (hb hby dindex_26) rfl k) ?_
  show own_Ends _ _ _ _ _ _ _ (T2.setTop (mkF m 27 #[.val (.long q0), .second, .val (.int ((63 : Int32) - (fnlzJ q0))), .val (.int (fmaxI (0 : Int32) (((63 : Int32) - (fnlzJ q0)) - (10 : Int32))))] [(.long ((((fmaxI (0 : Int32) (((63 : Int32) - (fnlzJ q0)) - (10 : Int32))).toInt64) * (1024 : Int64)) + (q0 >>> ((fmaxI (0 : Int32) (((63 : Int32) - (fnlzJ q0)) - (10 : Int32))) &&& 0x3f).toInt64)))]))
  refine own_go (fun _ k => XS.l2i X2.here hx rfl (hb hby dindex_27) rfl k) ?_
  show own_Ends _ _ _ _ _ _ _ (T2.setTop (mkF m 28 #[.val (.long q0), .second, .val (.int ((63 : Int32) - (fnlzJ q0))), .val (.int (fmaxI (0 : Int32) (((63 : Int32) - (fnlzJ q0)) - (10 : Int32))))] [(.int (((((fmaxI (0 : Int32) (((63 : Int32) - (fnlzJ q0)) - (10 : Int32))).toInt64) * (1024 : Int64)) + (q0 >>> ((fmaxI (0 : Int32) (((63 : Int32) - (fnlzJ q0)) - (10 : Int32))) &&& 0x3f).toInt64)).toInt32))]))
  exact own_retI X2 hx hlk Bd.returns (hb hby dindex_28) (by decide) (by decide) ⟨congrArg (fun z => some (Value.int z)) (by exact rfl), N2, e2⟩
/-- x's leading binary digit is the k-th -/
def own_lg (x : Int) (k : Nat) : Prop := 2 ^ k ≤ x ∧ x < 2 ^ (k + 1)
theorem own_pow_le {a b : Nat} (h : a ≤ b) : (2 : Int) ^ a ≤ 2 ^ b := by
  have := Nat.pow_le_pow_right (show 0 < 2 by decide) h
  exact_mod_cast this
theorem own_pow_pos (k : Nat) : (0 : Int) < 2 ^ k := Int.pow_pos (by decide)
theorem own_lg_ge {x : Int} {k s : Nat} (h : own_lg x k) (hs : (2 : Int) ^ s ≤ x) : s ≤ k := by
  rcases Nat.lt_or_ge k s with z | z
  · have := own_pow_le (show k + 1 ≤ s from z)
    have := h.2; omega
  · exact z
theorem own_lg_lt {x : Int} {k s : Nat} (h : own_lg x k) (hs : x < (2 : Int) ^ s) : k < s := by
  rcases Nat.lt_or_ge k s with z | z
  · exact z
  · have := own_pow_le z
    have := h.1; omega
theorem own_lg_div {x : Int} {k s : Nat} (h : own_lg x k) (hs : s ≤ k) : own_lg (x / 2 ^ s) (k - s) := by
  have p := own_pow_pos s
  constructor
  · rw [Int.le_ediv_iff_mul_le p, ← Int.pow_add, Nat.sub_add_cancel hs]; exact h.1
  · rw [Int.ediv_lt_iff_lt_mul p, ← Int.pow_add, show k - s + 1 + s = k + 1 by omega]; exact h.2
theorem own_lg_ex {x : Int} (h : 0 < x) : ∃ k, own_lg x k := by
  refine ⟨x.toNat.log2, ?_, ?_⟩
  · have := Nat.log2_self_le (show x.toNat ≠ 0 by omega)
    have : (2 : Int) ^ x.toNat.log2 ≤ (x.toNat : Int) := by exact_mod_cast this
    omega
  · have := Nat.lt_log2_self (n := x.toNat)
    have : (x.toNat : Int) < (2 : Int) ^ (x.toNat.log2 + 1) := by exact_mod_cast this
    omega
def own_sI (lim : Int32) (u : UInt32) (i : Int32) : Int32 := if i < lim then i else (i.toUInt32 >>> u).toInt32
def own_sN (lim dn : Int32) (i n : Int32) : Int32 := if i < lim then n else n + dn
/-- one step of the search: from (i, n) to (i / 2^s, n - s) where i is not below 2^s -/
theorem own_stage {i n : Int32} {k s : Nat} {lim dn : Int32} {u : UInt32} (hlim : lim.toInt = 2 ^ s) (hu : u.toNat = s) (hs : s < 32) (hdn : dn.toInt = -(s : Int)) (hi : own_lg i.toInt k) (hn : 0 ≤ n.toInt - s ∧ n.toInt < 100) :
    ∃ k' : Nat, own_lg (own_sI lim u i).toInt k' ∧ (own_sN lim dn i n).toInt - k' = n.toInt - k ∧ (k < s + s → k' < s) ∧ n.toInt - s ≤ (own_sN lim dn i n).toInt ∧ (own_sN lim dn i n).toInt ≤ n.toInt := by
  have p := own_pow_pos k
  unfold own_sI own_sN
  by_cases q : i < lim
  · rw [if_pos q, if_pos q]
    rw [Int32.lt_iff_toInt_lt, hlim] at q
    have := own_lg_lt hi q
    exact ⟨k, hi, rfl, fun _ => this, by omega, by omega⟩
  · rw [if_neg q, if_neg q]
    rw [Int32.lt_iff_toInt_lt, hlim] at q
    have hk := own_lg_ge (s := s) hi (by omega)
    have e : ((i.toUInt32 >>> u).toInt32).toInt = i.toInt / 2 ^ s := Jvm.Kit.i32_iushr (by rw [Int32.le_iff_toInt_le, show (0 : Int32).toInt = 0 by decide]; have := hi.1; omega) hu hs
    have e2 : (n + dn).toInt = n.toInt - s := by rw [Jvm.Kit.i32_add (by omega) (by omega), hdn]; omega
    rw [e, e2]
    exact ⟨k - s, own_lg_div hi hk, by omega, fun _ => by omega, by omega, by omega⟩
theorem own_nlzI {x : Int32} {k : Nat} (h : own_lg x.toInt k) (hk : k ≤ 30) : (fnlzI x).toInt = 31 - (k : Int) := by
  have p := own_pow_pos k
  have hx : (0 : Int32) < x := by rw [Int32.lt_iff_toInt_lt, show (0 : Int32).toInt = 0 by decide]; have := h.1; omega
  obtain ⟨i1, hi1⟩ : ∃ i, i = own_sI 65536 (((16 : Int32) &&& 31).toUInt32) x := ⟨_, rfl⟩
  obtain ⟨n1, hn1⟩ : ∃ n, n = own_sN 65536 (-16) x 31 := ⟨_, rfl⟩
  obtain ⟨i2, hi2⟩ : ∃ i, i = own_sI 256 (((8 : Int32) &&& 31).toUInt32) i1 := ⟨_, rfl⟩
  obtain ⟨n2, hn2⟩ : ∃ n, n = own_sN 256 (-8) i1 n1 := ⟨_, rfl⟩
  obtain ⟨i3, hi3⟩ : ∃ i, i = own_sI 16 (((4 : Int32) &&& 31).toUInt32) i2 := ⟨_, rfl⟩
  obtain ⟨n3, hn3⟩ : ∃ n, n = own_sN 16 (-4) i2 n2 := ⟨_, rfl⟩
  obtain ⟨i4, hi4⟩ : ∃ i, i = own_sI 4 (((2 : Int32) &&& 31).toUInt32) i3 := ⟨_, rfl⟩
  obtain ⟨n4, hn4⟩ : ∃ n, n = own_sN 4 (-2) i3 n3 := ⟨_, rfl⟩
  have e : fnlzI x = n4 - (i4.toUInt32 >>> ((1 : Int32) &&& 31).toUInt32).toInt32 := by
    rw [fnlzI, if_pos hx]; subst hn4 hi4 hn3 hi3 hn2 hi2 hn1 hi1; rfl
  have e31 : (31 : Int32).toInt = 31 := by decide
  obtain ⟨k1, a1, b1, c1, d1, g1⟩ := own_stage (n := 31) (s := 16) (lim := 65536) (dn := -16) (u := ((16 : Int32) &&& 31).toUInt32) (by decide) (by decide) (by decide) (by decide) h (by decide)
  rw [← hi1] at a1; rw [← hn1, e31] at b1 d1 g1
  have c1' := c1 (by omega)
  obtain ⟨k2, a2, b2, c2, d2, g2⟩ := own_stage (n := n1) (s := 8) (lim := 256) (dn := -8) (u := ((8 : Int32) &&& 31).toUInt32) (by decide) (by decide) (by decide) (by decide) a1 (by omega)
  rw [← hi2] at a2; rw [← hn2] at b2 d2 g2
  have c2' := c2 (by omega)
  obtain ⟨k3, a3, b3, c3, d3, g3⟩ := own_stage (n := n2) (s := 4) (lim := 16) (dn := -4) (u := ((4 : Int32) &&& 31).toUInt32) (by decide) (by decide) (by decide) (by decide) a2 (by omega)
  rw [← hi3] at a3; rw [← hn3] at b3 d3 g3
  have c3' := c3 (by omega)
  obtain ⟨k4, a4, b4, c4, d4, g4⟩ := own_stage (n := n3) (s := 2) (lim := 4) (dn := -2) (u := ((2 : Int32) &&& 31).toUInt32) (by decide) (by decide) (by decide) (by decide) a3 (by omega)
  rw [← hi4] at a4; rw [← hn4] at b4 d4 g4
  have c4' := c4 (by omega)
  have e5 : ((i4.toUInt32 >>> ((1 : Int32) &&& 31).toUInt32).toInt32).toInt = i4.toInt / 2 ^ 1 := Jvm.Kit.i32_iushr (by rw [Int32.le_iff_toInt_le, show (0 : Int32).toInt = 0 by decide]; have := a4.1; have := own_pow_pos k4; omega) (by decide) (by decide)
  have e6 : i4.toInt / 2 ^ 1 = (k4 : Int) := by
    have k01 : k4 = 0 ∨ k4 = 1 := by omega
    obtain ⟨l1, l2⟩ := a4
    rcases k01 with rfl | rfl
    · simp at l1 l2 ⊢; omega
    · simp at l1 l2 ⊢; omega
  rw [e, Jvm.Kit.i32_sub (by omega) (by omega), e5, e6]
  omega
theorem own_nlzJ {x : Int64} {k : Nat} (h : own_lg x.toInt k) (hk : k ≤ 62) : (fnlzJ x).toInt = 63 - (k : Int) := by
  have p := own_pow_pos k
  have x0 : 0 < x.toInt := by have := h.1; omega
  have hh : (((x.toUInt64 >>> ((32 : Int32) &&& 0x3f).toInt64.toUInt64).toInt64)).toInt = x.toInt / 2 ^ 32 := Jvm.Kit.i64_lushr (by rw [Int64.le_iff_toInt_le, show (0 : Int64).toInt = 0 by decide]; omega) (by decide) (by decide)
  have x1 := Int64.toInt_lt x
  have hh2 : ((((x.toUInt64 >>> ((32 : Int32) &&& 0x3f).toInt64.toUInt64).toInt64)).toInt32).toInt = x.toInt / 2 ^ 32 := by
    rw [Jvm.Kit.i32_of_i64 (by rw [hh]; omega) (by rw [hh]; omega), hh]
  rw [fnlzJ]
  by_cases q : ((((x.toUInt64 >>> ((32 : Int32) &&& 0x3f).toInt64.toUInt64).toInt64)).toInt32) = (0 : Int32)
  · rw [if_pos q]
    rw [q, show (0 : Int32).toInt = 0 by decide] at hh2
    have xs : x.toInt < 2 ^ 32 := by omega
    have k32 := own_lg_lt h xs
    by_cases q2 : x.toInt < 2 ^ 31
    · have e : (x.toInt32).toInt = x.toInt := Jvm.Kit.i32_of_i64 (by omega) (by omega)
      have k31 := own_lg_lt h q2
      have := own_nlzI (x := x.toInt32) (k := k) (by rw [e]; exact h) (by omega)
      rw [Jvm.Kit.i32_add (by rw [this, show (32 : Int32).toInt = 32 by decide]; omega) (by rw [this, show (32 : Int32).toInt = 32 by decide]; omega), this, show (32 : Int32).toInt = 32 by decide]; omega
    · have k31 := own_lg_ge h (s := 31) (by omega)
      have e : (x.toInt32).toInt = x.toInt - 2 ^ 32 := by
        rw [Int64.toInt_toInt32, Int.bmod_def, Int.emod_eq_of_lt (by omega) (by omega), if_neg (by omega)]; rfl
      have n1 : ¬ (0 : Int32) < x.toInt32 := by rw [Int32.lt_iff_toInt_lt, e, show (0 : Int32).toInt = 0 by decide]; omega
      have n2 : ¬ x.toInt32 = (0 : Int32) := fun z => by rw [z, show (0 : Int32).toInt = 0 by decide] at e; omega
      rw [fnlzI, if_neg n1, if_neg n2, show ((32 : Int32) + (0 : Int32)).toInt = 32 by decide]; omega
  · rw [if_neg q]
    have hp : 1 ≤ x.toInt / 2 ^ 32 := by
      rcases Int.lt_or_le (x.toInt / 2 ^ 32) 1 with z | z
      · exact absurd (Int32.toInt_inj.mp (by rw [hh2, show (0 : Int32).toInt = 0 by decide]; omega)) q
      · exact z
    have k32 := own_lg_ge h (s := 32) (by omega)
    have := own_nlzI (k := k - 32) (by rw [hh2]; exact own_lg_div h k32) (by omega)
    rw [this]; omega
theorem own_shamt : ∀ s : Fin 44, (((Int32.ofNat s.val &&& 0x3f).toInt64).toBitVec.smod 64).toNat = s.val := by decide +kernel
/-- the bucket of x: her digits from the leading one on, eleven at the most -/
def own_at (x : Int) (s : Nat) : Prop := s ≤ 43 ∧ (s = 0 ∨ 1024 ≤ x / 2 ^ s) ∧ x / 2 ^ s < 2048
theorem own_index {x : Int64} (h0 : 0 ≤ x.toInt) (h1 : x.toInt < 2 ^ 54) : ∃ s : Nat, own_at x.toInt s ∧ (findex x).toInt = s * 1024 + x.toInt / 2 ^ s := by
  rcases Int.lt_or_le 0 x.toInt with xp | xp
  · obtain ⟨k, hk⟩ := own_lg_ex xp
    have k54 := own_lg_lt hk h1
    have n := own_nlzJ hk (by omega)
    have e1 : ((63 : Int32) - fnlzJ x).toInt = k := by
      rw [Jvm.Kit.i32_sub (by rw [n, show (63 : Int32).toInt = 63 by decide]; omega) (by rw [n, show (63 : Int32).toInt = 63 by decide]; omega), n, show (63 : Int32).toInt = 63 by decide]; omega
    have e2 : (((63 : Int32) - fnlzJ x) - (10 : Int32)).toInt = (k : Int) - 10 := by
      rw [Jvm.Kit.i32_sub (by rw [e1, show (10 : Int32).toInt = 10 by decide]; omega) (by rw [e1, show (10 : Int32).toInt = 10 by decide]; omega), e1, show (10 : Int32).toInt = 10 by decide]
    obtain ⟨s, hs⟩ : ∃ s : Nat, s = k - 10 := ⟨_, rfl⟩
    have e3 : fmaxI (0 : Int32) (((63 : Int32) - fnlzJ x) - (10 : Int32)) = Int32.ofNat s := by
      apply Int32.toInt_inj.mp
      rw [own_c32 (by omega), fmaxI]
      split
      · rename_i z; rw [Int32.lt_iff_toInt_lt, e2, show (0 : Int32).toInt = 0 by decide] at z; rw [e2]; omega
      · rename_i z; rw [Int32.lt_iff_toInt_lt, e2, show (0 : Int32).toInt = 0 by decide] at z; rw [show (0 : Int32).toInt = 0 by decide]; omega
    have hat : own_at x.toInt s := by
      refine ⟨by omega, ?_, ?_⟩
      · rcases Nat.eq_zero_or_pos s with z | z
        · exact Or.inl z
        · right
          have := (own_lg_div hk (show s ≤ k by omega)).1
          rw [show k - s = 10 by omega] at this; exact this
      · rcases Nat.eq_zero_or_pos s with z | z
        · have := Int.lt_of_lt_of_le hk.2 (own_pow_le (show k + 1 ≤ 11 by omega))
          rw [z, Int.pow_zero, Int.ediv_one]; omega
        · have := (own_lg_div hk (show s ≤ k by omega)).2
          rw [show k - s = 10 by omega] at this; exact this
    refine ⟨s, hat, ?_⟩
    have y0 : 0 ≤ x.toInt / 2 ^ s := Int.ediv_nonneg (by omega) (by have := own_pow_pos s; omega)
    have y1 := hat.2.2
    have e4 : (x >>> (Int32.ofNat s &&& 0x3f).toInt64).toInt = x.toInt / 2 ^ s := Jvm.Kit.i64_shr _ _ (own_shamt ⟨s, by omega⟩)
    have e5 : ((Int32.ofNat s).toInt64 * (1024 : Int64)).toInt = s * 1024 := by
      rw [Jvm.Kit.i64_mul (by rw [Int32.toInt_toInt64, own_c32 (by omega), show (1024 : Int64).toInt = 1024 by decide]; omega) (by rw [Int32.toInt_toInt64, own_c32 (by omega), show (1024 : Int64).toInt = 1024 by decide]; omega), Int32.toInt_toInt64, own_c32 (by omega), show (1024 : Int64).toInt = 1024 by decide]
    rw [findex, e3, Jvm.Kit.i32_of_i64 (by rw [Jvm.Kit.i64_add (by omega) (by omega), e4, e5]; omega) (by rw [Jvm.Kit.i64_add (by omega) (by omega), e4, e5]; omega), Jvm.Kit.i64_add (by omega) (by omega), e4, e5]
  · have : x = 0 := Int64.toInt_inj.mp (by rw [show (0 : Int64).toInt = 0 by decide]; omega)
    subst this
    exact ⟨0, ⟨by decide, Or.inl rfl, by decide⟩, by decide⟩
theorem own_td {x : Int} (h1 : -2 ^ 63 ≤ x) (h2 : x < 2 ^ 63) : x.tdiv 1000 < 2 ^ 54 := by
  rcases Int.lt_or_le x 0 with z | z
  · have : x.tdiv 1000 = -((-x).tdiv 1000) := by rw [Int.neg_tdiv, Int.neg_neg]
    rw [this, Int.tdiv_eq_ediv_of_nonneg (by omega)]; omega
  · rw [Int.tdiv_eq_ediv_of_nonneg z]; omega
theorem own_mi {q mi : Int64} (h : mi = fmaxJ (0 : Int64) ((q + (500 : Int64)) / (1000 : Int64))) : 0 ≤ mi.toInt ∧ mi.toInt < 2 ^ 54 := by
  have d : ((q + (500 : Int64)) / (1000 : Int64)).toInt = (q + (500 : Int64)).toInt.tdiv 1000 := Jvm.Kit.i64_div (fun h => absurd h.2 (by decide))
  rw [h, fmaxJ]
  have l := Int64.toInt_lt (q + (500 : Int64))
  have l2 := Int64.le_toInt (q + (500 : Int64))
  by_cases z : lcmpW (0 : Int64) ((q + (500 : Int64)) / (1000 : Int64)) < (0 : Int32)
  · rw [if_pos z]
    rw [lcW, lc_lt, Int64.lt_iff_toInt_lt, show (0 : Int64).toInt = 0 by decide] at z
    refine ⟨by omega, ?_⟩
    rw [d] at z ⊢
    exact own_td l2 l
  · rw [if_neg z]; decide
theorem own_ixb {mi : Int64} {ix : Int32} (P : 0 ≤ mi.toInt ∧ mi.toInt < 2 ^ 54) (h : ix = findex mi) : ¬ ix < 0 ∧ ix.toNatClampNeg < 55296 := by
  obtain ⟨s, ⟨a1, a2, a3⟩, e⟩ := own_index P.1 P.2
  have y0 : 0 ≤ mi.toInt / 2 ^ s := Int.ediv_nonneg P.1 (by have := own_pow_pos s; omega)
  rw [h, Int32.lt_iff_toInt_lt, own_tn, e, show (0 : Int32).toInt = 0 by decide]
  omega
def own_ixo (q : Int64) : Nat := (findex (fmaxJ (0 : Int64) ((q + (500 : Int64)) / (1000 : Int64)))).toNatClampNeg
def own_add (q : Int64) (G : Nat → Int64) : Nat → Int64 := fun i => if i = (findex (fmaxJ (0 : Int64) ((q + (500 : Int64)) / (1000 : Int64)))).toNatClampNeg then (G (findex (fmaxJ (0 : Int64) ((q + (500 : Int64)) / (1000 : Int64)))).toNatClampNeg) + (1 : Int64) else G i
theorem own_sum0n (n : Nat) : own_sum (fun _ => (0 : Int64)) n = 0 := by
  induction n with
  | zero => rfl
  | succ n ih => show own_sum _ n + 0 = 0; rw [ih]; rfl
theorem own_sum0 : own_sum (fun _ => (0 : Int64)) 55296 = 0 := own_sum0n _
theorem own_sum_upd (G : Nat → Int64) (j n : Nat) (d : Int64) : own_sum (fun i => if i = j then G j + d else G i) n = own_sum G n + (if j < n then d else 0) := by
  induction n with
  | zero => simp [own_sum]
  | succ n ih =>
    show own_sum _ n + (if n = j then G j + d else G n) = own_sum G n + G n + _
    rw [ih]
    by_cases h : n = j
    · subst h
      rw [if_neg (Nat.lt_irrefl _), if_pos rfl, if_pos (Nat.lt_succ_self _), Int64.add_zero, Int64.add_assoc]
    · by_cases h2 : j < n
      · rw [if_neg h, if_pos h2, if_pos (by omega), Int64.add_assoc, Int64.add_comm d, ← Int64.add_assoc]
      · rw [if_neg h, if_neg h2, if_neg (by omega), Int64.add_zero, Int64.add_zero]
theorem own_ixo_lt (q : Int64) : own_ixo q < 55296 := (own_ixb (own_mi rfl) rfl).2
theorem own_sum_add (q : Int64) (G : Nat → Int64) : own_sum (own_add q G) 55296 = own_sum G 55296 + 1 := by
  have := own_sum_upd G (own_ixo q) 55296 1
  rw [if_pos (own_ixo_lt q)] at this
  exact this
theorem dinit_0 : decode prog_10_method_1_code 0 = .ok (.aload_n 0, 1) := by decide +kernel
theorem dinit_1 : decode prog_10_method_1_code 1 = .ok (.invokespecial 3, 3) := by decide +kernel
theorem dinit_4 : decode prog_10_method_1_code 4 = .ok (.aload_n 0, 1) := by decide +kernel
theorem dinit_5 : decode prog_10_method_1_code 5 = .ok (.ldc 11, 2) := by decide +kernel
theorem dinit_7 : decode prog_10_method_1_code 7 = .ok (.newarray .long, 2) := by decide +kernel
theorem dinit_9 : decode prog_10_method_1_code 9 = .ok (.putfield 12, 3) := by decide +kernel
theorem dinit_12 : decode prog_10_method_1_code 12 = .ok (.return_, 1) := by decide +kernel
theorem pninit : plainName "com/example/rate_keeper/ratekeeper/server/bench/LatencyHistogram" = true := by first | (simp [plainName, overriddenIn]; done) | decide +kernel
theorem efinit (m : MethodId) (a0 : Addr) : entryFrame m #[(.ref a0)] 1 = mkF m 0 #[.val (.ref a0)] [] := by first | (simp [entryFrame, mkF, argsToLocals, Value.category]; done) | rfl
def Qinit (Z : State) (a0 : Addr) (u_counts_a0 : Value) (h0 : Heap) (n0 : Nat) (v : Option Value) (h : Heap) (L : List Loc) : Prop := v = none ∧ Fr n0 L ∧ Keep h0 h [a0] ∧ Exa Z h a0 "com/example/rate_keeper/ratekeeper/server/bench/LatencyHistogram" ∧ ∃ bb, n0 ≤ bb ∧ a0 ≠ bb ∧ Fld Z h a0 "com/example/rate_keeper/ratekeeper/server/bench/LatencyHistogram" "counts" "[J" (.ref bb) ∧ own_Ar Z h bb .long 55296 (fun i => .long ((fun _ => (0 : Int64)) i))
set_option maxRecDepth 65536 in
set_option maxHeartbeats 40000000 in
theorem rminit (l : Launch) (Z : State) (ar : Array Value) (hw : ∀ d ∈ tables_1, d.before ar Z = true) (ws : List Jvm.Cond) (a0 : Addr) (u_counts_a0 : Value) (h0 : Heap) (n0 : Nat) (O0 : Old Z n0 h0) (E_a0 : Exa Z h0 a0 "com/example/rate_keeper/ratekeeper/server/bench/LatencyHistogram") (g_a0 : n0 ≤ a0) (F_counts_a0 : Fld Z h0 a0 "com/example/rate_keeper/ratekeeper/server/bench/LatencyHistogram" "counts" "[J" u_counts_a0) :
    MetFree l (⟨"com/example/rate_keeper/ratekeeper/server/bench/LatencyHistogram", "<init>", "()V"⟩ : MethodName) (head1 (Jvm.Cond.code (⟨"com/example/rate_keeper/ratekeeper/server/bench/LatencyHistogram", "<init>", "()V"⟩ : MethodName) prog_10_method_1_code 1 none :: ws) ({ frames := 1, cells := 1, slots := 55296, locals := 12 } : Room)) (fun a U => a = #[(.ref a0)] ∧ Z.Warmed39 U.vm ∧ U.heap = h0) (fun _ _ _ _ _ => True) (fun _ U o U' => ∃ v L, o = .returned v ∧ Qinit Z a0 u_counts_a0 h0 n0 v U'.heap L ∧ FrameEnd U o U' L ({ frames := 1, cells := 1, slots := 55296, locals := 12 } : Room).cells ({ frames := 1, cells := 1, slots := 55296, locals := 12 } : Room).slots) := by
  refine MetFree.of_bodySF (plainFor_of_name pninit) hisR ?_
  intro p e s m args below meth c s₁ Bd hml0 hP hK
  obtain ⟨rfl, hZ, hh⟩ := hP
  have hx := Bd.exec
  have hby := Bd.bytes
  have hml : c.maxLocals = 1 := hml0
  have hown : s.vm.findClass "com/example/rate_keeper/ratekeeper/server/bench/LatencyHistogram" = some m.cls := findClass_of_methodNamed Bd.named
  have hnm := (name_of_methodNamed Bd.named Bd.method).1
  have hlk : meth.locks = false := BodyLoose.notSynchronized Bd
  have X0 : Stand p l e ({ frames := 1, cells := 1, slots := 55296, locals := 12 } : Room) s m #[(.ref a0)] below meth c s₁ [] 0 0 := Stand.of_body Bd
  have e0 : s₁.heap = h0 := by rw [← hh, Bd.state]; rfl
  have N0 := Fr.nil n0
  suffices hmain : own_Ends p e below s (Qinit Z a0 u_counts_a0 h0 n0) 1 55296 (s₁.setTop (mkF m 0 #[.val (.ref a0)] [])) by
    obtain ⟨U, o, h1, r⟩ := hmain
    exact ⟨U, o, castTop (efinit m a0) h1, r⟩
  show own_Ends _ _ _ _ _ _ _ (s₁.setTop (mkF m 0 #[.val (.ref a0)] []))
  refine own_go (fun _ k => XS.aloadN X0.here hx rfl (hb hby dinit_0) rfl rfl k) ?_
  show own_Ends _ _ _ _ _ _ _ (s₁.setTop (mkF m 1 #[.val (.ref a0)] [(.ref a0)]))
  obtain ⟨T1, X1, e1, st1⟩ := initO X0 hx hZ hown (hw _ (List.mem_of_getElem? (i := 7) rfl)) (hw _ (List.mem_of_getElem? (i := 8) rfl)) (hw _ (List.mem_of_getElem? (i := 9) rfl)) e0 (g := (mkF m 1 #[.val (.ref a0)] [(.ref a0)])) rfl (by rw [hml]; rfl) rfl (hb hby dinit_1) (by decide) (W := 0) (by show 2 * 0 + _ ≤ _; exact Nat.le_of_eq rfl) (by decide)
  refine own_go (fun _ k => st1 _ k) ?_
  show own_Ends _ _ _ _ _ _ _ (T1.setTop (mkF m 4 #[.val (.ref a0)] []))
  refine own_go (fun _ k => XS.aloadN X1.here hx rfl (hb hby dinit_4) rfl rfl k) ?_
  show own_Ends _ _ _ _ _ _ _ (T1.setTop (mkF m 5 #[.val (.ref a0)] [(.ref a0)]))
  refine own_go (fun _ k => X1.ldcInt hx hown (mvT hZ (hw _ (List.mem_of_getElem? (i := 10) rfl))) (g := (mkF m 5 #[.val (.ref a0)] [(.ref a0)])) rfl (hb hby dinit_5) _ k) ?_
  show own_Ends _ _ _ _ _ _ _ (T1.setTop (mkF m 7 #[.val (.ref a0)] [(.int (55296 : Int32)), (.ref a0)]))
  obtain ⟨T2, h2, k2, X2, e2, E2, A2, st2⟩ := newP X1 hx hZ (hw _ (List.mem_of_getElem? (i := 11) rfl)) e1 (g := (mkF m 7 #[.val (.ref a0)] [(.int (55296 : Int32)), (.ref a0)])) rfl (hb hby dinit_7) rfl (by decide) (cap := 55296) (by decide) (by decide) (by decide) (by decide)
  obtain ⟨b2, q_b2⟩ : ∃ z, z = h0.size := ⟨_, rfl⟩
  rw [← q_b2] at A2 st2
  have g_b2 : n0 ≤ b2 := Nat.le_trans (own_sz O0) (Nat.le_of_eq q_b2.symm)
  have ne_a0_b2 : a0 ≠ b2 := Nat.ne_of_lt (Nat.lt_of_lt_of_le E_a0.lt (Nat.le_of_eq q_b2.symm))
  refine own_go (fun _ k => st2 _ k) ?_
  have F3 : Exa Z h2 a0 "com/example/rate_keeper/ratekeeper/server/bench/LatencyHistogram" := (Exa.ext E2 E_a0)
  have F4 : Fld Z h2 a0 "com/example/rate_keeper/ratekeeper/server/bench/LatencyHistogram" "counts" "[J" u_counts_a0 := (Fld.ext E2 F_counts_a0)
  have F5 : Old Z n0 h2 := (O0.ext E2)
  have K6 : Keep h0 h2 [a0] := (Keep.refl h0 [a0]).ext E2
  have F7 : own_Ar Z h2 b2 .long 55296 (fun i => .long ((fun _ => (0 : Int64)) i)) := own_Ar.newJ A2 (by decide)
  show own_Ends _ _ _ _ _ _ _ (T2.setTop (mkF m 9 #[.val (.ref a0)] [(.ref b2), (.ref a0)]))
  obtain ⟨T8, h8, X8, e8, W8, st8⟩ := putF X2 hx hZ hown (host := "") (Or.inl (hw _ (List.mem_of_getElem? (i := 12) rfl))) Via.refl e2 F4 F3 (Or.inr ⟨(hw _ (List.mem_of_getElem? (i := 13) rfl)), rfl, hnm⟩) (hw _ (List.mem_of_getElem? (i := 2) rfl)) (ty := (.array .long)) (by decide) rfl rfl (g := (mkF m 9 #[.val (.ref a0)] [(.ref b2), (.ref a0)])) rfl rfl (hb hby dinit_9)
  refine own_go (fun _ k => st8 _ k) ?_
  have N8 := Fr.snoc X8 N0 g_a0
  have F9 : Exa Z h8 a0 "com/example/rate_keeper/ratekeeper/server/bench/LatencyHistogram" := (Exa.wr W8 F3)
  have F10 : Old Z n0 h8 := (F5.wr W8 g_a0)
  have F11 : own_Ar Z h8 b2 .long 55296 (fun i => .long ((fun _ => (0 : Int64)) i)) := (F7.other W8 (Ne.symm ne_a0_b2))
  have F12 : Fld Z h8 a0 "com/example/rate_keeper/ratekeeper/server/bench/LatencyHistogram" "counts" "[J" (.ref b2) := Fld.same W8 F4
  have K13 : Keep h0 h8 [a0] := K6.wr W8 (Or.inl (List.mem_of_getElem? (i := 0) rfl))
  show own_Ends _ _ _ _ _ _ _ (T8.setTop (mkF m 12 #[.val (.ref a0)] []))
  exact own_retV X8 hx hlk Bd.returns (hb hby dinit_12) (by decide) (by decide) (by rw [e8]; exact ⟨rfl, N8, K13, F9, b2, g_b2, ne_a0_b2, F12, F11⟩)
theorem drec_0 : decode prog_10_method_2_code 0 = .ok (.lconst 0, 1) := by decide +kernel
theorem drec_1 : decode prog_10_method_2_code 1 = .ok (.lload_n 1, 1) := by decide +kernel
theorem drec_2 : decode prog_10_method_2_code 2 = .ok (.ldc2_w 16, 3) := by decide +kernel
theorem drec_5 : decode prog_10_method_2_code 5 = .ok (.ladd, 1) := by decide +kernel
theorem drec_6 : decode prog_10_method_2_code 6 = .ok (.ldc2_w 18, 3) := by decide +kernel
theorem drec_9 : decode prog_10_method_2_code 9 = .ok (.ldiv, 1) := by decide +kernel
theorem drec_10 : decode prog_10_method_2_code 10 = .ok (.invokestatic 20, 3) := by decide +kernel
theorem drec_13 : decode prog_10_method_2_code 13 = .ok (.lstore_n 3, 1) := by decide +kernel
theorem drec_14 : decode prog_10_method_2_code 14 = .ok (.aload_n 0, 1) := by decide +kernel
theorem drec_15 : decode prog_10_method_2_code 15 = .ok (.getfield 12, 3) := by decide +kernel
theorem drec_18 : decode prog_10_method_2_code 18 = .ok (.lload_n 3, 1) := by decide +kernel
theorem drec_19 : decode prog_10_method_2_code 19 = .ok (.invokestatic 26, 3) := by decide +kernel
theorem drec_22 : decode prog_10_method_2_code 22 = .ok (.dup2, 1) := by decide +kernel
theorem drec_23 : decode prog_10_method_2_code 23 = .ok (.laload, 1) := by decide +kernel
theorem drec_24 : decode prog_10_method_2_code 24 = .ok (.lconst 1, 1) := by decide +kernel
theorem drec_25 : decode prog_10_method_2_code 25 = .ok (.ladd, 1) := by decide +kernel
theorem drec_26 : decode prog_10_method_2_code 26 = .ok (.lastore, 1) := by decide +kernel
theorem drec_27 : decode prog_10_method_2_code 27 = .ok (.return_, 1) := by decide +kernel
theorem pnrec : plainName "com/example/rate_keeper/ratekeeper/server/bench/LatencyHistogram" = true := by first | (simp [plainName, overriddenIn]; done) | decide +kernel
theorem pdrec_0 : parseMethodDescriptor "(JJ)J" = some ⟨[.long, .long], some .long⟩ := by decide +kernel
theorem pdrec_1 : parseMethodDescriptor "(J)I" = some ⟨[.long], some .int⟩ := by decide +kernel
theorem efrec (m : MethodId) (a0 : Addr) (q1 : Int64) : entryFrame m #[(.ref a0), (.long q1)] 5 = mkF m 0 #[.val (.ref a0), .val (.long q1), .second, .unset, .unset] [] := by first | (simp [entryFrame, mkF, argsToLocals, Value.category]; done) | rfl
def Qrec (Z : State) (a0 : Addr) (q1 : Int64) (bb : Addr) (GG : Nat → Int64) (h0 : Heap) (n0 : Nat) (v : Option Value) (h : Heap) (L : List Loc) : Prop := v = none ∧ Fr n0 L ∧ Keep h0 h [bb] ∧ Exa Z h a0 "com/example/rate_keeper/ratekeeper/server/bench/LatencyHistogram" ∧ Fld Z h a0 "com/example/rate_keeper/ratekeeper/server/bench/LatencyHistogram" "counts" "[J" (.ref bb) ∧ own_Ar Z h bb .long 55296 (fun i => .long ((own_add q1 GG) i))
set_option maxRecDepth 65536 in
set_option maxHeartbeats 40000000 in
theorem rmrec (l : Launch) (Z : State) (ar : Array Value) (hw : ∀ d ∈ tables_1, d.before ar Z = true) (ws : List Jvm.Cond) (a0 : Addr) (q1 : Int64) (bb : Addr) (GG : Nat → Int64) (h0 : Heap) (n0 : Nat) (O0 : Old Z n0 h0) (E_a0 : Exa Z h0 a0 "com/example/rate_keeper/ratekeeper/server/bench/LatencyHistogram") (F_counts_a0 : Fld Z h0 a0 "com/example/rate_keeper/ratekeeper/server/bench/LatencyHistogram" "counts" "[J" (.ref bb)) (A_bb : own_Ar Z h0 bb .long 55296 (fun i => .long (GG i))) (g_bb : n0 ≤ bb) (ne_bb : a0 ≠ bb) :
    MetFree l (⟨"com/example/rate_keeper/ratekeeper/server/bench/LatencyHistogram", "record", "(J)V"⟩ : MethodName) (head1 (Jvm.Cond.code (⟨"com/example/rate_keeper/ratekeeper/server/bench/LatencyHistogram", "record", "(J)V"⟩ : MethodName) prog_10_method_2_code 5 none :: ws) ({ frames := 3, cells := 0, slots := 0, locals := 45 } : Room)) (fun a U => a = #[(.ref a0), (.long q1)] ∧ Z.Warmed39 U.vm ∧ U.heap = h0) (fun _ _ _ _ _ => True) (fun _ U o U' => ∃ v L, o = .returned v ∧ Qrec Z a0 q1 bb GG h0 n0 v U'.heap L ∧ FrameEnd U o U' L ({ frames := 3, cells := 0, slots := 0, locals := 45 } : Room).cells ({ frames := 3, cells := 0, slots := 0, locals := 45 } : Room).slots) := by
  refine MetFree.of_bodySF (plainFor_of_name pnrec) hisR ?_
  intro p e s m args below meth c s₁ Bd hml0 hP hK
  obtain ⟨rfl, hZ, hh⟩ := hP
  have hx := Bd.exec
  have hby := Bd.bytes
  have hml : c.maxLocals = 5 := hml0
  have hown : s.vm.findClass "com/example/rate_keeper/ratekeeper/server/bench/LatencyHistogram" = some m.cls := findClass_of_methodNamed Bd.named
  have hnm := (name_of_methodNamed Bd.named Bd.method).1
  have hlk : meth.locks = false := BodyLoose.notSynchronized Bd
  have X0 : Stand p l e ({ frames := 3, cells := 0, slots := 0, locals := 45 } : Room) s m #[(.ref a0), (.long q1)] below meth c s₁ [] 0 0 := Stand.of_body Bd
  have e0 : s₁.heap = h0 := by rw [← hh, Bd.state]; rfl
  have N0 := Fr.nil n0
  suffices hmain : own_Ends p e below s (Qrec Z a0 q1 bb GG h0 n0) 0 0 (s₁.setTop (mkF m 0 #[.val (.ref a0), .val (.long q1), .second, .unset, .unset] [])) by
    obtain ⟨U, o, h1, r⟩ := hmain
    exact ⟨U, o, castTop (efrec m a0 q1) h1, r⟩
  show own_Ends _ _ _ _ _ _ _ (s₁.setTop (mkF m 0 #[.val (.ref a0), .val (.long q1), .second, .unset, .unset] []))
  refine own_go (fun _ k => XS.lconst X0.here hx rfl (hb hby drec_0) k) ?_
  show own_Ends _ _ _ _ _ _ _ (s₁.setTop (mkF m 1 #[.val (.ref a0), .val (.long q1), .second, .unset, .unset] [(.long (0 : Int64))]))
  refine own_go (fun _ k => XS.lloadN X0.here hx rfl (hb hby drec_1) rfl k) ?_
  show own_Ends _ _ _ _ _ _ _ (s₁.setTop (mkF m 2 #[.val (.ref a0), .val (.long q1), .second, .unset, .unset] [(.long q1), (.long (0 : Int64))]))
  refine own_go (fun _ k => X0.ldc2Long hx hown (mvT hZ (hw _ (List.mem_of_getElem? (i := 28) rfl))) (g := (mkF m 2 #[.val (.ref a0), .val (.long q1), .second, .unset, .unset] [(.long q1), (.long (0 : Int64))])) rfl (hb hby drec_2) _ k) ?_
  show own_Ends _ _ _ _ _ _ _ (s₁.setTop (mkF m 5 #[.val (.ref a0), .val (.long q1), .second, .unset, .unset] [(.long (500 : Int64)), (.long q1), (.long (0 : Int64))]))
  refine own_go (fun _ k => XS.ladd X0.here hx rfl (hb hby drec_5) rfl k) ?_
  show own_Ends _ _ _ _ _ _ _ (s₁.setTop (mkF m 6 #[.val (.ref a0), .val (.long q1), .second, .unset, .unset] [(.long (q1 + (500 : Int64))), (.long (0 : Int64))]))
  refine own_go (fun _ k => X0.ldc2Long hx hown (mvT hZ (hw _ (List.mem_of_getElem? (i := 29) rfl))) (g := (mkF m 6 #[.val (.ref a0), .val (.long q1), .second, .unset, .unset] [(.long (q1 + (500 : Int64))), (.long (0 : Int64))])) rfl (hb hby drec_6) _ k) ?_
  show own_Ends _ _ _ _ _ _ _ (s₁.setTop (mkF m 9 #[.val (.ref a0), .val (.long q1), .second, .unset, .unset] [(.long (1000 : Int64)), (.long (q1 + (500 : Int64))), (.long (0 : Int64))]))
  refine own_go (fun _ k => XS.ldiv X0.here hx rfl (hb hby drec_9) rfl (by decide) k) ?_
  show own_Ends _ _ _ _ _ _ _ (s₁.setTop (mkF m 10 #[.val (.ref a0), .val (.long q1), .second, .unset, .unset] [(.long ((q1 + (500 : Int64)) / (1000 : Int64))), (.long (0 : Int64))]))
  obtain ⟨_, _, ⟨T1, L1, k1, n1⟩, -, X1, ⟨Lc1, hQ1, l1, y1, z1⟩, st1⟩ := Jvm.LawKit.callS X0 hx (y := (⟨"java/lang/Math", "max", "(JJ)J"⟩ : MethodName)) hown (mvT hZ (hw _ (List.mem_of_getElem? (i := 30) rfl))) (mvT hZ (hw _ (List.mem_of_getElem? (i := 31) rfl))) (mvT hZ (hw _ (List.mem_of_getElem? (i := 32) rfl))) (mvT hZ (hw _ (List.mem_of_getElem? (i := 33) rfl))) (by decide) (backOf (W := 0) (rmmaxJ l Z ar hw [] (0 : Int64) ((q1 + (500 : Int64)) / (1000 : Int64)) h0 n0 O0) hZ (hw _ (List.mem_of_getElem? (i := 33) rfl)) (hw _ (List.mem_of_getElem? (i := 32) rfl)) (by decide) (by decide)) (g := (mkF m 10 #[.val (.ref a0), .val (.long q1), .second, .unset, .unset] [(.long ((q1 + (500 : Int64)) / (1000 : Int64))), (.long (0 : Int64))])) rfl (by rw [hml]; rfl) (argsL := [(.long (0 : Int64)), (.long ((q1 + (500 : Int64)) / (1000 : Int64)))]) (rest := []) (lenOf pdrec_0 rfl) rfl (by show 2 * 0 + _ ≤ _; exact Nat.le_of_eq rfl) (hb hby drec_10) (fun _ _ => ⟨rfl, e0, (by decide : 0 + 0 ≤ _), (by decide : 0 + 0 ≤ _)⟩)
  dsimp only [Pt.U, Pt.locs, Pt.cells, Pt.slots] at X1 l1 y1 z1 st1 hQ1
  subst l1 y1 z1
  obtain ⟨rfl, N1q, eq1⟩ := hQ1
  have e1 : T1.heap = h0 := eq1
  have N1 := Fr.app N0 N1q
  refine own_go (fun _ k => st1 _ k) ?_
  show own_Ends _ _ _ _ _ _ _ (T1.setTop (mkF m 13 #[.val (.ref a0), .val (.long q1), .second, .unset, .unset] [(.long (fmaxJ (0 : Int64) ((q1 + (500 : Int64)) / (1000 : Int64))))]))
  refine own_go (fun _ k => XS.lstoreN X1.here hx rfl (hb hby drec_13) rfl (l' := #[.val (.ref a0), .val (.long q1), .second, .val (.long (fmaxJ (0 : Int64) ((q1 + (500 : Int64)) / (1000 : Int64)))), .second]) rfl k) ?_
  suffices hjmi : ∀ mi : Int64, mi = (fmaxJ (0 : Int64) ((q1 + (500 : Int64)) / (1000 : Int64))) → own_Ends p e below s (Qrec Z a0 q1 bb GG h0 n0) 0 0 (T1.setTop (mkF m 14 #[.val (.ref a0), .val (.long q1), .second, .val (.long mi), .second] [])) by exact hjmi _ rfl
  intro mi hmi
  have Pmi := own_mi hmi
  show own_Ends _ _ _ _ _ _ _ (T1.setTop (mkF m 14 #[.val (.ref a0), .val (.long q1), .second, .val (.long mi), .second] []))
  refine own_go (fun _ k => XS.aloadN X1.here hx rfl (hb hby drec_14) rfl rfl k) ?_
  show own_Ends _ _ _ _ _ _ _ (T1.setTop (mkF m 15 #[.val (.ref a0), .val (.long q1), .second, .val (.long mi), .second] [(.ref a0)]))
  obtain ⟨T2, X2, e2, st2⟩ := getF X1 hx hZ hown (host := "") (Or.inl (hw _ (List.mem_of_getElem? (i := 12) rfl))) Via.refl e1 F_counts_a0 (g := (mkF m 15 #[.val (.ref a0), .val (.long q1), .second, .val (.long mi), .second] [(.ref a0)])) rfl rfl (hb hby drec_15)
  refine own_go (fun _ k => st2 _ k) ?_
  show own_Ends _ _ _ _ _ _ _ (T2.setTop (mkF m 18 #[.val (.ref a0), .val (.long q1), .second, .val (.long mi), .second] [(.ref bb)]))
  refine own_go (fun _ k => XS.lloadN X2.here hx rfl (hb hby drec_18) rfl k) ?_
  show own_Ends _ _ _ _ _ _ _ (T2.setTop (mkF m 19 #[.val (.ref a0), .val (.long q1), .second, .val (.long mi), .second] [(.long mi), (.ref bb)]))
  obtain ⟨_, _, ⟨T3, L3, k3, n3⟩, -, X3, ⟨Lc3, hQ3, l3, y3, z3⟩, st3⟩ := Jvm.LawKit.callS X2 hx (y := (⟨"com/example/rate_keeper/ratekeeper/server/bench/LatencyHistogram", "index", "(J)I"⟩ : MethodName)) hown (mvT hZ (hw _ (List.mem_of_getElem? (i := 34) rfl))) (mvT hZ (hw _ (List.mem_of_getElem? (i := 35) rfl))) (mvT hZ (hw _ (List.mem_of_getElem? (i := 3) rfl))) (mvT hZ (hw _ (List.mem_of_getElem? (i := 36) rfl))) (by decide) (backOf (W := 1) (rmindex l Z ar hw [] mi h0 n0 O0) hZ (hw _ (List.mem_of_getElem? (i := 36) rfl)) (hw _ (List.mem_of_getElem? (i := 3) rfl)) (by decide) (by decide)) (g := (mkF m 19 #[.val (.ref a0), .val (.long q1), .second, .val (.long mi), .second] [(.long mi), (.ref bb)])) rfl (by rw [hml]; rfl) (argsL := [(.long mi)]) (rest := [(.ref bb)]) (lenOf pdrec_1 rfl) rfl (by show 2 * 0 + _ ≤ _; exact Nat.le_of_eq rfl) (hb hby drec_19) (fun _ _ => ⟨rfl, e2, (by decide : 0 + 0 ≤ _), (by decide : 0 + 0 ≤ _)⟩)
  dsimp only [Pt.U, Pt.locs, Pt.cells, Pt.slots] at X3 l3 y3 z3 st3 hQ3
  subst l3 y3 z3
  obtain ⟨rfl, N3q, eq3⟩ := hQ3
  have e3 : T3.heap = h0 := eq3
  have N3 := Fr.app N1 N3q
  refine own_go (fun _ k => st3 _ k) ?_
  suffices hjix : ∀ ix : Int32, ix = (findex mi) → own_Ends p e below s (Qrec Z a0 q1 bb GG h0 n0) 0 0 (T3.setTop (mkF m 22 #[.val (.ref a0), .val (.long q1), .second, .val (.long mi), .second] [(.int ix), (.ref bb)])) by exact hjix _ rfl
  intro ix hix
  have Pix := own_ixb Pmi hix
  show own_Ends _ _ _ _ _ _ _ (T3.setTop (mkF m 22 #[.val (.ref a0), .val (.long q1), .second, .val (.long mi), .second] [(.int ix), (.ref bb)]))
  refine own_go (fun _ k => XT.dup2 X3.here hx rfl (hb hby drec_22) rfl rfl rfl k) ?_
  show own_Ends _ _ _ _ _ _ _ (T3.setTop (mkF m 23 #[.val (.ref a0), .val (.long q1), .second, .val (.long mi), .second] [(.int ix), (.ref bb), (.int ix), (.ref bb)]))
  obtain ⟨c4, A4, i4, v4⟩ := own_Ar.at A_bb ix Pix.1 Pix.2
  refine own_go (fun _ k => X3.laload hx (by rw [e3]; exact A4.1) (State.isArrayOf_alike hZ.alike A4.2.1) A4.2.2 i4 v4 (g := (mkF m 23 #[.val (.ref a0), .val (.long q1), .second, .val (.long mi), .second] [(.int ix), (.ref bb), (.int ix), (.ref bb)])) rfl rfl (hb hby drec_23) _ k) ?_
  show own_Ends _ _ _ _ _ _ _ (T3.setTop (mkF m 24 #[.val (.ref a0), .val (.long q1), .second, .val (.long mi), .second] [(.long (GG (ix).toNatClampNeg)), (.int ix), (.ref bb)]))
  refine own_go (fun _ k => XS.lconst X3.here hx rfl (hb hby drec_24) k) ?_
  show own_Ends _ _ _ _ _ _ _ (T3.setTop (mkF m 25 #[.val (.ref a0), .val (.long q1), .second, .val (.long mi), .second] [(.long (1 : Int64)), (.long (GG (ix).toNatClampNeg)), (.int ix), (.ref bb)]))
  refine own_go (fun _ k => XS.ladd X3.here hx rfl (hb hby drec_25) rfl k) ?_
  show own_Ends _ _ _ _ _ _ _ (T3.setTop (mkF m 26 #[.val (.ref a0), .val (.long q1), .second, .val (.long mi), .second] [(.long ((GG (ix).toNatClampNeg) + (1 : Int64))), (.int ix), (.ref bb)]))
  obtain ⟨c5, A5, i5, -⟩ := own_Ar.at A_bb ix Pix.1 Pix.2
  obtain ⟨T5, h5, X5, e5, W5, st5⟩ := stJ X3 hx hZ e3 A5 (j := ix) i5 (g := (mkF m 26 #[.val (.ref a0), .val (.long q1), .second, .val (.long mi), .second] [(.long ((GG (ix).toNatClampNeg) + (1 : Int64))), (.int ix), (.ref bb)])) rfl rfl (hb hby drec_26)
  refine own_go (fun _ k => st5 _ k) ?_
  have N5 := Fr.snoc X5 N3 g_bb
  have F6 : Exa Z h5 a0 "com/example/rate_keeper/ratekeeper/server/bench/LatencyHistogram" := (Exa.wr W5 E_a0)
  have F7 : Fld Z h5 a0 "com/example/rate_keeper/ratekeeper/server/bench/LatencyHistogram" "counts" "[J" (.ref bb) := (Fld.other W5 F_counts_a0 (Or.inl ne_bb))
  have F8 : Old Z n0 h5 := (O0.wr W5 g_bb)
  have F9 : own_Ar Z h5 bb .long 55296 (fun i => .long ((fun i => if i = (ix).toNatClampNeg then ((GG (ix).toNatClampNeg) + (1 : Int64)) else GG i) i)) := own_Ar.setJ A_bb W5
  show own_Ends _ _ _ _ _ _ _ (T5.setTop (mkF m 27 #[.val (.ref a0), .val (.long q1), .second, .val (.long mi), .second] []))
  exact own_retV X5 hx hlk Bd.returns (hb hby drec_27) (by decide) (by decide) (by rw [e5]; subst hix hmi; exact ⟨rfl, N5, (Keep.of_wr W5), F6, F7, F9⟩)
def fcount (a0 : Addr) (bb : Addr) (GG : Nat → Int64) : Int64 := own_sum GG 55296
theorem dcount_0 : decode prog_10_method_3_code 0 = .ok (.lconst 0, 1) := by decide +kernel
theorem dcount_1 : decode prog_10_method_3_code 1 = .ok (.lstore_n 1, 1) := by decide +kernel
theorem dcount_2 : decode prog_10_method_3_code 2 = .ok (.aload_n 0, 1) := by decide +kernel
theorem dcount_3 : decode prog_10_method_3_code 3 = .ok (.getfield 12, 3) := by decide +kernel
theorem dcount_6 : decode prog_10_method_3_code 6 = .ok (.astore_n 3, 1) := by decide +kernel
theorem dcount_7 : decode prog_10_method_3_code 7 = .ok (.aload_n 3, 1) := by decide +kernel
theorem dcount_8 : decode prog_10_method_3_code 8 = .ok (.arraylength, 1) := by decide +kernel
theorem dcount_9 : decode prog_10_method_3_code 9 = .ok (.istore 4, 2) := by decide +kernel
theorem dcount_11 : decode prog_10_method_3_code 11 = .ok (.iconst 0, 1) := by decide +kernel
theorem dcount_12 : decode prog_10_method_3_code 12 = .ok (.istore 5, 2) := by decide +kernel
theorem dcount_14 : decode prog_10_method_3_code 14 = .ok (.iload 5, 2) := by decide +kernel
theorem dcount_16 : decode prog_10_method_3_code 16 = .ok (.iload 4, 2) := by decide +kernel
theorem dcount_18 : decode prog_10_method_3_code 18 = .ok (.if_icmp .ge 20, 3) := by decide +kernel
theorem dcount_21 : decode prog_10_method_3_code 21 = .ok (.aload_n 3, 1) := by decide +kernel
theorem dcount_22 : decode prog_10_method_3_code 22 = .ok (.iload 5, 2) := by decide +kernel
theorem dcount_24 : decode prog_10_method_3_code 24 = .ok (.laload, 1) := by decide +kernel
theorem dcount_25 : decode prog_10_method_3_code 25 = .ok (.lstore 6, 2) := by decide +kernel
theorem dcount_27 : decode prog_10_method_3_code 27 = .ok (.lload_n 1, 1) := by decide +kernel
theorem dcount_28 : decode prog_10_method_3_code 28 = .ok (.lload 6, 2) := by decide +kernel
theorem dcount_30 : decode prog_10_method_3_code 30 = .ok (.ladd, 1) := by decide +kernel
theorem dcount_31 : decode prog_10_method_3_code 31 = .ok (.lstore_n 1, 1) := by decide +kernel
theorem dcount_32 : decode prog_10_method_3_code 32 = .ok (.iinc 5 1, 3) := by decide +kernel
theorem dcount_35 : decode prog_10_method_3_code 35 = .ok (.goto (-21), 3) := by decide +kernel
theorem dcount_38 : decode prog_10_method_3_code 38 = .ok (.lload_n 1, 1) := by decide +kernel
theorem dcount_39 : decode prog_10_method_3_code 39 = .ok (.lreturn, 1) := by decide +kernel
theorem pncount : plainName "com/example/rate_keeper/ratekeeper/server/bench/LatencyHistogram" = true := by first | (simp [plainName, overriddenIn]; done) | decide +kernel
theorem efcount (m : MethodId) (a0 : Addr) : entryFrame m #[(.ref a0)] 8 = mkF m 0 #[.val (.ref a0), .unset, .unset, .unset, .unset, .unset, .unset, .unset] [] := by first | (simp [entryFrame, mkF, argsToLocals, Value.category]; done) | rfl
def Qcount (Z : State) (a0 : Addr) (bb : Addr) (GG : Nat → Int64) (h0 : Heap) (n0 : Nat) (v : Option Value) (h : Heap) (L : List Loc) : Prop := v = some (.long (own_sum GG 55296)) ∧ Fr n0 L ∧ h = h0
set_option maxRecDepth 65536 in
set_option maxHeartbeats 40000000 in
theorem rmcount (l : Launch) (Z : State) (ar : Array Value) (hw : ∀ d ∈ tables_1, d.before ar Z = true) (ws : List Jvm.Cond) (a0 : Addr) (bb : Addr) (GG : Nat → Int64) (h0 : Heap) (n0 : Nat) (O0 : Old Z n0 h0) (E_a0 : Exa Z h0 a0 "com/example/rate_keeper/ratekeeper/server/bench/LatencyHistogram") (F_counts_a0 : Fld Z h0 a0 "com/example/rate_keeper/ratekeeper/server/bench/LatencyHistogram" "counts" "[J" (.ref bb)) (A_bb : own_Ar Z h0 bb .long 55296 (fun i => .long (GG i))) :
    MetFree l (⟨"com/example/rate_keeper/ratekeeper/server/bench/LatencyHistogram", "count", "()J"⟩ : MethodName) (head1 (Jvm.Cond.code (⟨"com/example/rate_keeper/ratekeeper/server/bench/LatencyHistogram", "count", "()J"⟩ : MethodName) prog_10_method_3_code 8 (some .long) :: ws) ({ frames := 0, cells := 0, slots := 0, locals := 0 } : Room)) (fun a U => a = #[(.ref a0)] ∧ Z.Warmed39 U.vm ∧ U.heap = h0) (fun _ _ _ _ _ => True) (fun _ U o U' => ∃ v L, o = .returned v ∧ Qcount Z a0 bb GG h0 n0 v U'.heap L ∧ FrameEnd U o U' L ({ frames := 0, cells := 0, slots := 0, locals := 0 } : Room).cells ({ frames := 0, cells := 0, slots := 0, locals := 0 } : Room).slots) := by
  refine MetFree.of_bodySF (plainFor_of_name pncount) hisR ?_
  intro p e s m args below meth c s₁ Bd hml0 hP hK
  obtain ⟨rfl, hZ, hh⟩ := hP
  have hx := Bd.exec
  have hby := Bd.bytes
  have hml : c.maxLocals = 8 := hml0
  have hown : s.vm.findClass "com/example/rate_keeper/ratekeeper/server/bench/LatencyHistogram" = some m.cls := findClass_of_methodNamed Bd.named
  have hnm := (name_of_methodNamed Bd.named Bd.method).1
  have hlk : meth.locks = false := BodyLoose.notSynchronized Bd
  have X0 : Stand p l e ({ frames := 0, cells := 0, slots := 0, locals := 0 } : Room) s m #[(.ref a0)] below meth c s₁ [] 0 0 := Stand.of_body Bd
  have e0 : s₁.heap = h0 := by rw [← hh, Bd.state]; rfl
  have N0 := Fr.nil n0
  suffices hmain : own_Ends p e below s (Qcount Z a0 bb GG h0 n0) 0 0 (s₁.setTop (mkF m 0 #[.val (.ref a0), .unset, .unset, .unset, .unset, .unset, .unset, .unset] [])) by
    obtain ⟨U, o, h1, r⟩ := hmain
    exact ⟨U, o, castTop (efcount m a0) h1, r⟩
  show own_Ends _ _ _ _ _ _ _ (s₁.setTop (mkF m 0 #[.val (.ref a0), .unset, .unset, .unset, .unset, .unset, .unset, .unset] []))
  refine own_go (fun _ k => XS.lconst X0.here hx rfl (hb hby dcount_0) k) ?_
  show own_Ends _ _ _ _ _ _ _ (s₁.setTop (mkF m 1 #[.val (.ref a0), .unset, .unset, .unset, .unset, .unset, .unset, .unset] [(.long (0 : Int64))]))
  refine own_go (fun _ k => XS.lstoreN X0.here hx rfl (hb hby dcount_1) rfl (l' := #[.val (.ref a0), .val (.long (0 : Int64)), .second, .unset, .unset, .unset, .unset, .unset]) rfl k) ?_
  show own_Ends _ _ _ _ _ _ _ (s₁.setTop (mkF m 2 #[.val (.ref a0), .val (.long (0 : Int64)), .second, .unset, .unset, .unset, .unset, .unset] []))
  refine own_go (fun _ k => XS.aloadN X0.here hx rfl (hb hby dcount_2) rfl rfl k) ?_
  show own_Ends _ _ _ _ _ _ _ (s₁.setTop (mkF m 3 #[.val (.ref a0), .val (.long (0 : Int64)), .second, .unset, .unset, .unset, .unset, .unset] [(.ref a0)]))
  obtain ⟨T1, X1, e1, st1⟩ := getF X0 hx hZ hown (host := "") (Or.inl (hw _ (List.mem_of_getElem? (i := 12) rfl))) Via.refl e0 F_counts_a0 (g := (mkF m 3 #[.val (.ref a0), .val (.long (0 : Int64)), .second, .unset, .unset, .unset, .unset, .unset] [(.ref a0)])) rfl rfl (hb hby dcount_3)
  refine own_go (fun _ k => st1 _ k) ?_
  show own_Ends _ _ _ _ _ _ _ (T1.setTop (mkF m 6 #[.val (.ref a0), .val (.long (0 : Int64)), .second, .unset, .unset, .unset, .unset, .unset] [(.ref bb)]))
  refine own_go (fun _ k => XS.astoreN X1.here hx rfl (hb hby dcount_6) rfl rfl (l' := #[.val (.ref a0), .val (.long (0 : Int64)), .second, .val (.ref bb), .unset, .unset, .unset, .unset]) rfl k) ?_
  show own_Ends _ _ _ _ _ _ _ (T1.setTop (mkF m 7 #[.val (.ref a0), .val (.long (0 : Int64)), .second, .val (.ref bb), .unset, .unset, .unset, .unset] []))
  refine own_go (fun _ k => XS.aloadN X1.here hx rfl (hb hby dcount_7) rfl rfl k) ?_
  show own_Ends _ _ _ _ _ _ _ (T1.setTop (mkF m 8 #[.val (.ref a0), .val (.long (0 : Int64)), .second, .val (.ref bb), .unset, .unset, .unset, .unset] [(.ref bb)]))
  obtain ⟨c2, A2, l2⟩ := own_Ar.len A_bb
  refine own_go (fun _ k => X1.arraylength hx (by rw [e1]; exact A2.1) (State.isArrayOf_alike hZ.alike A2.2.1) (g := (mkF m 8 #[.val (.ref a0), .val (.long (0 : Int64)), .second, .val (.ref bb), .unset, .unset, .unset, .unset] [(.ref bb)])) rfl rfl (hb hby dcount_8) _ k) ?_
  rw [l2]
  show own_Ends _ _ _ _ _ _ _ (T1.setTop (mkF m 9 #[.val (.ref a0), .val (.long (0 : Int64)), .second, .val (.ref bb), .unset, .unset, .unset, .unset] [(.int (Int32.ofNat 55296))]))
  refine own_go (fun _ k => XS.istore X1.here hx rfl (hb hby dcount_9) rfl (l' := #[.val (.ref a0), .val (.long (0 : Int64)), .second, .val (.ref bb), .val (.int (Int32.ofNat 55296)), .unset, .unset, .unset]) rfl k) ?_
  show own_Ends _ _ _ _ _ _ _ (T1.setTop (mkF m 11 #[.val (.ref a0), .val (.long (0 : Int64)), .second, .val (.ref bb), .val (.int (Int32.ofNat 55296)), .unset, .unset, .unset] []))
  refine own_go (fun _ k => XS.iconst X1.here hx rfl (hb hby dcount_11) k) ?_
  show own_Ends _ _ _ _ _ _ _ (T1.setTop (mkF m 12 #[.val (.ref a0), .val (.long (0 : Int64)), .second, .val (.ref bb), .val (.int (Int32.ofNat 55296)), .unset, .unset, .unset] [(.int (0 : Int32))]))
  refine own_go (fun _ k => XS.istore X1.here hx rfl (hb hby dcount_12) rfl (l' := #[.val (.ref a0), .val (.long (0 : Int64)), .second, .val (.ref bb), .val (.int (Int32.ofNat 55296)), .val (.int (0 : Int32)), .unset, .unset]) rfl k) ?_
  suffices hin : ∀ (kk i : Nat) (s6 s7 : Slot), i + kk = 55296 → ((s6 = .unset ∧ s7 = .unset) ∨ ∃ w, s6 = .val (.long w) ∧ s7 = .second) → own_Ends p e below s (Qcount Z a0 bb GG h0 n0) 0 0 (T1.setTop (mkF m 14 #[.val (.ref a0), .val (.long (own_sum GG i)), .second, .val (.ref bb), .val (.int (Int32.ofNat 55296)), .val (.int (Int32.ofNat i)), s6, s7] [])) by
    exact hin 55296 0 .unset .unset (by decide) (Or.inl ⟨rfl, rfl⟩)
  intro kk
  induction kk with
  | zero =>
    intro i s6 s7 hi hs
    show own_Ends _ _ _ _ _ _ _ (T1.setTop (mkF m 14 #[.val (.ref a0), .val (.long (own_sum GG i)), .second, .val (.ref bb), .val (.int (Int32.ofNat 55296)), .val (.int (Int32.ofNat i)), s6, s7] []))
    refine own_go (fun _ k => XS.iload X1.here hx rfl (hb hby dcount_14) rfl k) ?_
    show own_Ends _ _ _ _ _ _ _ (T1.setTop (mkF m 16 #[.val (.ref a0), .val (.long (own_sum GG i)), .second, .val (.ref bb), .val (.int (Int32.ofNat 55296)), .val (.int (Int32.ofNat i)), s6, s7] [(.int (Int32.ofNat i))]))
    refine own_go (fun _ k => XS.iload X1.here hx rfl (hb hby dcount_16) rfl k) ?_
    show own_Ends _ _ _ _ _ _ _ (T1.setTop (mkF m 18 #[.val (.ref a0), .val (.long (own_sum GG i)), .second, .val (.ref bb), .val (.int (Int32.ofNat 55296)), .val (.int (Int32.ofNat i)), s6, s7] [(.int (Int32.ofNat 55296)), (.int (Int32.ofNat i))]))
    refine own_go (fun _ k => XS.icmpYes X1.here hx rfl (pc0 := 18) (pc' := 38) rfl (hb hby dcount_18) rfl (flt (own_18z (by omega))).2.1 (by decide) (by decide) k) ?_
    show own_Ends _ _ _ _ _ _ _ (T1.setTop (mkF m 38 #[.val (.ref a0), .val (.long (own_sum GG i)), .second, .val (.ref bb), .val (.int (Int32.ofNat 55296)), .val (.int (Int32.ofNat i)), s6, s7] []))
    refine own_go (fun _ k => XS.lloadN X1.here hx rfl (hb hby dcount_38) rfl k) ?_
    show own_Ends _ _ _ _ _ _ _ (T1.setTop (mkF m 39 #[.val (.ref a0), .val (.long (own_sum GG i)), .second, .val (.ref bb), .val (.int (Int32.ofNat 55296)), .val (.int (Int32.ofNat i)), s6, s7] [(.long (own_sum GG i))]))
    exact own_retJ X1 hx hlk Bd.returns (hb hby dcount_39) (by decide) (by decide) ⟨by rw [show i = 55296 by omega], N0, e1⟩
  | succ kk ihk =>
    intro i s6 s7 hi hs
    show own_Ends _ _ _ _ _ _ _ (T1.setTop (mkF m 14 #[.val (.ref a0), .val (.long (own_sum GG i)), .second, .val (.ref bb), .val (.int (Int32.ofNat 55296)), .val (.int (Int32.ofNat i)), s6, s7] []))
    refine own_go (fun _ k => XS.iload X1.here hx rfl (hb hby dcount_14) rfl k) ?_
    show own_Ends _ _ _ _ _ _ _ (T1.setTop (mkF m 16 #[.val (.ref a0), .val (.long (own_sum GG i)), .second, .val (.ref bb), .val (.int (Int32.ofNat 55296)), .val (.int (Int32.ofNat i)), s6, s7] [(.int (Int32.ofNat i))]))
    refine own_go (fun _ k => XS.iload X1.here hx rfl (hb hby dcount_16) rfl k) ?_
    show own_Ends _ _ _ _ _ _ _ (T1.setTop (mkF m 18 #[.val (.ref a0), .val (.long (own_sum GG i)), .second, .val (.ref bb), .val (.int (Int32.ofNat 55296)), .val (.int (Int32.ofNat i)), s6, s7] [(.int (Int32.ofNat 55296)), (.int (Int32.ofNat i))]))
    refine own_go (fun _ k => XS.icmpNo X1.here hx rfl (hb hby dcount_18) rfl (tlt (own_18s (by omega))).2.1 k) ?_
    show own_Ends _ _ _ _ _ _ _ (T1.setTop (mkF m 21 #[.val (.ref a0), .val (.long (own_sum GG i)), .second, .val (.ref bb), .val (.int (Int32.ofNat 55296)), .val (.int (Int32.ofNat i)), s6, s7] []))
    refine own_go (fun _ k => XS.aloadN X1.here hx rfl (hb hby dcount_21) rfl rfl k) ?_
    show own_Ends _ _ _ _ _ _ _ (T1.setTop (mkF m 22 #[.val (.ref a0), .val (.long (own_sum GG i)), .second, .val (.ref bb), .val (.int (Int32.ofNat 55296)), .val (.int (Int32.ofNat i)), s6, s7] [(.ref bb)]))
    refine own_go (fun _ k => XS.iload X1.here hx rfl (hb hby dcount_22) rfl k) ?_
    show own_Ends _ _ _ _ _ _ _ (T1.setTop (mkF m 24 #[.val (.ref a0), .val (.long (own_sum GG i)), .second, .val (.ref bb), .val (.int (Int32.ofNat 55296)), .val (.int (Int32.ofNat i)), s6, s7] [(.int (Int32.ofNat i)), (.ref bb)]))
    obtain ⟨c3, A3, i3, v3⟩ := own_Ar.at A_bb (Int32.ofNat i) (own_nn0 (by omega)) (own_lt0 (by omega))
    refine own_go (fun _ k => X1.laload hx (by rw [e1]; exact A3.1) (State.isArrayOf_alike hZ.alike A3.2.1) A3.2.2 i3 v3 (g := (mkF m 24 #[.val (.ref a0), .val (.long (own_sum GG i)), .second, .val (.ref bb), .val (.int (Int32.ofNat 55296)), .val (.int (Int32.ofNat i)), s6, s7] [(.int (Int32.ofNat i)), (.ref bb)])) rfl rfl (hb hby dcount_24) _ k) ?_
    show own_Ends _ _ _ _ _ _ _ (T1.setTop (mkF m 25 #[.val (.ref a0), .val (.long (own_sum GG i)), .second, .val (.ref bb), .val (.int (Int32.ofNat 55296)), .val (.int (Int32.ofNat i)), s6, s7] [(.long (GG ((Int32.ofNat i)).toNatClampNeg))]))
    refine own_go (fun _ k => XS.lstore X1.here hx rfl (hb hby dcount_25) rfl (l' := #[.val (.ref a0), .val (.long (own_sum GG i)), .second, .val (.ref bb), .val (.int (Int32.ofNat 55296)), .val (.int (Int32.ofNat i)), .val (.long (GG ((Int32.ofNat i)).toNatClampNeg)), .second]) (own_st6 hs) k) ?_
    show own_Ends _ _ _ _ _ _ _ (T1.setTop (mkF m 27 #[.val (.ref a0), .val (.long (own_sum GG i)), .second, .val (.ref bb), .val (.int (Int32.ofNat 55296)), .val (.int (Int32.ofNat i)), .val (.long (GG ((Int32.ofNat i)).toNatClampNeg)), .second] []))
    refine own_go (fun _ k => XS.lloadN X1.here hx rfl (hb hby dcount_27) rfl k) ?_
    show own_Ends _ _ _ _ _ _ _ (T1.setTop (mkF m 28 #[.val (.ref a0), .val (.long (own_sum GG i)), .second, .val (.ref bb), .val (.int (Int32.ofNat 55296)), .val (.int (Int32.ofNat i)), .val (.long (GG ((Int32.ofNat i)).toNatClampNeg)), .second] [(.long (own_sum GG i))]))
    refine own_go (fun _ k => XS.lload X1.here hx rfl (hb hby dcount_28) rfl k) ?_
    show own_Ends _ _ _ _ _ _ _ (T1.setTop (mkF m 30 #[.val (.ref a0), .val (.long (own_sum GG i)), .second, .val (.ref bb), .val (.int (Int32.ofNat 55296)), .val (.int (Int32.ofNat i)), .val (.long (GG ((Int32.ofNat i)).toNatClampNeg)), .second] [(.long (GG ((Int32.ofNat i)).toNatClampNeg)), (.long (own_sum GG i))]))
    refine own_go (fun _ k => XS.ladd X1.here hx rfl (hb hby dcount_30) rfl k) ?_
    show own_Ends _ _ _ _ _ _ _ (T1.setTop (mkF m 31 #[.val (.ref a0), .val (.long (own_sum GG i)), .second, .val (.ref bb), .val (.int (Int32.ofNat 55296)), .val (.int (Int32.ofNat i)), .val (.long (GG ((Int32.ofNat i)).toNatClampNeg)), .second] [(.long ((own_sum GG i) + (GG ((Int32.ofNat i)).toNatClampNeg)))]))
    refine own_go (fun _ k => XS.lstoreN X1.here hx rfl (hb hby dcount_31) rfl (l' := #[.val (.ref a0), .val (.long ((own_sum GG i) + (GG ((Int32.ofNat i)).toNatClampNeg))), .second, .val (.ref bb), .val (.int (Int32.ofNat 55296)), .val (.int (Int32.ofNat i)), .val (.long (GG ((Int32.ofNat i)).toNatClampNeg)), .second]) rfl k) ?_
    show own_Ends _ _ _ _ _ _ _ (T1.setTop (mkF m 32 #[.val (.ref a0), .val (.long ((own_sum GG i) + (GG ((Int32.ofNat i)).toNatClampNeg))), .second, .val (.ref bb), .val (.int (Int32.ofNat 55296)), .val (.int (Int32.ofNat i)), .val (.long (GG ((Int32.ofNat i)).toNatClampNeg)), .second] []))
    refine own_go (fun _ k => XS.iinc X1.here hx rfl (hb hby dcount_32) rfl (l' := #[.val (.ref a0), .val (.long ((own_sum GG i) + (GG ((Int32.ofNat i)).toNatClampNeg))), .second, .val (.ref bb), .val (.int (Int32.ofNat 55296)), .val (.int ((Int32.ofNat i) + (1 : Int32))), .val (.long (GG ((Int32.ofNat i)).toNatClampNeg)), .second]) rfl k) ?_
    show own_Ends _ _ _ _ _ _ _ (T1.setTop (mkF m 35 #[.val (.ref a0), .val (.long ((own_sum GG i) + (GG ((Int32.ofNat i)).toNatClampNeg))), .second, .val (.ref bb), .val (.int (Int32.ofNat 55296)), .val (.int ((Int32.ofNat i) + (1 : Int32))), .val (.long (GG ((Int32.ofNat i)).toNatClampNeg)), .second] []))
    refine own_go (fun _ k => XS.goto X1.here hx rfl (pc0 := 35) (pc' := 14) rfl (hb hby dcount_35) (by decide) (by decide) k) ?_
    rw [own_sum_step (i := i) (by omega), own_succ]
    exact ihk (i + 1) _ _ (by omega) (Or.inr ⟨_, rfl, rfl⟩)
theorem own_two_fin : Jvm.Free.Fl.Fin64 (4611686018427387904 : UInt64) := by unfold Jvm.Free.Fl.Fin64; decide
theorem own_two_nz : Jvm.Free.Fl.Nz64 (4611686018427387904 : UInt64) := by unfold Jvm.Free.Fl.Nz64; decide
theorem own_nnh (x : Int64) : Jvm.Free.Fl.NoNaN64 (FP.ddiv (FP.l2d x) (4611686018427387904 : UInt64)) := Jvm.Free.Fl.ddiv_out (Jvm.Free.Fl.l2d_fin x).noNaN own_two_fin own_two_nz
theorem own_nnm (a b : Int64) : Jvm.Free.Fl.NoNaN64 (FP.dadd (FP.l2d a) (FP.ddiv (FP.l2d b) (4611686018427387904 : UInt64))) := Jvm.Free.Fl.dadd_out' (Jvm.Free.Fl.l2d_fin a) (own_nnh b)
theorem dmid_0 : decode prog_10_method_6_code 0 = .ok (.iconst 0, 1) := by decide +kernel
theorem dmid_1 : decode prog_10_method_6_code 1 = .ok (.iload_n 0, 1) := by decide +kernel
theorem dmid_2 : decode prog_10_method_6_code 2 = .ok (.sipush 1024, 3) := by decide +kernel
theorem dmid_5 : decode prog_10_method_6_code 5 = .ok (.idiv, 1) := by decide +kernel
theorem dmid_6 : decode prog_10_method_6_code 6 = .ok (.iconst 1, 1) := by decide +kernel
theorem dmid_7 : decode prog_10_method_6_code 7 = .ok (.isub, 1) := by decide +kernel
theorem dmid_8 : decode prog_10_method_6_code 8 = .ok (.invokestatic 52, 3) := by decide +kernel
theorem dmid_11 : decode prog_10_method_6_code 11 = .ok (.istore_n 1, 1) := by decide +kernel
theorem dmid_12 : decode prog_10_method_6_code 12 = .ok (.iload_n 0, 1) := by decide +kernel
theorem dmid_13 : decode prog_10_method_6_code 13 = .ok (.iload_n 1, 1) := by decide +kernel
theorem dmid_14 : decode prog_10_method_6_code 14 = .ok (.sipush 1024, 3) := by decide +kernel
theorem dmid_17 : decode prog_10_method_6_code 17 = .ok (.imul, 1) := by decide +kernel
theorem dmid_18 : decode prog_10_method_6_code 18 = .ok (.isub, 1) := by decide +kernel
theorem dmid_19 : decode prog_10_method_6_code 19 = .ok (.i2l, 1) := by decide +kernel
theorem dmid_20 : decode prog_10_method_6_code 20 = .ok (.iload_n 1, 1) := by decide +kernel
theorem dmid_21 : decode prog_10_method_6_code 21 = .ok (.lshl, 1) := by decide +kernel
theorem dmid_22 : decode prog_10_method_6_code 22 = .ok (.lstore_n 2, 1) := by decide +kernel
theorem dmid_23 : decode prog_10_method_6_code 23 = .ok (.lload_n 2, 1) := by decide +kernel
theorem dmid_24 : decode prog_10_method_6_code 24 = .ok (.l2d, 1) := by decide +kernel
theorem dmid_25 : decode prog_10_method_6_code 25 = .ok (.lconst 1, 1) := by decide +kernel
theorem dmid_26 : decode prog_10_method_6_code 26 = .ok (.iload_n 1, 1) := by decide +kernel
theorem dmid_27 : decode prog_10_method_6_code 27 = .ok (.lshl, 1) := by decide +kernel
theorem dmid_28 : decode prog_10_method_6_code 28 = .ok (.lconst 1, 1) := by decide +kernel
theorem dmid_29 : decode prog_10_method_6_code 29 = .ok (.lsub, 1) := by decide +kernel
theorem dmid_30 : decode prog_10_method_6_code 30 = .ok (.l2d, 1) := by decide +kernel
theorem dmid_31 : decode prog_10_method_6_code 31 = .ok (.ldc2_w 57, 3) := by decide +kernel
theorem dmid_34 : decode prog_10_method_6_code 34 = .ok (.ddiv, 1) := by decide +kernel
theorem dmid_35 : decode prog_10_method_6_code 35 = .ok (.dadd, 1) := by decide +kernel
theorem dmid_36 : decode prog_10_method_6_code 36 = .ok (.dreturn, 1) := by decide +kernel
theorem pnmid : plainName "com/example/rate_keeper/ratekeeper/server/bench/LatencyHistogram" = true := by first | (simp [plainName, overriddenIn]; done) | decide +kernel
theorem pdmid_0 : parseMethodDescriptor "(II)I" = some ⟨[.int, .int], some .int⟩ := by decide +kernel
theorem efmid (m : MethodId) (p0 : Int32) : entryFrame m #[(.int p0)] 4 = mkF m 0 #[.val (.int p0), .unset, .unset, .unset] [] := by first | (simp [entryFrame, mkF, argsToLocals, Value.category]; done) | rfl
def fmid (p0 : Int32) : UInt64 := (let sh : Int32 := (fmaxI (0 : Int32) ((p0 / (1024 : Int32)) - (1 : Int32))); (let lo : Int64 := (((p0 - (sh * (1024 : Int32))).toInt64) <<< (sh &&& 0x3f).toInt64); (FP.dadd (FP.l2d lo) (FP.ddiv (FP.l2d (((1 : Int64) <<< (sh &&& 0x3f).toInt64) - (1 : Int64))) (4611686018427387904 : UInt64)))))
def Qmid (Z : State) (p0 : Int32) (h0 : Heap) (n0 : Nat) (v : Option Value) (h : Heap) (L : List Loc) : Prop := v = some (.double (fmid p0)) ∧ Fr n0 L ∧ h = h0
set_option maxRecDepth 65536 in
set_option maxHeartbeats 40000000 in
theorem rmmid (l : Launch) (Z : State) (ar : Array Value) (hw : ∀ d ∈ tables_1, d.before ar Z = true) (ws : List Jvm.Cond) (p0 : Int32) (h0 : Heap) (n0 : Nat) (O0 : Old Z n0 h0) :
    MetFree l (⟨"com/example/rate_keeper/ratekeeper/server/bench/LatencyHistogram", "middle", "(I)D"⟩ : MethodName) (head1 (Jvm.Cond.code (⟨"com/example/rate_keeper/ratekeeper/server/bench/LatencyHistogram", "middle", "(I)D"⟩ : MethodName) prog_10_method_6_code 4 (some .double) :: ws) ({ frames := 1, cells := 0, slots := 0, locals := 13 } : Room)) (fun a U => a = #[(.int p0)] ∧ Z.Warmed39 U.vm ∧ U.heap = h0) (fun _ _ _ _ _ => True) (fun _ U o U' => ∃ v L, o = .returned v ∧ Qmid Z p0 h0 n0 v U'.heap L ∧ FrameEnd U o U' L ({ frames := 1, cells := 0, slots := 0, locals := 13 } : Room).cells ({ frames := 1, cells := 0, slots := 0, locals := 13 } : Room).slots) := by
  refine MetFree.of_bodySF (plainFor_of_name pnmid) hisR ?_
  intro p e s m args below meth c s₁ Bd hml0 hP hK
  obtain ⟨rfl, hZ, hh⟩ := hP
  have hx := Bd.exec
  have hby := Bd.bytes
  have hml : c.maxLocals = 4 := hml0
  have hown : s.vm.findClass "com/example/rate_keeper/ratekeeper/server/bench/LatencyHistogram" = some m.cls := findClass_of_methodNamed Bd.named
  have hnm := (name_of_methodNamed Bd.named Bd.method).1
  have hlk : meth.locks = false := BodyLoose.notSynchronized Bd
  have X0 : Stand p l e ({ frames := 1, cells := 0, slots := 0, locals := 13 } : Room) s m #[(.int p0)] below meth c s₁ [] 0 0 := Stand.of_body Bd
  have e0 : s₁.heap = h0 := by rw [← hh, Bd.state]; rfl
  have N0 := Fr.nil n0
  suffices hmain : own_Ends p e below s (Qmid Z p0 h0 n0) 0 0 (s₁.setTop (mkF m 0 #[.val (.int p0), .unset, .unset, .unset] [])) by
    obtain ⟨U, o, h1, r⟩ := hmain
    exact ⟨U, o, castTop (efmid m p0) h1, r⟩
  show own_Ends _ _ _ _ _ _ _ (s₁.setTop (mkF m 0 #[.val (.int p0), .unset, .unset, .unset] []))
  refine own_go (fun _ k => XS.iconst X0.here hx rfl (hb hby dmid_0) k) ?_
  show own_Ends _ _ _ _ _ _ _ (s₁.setTop (mkF m 1 #[.val (.int p0), .unset, .unset, .unset] [(.int (0 : Int32))]))
  refine own_go (fun _ k => XS.iloadN X0.here hx rfl (hb hby dmid_1) rfl k) ?_
  show own_Ends _ _ _ _ _ _ _ (s₁.setTop (mkF m 2 #[.val (.int p0), .unset, .unset, .unset] [(.int p0), (.int (0 : Int32))]))
  refine own_go (fun _ k => XS.sipush X0.here hx rfl (hb hby dmid_2) k) ?_
  show own_Ends _ _ _ _ _ _ _ (s₁.setTop (mkF m 5 #[.val (.int p0), .unset, .unset, .unset] [(.int (1024 : Int32)), (.int p0), (.int (0 : Int32))]))
  refine own_go (fun _ k => XS.idiv X0.here hx rfl (hb hby dmid_5) rfl (by decide) k) ?_
  show own_Ends _ _ _ _ _ _ _ (s₁.setTop (mkF m 6 #[.val (.int p0), .unset, .unset, .unset] [(.int (p0 / (1024 : Int32))), (.int (0 : Int32))]))
  refine own_go (fun _ k => XS.iconst X0.here hx rfl (hb hby dmid_6) k) ?_
  show own_Ends _ _ _ _ _ _ _ (s₁.setTop (mkF m 7 #[.val (.int p0), .unset, .unset, .unset] [(.int (1 : Int32)), (.int (p0 / (1024 : Int32))), (.int (0 : Int32))]))
  refine own_go (fun _ k => XS.isub X0.here hx rfl (hb hby dmid_7) rfl k) ?_
  show own_Ends _ _ _ _ _ _ _ (s₁.setTop (mkF m 8 #[.val (.int p0), .unset, .unset, .unset] [(.int ((p0 / (1024 : Int32)) - (1 : Int32))), (.int (0 : Int32))]))
  obtain ⟨_, _, ⟨T1, L1, k1, n1⟩, -, X1, ⟨Lc1, hQ1, l1, y1, z1⟩, st1⟩ := Jvm.LawKit.callS X0 hx (y := (⟨"java/lang/Math", "max", "(II)I"⟩ : MethodName)) hown (mvT hZ (hw _ (List.mem_of_getElem? (i := 46) rfl))) (mvT hZ (hw _ (List.mem_of_getElem? (i := 47) rfl))) (mvT hZ (hw _ (List.mem_of_getElem? (i := 32) rfl))) (mvT hZ (hw _ (List.mem_of_getElem? (i := 48) rfl))) (by decide) (backOf (W := 0) (rmmaxI l Z ar hw [] (0 : Int32) ((p0 / (1024 : Int32)) - (1 : Int32)) h0 n0 O0) hZ (hw _ (List.mem_of_getElem? (i := 48) rfl)) (hw _ (List.mem_of_getElem? (i := 32) rfl)) (by decide) (by decide)) (g := (mkF m 8 #[.val (.int p0), .unset, .unset, .unset] [(.int ((p0 / (1024 : Int32)) - (1 : Int32))), (.int (0 : Int32))])) rfl (by rw [hml]; rfl) (argsL := [(.int (0 : Int32)), (.int ((p0 / (1024 : Int32)) - (1 : Int32)))]) (rest := []) (lenOf pdmid_0 rfl) rfl (by show 2 * 0 + _ ≤ _; exact Nat.le_of_eq rfl) (hb hby dmid_8) (fun _ _ => ⟨rfl, e0, (by decide : 0 + 0 ≤ _), (by decide : 0 + 0 ≤ _)⟩)
  dsimp only [Pt.U, Pt.locs, Pt.cells, Pt.slots] at X1 l1 y1 z1 st1 hQ1
  subst l1 y1 z1
  obtain ⟨rfl, N1q, eq1⟩ := hQ1
  have e1 : T1.heap = h0 := eq1
  have N1 := Fr.app N0 N1q
  refine own_go (fun _ k => st1 _ k) ?_
  show own_Ends _ _ _ _ _ _ _ (T1.setTop (mkF m 11 #[.val (.int p0), .unset, .unset, .unset] [(.int (fmaxI (0 : Int32) ((p0 / (1024 : Int32)) - (1 : Int32))))]))
  refine own_go (fun _ k => XS.istoreN X1.here hx rfl (hb hby dmid_11) rfl (l' := #[.val (.int p0), .val (.int (fmaxI (0 : Int32) ((p0 / (1024 : Int32)) - (1 : Int32)))), .unset, .unset]) rfl k) ?_
  suffices hjsh : ∀ sh : Int32, sh = (fmaxI (0 : Int32) ((p0 / (1024 : Int32)) - (1 : Int32))) → own_Ends p e below s (Qmid Z p0 h0 n0) 0 0 (T1.setTop (mkF m 12 #[.val (.int p0), .val (.int sh), .unset, .unset] [])) by exact hjsh _ rfl
  intro sh hsh
  show own_Ends _ _ _ _ _ _ _ (T1.setTop (mkF m 12 #[.val (.int p0), .val (.int sh), .unset, .unset] []))
  refine own_go (fun _ k => XS.iloadN X1.here hx rfl (hb hby dmid_12) rfl k) ?_
  show own_Ends _ _ _ _ _ _ _ (T1.setTop (mkF m 13 #[.val (.int p0), .val (.int sh), .unset, .unset] [(.int p0)]))
  refine own_go (fun _ k => XS.iloadN X1.here hx rfl (hb hby dmid_13) rfl k) ?_
  show own_Ends _ _ _ _ _ _ _ (T1.setTop (mkF m 14 #[.val (.int p0), .val (.int sh), .unset, .unset] [(.int sh), (.int p0)]))
  refine own_go (fun _ k => XS.sipush X1.here hx rfl (hb hby dmid_14) k) ?_
  show own_Ends _ _ _ _ _ _ _ (T1.setTop (mkF m 17 #[.val (.int p0), .val (.int sh), .unset, .unset] [(.int (1024 : Int32)), (.int sh), (.int p0)]))
  refine own_go (fun _ k => XS.imul X1.here hx rfl (hb hby dmid_17) rfl k) ?_
  show own_Ends _ _ _ _ _ _ _ (T1.setTop (mkF m 18 #[.val (.int p0), .val (.int sh), .unset, .unset] [(.int (sh * (1024 : Int32))), (.int p0)]))
  refine own_go (fun _ k => XS.isub X1.here hx rfl (hb hby dmid_18) rfl k) ?_
  show own_Ends _ _ _ _ _ _ _ (T1.setTop (mkF m 19 #[.val (.int p0), .val (.int sh), .unset, .unset] [(.int (p0 - (sh * (1024 : Int32))))]))
  refine own_go (fun _ k => XS.i2l X1.here hx rfl (hb hby dmid_19) rfl k) ?_
  show own_Ends _ _ _ _ _ _ _ (T1.setTop (mkF m 20 #[.val (.int p0), .val (.int sh), .unset, .unset] [(.long ((p0 - (sh * (1024 : Int32))).toInt64))]))
  refine own_go (fun _ k => XS.iloadN X1.here hx rfl (hb hby dmid_20) rfl k) ?_
  show own_Ends _ _ _ _ _ _ _ (T1.setTop (mkF m 21 #[.val (.int p0), .val (.int sh), .unset, .unset] [(.int sh), (.long ((p0 - (sh * (1024 : Int32))).toInt64))]))
  refine own_go (fun _ k => XS.lshl X1.here hx rfl (hb hby dmid_21) rfl k) ?_
  show own_Ends _ _ _ _ _ _ _ (T1.setTop (mkF m 22 #[.val (.int p0), .val (.int sh), .unset, .unset] [(.long (((p0 - (sh * (1024 : Int32))).toInt64) <<< (sh &&& 0x3f).toInt64))]))
  refine own_go (fun _ k => XS.lstoreN X1.here hx rfl (hb hby dmid_22) rfl (l' := #[.val (.int p0), .val (.int sh), .val (.long (((p0 - (sh * (1024 : Int32))).toInt64) <<< (sh &&& 0x3f).toInt64)), .second]) rfl k) ?_
  suffices hjlo : ∀ lo : Int64, lo = (((p0 - (sh * (1024 : Int32))).toInt64) <<< (sh &&& 0x3f).toInt64) → own_Ends p e below s (Qmid Z p0 h0 n0) 0 0 (T1.setTop (mkF m 23 #[.val (.int p0), .val (.int sh), .val (.long lo), .second] [])) by exact hjlo _ rfl
  intro lo hlo
  show own_Ends _ _ _ _ _ _ _ (T1.setTop (mkF m 23 #[.val (.int p0), .val (.int sh), .val (.long lo), .second] []))
  refine own_go (fun _ k => XS.lloadN X1.here hx rfl (hb hby dmid_23) rfl k) ?_
  show own_Ends _ _ _ _ _ _ _ (T1.setTop (mkF m 24 #[.val (.int p0), .val (.int sh), .val (.long lo), .second] [(.long lo)]))
  refine own_go (fun _ k => XS.l2dS X1.here hx rfl (hb hby dmid_24) rfl rfl k) ?_
  show own_Ends _ _ _ _ _ _ _ (T1.setTop (mkF m 25 #[.val (.int p0), .val (.int sh), .val (.long lo), .second] [(.double (FP.l2d lo))]))
  refine own_go (fun _ k => XS.lconst X1.here hx rfl (hb hby dmid_25) k) ?_
  show own_Ends _ _ _ _ _ _ _ (T1.setTop (mkF m 26 #[.val (.int p0), .val (.int sh), .val (.long lo), .second] [(.long (1 : Int64)), (.double (FP.l2d lo))]))
  refine own_go (fun _ k => XS.iloadN X1.here hx rfl (hb hby dmid_26) rfl k) ?_
  show own_Ends _ _ _ _ _ _ _ (T1.setTop (mkF m 27 #[.val (.int p0), .val (.int sh), .val (.long lo), .second] [(.int sh), (.long (1 : Int64)), (.double (FP.l2d lo))]))
  refine own_go (fun _ k => XS.lshl X1.here hx rfl (hb hby dmid_27) rfl k) ?_
  show own_Ends _ _ _ _ _ _ _ (T1.setTop (mkF m 28 #[.val (.int p0), .val (.int sh), .val (.long lo), .second] [(.long ((1 : Int64) <<< (sh &&& 0x3f).toInt64)), (.double (FP.l2d lo))]))
  refine own_go (fun _ k => XS.lconst X1.here hx rfl (hb hby dmid_28) k) ?_
  show own_Ends _ _ _ _ _ _ _ (T1.setTop (mkF m 29 #[.val (.int p0), .val (.int sh), .val (.long lo), .second] [(.long (1 : Int64)), (.long ((1 : Int64) <<< (sh &&& 0x3f).toInt64)), (.double (FP.l2d lo))]))
  refine own_go (fun _ k => XS.lsub X1.here hx rfl (hb hby dmid_29) rfl k) ?_
  show own_Ends _ _ _ _ _ _ _ (T1.setTop (mkF m 30 #[.val (.int p0), .val (.int sh), .val (.long lo), .second] [(.long (((1 : Int64) <<< (sh &&& 0x3f).toInt64) - (1 : Int64))), (.double (FP.l2d lo))]))
  refine own_go (fun _ k => XS.l2dS X1.here hx rfl (hb hby dmid_30) rfl rfl k) ?_
  show own_Ends _ _ _ _ _ _ _ (T1.setTop (mkF m 31 #[.val (.int p0), .val (.int sh), .val (.long lo), .second] [(.double (FP.l2d (((1 : Int64) <<< (sh &&& 0x3f).toInt64) - (1 : Int64)))), (.double (FP.l2d lo))]))
  refine own_go (fun _ k => X1.ldc2DoubleC hx hown (mvT hZ (hw _ (List.mem_of_getElem? (i := 65) rfl))) (g := (mkF m 31 #[.val (.int p0), .val (.int sh), .val (.long lo), .second] [(.double (FP.l2d (((1 : Int64) <<< (sh &&& 0x3f).toInt64) - (1 : Int64)))), (.double (FP.l2d lo))])) rfl (hb hby dmid_31) _ k) ?_
  show own_Ends _ _ _ _ _ _ _ (T1.setTop (mkF m 34 #[.val (.int p0), .val (.int sh), .val (.long lo), .second] [(.double (4611686018427387904 : UInt64)), (.double (FP.l2d (((1 : Int64) <<< (sh &&& 0x3f).toInt64) - (1 : Int64)))), (.double (FP.l2d lo))]))
  refine own_go (fun _ k => XS.ddivS X1.here hx rfl (hb hby dmid_34) rfl (own_nnh _) rfl k) ?_
  show own_Ends _ _ _ _ _ _ _ (T1.setTop (mkF m 35 #[.val (.int p0), .val (.int sh), .val (.long lo), .second] [(.double (FP.ddiv (FP.l2d (((1 : Int64) <<< (sh &&& 0x3f).toInt64) - (1 : Int64))) (4611686018427387904 : UInt64))), (.double (FP.l2d lo))]))
  refine own_go (fun _ k => XS.daddS X1.here hx rfl (hb hby dmid_35) rfl (own_nnm _ _) rfl k) ?_
  show own_Ends _ _ _ _ _ _ _ (T1.setTop (mkF m 36 #[.val (.int p0), .val (.int sh), .val (.long lo), .second] [(.double (FP.dadd (FP.l2d lo) (FP.ddiv (FP.l2d (((1 : Int64) <<< (sh &&& 0x3f).toInt64) - (1 : Int64))) (4611686018427387904 : UInt64))))]))
  exact own_retD X1 hx hlk Bd.returns (hb hby dmid_36) (by decide) (by decide) ⟨congrArg (fun z => some (Value.double z)) (by subst hlo hsh; exact rfl), N1, e1⟩
def own_rk (G : Nat → Int64) (p : Int32) : Int64 := ((p.toInt64 * own_sum G 55296) + (99 : Int64)) / (100 : Int64)
def own_rank (G : Nat → Int64) (p : Int32) (ix : Nat) : Prop := ix < 55296 ∧ own_rk G p ≤ own_sum G (ix + 1) ∧ ∀ j, j < ix → own_sum G (j + 1) < own_rk G p
theorem own_nz8 {a b : Addr} {G : Nat → Int64} (h : ¬ own_sum G 55296 = (0 : Int64)) : ¬ lcmpW (fcount a b G) (0 : Int64) = (0 : Int32) := by
  rw [lcW, lc_eq]; exact h
theorem own_first {G : Nat → Int64} : G ((0 : Int32)).toNatClampNeg = own_sum G (0 + 1) := by
  show G 0 = 0 + G 0
  rw [Int64.zero_add]
theorem own_nxt {G : Nat → Int64} {rk : Int64} {ix : Nat} (hno : ∀ j, j < ix → own_sum G (j + 1) < rk) (h : lcmpW (own_sum G (ix + 1)) rk < (0 : Int32)) : ∀ j, j < ix + 1 → own_sum G (j + 1) < rk := fun j hj => by
  rcases Nat.lt_or_ge j ix with z | z
  · exact hno j z
  · have : j = ix := by omega
    subst this; rwa [lcW, lc_lt] at h
theorem own_52z {G : Nat → Int64} {rk : Int64} {p : Int32} {ix : Nat} {a b : Addr} (hle : own_rk G p ≤ own_sum G 55296) (hrk : rk = ((p.toInt64 * (fcount a b G)) + (99 : Int64)) / (100 : Int64)) (hix : ix + 0 = 55295) : ¬ lcmpW (own_sum G (ix + 1)) rk < (0 : Int32) := by
  have : ix = 55295 := by omega
  subst this
  rw [lcW, lc_lt, Int64.not_lt, hrk]
  exact hle
theorem own_nns {ix : Nat} (h : ix < 55295) : ¬ (Int32.ofNat ix + (1 : Int32)) < 0 := by rw [own_succ]; exact own_nn0 (by omega)
theorem own_lts {ix : Nat} (h : ix < 55295) : (Int32.ofNat ix + (1 : Int32)).toNatClampNeg < 55296 := by rw [own_succ]; exact own_lt0 (by omega)
theorem own_rank_i {G : Nat → Int64} {rk : Int64} {p : Int32} {ix : Nat} {a b : Addr} (hrk : rk = ((p.toInt64 * (fcount a b G)) + (99 : Int64)) / (100 : Int64)) (hix : ix < 55296) (hge : ¬ lcmpW (own_sum G (ix + 1)) rk < (0 : Int32)) (hno : ∀ j, j < ix → own_sum G (j + 1) < rk) : own_rank G p ix := by
  rw [lcW, lc_lt, Int64.not_lt] at hge
  subst hrk
  exact ⟨hix, hge, hno⟩
theorem dpct_0 : decode prog_10_method_4_code 0 = .ok (.aload_n 0, 1) := by decide +kernel
theorem dpct_1 : decode prog_10_method_4_code 1 = .ok (.invokevirtual 30, 3) := by decide +kernel
theorem dpct_4 : decode prog_10_method_4_code 4 = .ok (.lstore_n 2, 1) := by decide +kernel
theorem dpct_5 : decode prog_10_method_4_code 5 = .ok (.lload_n 2, 1) := by decide +kernel
theorem dpct_6 : decode prog_10_method_4_code 6 = .ok (.lconst 0, 1) := by decide +kernel
theorem dpct_7 : decode prog_10_method_4_code 7 = .ok (.lcmp, 1) := by decide +kernel
theorem dpct_8 : decode prog_10_method_4_code 8 = .ok (.ifCond .ne 13, 3) := by decide +kernel
theorem dpct_21 : decode prog_10_method_4_code 21 = .ok (.iload_n 1, 1) := by decide +kernel
theorem dpct_22 : decode prog_10_method_4_code 22 = .ok (.i2l, 1) := by decide +kernel
theorem dpct_23 : decode prog_10_method_4_code 23 = .ok (.lload_n 2, 1) := by decide +kernel
theorem dpct_24 : decode prog_10_method_4_code 24 = .ok (.lmul, 1) := by decide +kernel
theorem dpct_25 : decode prog_10_method_4_code 25 = .ok (.ldc2_w 41, 3) := by decide +kernel
theorem dpct_28 : decode prog_10_method_4_code 28 = .ok (.ladd, 1) := by decide +kernel
theorem dpct_29 : decode prog_10_method_4_code 29 = .ok (.ldc2_w 43, 3) := by decide +kernel
theorem dpct_32 : decode prog_10_method_4_code 32 = .ok (.ldiv, 1) := by decide +kernel
theorem dpct_33 : decode prog_10_method_4_code 33 = .ok (.lstore 4, 2) := by decide +kernel
theorem dpct_35 : decode prog_10_method_4_code 35 = .ok (.iconst 0, 1) := by decide +kernel
theorem dpct_36 : decode prog_10_method_4_code 36 = .ok (.istore 6, 2) := by decide +kernel
theorem dpct_38 : decode prog_10_method_4_code 38 = .ok (.aload_n 0, 1) := by decide +kernel
theorem dpct_39 : decode prog_10_method_4_code 39 = .ok (.getfield 12, 3) := by decide +kernel
theorem dpct_42 : decode prog_10_method_4_code 42 = .ok (.iload 6, 2) := by decide +kernel
theorem dpct_44 : decode prog_10_method_4_code 44 = .ok (.laload, 1) := by decide +kernel
theorem dpct_45 : decode prog_10_method_4_code 45 = .ok (.lstore 7, 2) := by decide +kernel
theorem dpct_47 : decode prog_10_method_4_code 47 = .ok (.lload 7, 2) := by decide +kernel
theorem dpct_49 : decode prog_10_method_4_code 49 = .ok (.lload 4, 2) := by decide +kernel
theorem dpct_51 : decode prog_10_method_4_code 51 = .ok (.lcmp, 1) := by decide +kernel
theorem dpct_52 : decode prog_10_method_4_code 52 = .ok (.ifCond .ge 21, 3) := by decide +kernel
theorem dpct_55 : decode prog_10_method_4_code 55 = .ok (.iinc 6 1, 3) := by decide +kernel
theorem dpct_58 : decode prog_10_method_4_code 58 = .ok (.lload 7, 2) := by decide +kernel
theorem dpct_60 : decode prog_10_method_4_code 60 = .ok (.aload_n 0, 1) := by decide +kernel
theorem dpct_61 : decode prog_10_method_4_code 61 = .ok (.getfield 12, 3) := by decide +kernel
theorem dpct_64 : decode prog_10_method_4_code 64 = .ok (.iload 6, 2) := by decide +kernel
theorem dpct_66 : decode prog_10_method_4_code 66 = .ok (.laload, 1) := by decide +kernel
theorem dpct_67 : decode prog_10_method_4_code 67 = .ok (.ladd, 1) := by decide +kernel
theorem dpct_68 : decode prog_10_method_4_code 68 = .ok (.lstore 7, 2) := by decide +kernel
theorem dpct_70 : decode prog_10_method_4_code 70 = .ok (.goto (-23), 3) := by decide +kernel
theorem dpct_73 : decode prog_10_method_4_code 73 = .ok (.iload 6, 2) := by decide +kernel
theorem dpct_75 : decode prog_10_method_4_code 75 = .ok (.invokestatic 45, 3) := by decide +kernel
theorem dpct_78 : decode prog_10_method_4_code 78 = .ok (.dreturn, 1) := by decide +kernel
theorem pnpct : plainName "com/example/rate_keeper/ratekeeper/server/bench/LatencyHistogram" = true := by first | (simp [plainName, overriddenIn]; done) | decide +kernel
theorem pdpct_0 : parseMethodDescriptor "()J" = some ⟨[], some .long⟩ := by decide +kernel
theorem pdpct_1 : parseMethodDescriptor "(I)D" = some ⟨[.int], some .double⟩ := by decide +kernel
theorem efpct (m : MethodId) (a0 : Addr) (p1 : Int32) : entryFrame m #[(.ref a0), (.int p1)] 9 = mkF m 0 #[.val (.ref a0), .val (.int p1), .unset, .unset, .unset, .unset, .unset, .unset, .unset] [] := by first | (simp [entryFrame, mkF, argsToLocals, Value.category]; done) | rfl
def Qpct (Z : State) (a0 : Addr) (p1 : Int32) (bb : Addr) (GG : Nat → Int64) (h0 : Heap) (n0 : Nat) (v : Option Value) (h : Heap) (L : List Loc) : Prop := ∃ ix : Nat, v = some (.double (fmid (Int32.ofNat ix))) ∧ own_rank GG p1 ix ∧ Fr n0 L ∧ h = h0
set_option maxRecDepth 65536 in
set_option maxHeartbeats 40000000 in
theorem rmpct (l : Launch) (Z : State) (ar : Array Value) (hw : ∀ d ∈ tables_1, d.before ar Z = true) (ws : List Jvm.Cond) (a0 : Addr) (p1 : Int32) (bb : Addr) (GG : Nat → Int64) (h0 : Heap) (n0 : Nat) (O0 : Old Z n0 h0) (E_a0 : Exa Z h0 a0 "com/example/rate_keeper/ratekeeper/server/bench/LatencyHistogram") (F_counts_a0 : Fld Z h0 a0 "com/example/rate_keeper/ratekeeper/server/bench/LatencyHistogram" "counts" "[J" (.ref bb)) (A_bb : own_Ar Z h0 bb .long 55296 (fun i => .long (GG i))) (htot : ¬ own_sum GG 55296 = (0 : Int64)) (hle : own_rk GG p1 ≤ own_sum GG 55296) :
    MetFree l (⟨"com/example/rate_keeper/ratekeeper/server/bench/LatencyHistogram", "percentileMicros", "(I)D"⟩ : MethodName) (head1 (Jvm.Cond.code (⟨"com/example/rate_keeper/ratekeeper/server/bench/LatencyHistogram", "percentileMicros", "(I)D"⟩ : MethodName) prog_10_method_4_code 9 (some .double) :: ws) ({ frames := 2, cells := 0, slots := 0, locals := 28 } : Room)) (fun a U => a = #[(.ref a0), (.int p1)] ∧ Z.Warmed39 U.vm ∧ U.heap = h0) (fun _ _ _ _ _ => True) (fun _ U o U' => ∃ v L, o = .returned v ∧ Qpct Z a0 p1 bb GG h0 n0 v U'.heap L ∧ FrameEnd U o U' L ({ frames := 2, cells := 0, slots := 0, locals := 28 } : Room).cells ({ frames := 2, cells := 0, slots := 0, locals := 28 } : Room).slots) := by
  refine MetFree.of_bodySF (plainFor_of_name pnpct) hisR ?_
  intro p e s m args below meth c s₁ Bd hml0 hP hK
  obtain ⟨rfl, hZ, hh⟩ := hP
  have hx := Bd.exec
  have hby := Bd.bytes
  have hml : c.maxLocals = 9 := hml0
  have hown : s.vm.findClass "com/example/rate_keeper/ratekeeper/server/bench/LatencyHistogram" = some m.cls := findClass_of_methodNamed Bd.named
  have hnm := (name_of_methodNamed Bd.named Bd.method).1
  have hlk : meth.locks = false := BodyLoose.notSynchronized Bd
  have X0 : Stand p l e ({ frames := 2, cells := 0, slots := 0, locals := 28 } : Room) s m #[(.ref a0), (.int p1)] below meth c s₁ [] 0 0 := Stand.of_body Bd
  have e0 : s₁.heap = h0 := by rw [← hh, Bd.state]; rfl
  have N0 := Fr.nil n0
  suffices hmain : own_Ends p e below s (Qpct Z a0 p1 bb GG h0 n0) 0 0 (s₁.setTop (mkF m 0 #[.val (.ref a0), .val (.int p1), .unset, .unset, .unset, .unset, .unset, .unset, .unset] [])) by
    obtain ⟨U, o, h1, r⟩ := hmain
    exact ⟨U, o, castTop (efpct m a0 p1) h1, r⟩
  show own_Ends _ _ _ _ _ _ _ (s₁.setTop (mkF m 0 #[.val (.ref a0), .val (.int p1), .unset, .unset, .unset, .unset, .unset, .unset, .unset] []))
  refine own_go (fun _ k => XS.aloadN X0.here hx rfl (hb hby dpct_0) rfl rfl k) ?_
  show own_Ends _ _ _ _ _ _ _ (s₁.setTop (mkF m 1 #[.val (.ref a0), .val (.int p1), .unset, .unset, .unset, .unset, .unset, .unset, .unset] [(.ref a0)]))
  obtain ⟨cq1, kq1, q1a, q1b, q1c⟩ := isOf hZ e0 E_a0
  obtain ⟨_, _, ⟨T1, L1, k1, n1⟩, -, X1, ⟨Lc1, hQ1, l1, y1, z1⟩, st1⟩ := X0.virtualBack hx (y := (⟨"com/example/rate_keeper/ratekeeper/server/bench/LatencyHistogram", "count", "()J"⟩ : MethodName)) (z := (⟨"com/example/rate_keeper/ratekeeper/server/bench/LatencyHistogram", "count", "()J"⟩ : MethodName)) hown (mvT hZ (hw _ (List.mem_of_getElem? (i := 55) rfl))) (mvT hZ (hw _ (List.mem_of_getElem? (i := 56) rfl))) (notFace_of_selects (args := #[]) (mvT hZ (hw _ (List.mem_of_getElem? (i := 58) rfl)))) (mvT hZ (hw _ (List.mem_of_getElem? (i := 58) rfl))) (mvT hZ (hw _ (List.mem_of_getElem? (i := 57) rfl))) (by decide) (backOf (W := 0) (rmcount l Z ar hw [] a0 bb GG h0 n0 O0 E_a0 F_counts_a0 A_bb) hZ (hw _ (List.mem_of_getElem? (i := 59) rfl)) (hw _ (List.mem_of_getElem? (i := 3) rfl)) (by decide) (by decide)) q1a q1c (g := (mkF m 1 #[.val (.ref a0), .val (.int p1), .unset, .unset, .unset, .unset, .unset, .unset, .unset] [(.ref a0)])) rfl (by rw [hml]; rfl) (Steps.refl _) (argsL := []) (rest := []) (lenOf pdpct_0 rfl) rfl (by show 2 * 0 + _ ≤ _; exact Nat.le_of_eq rfl) (hb hby dpct_1) (fun _ _ => ⟨rfl, e0, (by decide : 0 + 0 ≤ _), (by decide : 0 + 0 ≤ _)⟩)
  dsimp only [Pt.U, Pt.locs, Pt.cells, Pt.slots] at X1 l1 y1 z1 st1 hQ1
  subst l1 y1 z1
  obtain ⟨rfl, N1q, eq1⟩ := hQ1
  have e1 : T1.heap = h0 := eq1
  have N1 := Fr.app N0 N1q
  refine own_go (fun _ k => st1.trans k) ?_
  show own_Ends _ _ _ _ _ _ _ (T1.setTop (mkF m 4 #[.val (.ref a0), .val (.int p1), .unset, .unset, .unset, .unset, .unset, .unset, .unset] [(.long (fcount a0 bb GG))]))
  refine own_go (fun _ k => XS.lstoreN X1.here hx rfl (hb hby dpct_4) rfl (l' := #[.val (.ref a0), .val (.int p1), .val (.long (fcount a0 bb GG)), .second, .unset, .unset, .unset, .unset, .unset]) rfl k) ?_
  show own_Ends _ _ _ _ _ _ _ (T1.setTop (mkF m 5 #[.val (.ref a0), .val (.int p1), .val (.long (fcount a0 bb GG)), .second, .unset, .unset, .unset, .unset, .unset] []))
  refine own_go (fun _ k => XS.lloadN X1.here hx rfl (hb hby dpct_5) rfl k) ?_
  show own_Ends _ _ _ _ _ _ _ (T1.setTop (mkF m 6 #[.val (.ref a0), .val (.int p1), .val (.long (fcount a0 bb GG)), .second, .unset, .unset, .unset, .unset, .unset] [(.long (fcount a0 bb GG))]))
  refine own_go (fun _ k => XS.lconst X1.here hx rfl (hb hby dpct_6) k) ?_
  show own_Ends _ _ _ _ _ _ _ (T1.setTop (mkF m 7 #[.val (.ref a0), .val (.int p1), .val (.long (fcount a0 bb GG)), .second, .unset, .unset, .unset, .unset, .unset] [(.long (0 : Int64)), (.long (fcount a0 bb GG))]))
  refine own_go (fun _ k => XS.lcmp X1.here hx rfl (hb hby dpct_7) rfl k) ?_
  show own_Ends _ _ _ _ _ _ _ (T1.setTop (mkF m 8 #[.val (.ref a0), .val (.int p1), .val (.long (fcount a0 bb GG)), .second, .unset, .unset, .unset, .unset, .unset] [(.int (lcmpW (fcount a0 bb GG) (0 : Int64)))]))
  refine own_go (fun _ k => XS.ifYes X1.here hx rfl (pc0 := 8) (pc' := 21) rfl (hb hby dpct_8) rfl ((if0 _ _).trans (feq (own_nz8 htot)).2) (by decide) (by decide) k) ?_
  show own_Ends _ _ _ _ _ _ _ (T1.setTop (mkF m 21 #[.val (.ref a0), .val (.int p1), .val (.long (fcount a0 bb GG)), .second, .unset, .unset, .unset, .unset, .unset] []))
  refine own_go (fun _ k => XS.iloadN X1.here hx rfl (hb hby dpct_21) rfl k) ?_
  show own_Ends _ _ _ _ _ _ _ (T1.setTop (mkF m 22 #[.val (.ref a0), .val (.int p1), .val (.long (fcount a0 bb GG)), .second, .unset, .unset, .unset, .unset, .unset] [(.int p1)]))
  refine own_go (fun _ k => XS.i2l X1.here hx rfl (hb hby dpct_22) rfl k) ?_
  show own_Ends _ _ _ _ _ _ _ (T1.setTop (mkF m 23 #[.val (.ref a0), .val (.int p1), .val (.long (fcount a0 bb GG)), .second, .unset, .unset, .unset, .unset, .unset] [(.long (p1.toInt64))]))
  refine own_go (fun _ k => XS.lloadN X1.here hx rfl (hb hby dpct_23) rfl k) ?_
  show own_Ends _ _ _ _ _ _ _ (T1.setTop (mkF m 24 #[.val (.ref a0), .val (.int p1), .val (.long (fcount a0 bb GG)), .second, .unset, .unset, .unset, .unset, .unset] [(.long (fcount a0 bb GG)), (.long (p1.toInt64))]))
  refine own_go (fun _ k => XS.lmul X1.here hx rfl (hb hby dpct_24) rfl k) ?_
  show own_Ends _ _ _ _ _ _ _ (T1.setTop (mkF m 25 #[.val (.ref a0), .val (.int p1), .val (.long (fcount a0 bb GG)), .second, .unset, .unset, .unset, .unset, .unset] [(.long ((p1.toInt64) * (fcount a0 bb GG)))]))
  refine own_go (fun _ k => X1.ldc2Long hx hown (mvT hZ (hw _ (List.mem_of_getElem? (i := 60) rfl))) (g := (mkF m 25 #[.val (.ref a0), .val (.int p1), .val (.long (fcount a0 bb GG)), .second, .unset, .unset, .unset, .unset, .unset] [(.long ((p1.toInt64) * (fcount a0 bb GG)))])) rfl (hb hby dpct_25) _ k) ?_
  show own_Ends _ _ _ _ _ _ _ (T1.setTop (mkF m 28 #[.val (.ref a0), .val (.int p1), .val (.long (fcount a0 bb GG)), .second, .unset, .unset, .unset, .unset, .unset] [(.long (99 : Int64)), (.long ((p1.toInt64) * (fcount a0 bb GG)))]))
  refine own_go (fun _ k => XS.ladd X1.here hx rfl (hb hby dpct_28) rfl k) ?_
  show own_Ends _ _ _ _ _ _ _ (T1.setTop (mkF m 29 #[.val (.ref a0), .val (.int p1), .val (.long (fcount a0 bb GG)), .second, .unset, .unset, .unset, .unset, .unset] [(.long (((p1.toInt64) * (fcount a0 bb GG)) + (99 : Int64)))]))
  refine own_go (fun _ k => X1.ldc2Long hx hown (mvT hZ (hw _ (List.mem_of_getElem? (i := 61) rfl))) (g := (mkF m 29 #[.val (.ref a0), .val (.int p1), .val (.long (fcount a0 bb GG)), .second, .unset, .unset, .unset, .unset, .unset] [(.long (((p1.toInt64) * (fcount a0 bb GG)) + (99 : Int64)))])) rfl (hb hby dpct_29) _ k) ?_
  show own_Ends _ _ _ _ _ _ _ (T1.setTop (mkF m 32 #[.val (.ref a0), .val (.int p1), .val (.long (fcount a0 bb GG)), .second, .unset, .unset, .unset, .unset, .unset] [(.long (100 : Int64)), (.long (((p1.toInt64) * (fcount a0 bb GG)) + (99 : Int64)))]))
  refine own_go (fun _ k => XS.ldiv X1.here hx rfl (hb hby dpct_32) rfl (by decide) k) ?_
  show own_Ends _ _ _ _ _ _ _ (T1.setTop (mkF m 33 #[.val (.ref a0), .val (.int p1), .val (.long (fcount a0 bb GG)), .second, .unset, .unset, .unset, .unset, .unset] [(.long ((((p1.toInt64) * (fcount a0 bb GG)) + (99 : Int64)) / (100 : Int64)))]))
  refine own_go (fun _ k => XS.lstore X1.here hx rfl (hb hby dpct_33) rfl (l' := #[.val (.ref a0), .val (.int p1), .val (.long (fcount a0 bb GG)), .second, .val (.long ((((p1.toInt64) * (fcount a0 bb GG)) + (99 : Int64)) / (100 : Int64))), .second, .unset, .unset, .unset]) rfl k) ?_
  suffices hjrk : ∀ rk : Int64, rk = ((((p1.toInt64) * (fcount a0 bb GG)) + (99 : Int64)) / (100 : Int64)) → own_Ends p e below s (Qpct Z a0 p1 bb GG h0 n0) 0 0 (T1.setTop (mkF m 35 #[.val (.ref a0), .val (.int p1), .val (.long (fcount a0 bb GG)), .second, .val (.long rk), .second, .unset, .unset, .unset] [])) by exact hjrk _ rfl
  intro rk hrk
  show own_Ends _ _ _ _ _ _ _ (T1.setTop (mkF m 35 #[.val (.ref a0), .val (.int p1), .val (.long (fcount a0 bb GG)), .second, .val (.long rk), .second, .unset, .unset, .unset] []))
  refine own_go (fun _ k => XS.iconst X1.here hx rfl (hb hby dpct_35) k) ?_
  show own_Ends _ _ _ _ _ _ _ (T1.setTop (mkF m 36 #[.val (.ref a0), .val (.int p1), .val (.long (fcount a0 bb GG)), .second, .val (.long rk), .second, .unset, .unset, .unset] [(.int (0 : Int32))]))
  refine own_go (fun _ k => XS.istore X1.here hx rfl (hb hby dpct_36) rfl (l' := #[.val (.ref a0), .val (.int p1), .val (.long (fcount a0 bb GG)), .second, .val (.long rk), .second, .val (.int (0 : Int32)), .unset, .unset]) rfl k) ?_
  show own_Ends _ _ _ _ _ _ _ (T1.setTop (mkF m 38 #[.val (.ref a0), .val (.int p1), .val (.long (fcount a0 bb GG)), .second, .val (.long rk), .second, .val (.int (0 : Int32)), .unset, .unset] []))
  refine own_go (fun _ k => XS.aloadN X1.here hx rfl (hb hby dpct_38) rfl rfl k) ?_
  show own_Ends _ _ _ _ _ _ _ (T1.setTop (mkF m 39 #[.val (.ref a0), .val (.int p1), .val (.long (fcount a0 bb GG)), .second, .val (.long rk), .second, .val (.int (0 : Int32)), .unset, .unset] [(.ref a0)]))
  obtain ⟨T2, X2, e2, st2⟩ := getF X1 hx hZ hown (host := "") (Or.inl (hw _ (List.mem_of_getElem? (i := 12) rfl))) Via.refl e1 F_counts_a0 (g := (mkF m 39 #[.val (.ref a0), .val (.int p1), .val (.long (fcount a0 bb GG)), .second, .val (.long rk), .second, .val (.int (0 : Int32)), .unset, .unset] [(.ref a0)])) rfl rfl (hb hby dpct_39)
  refine own_go (fun _ k => st2 _ k) ?_
  show own_Ends _ _ _ _ _ _ _ (T2.setTop (mkF m 42 #[.val (.ref a0), .val (.int p1), .val (.long (fcount a0 bb GG)), .second, .val (.long rk), .second, .val (.int (0 : Int32)), .unset, .unset] [(.ref bb)]))
  refine own_go (fun _ k => XS.iload X2.here hx rfl (hb hby dpct_42) rfl k) ?_
  show own_Ends _ _ _ _ _ _ _ (T2.setTop (mkF m 44 #[.val (.ref a0), .val (.int p1), .val (.long (fcount a0 bb GG)), .second, .val (.long rk), .second, .val (.int (0 : Int32)), .unset, .unset] [(.int (0 : Int32)), (.ref bb)]))
  obtain ⟨c3, A3, i3, v3⟩ := own_Ar.at A_bb (0 : Int32) (by decide) (by decide)
  refine own_go (fun _ k => X2.laload hx (by rw [e2]; exact A3.1) (State.isArrayOf_alike hZ.alike A3.2.1) A3.2.2 i3 v3 (g := (mkF m 44 #[.val (.ref a0), .val (.int p1), .val (.long (fcount a0 bb GG)), .second, .val (.long rk), .second, .val (.int (0 : Int32)), .unset, .unset] [(.int (0 : Int32)), (.ref bb)])) rfl rfl (hb hby dpct_44) _ k) ?_
  show own_Ends _ _ _ _ _ _ _ (T2.setTop (mkF m 45 #[.val (.ref a0), .val (.int p1), .val (.long (fcount a0 bb GG)), .second, .val (.long rk), .second, .val (.int (0 : Int32)), .unset, .unset] [(.long (GG ((0 : Int32)).toNatClampNeg))]))
  refine own_go (fun _ k => XS.lstore X2.here hx rfl (hb hby dpct_45) rfl (l' := #[.val (.ref a0), .val (.int p1), .val (.long (fcount a0 bb GG)), .second, .val (.long rk), .second, .val (.int (0 : Int32)), .val (.long (GG ((0 : Int32)).toNatClampNeg)), .second]) rfl k) ?_
  suffices hin : ∀ (kk ix : Nat) (T : State) (locs : List Loc), Stand p l e ({ frames := 2, cells := 0, slots := 0, locals := 28 } : Room) s m #[(.ref a0), (.int p1)] below meth c T locs 0 0 → Fr n0 locs → T.heap = h0 → ix + kk = 55295 → (∀ j, j < ix → own_sum GG (j + 1) < rk) → own_Ends p e below s (Qpct Z a0 p1 bb GG h0 n0) 0 0 (T.setTop (mkF m 47 #[.val (.ref a0), .val (.int p1), .val (.long (fcount a0 bb GG)), .second, .val (.long rk), .second, .val (.int (Int32.ofNat ix)), .val (.long (own_sum GG (ix + 1))), .second] [])) by
    rw [own_first (G := GG)]
    exact hin 55295 0 _ _ X2 N1 e2 rfl (fun j h => absurd h (by omega))
  intro kk
  induction kk with
  | zero =>
    intro ix TT LL XX NN eTT hix hno
    show own_Ends _ _ _ _ _ _ _ (TT.setTop (mkF m 47 #[.val (.ref a0), .val (.int p1), .val (.long (fcount a0 bb GG)), .second, .val (.long rk), .second, .val (.int (Int32.ofNat ix)), .val (.long (own_sum GG (ix + 1))), .second] []))
    refine own_go (fun _ k => XS.lload XX.here hx rfl (hb hby dpct_47) rfl k) ?_
    show own_Ends _ _ _ _ _ _ _ (TT.setTop (mkF m 49 #[.val (.ref a0), .val (.int p1), .val (.long (fcount a0 bb GG)), .second, .val (.long rk), .second, .val (.int (Int32.ofNat ix)), .val (.long (own_sum GG (ix + 1))), .second] [(.long (own_sum GG (ix + 1)))]))
    refine own_go (fun _ k => XS.lload XX.here hx rfl (hb hby dpct_49) rfl k) ?_
    show own_Ends _ _ _ _ _ _ _ (TT.setTop (mkF m 51 #[.val (.ref a0), .val (.int p1), .val (.long (fcount a0 bb GG)), .second, .val (.long rk), .second, .val (.int (Int32.ofNat ix)), .val (.long (own_sum GG (ix + 1))), .second] [(.long rk), (.long (own_sum GG (ix + 1)))]))
    refine own_go (fun _ k => XS.lcmp XX.here hx rfl (hb hby dpct_51) rfl k) ?_
    show own_Ends _ _ _ _ _ _ _ (TT.setTop (mkF m 52 #[.val (.ref a0), .val (.int p1), .val (.long (fcount a0 bb GG)), .second, .val (.long rk), .second, .val (.int (Int32.ofNat ix)), .val (.long (own_sum GG (ix + 1))), .second] [(.int (lcmpW (own_sum GG (ix + 1)) rk))]))
    refine own_go (fun _ k => XS.ifYes XX.here hx rfl (pc0 := 52) (pc' := 73) rfl (hb hby dpct_52) rfl ((if0 _ _).trans (flt (own_52z hle hrk hix)).2.1) (by decide) (by decide) k) ?_
    show own_Ends _ _ _ _ _ _ _ (TT.setTop (mkF m 73 #[.val (.ref a0), .val (.int p1), .val (.long (fcount a0 bb GG)), .second, .val (.long rk), .second, .val (.int (Int32.ofNat ix)), .val (.long (own_sum GG (ix + 1))), .second] []))
    refine own_go (fun _ k => XS.iload XX.here hx rfl (hb hby dpct_73) rfl k) ?_
    show own_Ends _ _ _ _ _ _ _ (TT.setTop (mkF m 75 #[.val (.ref a0), .val (.int p1), .val (.long (fcount a0 bb GG)), .second, .val (.long rk), .second, .val (.int (Int32.ofNat ix)), .val (.long (own_sum GG (ix + 1))), .second] [(.int (Int32.ofNat ix))]))
    obtain ⟨_, _, ⟨T4, L4, k4, n4⟩, -, X4, ⟨Lc4, hQ4, l4, y4, z4⟩, st4⟩ := Jvm.LawKit.callS XX hx (y := (⟨"com/example/rate_keeper/ratekeeper/server/bench/LatencyHistogram", "middle", "(I)D"⟩ : MethodName)) hown (mvT hZ (hw _ (List.mem_of_getElem? (i := 62) rfl))) (mvT hZ (hw _ (List.mem_of_getElem? (i := 63) rfl))) (mvT hZ (hw _ (List.mem_of_getElem? (i := 3) rfl))) (mvT hZ (hw _ (List.mem_of_getElem? (i := 64) rfl))) (by decide) (backOf (W := 0) (rmmid l Z ar hw [] (Int32.ofNat ix) h0 n0 O0) hZ (hw _ (List.mem_of_getElem? (i := 64) rfl)) (hw _ (List.mem_of_getElem? (i := 3) rfl)) (by decide) (by decide)) (g := (mkF m 75 #[.val (.ref a0), .val (.int p1), .val (.long (fcount a0 bb GG)), .second, .val (.long rk), .second, .val (.int (Int32.ofNat ix)), .val (.long (own_sum GG (ix + 1))), .second] [(.int (Int32.ofNat ix))])) rfl (by rw [hml]; rfl) (argsL := [(.int (Int32.ofNat ix))]) (rest := []) (lenOf pdpct_1 rfl) rfl (by show 2 * 0 + _ ≤ _; exact Nat.le_of_eq rfl) (hb hby dpct_75) (fun _ _ => ⟨rfl, eTT, (by decide : 0 + 0 ≤ _), (by decide : 0 + 0 ≤ _)⟩)
    dsimp only [Pt.U, Pt.locs, Pt.cells, Pt.slots] at X4 l4 y4 z4 st4 hQ4
    subst l4 y4 z4
    obtain ⟨rfl, N4q, eq4⟩ := hQ4
    have e4 : T4.heap = h0 := eq4
    have N4 := Fr.app NN N4q
    refine own_go (fun _ k => st4 _ k) ?_
    show own_Ends _ _ _ _ _ _ _ (T4.setTop (mkF m 78 #[.val (.ref a0), .val (.int p1), .val (.long (fcount a0 bb GG)), .second, .val (.long rk), .second, .val (.int (Int32.ofNat ix)), .val (.long (own_sum GG (ix + 1))), .second] [(.double (fmid (Int32.ofNat ix)))]))
    exact own_retD X4 hx hlk Bd.returns (hb hby dpct_78) (by decide) (by decide) ⟨ix, rfl, own_rank_i hrk (by omega) (own_52z hle hrk hix) hno, N4, e4⟩
  | succ kk ihk =>
    intro ix TT LL XX NN eTT hix hno
    show own_Ends _ _ _ _ _ _ _ (TT.setTop (mkF m 47 #[.val (.ref a0), .val (.int p1), .val (.long (fcount a0 bb GG)), .second, .val (.long rk), .second, .val (.int (Int32.ofNat ix)), .val (.long (own_sum GG (ix + 1))), .second] []))
    refine own_go (fun _ k => XS.lload XX.here hx rfl (hb hby dpct_47) rfl k) ?_
    show own_Ends _ _ _ _ _ _ _ (TT.setTop (mkF m 49 #[.val (.ref a0), .val (.int p1), .val (.long (fcount a0 bb GG)), .second, .val (.long rk), .second, .val (.int (Int32.ofNat ix)), .val (.long (own_sum GG (ix + 1))), .second] [(.long (own_sum GG (ix + 1)))]))
    refine own_go (fun _ k => XS.lload XX.here hx rfl (hb hby dpct_49) rfl k) ?_
    show own_Ends _ _ _ _ _ _ _ (TT.setTop (mkF m 51 #[.val (.ref a0), .val (.int p1), .val (.long (fcount a0 bb GG)), .second, .val (.long rk), .second, .val (.int (Int32.ofNat ix)), .val (.long (own_sum GG (ix + 1))), .second] [(.long rk), (.long (own_sum GG (ix + 1)))]))
    refine own_go (fun _ k => XS.lcmp XX.here hx rfl (hb hby dpct_51) rfl k) ?_
    show own_Ends _ _ _ _ _ _ _ (TT.setTop (mkF m 52 #[.val (.ref a0), .val (.int p1), .val (.long (fcount a0 bb GG)), .second, .val (.long rk), .second, .val (.int (Int32.ofNat ix)), .val (.long (own_sum GG (ix + 1))), .second] [(.int (lcmpW (own_sum GG (ix + 1)) rk))]))
    by_cases hc5 : (lcmpW (own_sum GG (ix + 1)) rk) < (0 : Int32)
    · refine own_go (fun _ k => XS.ifNo XX.here hx rfl (hb hby dpct_52) rfl ((if0 _ _).trans (tlt hc5).2.1) k) ?_
      show own_Ends _ _ _ _ _ _ _ (TT.setTop (mkF m 55 #[.val (.ref a0), .val (.int p1), .val (.long (fcount a0 bb GG)), .second, .val (.long rk), .second, .val (.int (Int32.ofNat ix)), .val (.long (own_sum GG (ix + 1))), .second] []))
      refine own_go (fun _ k => XS.iinc XX.here hx rfl (hb hby dpct_55) rfl (l' := #[.val (.ref a0), .val (.int p1), .val (.long (fcount a0 bb GG)), .second, .val (.long rk), .second, .val (.int ((Int32.ofNat ix) + (1 : Int32))), .val (.long (own_sum GG (ix + 1))), .second]) rfl k) ?_
      show own_Ends _ _ _ _ _ _ _ (TT.setTop (mkF m 58 #[.val (.ref a0), .val (.int p1), .val (.long (fcount a0 bb GG)), .second, .val (.long rk), .second, .val (.int ((Int32.ofNat ix) + (1 : Int32))), .val (.long (own_sum GG (ix + 1))), .second] []))
      refine own_go (fun _ k => XS.lload XX.here hx rfl (hb hby dpct_58) rfl k) ?_
      show own_Ends _ _ _ _ _ _ _ (TT.setTop (mkF m 60 #[.val (.ref a0), .val (.int p1), .val (.long (fcount a0 bb GG)), .second, .val (.long rk), .second, .val (.int ((Int32.ofNat ix) + (1 : Int32))), .val (.long (own_sum GG (ix + 1))), .second] [(.long (own_sum GG (ix + 1)))]))
      refine own_go (fun _ k => XS.aloadN XX.here hx rfl (hb hby dpct_60) rfl rfl k) ?_
      show own_Ends _ _ _ _ _ _ _ (TT.setTop (mkF m 61 #[.val (.ref a0), .val (.int p1), .val (.long (fcount a0 bb GG)), .second, .val (.long rk), .second, .val (.int ((Int32.ofNat ix) + (1 : Int32))), .val (.long (own_sum GG (ix + 1))), .second] [(.ref a0), (.long (own_sum GG (ix + 1)))]))
      obtain ⟨T6, X6, e6, st6⟩ := getF XX hx hZ hown (host := "") (Or.inl (hw _ (List.mem_of_getElem? (i := 12) rfl))) Via.refl eTT F_counts_a0 (g := (mkF m 61 #[.val (.ref a0), .val (.int p1), .val (.long (fcount a0 bb GG)), .second, .val (.long rk), .second, .val (.int ((Int32.ofNat ix) + (1 : Int32))), .val (.long (own_sum GG (ix + 1))), .second] [(.ref a0), (.long (own_sum GG (ix + 1)))])) rfl rfl (hb hby dpct_61)
      refine own_go (fun _ k => st6 _ k) ?_
      show own_Ends _ _ _ _ _ _ _ (T6.setTop (mkF m 64 #[.val (.ref a0), .val (.int p1), .val (.long (fcount a0 bb GG)), .second, .val (.long rk), .second, .val (.int ((Int32.ofNat ix) + (1 : Int32))), .val (.long (own_sum GG (ix + 1))), .second] [(.ref bb), (.long (own_sum GG (ix + 1)))]))
      refine own_go (fun _ k => XS.iload X6.here hx rfl (hb hby dpct_64) rfl k) ?_
      show own_Ends _ _ _ _ _ _ _ (T6.setTop (mkF m 66 #[.val (.ref a0), .val (.int p1), .val (.long (fcount a0 bb GG)), .second, .val (.long rk), .second, .val (.int ((Int32.ofNat ix) + (1 : Int32))), .val (.long (own_sum GG (ix + 1))), .second] [(.int ((Int32.ofNat ix) + (1 : Int32))), (.ref bb), (.long (own_sum GG (ix + 1)))]))
      obtain ⟨c7, A7, i7, v7⟩ := own_Ar.at A_bb ((Int32.ofNat ix) + (1 : Int32)) (own_nns (by omega)) (own_lts (by omega))
      refine own_go (fun _ k => X6.laload hx (by rw [e6]; exact A7.1) (State.isArrayOf_alike hZ.alike A7.2.1) A7.2.2 i7 v7 (g := (mkF m 66 #[.val (.ref a0), .val (.int p1), .val (.long (fcount a0 bb GG)), .second, .val (.long rk), .second, .val (.int ((Int32.ofNat ix) + (1 : Int32))), .val (.long (own_sum GG (ix + 1))), .second] [(.int ((Int32.ofNat ix) + (1 : Int32))), (.ref bb), (.long (own_sum GG (ix + 1)))])) rfl rfl (hb hby dpct_66) _ k) ?_
      show own_Ends _ _ _ _ _ _ _ (T6.setTop (mkF m 67 #[.val (.ref a0), .val (.int p1), .val (.long (fcount a0 bb GG)), .second, .val (.long rk), .second, .val (.int ((Int32.ofNat ix) + (1 : Int32))), .val (.long (own_sum GG (ix + 1))), .second] [(.long (GG (((Int32.ofNat ix) + (1 : Int32))).toNatClampNeg)), (.long (own_sum GG (ix + 1)))]))
      refine own_go (fun _ k => XS.ladd X6.here hx rfl (hb hby dpct_67) rfl k) ?_
      show own_Ends _ _ _ _ _ _ _ (T6.setTop (mkF m 68 #[.val (.ref a0), .val (.int p1), .val (.long (fcount a0 bb GG)), .second, .val (.long rk), .second, .val (.int ((Int32.ofNat ix) + (1 : Int32))), .val (.long (own_sum GG (ix + 1))), .second] [(.long ((own_sum GG (ix + 1)) + (GG (((Int32.ofNat ix) + (1 : Int32))).toNatClampNeg)))]))
      refine own_go (fun _ k => XS.lstore X6.here hx rfl (hb hby dpct_68) rfl (l' := #[.val (.ref a0), .val (.int p1), .val (.long (fcount a0 bb GG)), .second, .val (.long rk), .second, .val (.int ((Int32.ofNat ix) + (1 : Int32))), .val (.long ((own_sum GG (ix + 1)) + (GG (((Int32.ofNat ix) + (1 : Int32))).toNatClampNeg))), .second]) rfl k) ?_
      show own_Ends _ _ _ _ _ _ _ (T6.setTop (mkF m 70 #[.val (.ref a0), .val (.int p1), .val (.long (fcount a0 bb GG)), .second, .val (.long rk), .second, .val (.int ((Int32.ofNat ix) + (1 : Int32))), .val (.long ((own_sum GG (ix + 1)) + (GG (((Int32.ofNat ix) + (1 : Int32))).toNatClampNeg))), .second] []))
      refine own_go (fun _ k => XS.goto X6.here hx rfl (pc0 := 70) (pc' := 47) rfl (hb hby dpct_70) (by decide) (by decide) k) ?_
      rw [own_succ, own_sum_step (i := ix + 1) (by omega)]
      exact ihk (ix + 1) _ _ X6 NN e6 (by omega) (own_nxt hno hc5)
    · refine own_go (fun _ k => XS.ifYes XX.here hx rfl (pc0 := 52) (pc' := 73) rfl (hb hby dpct_52) rfl ((if0 _ _).trans (flt hc5).2.1) (by decide) (by decide) k) ?_
      show own_Ends _ _ _ _ _ _ _ (TT.setTop (mkF m 73 #[.val (.ref a0), .val (.int p1), .val (.long (fcount a0 bb GG)), .second, .val (.long rk), .second, .val (.int (Int32.ofNat ix)), .val (.long (own_sum GG (ix + 1))), .second] []))
      refine own_go (fun _ k => XS.iload XX.here hx rfl (hb hby dpct_73) rfl k) ?_
      show own_Ends _ _ _ _ _ _ _ (TT.setTop (mkF m 75 #[.val (.ref a0), .val (.int p1), .val (.long (fcount a0 bb GG)), .second, .val (.long rk), .second, .val (.int (Int32.ofNat ix)), .val (.long (own_sum GG (ix + 1))), .second] [(.int (Int32.ofNat ix))]))
      obtain ⟨_, _, ⟨T8, L8, k8, n8⟩, -, X8, ⟨Lc8, hQ8, l8, y8, z8⟩, st8⟩ := Jvm.LawKit.callS XX hx (y := (⟨"com/example/rate_keeper/ratekeeper/server/bench/LatencyHistogram", "middle", "(I)D"⟩ : MethodName)) hown (mvT hZ (hw _ (List.mem_of_getElem? (i := 62) rfl))) (mvT hZ (hw _ (List.mem_of_getElem? (i := 63) rfl))) (mvT hZ (hw _ (List.mem_of_getElem? (i := 3) rfl))) (mvT hZ (hw _ (List.mem_of_getElem? (i := 64) rfl))) (by decide) (backOf (W := 0) (rmmid l Z ar hw [] (Int32.ofNat ix) h0 n0 O0) hZ (hw _ (List.mem_of_getElem? (i := 64) rfl)) (hw _ (List.mem_of_getElem? (i := 3) rfl)) (by decide) (by decide)) (g := (mkF m 75 #[.val (.ref a0), .val (.int p1), .val (.long (fcount a0 bb GG)), .second, .val (.long rk), .second, .val (.int (Int32.ofNat ix)), .val (.long (own_sum GG (ix + 1))), .second] [(.int (Int32.ofNat ix))])) rfl (by rw [hml]; rfl) (argsL := [(.int (Int32.ofNat ix))]) (rest := []) (lenOf pdpct_1 rfl) rfl (by show 2 * 0 + _ ≤ _; exact Nat.le_of_eq rfl) (hb hby dpct_75) (fun _ _ => ⟨rfl, eTT, (by decide : 0 + 0 ≤ _), (by decide : 0 + 0 ≤ _)⟩)
      dsimp only [Pt.U, Pt.locs, Pt.cells, Pt.slots] at X8 l8 y8 z8 st8 hQ8
      subst l8 y8 z8
      obtain ⟨rfl, N8q, eq8⟩ := hQ8
      have e8 : T8.heap = h0 := eq8
      have N8 := Fr.app NN N8q
      refine own_go (fun _ k => st8 _ k) ?_
      show own_Ends _ _ _ _ _ _ _ (T8.setTop (mkF m 78 #[.val (.ref a0), .val (.int p1), .val (.long (fcount a0 bb GG)), .second, .val (.long rk), .second, .val (.int (Int32.ofNat ix)), .val (.long (own_sum GG (ix + 1))), .second] [(.double (fmid (Int32.ofNat ix)))]))
      exact own_retD X8 hx hlk Bd.returns (hb hby dpct_78) (by decide) (by decide) ⟨ix, rfl, own_rank_i hrk (by omega) hc5 hno, N8, e8⟩
/-! doubles that are exact: x is the number n * 2^(E - 1074) -/
abbrev own_z (x : UInt64) : Int := FP.Core.zval FP.Core.b64 (FP.Core.val64 x)
def own_D (n : Int) (E : Nat) (x : UInt64) : Prop := FP.Core.DFin x ∧ own_z x = n * 2 ^ E
theorem own_rep (n : Int) (E : Nat) (hn : n.natAbs < 2 ^ 53) (h1 : 52 ≤ E) (h2 : E ≤ 2000) : ∃ V, FP.Core.fits FP.Core.b64 V ∧ V ≠ .nan ∧ FP.Core.zval FP.Core.b64 V = n * 2 ^ E := by
  have qm : FP.Core.b64.qmin = -1074 := by decide
  have qM : FP.Core.b64.qmax = 971 := by decide
  have tl : FP.Core.b64.tails = 2 ^ 52 := by decide
  by_cases h0 : n = 0
  · refine ⟨.fin false 0 FP.Core.b64.qmin, ⟨by decide, Int.le_refl _, by decide, Or.inl rfl⟩, by simp, ?_⟩
    rw [h0, Int.zero_mul]
    simp [FP.Core.zval, FP.Core.zmag, FP.Core.sgn, FP.Core.signed, FP.Core.inUnits]
  · obtain ⟨c, hc⟩ : ∃ c, c = n.natAbs := ⟨_, rfl⟩
    have c0 : c ≠ 0 := by omega
    have l1 := Nat.log2_self_le c0
    have l2 := Nat.lt_log2_self (n := c)
    have l3 : c.log2 < 53 := (Nat.log2_lt c0).mpr (by omega)
    obtain ⟨j, hj⟩ : ∃ j, j = 52 - c.log2 := ⟨_, rfl⟩
    have b1 : c * 2 ^ j < 2 ^ 53 := by
      have : c * 2 ^ j < 2 ^ (c.log2 + 1) * 2 ^ j := Nat.mul_lt_mul_of_pos_right l2 (Nat.two_pow_pos _)
      rwa [← Nat.pow_add, show c.log2 + 1 + j = 53 by omega] at this
    have b2 : 2 ^ 52 ≤ c * 2 ^ j := by
      have : 2 ^ c.log2 * 2 ^ j ≤ c * 2 ^ j := Nat.mul_le_mul_right _ l1
      rwa [← Nat.pow_add, show c.log2 + j = 52 by omega] at this
    refine ⟨.fin (decide (n < 0)) (c * 2 ^ j) ((E : Int) - 1074 - j), ⟨b1, by rw [qm]; omega, by rw [qM]; omega, Or.inr (by rw [tl]; exact b2)⟩, by simp, ?_⟩
    have e : FP.Core.inUnits (c * 2 ^ j) ((E : Int) - 1074 - j) FP.Core.b64.qmin = c * 2 ^ E := by
      rw [FP.Core.inUnits, qm, show ((E : Int) - 1074 - j - -1074).toNat = E - j by omega, Nat.mul_assoc, ← Nat.pow_add, show j + (E - j) = E by omega]
    show FP.Core.signed (decide (n < 0)) (FP.Core.inUnits (c * 2 ^ j) ((E : Int) - 1074 - j) FP.Core.b64.qmin) = _
    rw [e, FP.Core.signed]
    by_cases s : n < 0
    · rw [if_pos (by simpa using s)]
      have : n = -(c : Int) := by omega
      rw [this, Int.neg_mul]; simp
    · rw [if_neg (by simpa using s)]
      have : n = (c : Int) := by omega
      rw [this]; simp
theorem own_fin_of {d : FP.Core.Datum} {n : Int} {E : Nat} (hn : n.natAbs < 2 ^ 53) (hE : E ≤ 2000) (h0 : d ≠ .nan) (h : FP.Core.zval FP.Core.b64 d = n * 2 ^ E) : ∃ s c q, d = .fin s c q := by
  cases d with
  | nan => exact absurd rfl h0
  | fin s c q => exact ⟨s, c, q, rfl⟩
  | inf s =>
    exfalso
    have h1 : (FP.Core.zval FP.Core.b64 (.inf s)).natAbs = 2 ^ 2098 := by cases s <;> decide +kernel
    rw [h, Int.natAbs_mul, Int.natAbs_pow] at h1
    have h2 : n.natAbs * (2 : Int).natAbs ^ E < 2 ^ 53 * 2 ^ 2000 := Nat.mul_lt_mul_of_lt_of_le hn (Nat.pow_le_pow_right (by decide) hE) (Nat.two_pow_pos _)
    rw [h1, ← Nat.pow_add] at h2
    exact absurd h2 (Nat.not_lt.mpr (Nat.pow_le_pow_right (by decide) (by decide)))
theorem own_nn {x : UInt64} (h : FP.Core.DFin x) : FP.Core.val64 x ≠ .nan := by obtain ⟨s, c, q, e⟩ := h; rw [e]; simp
theorem own_D.of {n : Int} {k : Nat} {x : UInt64} (hn : n.natAbs < 2 ^ 53) (hk : k ≤ 2000) (h0 : FP.Core.val64 x ≠ .nan) (h : own_z x = n * 2 ^ k) : own_D n k x := ⟨own_fin_of hn hk h0 h, h⟩
theorem own_D.add {n m : Int} {k : Nat} {x y : UInt64} (hx : own_D n k x) (hy : own_D m k y) (h : (n + m).natAbs < 2 ^ 53) (hk1 : 52 ≤ k := by omega) (hk : k ≤ 2000 := by omega) : own_D (n + m) k (FP.dadd x y) := by
  obtain ⟨V, fV, nV, zV⟩ := own_rep (n + m) k h hk1 hk
  have fx := FP.Core.val64_fits x
  have fy := FP.Core.val64_fits y
  have e : own_z x + own_z y = FP.Core.zval FP.Core.b64 V := by rw [hx.2, hy.2, zV, Int.add_mul]
  have e1 := FP.Core.sum_le FP.Core.good_b64 hx.1 hy.1 fx fy fV nV (Int.le_of_eq e)
  have e2 := FP.Core.sum_ge FP.Core.good_b64 hx.1 hy.1 fx fy fV nV (Int.le_of_eq e.symm)
  refine own_D.of h hk ?_ ?_
  · exact (FP.Core.notNaN_iff _).mp (FP.Core.dadd_out ((FP.Core.notNaN_iff _).mpr (own_nn hx.1)) hy.1)
  · show FP.Core.zval FP.Core.b64 (FP.Core.val64 (FP.Core.dadd x y)) = _
    rw [FP.Core.val64_dadd, ← zV]; omega
theorem own_D.sub {n m : Int} {k : Nat} {x y : UInt64} (hx : own_D n k x) (hy : own_D m k y) (h : (n - m).natAbs < 2 ^ 53) (hk1 : 52 ≤ k := by omega) (hk : k ≤ 2000 := by omega) : own_D (n - m) k (FP.dsub x y) := by
  obtain ⟨V, fV, nV, zV⟩ := own_rep (n - m) k h hk1 hk
  have fx := FP.Core.val64_fits x
  have fy := FP.Core.negate_fits (FP.Core.val64_fits y)
  have hyn : ∃ s c q, FP.Core.negate (FP.Core.val64 y) = .fin s c q := by obtain ⟨s, c, q, e⟩ := hy.1; exact ⟨!s, c, q, by rw [e]; rfl⟩
  have e : own_z x + FP.Core.zval FP.Core.b64 (FP.Core.negate (FP.Core.val64 y)) = FP.Core.zval FP.Core.b64 V := by
    have hy2 : FP.Core.zval FP.Core.b64 (FP.Core.val64 y) = m * 2 ^ k := hy.2
    rw [FP.Core.zval_negate, hx.2, zV, Int.sub_mul, hy2]; omega
  have e1 := FP.Core.sum_le FP.Core.good_b64 hx.1 hyn fx fy fV nV (Int.le_of_eq e)
  have e2 := FP.Core.sum_ge FP.Core.good_b64 hx.1 hyn fx fy fV nV (Int.le_of_eq e.symm)
  refine own_D.of h hk ?_ ?_
  · exact (FP.Core.notNaN_iff _).mp (FP.Core.dsub_out ((FP.Core.notNaN_iff _).mpr (own_nn hx.1)) hy.1)
  · show FP.Core.zval FP.Core.b64 (FP.Core.val64 (FP.Core.dsub x y)) = _
    rw [FP.Core.val64_dsub, ← zV]; omega
theorem own_signed (s t : Bool) (a b : Nat) : FP.Core.signed (s != t) (a * b) = FP.Core.signed s a * FP.Core.signed t b := by
  cases s <;> cases t <;> simp [FP.Core.signed, Int.mul_neg, Int.neg_mul]
theorem own_pw (a b : Nat) : (2 : Int) ^ a * 2 ^ b = 2 ^ (a + b) := (Int.pow_add 2 a b).symm
theorem own_D.mul {n m : Int} {k j g : Nat} {x y : UInt64} (hx : own_D n k x) (hy : own_D m j y) (h : (n * m).natAbs < 2 ^ 53) (hg : g + 1074 = k + j) (hk1 : 52 ≤ g := by omega) (hk : g ≤ 2000 := by omega) : own_D (n * m) g (FP.dmul x y) := by
  obtain ⟨V, fV, nV, zV⟩ := own_rep (n * m) g h hk1 hk
  have fx := FP.Core.val64_fits x
  have fy := FP.Core.val64_fits y
  obtain ⟨⟨s, c, q, ex⟩, zx⟩ := hx
  obtain ⟨⟨t, d, r, ey⟩, zy⟩ := hy
  have nn : FP.Core.val64 (FP.Core.dmul x y) ≠ .nan := (FP.Core.notNaN_iff _).mp (FP.Core.dmul_out ⟨s, c, q, ex⟩ ⟨t, d, r, ey⟩)
  have qm : FP.Core.b64.qmin = -1074 := by decide
  refine own_D.of h hk nn ?_
  show FP.Core.zval FP.Core.b64 (FP.Core.val64 (FP.Core.dmul x y)) = _
  rw [FP.Core.val64_dmul, ex, ey]
  rw [ex] at fx; rw [ey] at fy
  obtain ⟨p1, p2, p3⟩ := FP.Core.product_units fx fy
  have zz : FP.Core.signed (s != t) (FP.Core.inUnits (c * d) (q + r) (2 * FP.Core.b64.qmin)) = FP.Core.zval FP.Core.b64 V * ((2 ^ (FP.Core.b64.qmin - 2 * FP.Core.b64.qmin).toNat : Nat) : Int) := by
    have a1 : FP.Core.signed s (FP.Core.zmag FP.Core.b64 (.fin s c q)) = n * 2 ^ k := by rw [← zx, own_z, ex]; rfl
    have a2 : FP.Core.signed t (FP.Core.zmag FP.Core.b64 (.fin t d r)) = m * 2 ^ j := by rw [← zy, own_z, ey]; rfl
    rw [p3, own_signed, a1, a2, zV, qm, show ((-1074 : Int) - 2 * -1074).toNat = 1074 by decide, Int.natCast_pow]
    show n * 2 ^ k * (m * 2 ^ j) = n * m * 2 ^ g * 2 ^ 1074
    rw [Int.mul_assoc (n * m), own_pw, hg, ← own_pw]
    simp only [Int.mul_assoc, Int.mul_left_comm]
  have e1 := FP.Core.zval_round_le FP.Core.good_b64 fV nV (by rw [qm]; decide) p2 (Int.le_of_eq zz)
  have e2 := FP.Core.zval_round_ge FP.Core.good_b64 fV nV (by rw [qm]; decide) p2 (Int.le_of_eq zz.symm)
  rw [p1, ← zV]; omega
theorem own_zdiv {x y : UInt64} {s t : Bool} {c d : Nat} {q r : Int} (ex : FP.Core.val64 x = .fin s c q) (ey : FP.Core.val64 y = .fin t d r) (hd : d ≠ 0) :
    FP.Core.val64 (FP.Core.ddiv x y) = FP.Core.roundRatio FP.Core.b64 (s != t) (FP.Core.zmag FP.Core.b64 (FP.Core.val64 x)) (FP.Core.zmag FP.Core.b64 (FP.Core.val64 y)) 0 := by
  have fx := FP.Core.val64_fits x
  have fy := FP.Core.val64_fits y
  rw [ex] at fx; rw [ey] at fy
  have h1 := fx.2.1
  have h2 := fy.2.1
  rw [FP.Core.val64_ddiv, ex, ey, FP.Core.quotient, if_neg hd]
  have hz : 0 < FP.Core.zmag FP.Core.b64 (.fin t d r) := Nat.mul_pos (Nat.pos_of_ne_zero hd) (Nat.two_pow_pos _)
  refine FP.Core.roundRatio_congr (Nat.pos_of_ne_zero hd) hz ?_
  show c * (d * 2 ^ (r - FP.Core.b64.qmin).toNat) * 2 ^ (q - r - 0).toNat = c * 2 ^ (q - FP.Core.b64.qmin).toNat * d * 2 ^ (0 - (q - r)).toNat
  have hp : 2 ^ (r - FP.Core.b64.qmin).toNat * 2 ^ (q - r - 0).toNat = 2 ^ (q - FP.Core.b64.qmin).toNat * 2 ^ (0 - (q - r)).toNat := by
    rw [← Nat.pow_add, ← Nat.pow_add]; congr 1; omega
  generalize 2 ^ (r - FP.Core.b64.qmin).toNat = P1 at *
  generalize 2 ^ (q - r - 0).toNat = P2 at *
  generalize 2 ^ (q - FP.Core.b64.qmin).toNat = P3 at *
  generalize 2 ^ (0 - (q - r)).toNat = P4 at *
  rw [show c * (d * P1) * P2 = c * d * (P1 * P2) by ac_rfl, hp]
  ac_rfl
theorem own_ab (s : Bool) (m : Nat) : (FP.Core.signed s m).natAbs = m := by cases s <;> simp [FP.Core.signed]
theorem own_zm {a : Int} {k : Nat} {x : UInt64} (h : own_D a k x) : FP.Core.zmag FP.Core.b64 (FP.Core.val64 x) = a.natAbs * 2 ^ k := by
  rw [← own_ab (FP.Core.sgn (FP.Core.val64 x)) (FP.Core.zmag FP.Core.b64 (FP.Core.val64 x))]
  show (FP.Core.zval FP.Core.b64 (FP.Core.val64 x)).natAbs = _
  rw [show FP.Core.zval FP.Core.b64 (FP.Core.val64 x) = a * 2 ^ k from h.2, Int.natAbs_mul, Int.natAbs_pow]; rfl
/-- an exact quotient -/
theorem own_D.div {a b g : Int} {k j i : Nat} {x y : UInt64} (hx : own_D a k x) (hy : own_D b j y) (hb : b ≠ 0) (hg : g.natAbs < 2 ^ 53) (h : a * 2 ^ k * 2 ^ 1074 = g * 2 ^ i * (b * 2 ^ j)) (hi1 : 52 ≤ i := by omega) (hi : i ≤ 2000 := by omega) : own_D g i (FP.ddiv x y) := by
  obtain ⟨V, fV, nV, zV⟩ := own_rep g i hg hi1 hi
  have x1 := own_zm hx
  have y1 := own_zm hy
  obtain ⟨⟨s, c, q, ex⟩, zx⟩ := hx
  obtain ⟨⟨t, d, r, ey⟩, zy⟩ := hy
  have zx' : FP.Core.signed s (FP.Core.zmag FP.Core.b64 (FP.Core.val64 x)) = a * 2 ^ k := by rw [← zx, own_z, FP.Core.zval, ex]; rfl
  have zy' : FP.Core.signed t (FP.Core.zmag FP.Core.b64 (FP.Core.val64 y)) = b * 2 ^ j := by rw [← zy, own_z, FP.Core.zval, ey]; rfl
  have hd : d ≠ 0 := fun z => by
    rw [ey, z] at zy'
    have : FP.Core.signed t (FP.Core.zmag FP.Core.b64 (.fin t 0 r)) = 0 := by simp [FP.Core.signed, FP.Core.zmag, FP.Core.inUnits]
    rw [this] at zy'
    rcases Int.mul_eq_zero.mp zy'.symm with z | z
    · exact hb z
    · exact absurd z (Int.ne_of_gt (Int.pow_pos (by decide)))
  have e := own_zdiv ex ey hd
  have qm : FP.Core.b64.qmin = -1074 := by decide
  obtain ⟨X, hX⟩ : ∃ X, X = FP.Core.zmag FP.Core.b64 (FP.Core.val64 x) := ⟨_, rfl⟩
  obtain ⟨Y, hY⟩ : ∃ Y, Y = FP.Core.zmag FP.Core.b64 (FP.Core.val64 y) := ⟨_, rfl⟩
  rw [← hX] at zx' e x1; rw [← hY] at zy' e y1
  have hY0 : 0 < Y := by rw [hY, ey]; exact Nat.mul_pos (Nat.pos_of_ne_zero hd) (Nat.two_pow_pos _)
  obtain ⟨M, hM⟩ : ∃ M, M = FP.Core.zmag FP.Core.b64 V := ⟨_, rfl⟩
  have m1 : M = g.natAbs * 2 ^ i := by
    rw [hM, ← own_ab (FP.Core.sgn V) (FP.Core.zmag FP.Core.b64 V)]
    show (FP.Core.zval FP.Core.b64 V).natAbs = _
    rw [zV, Int.natAbs_mul, Int.natAbs_pow]; rfl
  have key : X * 2 ^ 1074 = M * Y := by
    have := congrArg Int.natAbs h
    rw [Int.natAbs_mul, Int.natAbs_mul, Int.natAbs_mul, Int.natAbs_mul, Int.natAbs_mul, Int.natAbs_pow, Int.natAbs_pow, Int.natAbs_pow, Int.natAbs_pow] at this
    rw [x1, y1, m1]; exact this
  have u : FP.Core.inUnits X 0 FP.Core.b64.qmin = FP.Core.zmag FP.Core.b64 V * 2 ^ (FP.Core.b64.qmin - FP.Core.b64.qmin).toNat * Y := by
    rw [FP.Core.inUnits, qm, show ((0 : Int) - -1074).toNat = 1074 by decide, show ((-1074 : Int) - -1074).toNat = 0 by decide, Nat.pow_zero, Nat.mul_one, key, hM]
  have r1 := FP.Core.zmag_roundRatio_le FP.Core.good_b64 (s := (s != t)) hY0 fV nV (Int.le_refl _) (by rw [qm]; decide) (Nat.le_of_eq u)
  have r2 := FP.Core.zmag_roundRatio_ge FP.Core.good_b64 (s := (s != t)) hY0 fV (Int.le_refl _) (by rw [qm]; decide) (Nat.le_of_eq u.symm)
  refine own_D.of hg hi ?_ ?_
  · show FP.Core.val64 (FP.Core.ddiv x y) ≠ _
    rw [e]; exact FP.Core.roundRatio_ne_nan _ _ _ _ _
  · show FP.Core.zval FP.Core.b64 (FP.Core.val64 (FP.Core.ddiv x y)) = _
    rw [e, FP.Core.zval, FP.Core.sgn_roundRatio, show FP.Core.zmag FP.Core.b64 (FP.Core.roundRatio FP.Core.b64 (s != t) X Y 0) = M by rw [hM]; omega]
    have c1 : FP.Core.signed (s != t) M * FP.Core.signed t Y = FP.Core.signed s X * 2 ^ 1074 := by
      have := own_signed (s != t) t M Y
      rw [show ((s != t) != t) = s by cases s <;> cases t <;> rfl, ← key] at this
      rw [← this]
      cases s <;> simp [FP.Core.signed, Int.neg_mul]
    have hy0 : FP.Core.signed t Y ≠ 0 := fun z => by have := own_ab t Y; rw [z] at this; simp at this; omega
    apply Int.eq_of_mul_eq_mul_right hy0
    rw [c1, zx', zy', h]
theorem own_sgn {b : Int} {j : Nat} {y : UInt64} (hy : own_D b j y) (hb : b ≠ 0) : FP.Core.sgn (FP.Core.val64 y) = decide (b < 0) := by
  have z : FP.Core.signed (FP.Core.sgn (FP.Core.val64 y)) (FP.Core.zmag FP.Core.b64 (FP.Core.val64 y)) = b * 2 ^ j := hy.2
  have p : (0 : Int) < 2 ^ j := Int.pow_pos (by decide)
  generalize FP.Core.zmag FP.Core.b64 (FP.Core.val64 y) = M at *
  rcases Int.lt_or_gt_of_ne hb with q | q
  · have : b * 2 ^ j < 0 := Int.mul_neg_of_neg_of_pos q p
    cases hs : FP.Core.sgn (FP.Core.val64 y)
    · rw [hs] at z; simp [FP.Core.signed] at z; omega
    · simp [q]
  · have : 0 < b * 2 ^ j := Int.mul_pos q p
    cases hs : FP.Core.sgn (FP.Core.val64 y)
    · simp; omega
    · rw [hs] at z; simp [FP.Core.signed] at z; omega
/-- two quotients of one worth -/
theorem own_quot {a b a' b' : Int} {k j k' j' : Nat} {x y x' y' : UInt64} (hx : own_D a k x) (hy : own_D b j y) (hx' : own_D a' k' x') (hy' : own_D b' j' y') (hb : 0 < b) (hb' : 0 < b') (h : a * 2 ^ k * (b' * 2 ^ j') = a' * 2 ^ k' * (b * 2 ^ j)) : own_z (FP.ddiv x y) = own_z (FP.ddiv x' y') ∧ FP.Core.val64 (FP.ddiv x y) ≠ .nan ∧ FP.Core.val64 (FP.ddiv x' y') ≠ .nan := by
  have p : ∀ n : Nat, (0 : Int) < 2 ^ n := fun n => Int.pow_pos (by decide)
  have x1 := own_zm hx
  have y1 := own_zm hy
  have x1' := own_zm hx'
  have y1' := own_zm hy'
  have sy := own_sgn hy (by omega)
  have sy' := own_sgn hy' (by omega)
  have sx := fun q => own_sgn hx q
  have sx' := fun q => own_sgn hx' q
  obtain ⟨⟨s, c, q, ex⟩, zx⟩ := hx
  obtain ⟨⟨t, d, r, ey⟩, zy⟩ := hy
  obtain ⟨⟨s', c', q', ex'⟩, zx'⟩ := hx'
  obtain ⟨⟨t', d', r', ey'⟩, zy'⟩ := hy'
  have nz : ∀ {b : Int} {j : Nat} {y : UInt64} {t : Bool} {d : Nat} {r : Int}, FP.Core.val64 y = .fin t d r → FP.Core.zmag FP.Core.b64 (FP.Core.val64 y) = b.natAbs * 2 ^ j → 0 < b → d ≠ 0 := fun {b j y t d r} ey y1 hb z => by
    rw [ey, z] at y1
    have : FP.Core.zmag FP.Core.b64 (.fin t 0 r) = 0 := by simp [FP.Core.zmag, FP.Core.inUnits]
    rw [this] at y1
    have : 0 < b.natAbs * 2 ^ j := Nat.mul_pos (by omega) (Nat.two_pow_pos _)
    omega
  have e := own_zdiv ex ey (nz ey y1 hb)
  have e' := own_zdiv ex' ey' (nz ey' y1' hb')
  rw [x1, y1] at e
  rw [x1', y1'] at e'
  rw [ey] at sy; rw [ey'] at sy'; rw [ex] at sx; rw [ex'] at sx'
  have t0 : t = false := by rw [show t = decide (b < 0) from sy]; simp; omega
  have t0' : t' = false := by rw [show t' = decide (b' < 0) from sy']; simp; omega
  refine ⟨?_, by show FP.Core.val64 (FP.Core.ddiv x y) ≠ _; rw [e]; exact FP.Core.roundRatio_ne_nan _ _ _ _ _, by show FP.Core.val64 (FP.Core.ddiv x' y') ≠ _; rw [e']; exact FP.Core.roundRatio_ne_nan _ _ _ _ _⟩
  show FP.Core.zval FP.Core.b64 (FP.Core.val64 (FP.Core.ddiv x y)) = FP.Core.zval FP.Core.b64 (FP.Core.val64 (FP.Core.ddiv x' y'))
  rw [e, e']
  have B0 : 0 < b.natAbs * 2 ^ j := Nat.mul_pos (by omega) (Nat.two_pow_pos _)
  have B0' : 0 < b'.natAbs * 2 ^ j' := Nat.mul_pos (by omega) (Nat.two_pow_pos _)
  have P := Int.mul_pos hb' (p j')
  have P' := Int.mul_pos hb (p j)
  have hn : a.natAbs * 2 ^ k * (b'.natAbs * 2 ^ j') = a'.natAbs * 2 ^ k' * (b.natAbs * 2 ^ j) := by
    have := congrArg Int.natAbs h
    rw [Int.natAbs_mul, Int.natAbs_mul, Int.natAbs_mul, Int.natAbs_mul, Int.natAbs_mul, Int.natAbs_mul, Int.natAbs_pow, Int.natAbs_pow, Int.natAbs_pow, Int.natAbs_pow] at this
    exact this
  by_cases a0 : a = 0
  · have a0' : a' = 0 := by
      rw [a0, Int.zero_mul, Int.zero_mul] at h
      rcases Int.mul_eq_zero.mp h.symm with z | z
      · rcases Int.mul_eq_zero.mp z with z | z
        · exact z
        · have := p k'; omega
      · omega
    subst a0 a0'
    simp [FP.Core.roundRatio, FP.Core.zval, FP.Core.zmag, FP.Core.inUnits, FP.Core.signed]
  · have a0' : a' ≠ 0 := fun z => by
      rw [z, Int.zero_mul, Int.zero_mul] at h
      rcases Int.mul_eq_zero.mp h with z | z
      · rcases Int.mul_eq_zero.mp z with z | z
        · exact a0 z
        · have := p k; omega
      · omega
    have ss : s = s' := by
      rw [show s = decide (a < 0) from sx a0, show s' = decide (a' < 0) from sx' a0']
      rcases Int.lt_or_gt_of_ne a0 with z | z
      · have l : a * 2 ^ k * (b' * 2 ^ j') < 0 := Int.mul_neg_of_neg_of_pos (Int.mul_neg_of_neg_of_pos z (p k)) P
        rcases Int.lt_or_gt_of_ne a0' with z' | z'
        · simp [z, z']
        · have := Int.mul_pos (Int.mul_pos z' (p k')) P'; omega
      · have l : 0 < a * 2 ^ k * (b' * 2 ^ j') := Int.mul_pos (Int.mul_pos z (p k)) P
        rcases Int.lt_or_gt_of_ne a0' with z' | z'
        · have := Int.mul_neg_of_neg_of_pos (Int.mul_neg_of_neg_of_pos z' (p k')) P'; omega
        · have q1 : ¬ a < 0 := by omega
          have q2 : ¬ a' < 0 := by omega
          simp [q1, q2]
    rw [t0, t0', ss]
    congr 1
    refine FP.Core.roundRatio_congr B0 B0' ?_
    rw [Int.sub_self]; simpa using hn
theorem own_D.l2d {a : Int64} (h : a.toInt.natAbs < 2 ^ 53) : own_D a.toInt 1074 (FP.l2d a) := by
  have w := FP.Core.l2d_whole (a := a) ⟨by omega, by omega⟩
  refine own_D.of h (by decide) (FP.Core.Whole.ne_nan w) ?_
  exact FP.Core.DInt_zval w
theorem own_D.i2d (a : Int32) : own_D a.toInt 1074 (FP.i2d a) := by
  have h1 := Int32.toInt_lt a
  have h2 := Int32.le_toInt a
  have := own_D.l2d (a := a.toInt64) (by rw [Int32.toInt_toInt64]; omega)
  rw [Int32.toInt_toInt64, ← i2d_w] at this
  exact this
theorem own_D.noNaN {n : Int} {k : Nat} {x : UInt64} (h : own_D n k x) : Jvm.Free.Fl.NoNaN64 x := (Jvm.Free.Fl.fin64_core.mpr h.1).noNaN
theorem own_D.up {n : Int} {k j : Nat} {x : UInt64} (h : own_D n (k + j) x) : own_D (n * 2 ^ j) k x := ⟨h.1, by rw [h.2, Int.mul_assoc, own_pw, Nat.add_comm]⟩
theorem own_dcmp {x y : UInt64} (hx : FP.Core.val64 x ≠ .nan) (hy : FP.Core.val64 y ≠ .nan) (h : own_z x = own_z y) (o : CmpOp) : cmpValue (FP.dcmp x y) o = (0 : Int32) := by
  have : FP.dcmp x y = some .eq := by
    show FP.Core.dcmp x y = _
    rw [FP.Core.dcmp_zval hx hy]
    show some (compare (own_z x) (own_z y)) = _
    rw [h, FP.Core.compare_ite]; simp
  rw [this]; cases o <;> rfl
theorem own_at_unique {x : Int} {s s' : Nat} (h : own_at x s) (h' : own_at x s') (hlt : s < s') : False := by
  obtain ⟨-, -, a⟩ := h
  obtain ⟨-, b, -⟩ := h'
  have b' : 1024 ≤ x / 2 ^ s' := b.resolve_left (by omega)
  have e : (2 : Int) ^ s' = 2 ^ s * 2 ^ (s' - s) := by rw [← Int.pow_add, Nat.add_sub_cancel' (by omega)]
  rw [e, ← Int.ediv_ediv_of_nonneg (by have := own_pow_pos s; omega)] at b'
  have p2 := own_pow_le (show 1 ≤ s' - s by omega)
  have pp := own_pow_pos (s' - s)
  rw [Int.le_ediv_iff_mul_le pp] at b'
  have : 1024 * (2 : Int) ^ 1 ≤ 1024 * 2 ^ (s' - s) := by omega
  omega
theorem own_index_at {x : Int64} {s : Nat} (h0 : 0 ≤ x.toInt) (h1 : x.toInt < 2 ^ 54) (h : own_at x.toInt s) : (findex x).toInt = s * 1024 + x.toInt / 2 ^ s := by
  obtain ⟨s', h', e⟩ := own_index h0 h1
  rcases Nat.lt_trichotomy s s' with z | z | z
  · exact (own_at_unique h h' z).elim
  · rw [z]; exact e
  · exact (own_at_unique h' h z).elim
theorem own_fmax {x : Int64} (h : 0 ≤ x.toInt) : fmaxJ (0 : Int64) x = x := by
  rw [fmaxJ]
  split
  · rfl
  · rename_i z
    rw [lcW, lc_lt, Int64.lt_iff_toInt_lt, show (0 : Int64).toInt = 0 by decide] at z
    exact Int64.toInt_inj.mp (by rw [show (0 : Int64).toInt = 0 by decide]; omega)
/-- the middle of the bucket s * 1024 + m -/
theorem own_mid {m s : Nat} (hs : s ≤ 43) (hm : m < 2048) (h : s = 0 ∨ 1024 ≤ m) : fmid (Int32.ofNat (s * 1024 + m)) = FP.dadd (FP.l2d ((Int64.ofNat m) <<< (Int32.ofNat s &&& 0x3f).toInt64)) (FP.ddiv (FP.l2d (((1 : Int64) <<< (Int32.ofNat s &&& 0x3f).toInt64) - (1 : Int64))) (4611686018427387904 : UInt64)) := by
  have e1 : (Int32.ofNat (s * 1024 + m) / (1024 : Int32)).toInt = ((s * 1024 + m) / 1024 : Nat) := by
    rw [Jvm.Kit.i32_div (by rw [own_c32 (by omega)]; omega), own_c32 (by omega), show (1024 : Int32).toInt = 1024 by decide, Int.tdiv_eq_ediv_of_nonneg (by omega)]; omega
  have e2 : (Int32.ofNat (s * 1024 + m) / (1024 : Int32) - (1 : Int32)).toInt = ((s * 1024 + m) / 1024 : Nat) - 1 := by
    rw [Jvm.Kit.i32_sub (by rw [e1, show (1 : Int32).toInt = 1 by decide]; omega) (by rw [e1, show (1 : Int32).toInt = 1 by decide]; omega), e1, show (1 : Int32).toInt = 1 by decide]
  have e3 : fmaxI (0 : Int32) ((Int32.ofNat (s * 1024 + m) / (1024 : Int32)) - (1 : Int32)) = Int32.ofNat s := by
    apply Int32.toInt_inj.mp
    rw [own_c32 (by omega), fmaxI]
    split
    · rename_i z; rw [Int32.lt_iff_toInt_lt, e2, show (0 : Int32).toInt = 0 by decide] at z; rw [e2]; omega
    · rename_i z; rw [Int32.lt_iff_toInt_lt, e2, show (0 : Int32).toInt = 0 by decide] at z; rw [show (0 : Int32).toInt = 0 by decide]; omega
  have e4 : ((Int32.ofNat (s * 1024 + m)) - (Int32.ofNat s * (1024 : Int32))).toInt64 = Int64.ofNat m := by
    have a1 : (Int32.ofNat s * (1024 : Int32)).toInt = s * 1024 := by
      rw [Jvm.Kit.i32_mul (by rw [own_c32 (by omega), show (1024 : Int32).toInt = 1024 by decide]; omega) (by rw [own_c32 (by omega), show (1024 : Int32).toInt = 1024 by decide]; omega), own_c32 (by omega), show (1024 : Int32).toInt = 1024 by decide]
    apply Int64.toInt_inj.mp
    rw [Int32.toInt_toInt64, Jvm.Kit.i32_sub (by rw [own_c32 (by omega), a1]; omega) (by rw [own_c32 (by omega), a1]; omega), own_c32 (by omega), a1, Int64.toInt_ofNat_of_lt (by omega)]; omega
  rw [fmid, e3]
  show FP.dadd (FP.l2d ((((Int32.ofNat (s * 1024 + m)) - (Int32.ofNat s * (1024 : Int32))).toInt64) <<< (Int32.ofNat s &&& 0x3f).toInt64)) _ = _
  rw [e4]
theorem dmic_0 : decode method_3_code 0 = .ok (.lload_n 0, 1) := by decide +kernel
theorem dmic_1 : decode method_3_code 1 = .ok (.lconst 1, 1) := by decide +kernel
theorem dmic_2 : decode method_3_code 2 = .ok (.land, 1) := by decide +kernel
theorem dmic_3 : decode method_3_code 3 = .ok (.lconst 0, 1) := by decide +kernel
theorem dmic_4 : decode method_3_code 4 = .ok (.lcmp, 1) := by decide +kernel
theorem dmic_5 : decode method_3_code 5 = .ok (.ifCond .ne 12, 3) := by decide +kernel
theorem dmic_8 : decode method_3_code 8 = .ok (.lload_n 0, 1) := by decide +kernel
theorem dmic_9 : decode method_3_code 9 = .ok (.bipush 6, 2) := by decide +kernel
theorem dmic_11 : decode method_3_code 11 = .ok (.lushr, 1) := by decide +kernel
theorem dmic_12 : decode method_3_code 12 = .ok (.ldc2_w 33, 3) := by decide +kernel
theorem dmic_15 : decode method_3_code 15 = .ok (.land, 1) := by decide +kernel
theorem dmic_16 : decode method_3_code 16 = .ok (.lreturn, 1) := by decide +kernel
theorem dmic_17 : decode method_3_code 17 = .ok (.bipush 11, 2) := by decide +kernel
theorem dmic_19 : decode method_3_code 19 = .ok (.lload_n 0, 1) := by decide +kernel
theorem dmic_20 : decode method_3_code 20 = .ok (.iconst 1, 1) := by decide +kernel
theorem dmic_21 : decode method_3_code 21 = .ok (.lushr, 1) := by decide +kernel
theorem dmic_22 : decode method_3_code 22 = .ok (.ldc2_w 35, 3) := by decide +kernel
theorem dmic_25 : decode method_3_code 25 = .ok (.land, 1) := by decide +kernel
theorem dmic_26 : decode method_3_code 26 = .ok (.l2i, 1) := by decide +kernel
theorem dmic_27 : decode method_3_code 27 = .ok (.iadd, 1) := by decide +kernel
theorem dmic_28 : decode method_3_code 28 = .ok (.istore_n 2, 1) := by decide +kernel
theorem dmic_29 : decode method_3_code 29 = .ok (.lconst 1, 1) := by decide +kernel
theorem dmic_30 : decode method_3_code 30 = .ok (.iload_n 2, 1) := by decide +kernel
theorem dmic_31 : decode method_3_code 31 = .ok (.lshl, 1) := by decide +kernel
theorem dmic_32 : decode method_3_code 32 = .ok (.lload_n 0, 1) := by decide +kernel
theorem dmic_33 : decode method_3_code 33 = .ok (.bipush 6, 2) := by decide +kernel
theorem dmic_35 : decode method_3_code 35 = .ok (.lushr, 1) := by decide +kernel
theorem dmic_36 : decode method_3_code 36 = .ok (.lconst 1, 1) := by decide +kernel
theorem dmic_37 : decode method_3_code 37 = .ok (.iload_n 2, 1) := by decide +kernel
theorem dmic_38 : decode method_3_code 38 = .ok (.lshl, 1) := by decide +kernel
theorem dmic_39 : decode method_3_code 39 = .ok (.lconst 1, 1) := by decide +kernel
theorem dmic_40 : decode method_3_code 40 = .ok (.lsub, 1) := by decide +kernel
theorem dmic_41 : decode method_3_code 41 = .ok (.land, 1) := by decide +kernel
theorem dmic_42 : decode method_3_code 42 = .ok (.lor, 1) := by decide +kernel
theorem dmic_43 : decode method_3_code 43 = .ok (.lreturn, 1) := by decide +kernel
theorem pnmic : plainName "com/example/rate_keeper/ratekeeper/server/bench/LatencyHistogramPercentileMicrosPinLaw" = true := by first | (simp [plainName, overriddenIn]; done) | decide +kernel
theorem efmic (m : MethodId) (q0 : Int64) : entryFrame m #[(.long q0)] 3 = mkF m 0 #[.val (.long q0), .second, .unset] [] := by first | (simp [entryFrame, mkF, argsToLocals, Value.category]; done) | rfl
def fmic (q0 : Int64) : Int64 := (if (lcmpW (q0 &&& (1 : Int64)) (0 : Int64)) = (0 : Int32) then (((q0.toUInt64 >>> ((6 : Int32) &&& 0x3f).toInt64.toUInt64).toInt64) &&& (2047 : Int64)) else (((1 : Int64) <<< (((11 : Int32) + ((((q0.toUInt64 >>> ((1 : Int32) &&& 0x3f).toInt64.toUInt64).toInt64) &&& (31 : Int64)).toInt32)) &&& 0x3f).toInt64) ||| (((q0.toUInt64 >>> ((6 : Int32) &&& 0x3f).toInt64.toUInt64).toInt64) &&& (((1 : Int64) <<< (((11 : Int32) + ((((q0.toUInt64 >>> ((1 : Int32) &&& 0x3f).toInt64.toUInt64).toInt64) &&& (31 : Int64)).toInt32)) &&& 0x3f).toInt64) - (1 : Int64)))))
def Qmic (Z : State) (q0 : Int64) (h0 : Heap) (n0 : Nat) (v : Option Value) (h : Heap) (L : List Loc) : Prop := v = some (.long (fmic q0)) ∧ Fr n0 L ∧ h = h0
set_option maxRecDepth 65536 in
set_option maxHeartbeats 40000000 in
theorem rmmic (l : Launch) (Z : State) (ar : Array Value) (hw : ∀ d ∈ tables_1, d.before ar Z = true) (ws : List Jvm.Cond) (q0 : Int64) (h0 : Heap) (n0 : Nat) (O0 : Old Z n0 h0) :
    MetFree l (⟨"com/example/rate_keeper/ratekeeper/server/bench/LatencyHistogramPercentileMicrosPinLaw", "micros", "(J)J"⟩ : MethodName) (head1 (Jvm.Cond.code (⟨"com/example/rate_keeper/ratekeeper/server/bench/LatencyHistogramPercentileMicrosPinLaw", "micros", "(J)J"⟩ : MethodName) method_3_code 3 (some .long) :: ws) ({ frames := 0, cells := 0, slots := 0, locals := 0 } : Room)) (fun a U => a = #[(.long q0)] ∧ Z.Warmed39 U.vm ∧ U.heap = h0) (fun _ _ _ _ _ => True) (fun _ U o U' => ∃ v L, o = .returned v ∧ Qmic Z q0 h0 n0 v U'.heap L ∧ FrameEnd U o U' L ({ frames := 0, cells := 0, slots := 0, locals := 0 } : Room).cells ({ frames := 0, cells := 0, slots := 0, locals := 0 } : Room).slots) := by
  refine MetFree.of_bodySF (plainFor_of_name pnmic) hisR ?_
  intro p e s m args below meth c s₁ Bd hml0 hP hK
  obtain ⟨rfl, hZ, hh⟩ := hP
  have hx := Bd.exec
  have hby := Bd.bytes
  have hml : c.maxLocals = 3 := hml0
  have hown : s.vm.findClass "com/example/rate_keeper/ratekeeper/server/bench/LatencyHistogramPercentileMicrosPinLaw" = some m.cls := findClass_of_methodNamed Bd.named
  have hnm := (name_of_methodNamed Bd.named Bd.method).1
  have hlk : meth.locks = false := BodyLoose.notSynchronized Bd
  have X0 : Stand p l e ({ frames := 0, cells := 0, slots := 0, locals := 0 } : Room) s m #[(.long q0)] below meth c s₁ [] 0 0 := Stand.of_body Bd
  have e0 : s₁.heap = h0 := by rw [← hh, Bd.state]; rfl
  have N0 := Fr.nil n0
  suffices hmain : own_Ends p e below s (Qmic Z q0 h0 n0) 0 0 (s₁.setTop (mkF m 0 #[.val (.long q0), .second, .unset] [])) by
    obtain ⟨U, o, h1, r⟩ := hmain
    exact ⟨U, o, castTop (efmic m q0) h1, r⟩
  show own_Ends _ _ _ _ _ _ _ (s₁.setTop (mkF m 0 #[.val (.long q0), .second, .unset] []))
  refine own_go (fun _ k => XS.lloadN X0.here hx rfl (hb hby dmic_0) rfl k) ?_
  show own_Ends _ _ _ _ _ _ _ (s₁.setTop (mkF m 1 #[.val (.long q0), .second, .unset] [(.long q0)]))
  refine own_go (fun _ k => XS.lconst X0.here hx rfl (hb hby dmic_1) k) ?_
  show own_Ends _ _ _ _ _ _ _ (s₁.setTop (mkF m 2 #[.val (.long q0), .second, .unset] [(.long (1 : Int64)), (.long q0)]))
  refine own_go (fun _ k => XS.land X0.here hx rfl (hb hby dmic_2) rfl k) ?_
  show own_Ends _ _ _ _ _ _ _ (s₁.setTop (mkF m 3 #[.val (.long q0), .second, .unset] [(.long (q0 &&& (1 : Int64)))]))
  refine own_go (fun _ k => XS.lconst X0.here hx rfl (hb hby dmic_3) k) ?_
  show own_Ends _ _ _ _ _ _ _ (s₁.setTop (mkF m 4 #[.val (.long q0), .second, .unset] [(.long (0 : Int64)), (.long (q0 &&& (1 : Int64)))]))
  refine own_go (fun _ k => XS.lcmp X0.here hx rfl (hb hby dmic_4) rfl k) ?_
  show own_Ends _ _ _ _ _ _ _ (s₁.setTop (mkF m 5 #[.val (.long q0), .second, .unset] [(.int (lcmpW (q0 &&& (1 : Int64)) (0 : Int64)))]))
  by_cases hc1 : (lcmpW (q0 &&& (1 : Int64)) (0 : Int64)) = (0 : Int32)
  · refine own_go (fun _ k => XS.ifNo X0.here hx rfl (hb hby dmic_5) rfl ((if0 _ _).trans (teq hc1).2) k) ?_
    show own_Ends _ _ _ _ _ _ _ (s₁.setTop (mkF m 8 #[.val (.long q0), .second, .unset] []))
    refine own_go (fun _ k => XS.lloadN X0.here hx rfl (hb hby dmic_8) rfl k) ?_
    show own_Ends _ _ _ _ _ _ _ (s₁.setTop (mkF m 9 #[.val (.long q0), .second, .unset] [(.long q0)]))
    refine own_go (fun _ k => XS.bipush X0.here hx rfl (hb hby dmic_9) k) ?_
    show own_Ends _ _ _ _ _ _ _ (s₁.setTop (mkF m 11 #[.val (.long q0), .second, .unset] [(.int (6 : Int32)), (.long q0)]))
    refine own_go (fun _ k => XS.lushr X0.here hx rfl (hb hby dmic_11) rfl k) ?_
    show own_Ends _ _ _ _ _ _ _ (s₁.setTop (mkF m 12 #[.val (.long q0), .second, .unset] [(.long ((q0.toUInt64 >>> ((6 : Int32) &&& 0x3f).toInt64.toUInt64).toInt64))]))
    refine own_go (fun _ k => X0.ldc2Long hx hown (mvT hZ (hw _ (List.mem_of_getElem? (i := 70) rfl))) (g := (mkF m 12 #[.val (.long q0), .second, .unset] [(.long ((q0.toUInt64 >>> ((6 : Int32) &&& 0x3f).toInt64.toUInt64).toInt64))])) rfl (hb hby dmic_12) _ k) ?_
    show own_Ends _ _ _ _ _ _ _ (s₁.setTop (mkF m 15 #[.val (.long q0), .second, .unset] [(.long (2047 : Int64)), (.long ((q0.toUInt64 >>> ((6 : Int32) &&& 0x3f).toInt64.toUInt64).toInt64))]))
    refine own_go (fun _ k => XS.land X0.here hx rfl (hb hby dmic_15) rfl k) ?_
    show own_Ends _ _ _ _ _ _ _ (s₁.setTop (mkF m 16 #[.val (.long q0), .second, .unset] [(.long (((q0.toUInt64 >>> ((6 : Int32) &&& 0x3f).toInt64.toUInt64).toInt64) &&& (2047 : Int64)))]))
    exact own_retJ X0 hx hlk Bd.returns (hb hby dmic_16) (by decide) (by decide) ⟨congrArg (fun z => some (Value.long z)) (by exact ((if_pos hc1)).symm), N0, e0⟩
  · refine own_go (fun _ k => XS.ifYes X0.here hx rfl (pc0 := 5) (pc' := 17) rfl (hb hby dmic_5) rfl ((if0 _ _).trans (feq hc1).2) (by decide) (by decide) k) ?_
    show own_Ends _ _ _ _ _ _ _ (s₁.setTop (mkF m 17 #[.val (.long q0), .second, .unset] []))
    refine own_go (fun _ k => XS.bipush X0.here hx rfl (hb hby dmic_17) k) ?_
    show own_Ends _ _ _ _ _ _ _ (s₁.setTop (mkF m 19 #[.val (.long q0), .second, .unset] [(.int (11 : Int32))]))
    refine own_go (fun _ k => XS.lloadN X0.here hx rfl (hb hby dmic_19) rfl k) ?_
    show own_Ends _ _ _ _ _ _ _ (s₁.setTop (mkF m 20 #[.val (.long q0), .second, .unset] [(.long q0), (.int (11 : Int32))]))
    refine own_go (fun _ k => XS.iconst X0.here hx rfl (hb hby dmic_20) k) ?_
    show own_Ends _ _ _ _ _ _ _ (s₁.setTop (mkF m 21 #[.val (.long q0), .second, .unset] [(.int (1 : Int32)), (.long q0), (.int (11 : Int32))]))
    refine own_go (fun _ k => XS.lushr X0.here hx rfl (hb hby dmic_21) rfl k) ?_
    show own_Ends _ _ _ _ _ _ _ (s₁.setTop (mkF m 22 #[.val (.long q0), .second, .unset] [(.long ((q0.toUInt64 >>> ((1 : Int32) &&& 0x3f).toInt64.toUInt64).toInt64)), (.int (11 : Int32))]))
    refine own_go (fun _ k => X0.ldc2Long hx hown (mvT hZ (hw _ (List.mem_of_getElem? (i := 22) rfl))) (g := (mkF m 22 #[.val (.long q0), .second, .unset] [(.long ((q0.toUInt64 >>> ((1 : Int32) &&& 0x3f).toInt64.toUInt64).toInt64)), (.int (11 : Int32))])) rfl (hb hby dmic_22) _ k) ?_
    show own_Ends _ _ _ _ _ _ _ (s₁.setTop (mkF m 25 #[.val (.long q0), .second, .unset] [(.long (31 : Int64)), (.long ((q0.toUInt64 >>> ((1 : Int32) &&& 0x3f).toInt64.toUInt64).toInt64)), (.int (11 : Int32))]))
    refine own_go (fun _ k => XS.land X0.here hx rfl (hb hby dmic_25) rfl k) ?_
    show own_Ends _ _ _ _ _ _ _ (s₁.setTop (mkF m 26 #[.val (.long q0), .second, .unset] [(.long (((q0.toUInt64 >>> ((1 : Int32) &&& 0x3f).toInt64.toUInt64).toInt64) &&& (31 : Int64))), (.int (11 : Int32))]))
    refine own_go (fun _ k => XS.l2i X0.here hx rfl (hb hby dmic_26) rfl k) ?_
    show own_Ends _ _ _ _ _ _ _ (s₁.setTop (mkF m 27 #[.val (.long q0), .second, .unset] [(.int ((((q0.toUInt64 >>> ((1 : Int32) &&& 0x3f).toInt64.toUInt64).toInt64) &&& (31 : Int64)).toInt32)), (.int (11 : Int32))]))
    refine own_go (fun _ k => XS.iadd X0.here hx rfl (hb hby dmic_27) rfl k) ?_
    show own_Ends _ _ _ _ _ _ _ (s₁.setTop (mkF m 28 #[.val (.long q0), .second, .unset] [(.int ((11 : Int32) + ((((q0.toUInt64 >>> ((1 : Int32) &&& 0x3f).toInt64.toUInt64).toInt64) &&& (31 : Int64)).toInt32)))]))
    refine own_go (fun _ k => XS.istoreN X0.here hx rfl (hb hby dmic_28) rfl (l' := #[.val (.long q0), .second, .val (.int ((11 : Int32) + ((((q0.toUInt64 >>> ((1 : Int32) &&& 0x3f).toInt64.toUInt64).toInt64) &&& (31 : Int64)).toInt32)))]) rfl k) ?_
    show own_Ends _ _ _ _ _ _ _ (s₁.setTop (mkF m 29 #[.val (.long q0), .second, .val (.int ((11 : Int32) + ((((q0.toUInt64 >>> ((1 : Int32) &&& 0x3f).toInt64.toUInt64).toInt64) &&& (31 : Int64)).toInt32)))] []))
    refine own_go (fun _ k => XS.lconst X0.here hx rfl (hb hby dmic_29) k) ?_
    show own_Ends _ _ _ _ _ _ _ (s₁.setTop (mkF m 30 #[.val (.long q0), .second, .val (.int ((11 : Int32) + ((((q0.toUInt64 >>> ((1 : Int32) &&& 0x3f).toInt64.toUInt64).toInt64) &&& (31 : Int64)).toInt32)))] [(.long (1 : Int64))]))
    refine own_go (fun _ k => XS.iloadN X0.here hx rfl (hb hby dmic_30) rfl k) ?_
    show own_Ends _ _ _ _ _ _ _ (s₁.setTop (mkF m 31 #[.val (.long q0), .second, .val (.int ((11 : Int32) + ((((q0.toUInt64 >>> ((1 : Int32) &&& 0x3f).toInt64.toUInt64).toInt64) &&& (31 : Int64)).toInt32)))] [(.int ((11 : Int32) + ((((q0.toUInt64 >>> ((1 : Int32) &&& 0x3f).toInt64.toUInt64).toInt64) &&& (31 : Int64)).toInt32))), (.long (1 : Int64))]))
    refine own_go (fun _ k => XS.lshl X0.here hx rfl (hb hby dmic_31) rfl k) ?_
    show own_Ends _ _ _ _ _ _ _ (s₁.setTop (mkF m 32 #[.val (.long q0), .second, .val (.int ((11 : Int32) + ((((q0.toUInt64 >>> ((1 : Int32) &&& 0x3f).toInt64.toUInt64).toInt64) &&& (31 : Int64)).toInt32)))] [(.long ((1 : Int64) <<< (((11 : Int32) + ((((q0.toUInt64 >>> ((1 : Int32) &&& 0x3f).toInt64.toUInt64).toInt64) &&& (31 : Int64)).toInt32)) &&& 0x3f).toInt64))]))
    refine own_go (fun _ k => XS.lloadN X0.here hx rfl (hb hby dmic_32) rfl k) ?_
    show own_Ends _ _ _ _ _ _ _ (s₁.setTop (mkF m 33 #[.val (.long q0), .second, .val (.int ((11 : Int32) + ((((q0.toUInt64 >>> ((1 : Int32) &&& 0x3f).toInt64.toUInt64).toInt64) &&& (31 : Int64)).toInt32)))] [(.long q0), (.long ((1 : Int64) <<< (((11 : Int32) + ((((q0.toUInt64 >>> ((1 : Int32) &&& 0x3f).toInt64.toUInt64).toInt64) &&& (31 : Int64)).toInt32)) &&& 0x3f).toInt64))]))
    refine own_go (fun _ k => XS.bipush X0.here hx rfl (hb hby dmic_33) k) ?_
    show own_Ends _ _ _ _ _ _ _ (s₁.setTop (mkF m 35 #[.val (.long q0), .second, .val (.int ((11 : Int32) + ((((q0.toUInt64 >>> ((1 : Int32) &&& 0x3f).toInt64.toUInt64).toInt64) &&& (31 : Int64)).toInt32)))] [(.int (6 : Int32)), (.long q0), (.long ((1 : Int64) <<< (((11 : Int32) + ((((q0.toUInt64 >>> ((1 : Int32) &&& 0x3f).toInt64.toUInt64).toInt64) &&& (31 : Int64)).toInt32)) &&& 0x3f).toInt64))]))
    refine own_go (fun _ k => XS.lushr X0.here hx rfl (hb hby dmic_35) rfl k) ?_
    show own_Ends _ _ _ _ _ _ _ (s₁.setTop (mkF m 36 #[.val (.long q0), .second, .val (.int ((11 : Int32) + ((((q0.toUInt64 >>> ((1 : Int32) &&& 0x3f).toInt64.toUInt64).toInt64) &&& (31 : Int64)).toInt32)))] [(.long ((q0.toUInt64 >>> ((6 : Int32) &&& 0x3f).toInt64.toUInt64).toInt64)), (.long ((1 : Int64) <<< (((11 : Int32) + ((((q0.toUInt64 >>> ((1 : Int32) &&& 0x3f).toInt64.toUInt64).toInt64) &&& (31 : Int64)).toInt32)) &&& 0x3f).toInt64))]))
    refine own_go (fun _ k => XS.lconst X0.here hx rfl (hb hby dmic_36) k) ?_
    show own_Ends _ _ _ _ _ _ _ (s₁.setTop (mkF m 37 #[.val (.long q0), .second, .val (.int ((11 : Int32) + ((((q0.toUInt64 >>> ((1 : Int32) &&& 0x3f).toInt64.toUInt64).toInt64) &&& (31 : Int64)).toInt32)))] [(.long (1 : Int64)), (.long ((q0.toUInt64 >>> ((6 : Int32) &&& 0x3f).toInt64.toUInt64).toInt64)), (.long ((1 : Int64) <<< (((11 : Int32) + ((((q0.toUInt64 >>> ((1 : Int32) &&& 0x3f).toInt64.toUInt64).toInt64) &&& (31 : Int64)).toInt32)) &&& 0x3f).toInt64))]))
    refine own_go (fun _ k => XS.iloadN X0.here hx rfl (hb hby dmic_37) rfl k) ?_
    show own_Ends _ _ _ _ _ _ _ (s₁.setTop (mkF m 38 #[.val (.long q0), .second, .val (.int ((11 : Int32) + ((((q0.toUInt64 >>> ((1 : Int32) &&& 0x3f).toInt64.toUInt64).toInt64) &&& (31 : Int64)).toInt32)))] [(.int ((11 : Int32) + ((((q0.toUInt64 >>> ((1 : Int32) &&& 0x3f).toInt64.toUInt64).toInt64) &&& (31 : Int64)).toInt32))), (.long (1 : Int64)), (.long ((q0.toUInt64 >>> ((6 : Int32) &&& 0x3f).toInt64.toUInt64).toInt64)), (.long ((1 : Int64) <<< (((11 : Int32) + ((((q0.toUInt64 >>> ((1 : Int32) &&& 0x3f).toInt64.toUInt64).toInt64) &&& (31 : Int64)).toInt32)) &&& 0x3f).toInt64))]))
    refine own_go (fun _ k => XS.lshl X0.here hx rfl (hb hby dmic_38) rfl k) ?_
    show own_Ends _ _ _ _ _ _ _ (s₁.setTop (mkF m 39 #[.val (.long q0), .second, .val (.int ((11 : Int32) + ((((q0.toUInt64 >>> ((1 : Int32) &&& 0x3f).toInt64.toUInt64).toInt64) &&& (31 : Int64)).toInt32)))] [(.long ((1 : Int64) <<< (((11 : Int32) + ((((q0.toUInt64 >>> ((1 : Int32) &&& 0x3f).toInt64.toUInt64).toInt64) &&& (31 : Int64)).toInt32)) &&& 0x3f).toInt64)), (.long ((q0.toUInt64 >>> ((6 : Int32) &&& 0x3f).toInt64.toUInt64).toInt64)), (.long ((1 : Int64) <<< (((11 : Int32) + ((((q0.toUInt64 >>> ((1 : Int32) &&& 0x3f).toInt64.toUInt64).toInt64) &&& (31 : Int64)).toInt32)) &&& 0x3f).toInt64))]))
    refine own_go (fun _ k => XS.lconst X0.here hx rfl (hb hby dmic_39) k) ?_
    show own_Ends _ _ _ _ _ _ _ (s₁.setTop (mkF m 40 #[.val (.long q0), .second, .val (.int ((11 : Int32) + ((((q0.toUInt64 >>> ((1 : Int32) &&& 0x3f).toInt64.toUInt64).toInt64) &&& (31 : Int64)).toInt32)))] [(.long (1 : Int64)), (.long ((1 : Int64) <<< (((11 : Int32) + ((((q0.toUInt64 >>> ((1 : Int32) &&& 0x3f).toInt64.toUInt64).toInt64) &&& (31 : Int64)).toInt32)) &&& 0x3f).toInt64)), (.long ((q0.toUInt64 >>> ((6 : Int32) &&& 0x3f).toInt64.toUInt64).toInt64)), (.long ((1 : Int64) <<< (((11 : Int32) + ((((q0.toUInt64 >>> ((1 : Int32) &&& 0x3f).toInt64.toUInt64).toInt64) &&& (31 : Int64)).toInt32)) &&& 0x3f).toInt64))]))
    refine own_go (fun _ k => XS.lsub X0.here hx rfl (hb hby dmic_40) rfl k) ?_
    show own_Ends _ _ _ _ _ _ _ (s₁.setTop (mkF m 41 #[.val (.long q0), .second, .val (.int ((11 : Int32) + ((((q0.toUInt64 >>> ((1 : Int32) &&& 0x3f).toInt64.toUInt64).toInt64) &&& (31 : Int64)).toInt32)))] [(.long (((1 : Int64) <<< (((11 : Int32) + ((((q0.toUInt64 >>> ((1 : Int32) &&& 0x3f).toInt64.toUInt64).toInt64) &&& (31 : Int64)).toInt32)) &&& 0x3f).toInt64) - (1 : Int64))), (.long ((q0.toUInt64 >>> ((6 : Int32) &&& 0x3f).toInt64.toUInt64).toInt64)), (.long ((1 : Int64) <<< (((11 : Int32) + ((((q0.toUInt64 >>> ((1 : Int32) &&& 0x3f).toInt64.toUInt64).toInt64) &&& (31 : Int64)).toInt32)) &&& 0x3f).toInt64))]))
    refine own_go (fun _ k => XS.land X0.here hx rfl (hb hby dmic_41) rfl k) ?_
    show own_Ends _ _ _ _ _ _ _ (s₁.setTop (mkF m 42 #[.val (.long q0), .second, .val (.int ((11 : Int32) + ((((q0.toUInt64 >>> ((1 : Int32) &&& 0x3f).toInt64.toUInt64).toInt64) &&& (31 : Int64)).toInt32)))] [(.long (((q0.toUInt64 >>> ((6 : Int32) &&& 0x3f).toInt64.toUInt64).toInt64) &&& (((1 : Int64) <<< (((11 : Int32) + ((((q0.toUInt64 >>> ((1 : Int32) &&& 0x3f).toInt64.toUInt64).toInt64) &&& (31 : Int64)).toInt32)) &&& 0x3f).toInt64) - (1 : Int64)))), (.long ((1 : Int64) <<< (((11 : Int32) + ((((q0.toUInt64 >>> ((1 : Int32) &&& 0x3f).toInt64.toUInt64).toInt64) &&& (31 : Int64)).toInt32)) &&& 0x3f).toInt64))]))
    refine own_go (fun _ k => XS.lor X0.here hx rfl (hb hby dmic_42) rfl k) ?_
    show own_Ends _ _ _ _ _ _ _ (s₁.setTop (mkF m 43 #[.val (.long q0), .second, .val (.int ((11 : Int32) + ((((q0.toUInt64 >>> ((1 : Int32) &&& 0x3f).toInt64.toUInt64).toInt64) &&& (31 : Int64)).toInt32)))] [(.long (((1 : Int64) <<< (((11 : Int32) + ((((q0.toUInt64 >>> ((1 : Int32) &&& 0x3f).toInt64.toUInt64).toInt64) &&& (31 : Int64)).toInt32)) &&& 0x3f).toInt64) ||| (((q0.toUInt64 >>> ((6 : Int32) &&& 0x3f).toInt64.toUInt64).toInt64) &&& (((1 : Int64) <<< (((11 : Int32) + ((((q0.toUInt64 >>> ((1 : Int32) &&& 0x3f).toInt64.toUInt64).toInt64) &&& (31 : Int64)).toInt32)) &&& 0x3f).toInt64) - (1 : Int64)))))]))
    exact own_retJ X0 hx hlk Bd.returns (hb hby dmic_43) (by decide) (by decide) ⟨congrArg (fun z => some (Value.long z)) (by exact ((if_neg hc1)).symm), N0, e0⟩
theorem dnan_0 : decode method_4_code 0 = .ok (.lload_n 0, 1) := by decide +kernel
theorem dnan_1 : decode method_4_code 1 = .ok (.bipush 48, 2) := by decide +kernel
theorem dnan_3 : decode method_4_code 3 = .ok (.lushr, 1) := by decide +kernel
theorem dnan_4 : decode method_4_code 4 = .ok (.ldc2_w 37, 3) := by decide +kernel
theorem dnan_7 : decode method_4_code 7 = .ok (.lrem, 1) := by decide +kernel
theorem dnan_8 : decode method_4_code 8 = .ok (.l2i, 1) := by decide +kernel
theorem dnan_9 : decode method_4_code 9 = .ok (.sipush 500, 3) := by decide +kernel
theorem dnan_12 : decode method_4_code 12 = .ok (.isub, 1) := by decide +kernel
theorem dnan_13 : decode method_4_code 13 = .ok (.istore_n 2, 1) := by decide +kernel
theorem dnan_14 : decode method_4_code 14 = .ok (.lload_n 0, 1) := by decide +kernel
theorem dnan_15 : decode method_4_code 15 = .ok (.invokestatic 39, 3) := by decide +kernel
theorem dnan_18 : decode method_4_code 18 = .ok (.ldc2_w 37, 3) := by decide +kernel
theorem dnan_21 : decode method_4_code 21 = .ok (.lmul, 1) := by decide +kernel
theorem dnan_22 : decode method_4_code 22 = .ok (.iload_n 2, 1) := by decide +kernel
theorem dnan_23 : decode method_4_code 23 = .ok (.i2l, 1) := by decide +kernel
theorem dnan_24 : decode method_4_code 24 = .ok (.ladd, 1) := by decide +kernel
theorem dnan_25 : decode method_4_code 25 = .ok (.lreturn, 1) := by decide +kernel
theorem pnnan : plainName "com/example/rate_keeper/ratekeeper/server/bench/LatencyHistogramPercentileMicrosPinLaw" = true := by first | (simp [plainName, overriddenIn]; done) | decide +kernel
theorem pdnan_0 : parseMethodDescriptor "(J)J" = some ⟨[.long], some .long⟩ := by decide +kernel
theorem efnan (m : MethodId) (q0 : Int64) : entryFrame m #[(.long q0)] 3 = mkF m 0 #[.val (.long q0), .second, .unset] [] := by first | (simp [entryFrame, mkF, argsToLocals, Value.category]; done) | rfl
def fnan (q0 : Int64) : Int64 := (((fmic q0) * (1000 : Int64)) + ((((((q0.toUInt64 >>> ((48 : Int32) &&& 0x3f).toInt64.toUInt64).toInt64) - (((q0.toUInt64 >>> ((48 : Int32) &&& 0x3f).toInt64.toUInt64).toInt64) / (1000 : Int64)) * (1000 : Int64)).toInt32) - (500 : Int32)).toInt64))
def Qnan (Z : State) (q0 : Int64) (h0 : Heap) (n0 : Nat) (v : Option Value) (h : Heap) (L : List Loc) : Prop := v = some (.long (fnan q0)) ∧ Fr n0 L ∧ h = h0
set_option maxRecDepth 65536 in
set_option maxHeartbeats 40000000 in
theorem rmnan (l : Launch) (Z : State) (ar : Array Value) (hw : ∀ d ∈ tables_1, d.before ar Z = true) (ws : List Jvm.Cond) (q0 : Int64) (h0 : Heap) (n0 : Nat) (O0 : Old Z n0 h0) :
    MetFree l (⟨"com/example/rate_keeper/ratekeeper/server/bench/LatencyHistogramPercentileMicrosPinLaw", "nanos", "(J)J"⟩ : MethodName) (head1 (Jvm.Cond.code (⟨"com/example/rate_keeper/ratekeeper/server/bench/LatencyHistogramPercentileMicrosPinLaw", "nanos", "(J)J"⟩ : MethodName) method_4_code 3 (some .long) :: ws) ({ frames := 1, cells := 0, slots := 0, locals := 14 } : Room)) (fun a U => a = #[(.long q0)] ∧ Z.Warmed39 U.vm ∧ U.heap = h0) (fun _ _ _ _ _ => True) (fun _ U o U' => ∃ v L, o = .returned v ∧ Qnan Z q0 h0 n0 v U'.heap L ∧ FrameEnd U o U' L ({ frames := 1, cells := 0, slots := 0, locals := 14 } : Room).cells ({ frames := 1, cells := 0, slots := 0, locals := 14 } : Room).slots) := by
  refine MetFree.of_bodySF (plainFor_of_name pnnan) hisR ?_
  intro p e s m args below meth c s₁ Bd hml0 hP hK
  obtain ⟨rfl, hZ, hh⟩ := hP
  have hx := Bd.exec
  have hby := Bd.bytes
  have hml : c.maxLocals = 3 := hml0
  have hown : s.vm.findClass "com/example/rate_keeper/ratekeeper/server/bench/LatencyHistogramPercentileMicrosPinLaw" = some m.cls := findClass_of_methodNamed Bd.named
  have hnm := (name_of_methodNamed Bd.named Bd.method).1
  have hlk : meth.locks = false := BodyLoose.notSynchronized Bd
  have X0 : Stand p l e ({ frames := 1, cells := 0, slots := 0, locals := 14 } : Room) s m #[(.long q0)] below meth c s₁ [] 0 0 := Stand.of_body Bd
  have e0 : s₁.heap = h0 := by rw [← hh, Bd.state]; rfl
  have N0 := Fr.nil n0
  suffices hmain : own_Ends p e below s (Qnan Z q0 h0 n0) 0 0 (s₁.setTop (mkF m 0 #[.val (.long q0), .second, .unset] [])) by
    obtain ⟨U, o, h1, r⟩ := hmain
    exact ⟨U, o, castTop (efnan m q0) h1, r⟩
  show own_Ends _ _ _ _ _ _ _ (s₁.setTop (mkF m 0 #[.val (.long q0), .second, .unset] []))
  refine own_go (fun _ k => XS.lloadN X0.here hx rfl (hb hby dnan_0) rfl k) ?_
  show own_Ends _ _ _ _ _ _ _ (s₁.setTop (mkF m 1 #[.val (.long q0), .second, .unset] [(.long q0)]))
  refine own_go (fun _ k => XS.bipush X0.here hx rfl (hb hby dnan_1) k) ?_
  show own_Ends _ _ _ _ _ _ _ (s₁.setTop (mkF m 3 #[.val (.long q0), .second, .unset] [(.int (48 : Int32)), (.long q0)]))
  refine own_go (fun _ k => XS.lushr X0.here hx rfl (hb hby dnan_3) rfl k) ?_
  show own_Ends _ _ _ _ _ _ _ (s₁.setTop (mkF m 4 #[.val (.long q0), .second, .unset] [(.long ((q0.toUInt64 >>> ((48 : Int32) &&& 0x3f).toInt64.toUInt64).toInt64))]))
  refine own_go (fun _ k => X0.ldc2Long hx hown (mvT hZ (hw _ (List.mem_of_getElem? (i := 18) rfl))) (g := (mkF m 4 #[.val (.long q0), .second, .unset] [(.long ((q0.toUInt64 >>> ((48 : Int32) &&& 0x3f).toInt64.toUInt64).toInt64))])) rfl (hb hby dnan_4) _ k) ?_
  show own_Ends _ _ _ _ _ _ _ (s₁.setTop (mkF m 7 #[.val (.long q0), .second, .unset] [(.long (1000 : Int64)), (.long ((q0.toUInt64 >>> ((48 : Int32) &&& 0x3f).toInt64.toUInt64).toInt64))]))
  refine own_go (fun _ k => XS.lrem X0.here hx rfl (hb hby dnan_7) rfl (by decide) k) ?_
  show own_Ends _ _ _ _ _ _ _ (s₁.setTop (mkF m 8 #[.val (.long q0), .second, .unset] [(.long (((q0.toUInt64 >>> ((48 : Int32) &&& 0x3f).toInt64.toUInt64).toInt64) - (((q0.toUInt64 >>> ((48 : Int32) &&& 0x3f).toInt64.toUInt64).toInt64) / (1000 : Int64)) * (1000 : Int64)))]))
  refine own_go (fun _ k => XS.l2i X0.here hx rfl (hb hby dnan_8) rfl k) ?_
  show own_Ends _ _ _ _ _ _ _ (s₁.setTop (mkF m 9 #[.val (.long q0), .second, .unset] [(.int ((((q0.toUInt64 >>> ((48 : Int32) &&& 0x3f).toInt64.toUInt64).toInt64) - (((q0.toUInt64 >>> ((48 : Int32) &&& 0x3f).toInt64.toUInt64).toInt64) / (1000 : Int64)) * (1000 : Int64)).toInt32))]))
  refine own_go (fun _ k => XS.sipush X0.here hx rfl (hb hby dnan_9) k) ?_
  show own_Ends _ _ _ _ _ _ _ (s₁.setTop (mkF m 12 #[.val (.long q0), .second, .unset] [(.int (500 : Int32)), (.int ((((q0.toUInt64 >>> ((48 : Int32) &&& 0x3f).toInt64.toUInt64).toInt64) - (((q0.toUInt64 >>> ((48 : Int32) &&& 0x3f).toInt64.toUInt64).toInt64) / (1000 : Int64)) * (1000 : Int64)).toInt32))]))
  refine own_go (fun _ k => XS.isub X0.here hx rfl (hb hby dnan_12) rfl k) ?_
  show own_Ends _ _ _ _ _ _ _ (s₁.setTop (mkF m 13 #[.val (.long q0), .second, .unset] [(.int (((((q0.toUInt64 >>> ((48 : Int32) &&& 0x3f).toInt64.toUInt64).toInt64) - (((q0.toUInt64 >>> ((48 : Int32) &&& 0x3f).toInt64.toUInt64).toInt64) / (1000 : Int64)) * (1000 : Int64)).toInt32) - (500 : Int32)))]))
  refine own_go (fun _ k => XS.istoreN X0.here hx rfl (hb hby dnan_13) rfl (l' := #[.val (.long q0), .second, .val (.int (((((q0.toUInt64 >>> ((48 : Int32) &&& 0x3f).toInt64.toUInt64).toInt64) - (((q0.toUInt64 >>> ((48 : Int32) &&& 0x3f).toInt64.toUInt64).toInt64) / (1000 : Int64)) * (1000 : Int64)).toInt32) - (500 : Int32)))]) rfl k) ?_
  show own_Ends _ _ _ _ _ _ _ (s₁.setTop (mkF m 14 #[.val (.long q0), .second, .val (.int (((((q0.toUInt64 >>> ((48 : Int32) &&& 0x3f).toInt64.toUInt64).toInt64) - (((q0.toUInt64 >>> ((48 : Int32) &&& 0x3f).toInt64.toUInt64).toInt64) / (1000 : Int64)) * (1000 : Int64)).toInt32) - (500 : Int32)))] []))
  refine own_go (fun _ k => XS.lloadN X0.here hx rfl (hb hby dnan_14) rfl k) ?_
  show own_Ends _ _ _ _ _ _ _ (s₁.setTop (mkF m 15 #[.val (.long q0), .second, .val (.int (((((q0.toUInt64 >>> ((48 : Int32) &&& 0x3f).toInt64.toUInt64).toInt64) - (((q0.toUInt64 >>> ((48 : Int32) &&& 0x3f).toInt64.toUInt64).toInt64) / (1000 : Int64)) * (1000 : Int64)).toInt32) - (500 : Int32)))] [(.long q0)]))
  obtain ⟨_, _, ⟨T1, L1, k1, n1⟩, -, X1, ⟨Lc1, hQ1, l1, y1, z1⟩, st1⟩ := Jvm.LawKit.callS X0 hx (y := (⟨"com/example/rate_keeper/ratekeeper/server/bench/LatencyHistogramPercentileMicrosPinLaw", "micros", "(J)J"⟩ : MethodName)) hown (mvT hZ (hw _ (List.mem_of_getElem? (i := 19) rfl))) (mvT hZ (hw _ (List.mem_of_getElem? (i := 20) rfl))) (mvT hZ (hw _ (List.mem_of_getElem? (i := 16) rfl))) (mvT hZ (hw _ (List.mem_of_getElem? (i := 21) rfl))) (by decide) (backOf (W := 0) (rmmic l Z ar hw [] q0 h0 n0 O0) hZ (hw _ (List.mem_of_getElem? (i := 21) rfl)) (hw _ (List.mem_of_getElem? (i := 16) rfl)) (by decide) (by decide)) (g := (mkF m 15 #[.val (.long q0), .second, .val (.int (((((q0.toUInt64 >>> ((48 : Int32) &&& 0x3f).toInt64.toUInt64).toInt64) - (((q0.toUInt64 >>> ((48 : Int32) &&& 0x3f).toInt64.toUInt64).toInt64) / (1000 : Int64)) * (1000 : Int64)).toInt32) - (500 : Int32)))] [(.long q0)])) rfl (by rw [hml]; rfl) (argsL := [(.long q0)]) (rest := []) (lenOf pdnan_0 rfl) rfl (by show 2 * 0 + _ ≤ _; exact Nat.le_of_eq rfl) (hb hby dnan_15) (fun _ _ => ⟨rfl, e0, (by decide : 0 + 0 ≤ _), (by decide : 0 + 0 ≤ _)⟩)
  dsimp only [Pt.U, Pt.locs, Pt.cells, Pt.slots] at X1 l1 y1 z1 st1 hQ1
  subst l1 y1 z1
  obtain ⟨rfl, N1q, eq1⟩ := hQ1
  have e1 : T1.heap = h0 := eq1
  have N1 := Fr.app N0 N1q
  refine own_go (fun _ k => st1 _ k) ?_
  show own_Ends _ _ _ _ _ _ _ (T1.setTop (mkF m 18 #[.val (.long q0), .second, .val (.int (((((q0.toUInt64 >>> ((48 : Int32) &&& 0x3f).toInt64.toUInt64).toInt64) - (((q0.toUInt64 >>> ((48 : Int32) &&& 0x3f).toInt64.toUInt64).toInt64) / (1000 : Int64)) * (1000 : Int64)).toInt32) - (500 : Int32)))] [(.long (fmic q0))]))
  refine own_go (fun _ k => X1.ldc2Long hx hown (mvT hZ (hw _ (List.mem_of_getElem? (i := 18) rfl))) (g := (mkF m 18 #[.val (.long q0), .second, .val (.int (((((q0.toUInt64 >>> ((48 : Int32) &&& 0x3f).toInt64.toUInt64).toInt64) - (((q0.toUInt64 >>> ((48 : Int32) &&& 0x3f).toInt64.toUInt64).toInt64) / (1000 : Int64)) * (1000 : Int64)).toInt32) - (500 : Int32)))] [(.long (fmic q0))])) rfl (hb hby dnan_18) _ k) ?_
  show own_Ends _ _ _ _ _ _ _ (T1.setTop (mkF m 21 #[.val (.long q0), .second, .val (.int (((((q0.toUInt64 >>> ((48 : Int32) &&& 0x3f).toInt64.toUInt64).toInt64) - (((q0.toUInt64 >>> ((48 : Int32) &&& 0x3f).toInt64.toUInt64).toInt64) / (1000 : Int64)) * (1000 : Int64)).toInt32) - (500 : Int32)))] [(.long (1000 : Int64)), (.long (fmic q0))]))
  refine own_go (fun _ k => XS.lmul X1.here hx rfl (hb hby dnan_21) rfl k) ?_
  show own_Ends _ _ _ _ _ _ _ (T1.setTop (mkF m 22 #[.val (.long q0), .second, .val (.int (((((q0.toUInt64 >>> ((48 : Int32) &&& 0x3f).toInt64.toUInt64).toInt64) - (((q0.toUInt64 >>> ((48 : Int32) &&& 0x3f).toInt64.toUInt64).toInt64) / (1000 : Int64)) * (1000 : Int64)).toInt32) - (500 : Int32)))] [(.long ((fmic q0) * (1000 : Int64)))]))
  refine own_go (fun _ k => XS.iloadN X1.here hx rfl (hb hby dnan_22) rfl k) ?_
  show own_Ends _ _ _ _ _ _ _ (T1.setTop (mkF m 23 #[.val (.long q0), .second, .val (.int (((((q0.toUInt64 >>> ((48 : Int32) &&& 0x3f).toInt64.toUInt64).toInt64) - (((q0.toUInt64 >>> ((48 : Int32) &&& 0x3f).toInt64.toUInt64).toInt64) / (1000 : Int64)) * (1000 : Int64)).toInt32) - (500 : Int32)))] [(.int (((((q0.toUInt64 >>> ((48 : Int32) &&& 0x3f).toInt64.toUInt64).toInt64) - (((q0.toUInt64 >>> ((48 : Int32) &&& 0x3f).toInt64.toUInt64).toInt64) / (1000 : Int64)) * (1000 : Int64)).toInt32) - (500 : Int32))), (.long ((fmic q0) * (1000 : Int64)))]))
  refine own_go (fun _ k => XS.i2l X1.here hx rfl (hb hby dnan_23) rfl k) ?_
  show own_Ends _ _ _ _ _ _ _ (T1.setTop (mkF m 24 #[.val (.long q0), .second, .val (.int (((((q0.toUInt64 >>> ((48 : Int32) &&& 0x3f).toInt64.toUInt64).toInt64) - (((q0.toUInt64 >>> ((48 : Int32) &&& 0x3f).toInt64.toUInt64).toInt64) / (1000 : Int64)) * (1000 : Int64)).toInt32) - (500 : Int32)))] [(.long ((((((q0.toUInt64 >>> ((48 : Int32) &&& 0x3f).toInt64.toUInt64).toInt64) - (((q0.toUInt64 >>> ((48 : Int32) &&& 0x3f).toInt64.toUInt64).toInt64) / (1000 : Int64)) * (1000 : Int64)).toInt32) - (500 : Int32)).toInt64)), (.long ((fmic q0) * (1000 : Int64)))]))
  refine own_go (fun _ k => XS.ladd X1.here hx rfl (hb hby dnan_24) rfl k) ?_
  show own_Ends _ _ _ _ _ _ _ (T1.setTop (mkF m 25 #[.val (.long q0), .second, .val (.int (((((q0.toUInt64 >>> ((48 : Int32) &&& 0x3f).toInt64.toUInt64).toInt64) - (((q0.toUInt64 >>> ((48 : Int32) &&& 0x3f).toInt64.toUInt64).toInt64) / (1000 : Int64)) * (1000 : Int64)).toInt32) - (500 : Int32)))] [(.long (((fmic q0) * (1000 : Int64)) + ((((((q0.toUInt64 >>> ((48 : Int32) &&& 0x3f).toInt64.toUInt64).toInt64) - (((q0.toUInt64 >>> ((48 : Int32) &&& 0x3f).toInt64.toUInt64).toInt64) / (1000 : Int64)) * (1000 : Int64)).toInt32) - (500 : Int32)).toInt64)))]))
  exact own_retJ X1 hx hlk Bd.returns (hb hby dnan_25) (by decide) (by decide) ⟨congrArg (fun z => some (Value.long z)) (by exact rfl), N1, e1⟩
theorem dmidl_0 : decode method_5_code 0 = .ok (.lload_n 0, 1) := by decide +kernel
theorem dmidl_1 : decode method_5_code 1 = .ok (.invokestatic 39, 3) := by decide +kernel
theorem dmidl_4 : decode method_5_code 4 = .ok (.lstore_n 2, 1) := by decide +kernel
theorem dmidl_5 : decode method_5_code 5 = .ok (.lload_n 0, 1) := by decide +kernel
theorem dmidl_6 : decode method_5_code 6 = .ok (.lconst 1, 1) := by decide +kernel
theorem dmidl_7 : decode method_5_code 7 = .ok (.land, 1) := by decide +kernel
theorem dmidl_8 : decode method_5_code 8 = .ok (.lconst 0, 1) := by decide +kernel
theorem dmidl_9 : decode method_5_code 9 = .ok (.lcmp, 1) := by decide +kernel
theorem dmidl_10 : decode method_5_code 10 = .ok (.ifCond .ne 6, 3) := by decide +kernel
theorem dmidl_13 : decode method_5_code 13 = .ok (.lload_n 2, 1) := by decide +kernel
theorem dmidl_14 : decode method_5_code 14 = .ok (.l2d, 1) := by decide +kernel
theorem dmidl_15 : decode method_5_code 15 = .ok (.dreturn, 1) := by decide +kernel
theorem dmidl_16 : decode method_5_code 16 = .ok (.lload_n 0, 1) := by decide +kernel
theorem dmidl_17 : decode method_5_code 17 = .ok (.iconst 1, 1) := by decide +kernel
theorem dmidl_18 : decode method_5_code 18 = .ok (.lushr, 1) := by decide +kernel
theorem dmidl_19 : decode method_5_code 19 = .ok (.ldc2_w 35, 3) := by decide +kernel
theorem dmidl_22 : decode method_5_code 22 = .ok (.land, 1) := by decide +kernel
theorem dmidl_23 : decode method_5_code 23 = .ok (.l2i, 1) := by decide +kernel
theorem dmidl_24 : decode method_5_code 24 = .ok (.iconst 1, 1) := by decide +kernel
theorem dmidl_25 : decode method_5_code 25 = .ok (.iadd, 1) := by decide +kernel
theorem dmidl_26 : decode method_5_code 26 = .ok (.istore 4, 2) := by decide +kernel
theorem dmidl_28 : decode method_5_code 28 = .ok (.lload_n 2, 1) := by decide +kernel
theorem dmidl_29 : decode method_5_code 29 = .ok (.iload 4, 2) := by decide +kernel
theorem dmidl_31 : decode method_5_code 31 = .ok (.lushr, 1) := by decide +kernel
theorem dmidl_32 : decode method_5_code 32 = .ok (.iload 4, 2) := by decide +kernel
theorem dmidl_34 : decode method_5_code 34 = .ok (.lshl, 1) := by decide +kernel
theorem dmidl_35 : decode method_5_code 35 = .ok (.lstore 5, 2) := by decide +kernel
theorem dmidl_37 : decode method_5_code 37 = .ok (.lload 5, 2) := by decide +kernel
theorem dmidl_39 : decode method_5_code 39 = .ok (.lconst 1, 1) := by decide +kernel
theorem dmidl_40 : decode method_5_code 40 = .ok (.iload 4, 2) := by decide +kernel
theorem dmidl_42 : decode method_5_code 42 = .ok (.lshl, 1) := by decide +kernel
theorem dmidl_43 : decode method_5_code 43 = .ok (.ladd, 1) := by decide +kernel
theorem dmidl_44 : decode method_5_code 44 = .ok (.lconst 1, 1) := by decide +kernel
theorem dmidl_45 : decode method_5_code 45 = .ok (.lsub, 1) := by decide +kernel
theorem dmidl_46 : decode method_5_code 46 = .ok (.lstore 7, 2) := by decide +kernel
theorem dmidl_48 : decode method_5_code 48 = .ok (.lload 5, 2) := by decide +kernel
theorem dmidl_50 : decode method_5_code 50 = .ok (.lload 7, 2) := by decide +kernel
theorem dmidl_52 : decode method_5_code 52 = .ok (.ladd, 1) := by decide +kernel
theorem dmidl_53 : decode method_5_code 53 = .ok (.l2d, 1) := by decide +kernel
theorem dmidl_54 : decode method_5_code 54 = .ok (.ldc2_w 42, 3) := by decide +kernel
theorem dmidl_57 : decode method_5_code 57 = .ok (.ddiv, 1) := by decide +kernel
theorem dmidl_58 : decode method_5_code 58 = .ok (.dreturn, 1) := by decide +kernel
theorem pnmidl : plainName "com/example/rate_keeper/ratekeeper/server/bench/LatencyHistogramPercentileMicrosPinLaw" = true := by first | (simp [plainName, overriddenIn]; done) | decide +kernel
theorem pdmidl_0 : parseMethodDescriptor "(J)J" = some ⟨[.long], some .long⟩ := by decide +kernel
theorem efmidl (m : MethodId) (q0 : Int64) : entryFrame m #[(.long q0)] 9 = mkF m 0 #[.val (.long q0), .second, .unset, .unset, .unset, .unset, .unset, .unset, .unset] [] := by first | (simp [entryFrame, mkF, argsToLocals, Value.category]; done) | rfl
def fmidl (q0 : Int64) : UInt64 := (if (lcmpW (q0 &&& (1 : Int64)) (0 : Int64)) = (0 : Int32) then (FP.l2d (fmic q0)) else (FP.ddiv (FP.l2d (((((fmic q0).toUInt64 >>> ((((((q0.toUInt64 >>> ((1 : Int32) &&& 0x3f).toInt64.toUInt64).toInt64) &&& (31 : Int64)).toInt32) + (1 : Int32)) &&& 0x3f).toInt64.toUInt64).toInt64) <<< ((((((q0.toUInt64 >>> ((1 : Int32) &&& 0x3f).toInt64.toUInt64).toInt64) &&& (31 : Int64)).toInt32) + (1 : Int32)) &&& 0x3f).toInt64) + ((((((fmic q0).toUInt64 >>> ((((((q0.toUInt64 >>> ((1 : Int32) &&& 0x3f).toInt64.toUInt64).toInt64) &&& (31 : Int64)).toInt32) + (1 : Int32)) &&& 0x3f).toInt64.toUInt64).toInt64) <<< ((((((q0.toUInt64 >>> ((1 : Int32) &&& 0x3f).toInt64.toUInt64).toInt64) &&& (31 : Int64)).toInt32) + (1 : Int32)) &&& 0x3f).toInt64) + ((1 : Int64) <<< ((((((q0.toUInt64 >>> ((1 : Int32) &&& 0x3f).toInt64.toUInt64).toInt64) &&& (31 : Int64)).toInt32) + (1 : Int32)) &&& 0x3f).toInt64)) - (1 : Int64)))) (4611686018427387904 : UInt64)))
def Qmidl (Z : State) (q0 : Int64) (h0 : Heap) (n0 : Nat) (v : Option Value) (h : Heap) (L : List Loc) : Prop := v = some (.double (fmidl q0)) ∧ Fr n0 L ∧ h = h0
set_option maxRecDepth 65536 in
set_option maxHeartbeats 40000000 in
theorem rmmidl (l : Launch) (Z : State) (ar : Array Value) (hw : ∀ d ∈ tables_1, d.before ar Z = true) (ws : List Jvm.Cond) (q0 : Int64) (h0 : Heap) (n0 : Nat) (O0 : Old Z n0 h0) :
    MetFree l (⟨"com/example/rate_keeper/ratekeeper/server/bench/LatencyHistogramPercentileMicrosPinLaw", "mid", "(J)D"⟩ : MethodName) (head1 (Jvm.Cond.code (⟨"com/example/rate_keeper/ratekeeper/server/bench/LatencyHistogramPercentileMicrosPinLaw", "mid", "(J)D"⟩ : MethodName) method_5_code 9 (some .double) :: ws) ({ frames := 1, cells := 0, slots := 0, locals := 14 } : Room)) (fun a U => a = #[(.long q0)] ∧ Z.Warmed39 U.vm ∧ U.heap = h0) (fun _ _ _ _ _ => True) (fun _ U o U' => ∃ v L, o = .returned v ∧ Qmidl Z q0 h0 n0 v U'.heap L ∧ FrameEnd U o U' L ({ frames := 1, cells := 0, slots := 0, locals := 14 } : Room).cells ({ frames := 1, cells := 0, slots := 0, locals := 14 } : Room).slots) := by
  refine MetFree.of_bodySF (plainFor_of_name pnmidl) hisR ?_
  intro p e s m args below meth c s₁ Bd hml0 hP hK
  obtain ⟨rfl, hZ, hh⟩ := hP
  have hx := Bd.exec
  have hby := Bd.bytes
  have hml : c.maxLocals = 9 := hml0
  have hown : s.vm.findClass "com/example/rate_keeper/ratekeeper/server/bench/LatencyHistogramPercentileMicrosPinLaw" = some m.cls := findClass_of_methodNamed Bd.named
  have hnm := (name_of_methodNamed Bd.named Bd.method).1
  have hlk : meth.locks = false := BodyLoose.notSynchronized Bd
  have X0 : Stand p l e ({ frames := 1, cells := 0, slots := 0, locals := 14 } : Room) s m #[(.long q0)] below meth c s₁ [] 0 0 := Stand.of_body Bd
  have e0 : s₁.heap = h0 := by rw [← hh, Bd.state]; rfl
  have N0 := Fr.nil n0
  suffices hmain : own_Ends p e below s (Qmidl Z q0 h0 n0) 0 0 (s₁.setTop (mkF m 0 #[.val (.long q0), .second, .unset, .unset, .unset, .unset, .unset, .unset, .unset] [])) by
    obtain ⟨U, o, h1, r⟩ := hmain
    exact ⟨U, o, castTop (efmidl m q0) h1, r⟩
  show own_Ends _ _ _ _ _ _ _ (s₁.setTop (mkF m 0 #[.val (.long q0), .second, .unset, .unset, .unset, .unset, .unset, .unset, .unset] []))
  refine own_go (fun _ k => XS.lloadN X0.here hx rfl (hb hby dmidl_0) rfl k) ?_
  show own_Ends _ _ _ _ _ _ _ (s₁.setTop (mkF m 1 #[.val (.long q0), .second, .unset, .unset, .unset, .unset, .unset, .unset, .unset] [(.long q0)]))
  obtain ⟨_, _, ⟨T1, L1, k1, n1⟩, -, X1, ⟨Lc1, hQ1, l1, y1, z1⟩, st1⟩ := Jvm.LawKit.callS X0 hx (y := (⟨"com/example/rate_keeper/ratekeeper/server/bench/LatencyHistogramPercentileMicrosPinLaw", "micros", "(J)J"⟩ : MethodName)) hown (mvT hZ (hw _ (List.mem_of_getElem? (i := 19) rfl))) (mvT hZ (hw _ (List.mem_of_getElem? (i := 20) rfl))) (mvT hZ (hw _ (List.mem_of_getElem? (i := 16) rfl))) (mvT hZ (hw _ (List.mem_of_getElem? (i := 21) rfl))) (by decide) (backOf (W := 0) (rmmic l Z ar hw [] q0 h0 n0 O0) hZ (hw _ (List.mem_of_getElem? (i := 21) rfl)) (hw _ (List.mem_of_getElem? (i := 16) rfl)) (by decide) (by decide)) (g := (mkF m 1 #[.val (.long q0), .second, .unset, .unset, .unset, .unset, .unset, .unset, .unset] [(.long q0)])) rfl (by rw [hml]; rfl) (argsL := [(.long q0)]) (rest := []) (lenOf pdmidl_0 rfl) rfl (by show 2 * 0 + _ ≤ _; exact Nat.le_of_eq rfl) (hb hby dmidl_1) (fun _ _ => ⟨rfl, e0, (by decide : 0 + 0 ≤ _), (by decide : 0 + 0 ≤ _)⟩)
  dsimp only [Pt.U, Pt.locs, Pt.cells, Pt.slots] at X1 l1 y1 z1 st1 hQ1
  subst l1 y1 z1
  obtain ⟨rfl, N1q, eq1⟩ := hQ1
  have e1 : T1.heap = h0 := eq1
  have N1 := Fr.app N0 N1q
  refine own_go (fun _ k => st1 _ k) ?_
  show own_Ends _ _ _ _ _ _ _ (T1.setTop (mkF m 4 #[.val (.long q0), .second, .unset, .unset, .unset, .unset, .unset, .unset, .unset] [(.long (fmic q0))]))
  refine own_go (fun _ k => XS.lstoreN X1.here hx rfl (hb hby dmidl_4) rfl (l' := #[.val (.long q0), .second, .val (.long (fmic q0)), .second, .unset, .unset, .unset, .unset, .unset]) rfl k) ?_
  show own_Ends _ _ _ _ _ _ _ (T1.setTop (mkF m 5 #[.val (.long q0), .second, .val (.long (fmic q0)), .second, .unset, .unset, .unset, .unset, .unset] []))
  refine own_go (fun _ k => XS.lloadN X1.here hx rfl (hb hby dmidl_5) rfl k) ?_
  show own_Ends _ _ _ _ _ _ _ (T1.setTop (mkF m 6 #[.val (.long q0), .second, .val (.long (fmic q0)), .second, .unset, .unset, .unset, .unset, .unset] [(.long q0)]))
  refine own_go (fun _ k => XS.lconst X1.here hx rfl (hb hby dmidl_6) k) ?_
  show own_Ends _ _ _ _ _ _ _ (T1.setTop (mkF m 7 #[.val (.long q0), .second, .val (.long (fmic q0)), .second, .unset, .unset, .unset, .unset, .unset] [(.long (1 : Int64)), (.long q0)]))
  refine own_go (fun _ k => XS.land X1.here hx rfl (hb hby dmidl_7) rfl k) ?_
  show own_Ends _ _ _ _ _ _ _ (T1.setTop (mkF m 8 #[.val (.long q0), .second, .val (.long (fmic q0)), .second, .unset, .unset, .unset, .unset, .unset] [(.long (q0 &&& (1 : Int64)))]))
  refine own_go (fun _ k => XS.lconst X1.here hx rfl (hb hby dmidl_8) k) ?_
  show own_Ends _ _ _ _ _ _ _ (T1.setTop (mkF m 9 #[.val (.long q0), .second, .val (.long (fmic q0)), .second, .unset, .unset, .unset, .unset, .unset] [(.long (0 : Int64)), (.long (q0 &&& (1 : Int64)))]))
  refine own_go (fun _ k => XS.lcmp X1.here hx rfl (hb hby dmidl_9) rfl k) ?_
  show own_Ends _ _ _ _ _ _ _ (T1.setTop (mkF m 10 #[.val (.long q0), .second, .val (.long (fmic q0)), .second, .unset, .unset, .unset, .unset, .unset] [(.int (lcmpW (q0 &&& (1 : Int64)) (0 : Int64)))]))
  by_cases hc2 : (lcmpW (q0 &&& (1 : Int64)) (0 : Int64)) = (0 : Int32)
  · refine own_go (fun _ k => XS.ifNo X1.here hx rfl (hb hby dmidl_10) rfl ((if0 _ _).trans (teq hc2).2) k) ?_
    show own_Ends _ _ _ _ _ _ _ (T1.setTop (mkF m 13 #[.val (.long q0), .second, .val (.long (fmic q0)), .second, .unset, .unset, .unset, .unset, .unset] []))
    refine own_go (fun _ k => XS.lloadN X1.here hx rfl (hb hby dmidl_13) rfl k) ?_
    show own_Ends _ _ _ _ _ _ _ (T1.setTop (mkF m 14 #[.val (.long q0), .second, .val (.long (fmic q0)), .second, .unset, .unset, .unset, .unset, .unset] [(.long (fmic q0))]))
    refine own_go (fun _ k => XS.l2dS X1.here hx rfl (hb hby dmidl_14) rfl rfl k) ?_
    show own_Ends _ _ _ _ _ _ _ (T1.setTop (mkF m 15 #[.val (.long q0), .second, .val (.long (fmic q0)), .second, .unset, .unset, .unset, .unset, .unset] [(.double (FP.l2d (fmic q0)))]))
    exact own_retD X1 hx hlk Bd.returns (hb hby dmidl_15) (by decide) (by decide) ⟨congrArg (fun z => some (Value.double z)) (by exact ((if_pos hc2)).symm), N1, e1⟩
  · refine own_go (fun _ k => XS.ifYes X1.here hx rfl (pc0 := 10) (pc' := 16) rfl (hb hby dmidl_10) rfl ((if0 _ _).trans (feq hc2).2) (by decide) (by decide) k) ?_
    show own_Ends _ _ _ _ _ _ _ (T1.setTop (mkF m 16 #[.val (.long q0), .second, .val (.long (fmic q0)), .second, .unset, .unset, .unset, .unset, .unset] []))
    refine own_go (fun _ k => XS.lloadN X1.here hx rfl (hb hby dmidl_16) rfl k) ?_
    show own_Ends _ _ _ _ _ _ _ (T1.setTop (mkF m 17 #[.val (.long q0), .second, .val (.long (fmic q0)), .second, .unset, .unset, .unset, .unset, .unset] [(.long q0)]))
    refine own_go (fun _ k => XS.iconst X1.here hx rfl (hb hby dmidl_17) k) ?_
    show own_Ends _ _ _ _ _ _ _ (T1.setTop (mkF m 18 #[.val (.long q0), .second, .val (.long (fmic q0)), .second, .unset, .unset, .unset, .unset, .unset] [(.int (1 : Int32)), (.long q0)]))
    refine own_go (fun _ k => XS.lushr X1.here hx rfl (hb hby dmidl_18) rfl k) ?_
    show own_Ends _ _ _ _ _ _ _ (T1.setTop (mkF m 19 #[.val (.long q0), .second, .val (.long (fmic q0)), .second, .unset, .unset, .unset, .unset, .unset] [(.long ((q0.toUInt64 >>> ((1 : Int32) &&& 0x3f).toInt64.toUInt64).toInt64))]))
    refine own_go (fun _ k => X1.ldc2Long hx hown (mvT hZ (hw _ (List.mem_of_getElem? (i := 22) rfl))) (g := (mkF m 19 #[.val (.long q0), .second, .val (.long (fmic q0)), .second, .unset, .unset, .unset, .unset, .unset] [(.long ((q0.toUInt64 >>> ((1 : Int32) &&& 0x3f).toInt64.toUInt64).toInt64))])) rfl (hb hby dmidl_19) _ k) ?_
    show own_Ends _ _ _ _ _ _ _ (T1.setTop (mkF m 22 #[.val (.long q0), .second, .val (.long (fmic q0)), .second, .unset, .unset, .unset, .unset, .unset] [(.long (31 : Int64)), (.long ((q0.toUInt64 >>> ((1 : Int32) &&& 0x3f).toInt64.toUInt64).toInt64))]))
    refine own_go (fun _ k => XS.land X1.here hx rfl (hb hby dmidl_22) rfl k) ?_
    show own_Ends _ _ _ _ _ _ _ (T1.setTop (mkF m 23 #[.val (.long q0), .second, .val (.long (fmic q0)), .second, .unset, .unset, .unset, .unset, .unset] [(.long (((q0.toUInt64 >>> ((1 : Int32) &&& 0x3f).toInt64.toUInt64).toInt64) &&& (31 : Int64)))]))
    refine own_go (fun _ k => XS.l2i X1.here hx rfl (hb hby dmidl_23) rfl k) ?_
    show own_Ends _ _ _ _ _ _ _ (T1.setTop (mkF m 24 #[.val (.long q0), .second, .val (.long (fmic q0)), .second, .unset, .unset, .unset, .unset, .unset] [(.int ((((q0.toUInt64 >>> ((1 : Int32) &&& 0x3f).toInt64.toUInt64).toInt64) &&& (31 : Int64)).toInt32))]))
    refine own_go (fun _ k => XS.iconst X1.here hx rfl (hb hby dmidl_24) k) ?_
    show own_Ends _ _ _ _ _ _ _ (T1.setTop (mkF m 25 #[.val (.long q0), .second, .val (.long (fmic q0)), .second, .unset, .unset, .unset, .unset, .unset] [(.int (1 : Int32)), (.int ((((q0.toUInt64 >>> ((1 : Int32) &&& 0x3f).toInt64.toUInt64).toInt64) &&& (31 : Int64)).toInt32))]))
    refine own_go (fun _ k => XS.iadd X1.here hx rfl (hb hby dmidl_25) rfl k) ?_
    show own_Ends _ _ _ _ _ _ _ (T1.setTop (mkF m 26 #[.val (.long q0), .second, .val (.long (fmic q0)), .second, .unset, .unset, .unset, .unset, .unset] [(.int (((((q0.toUInt64 >>> ((1 : Int32) &&& 0x3f).toInt64.toUInt64).toInt64) &&& (31 : Int64)).toInt32) + (1 : Int32)))]))
    refine own_go (fun _ k => XS.istore X1.here hx rfl (hb hby dmidl_26) rfl (l' := #[.val (.long q0), .second, .val (.long (fmic q0)), .second, .val (.int (((((q0.toUInt64 >>> ((1 : Int32) &&& 0x3f).toInt64.toUInt64).toInt64) &&& (31 : Int64)).toInt32) + (1 : Int32))), .unset, .unset, .unset, .unset]) rfl k) ?_
    show own_Ends _ _ _ _ _ _ _ (T1.setTop (mkF m 28 #[.val (.long q0), .second, .val (.long (fmic q0)), .second, .val (.int (((((q0.toUInt64 >>> ((1 : Int32) &&& 0x3f).toInt64.toUInt64).toInt64) &&& (31 : Int64)).toInt32) + (1 : Int32))), .unset, .unset, .unset, .unset] []))
    refine own_go (fun _ k => XS.lloadN X1.here hx rfl (hb hby dmidl_28) rfl k) ?_
    show own_Ends _ _ _ _ _ _ _ (T1.setTop (mkF m 29 #[.val (.long q0), .second, .val (.long (fmic q0)), .second, .val (.int (((((q0.toUInt64 >>> ((1 : Int32) &&& 0x3f).toInt64.toUInt64).toInt64) &&& (31 : Int64)).toInt32) + (1 : Int32))), .unset, .unset, .unset, .unset] [(.long (fmic q0))]))
    refine own_go (fun _ k => XS.iload X1.here hx rfl (hb hby dmidl_29) rfl k) ?_
    show own_Ends _ _ _ _ _ _ _ (T1.setTop (mkF m 31 #[.val (.long q0), .second, .val (.long (fmic q0)), .second, .val (.int (((((q0.toUInt64 >>> ((1 : Int32) &&& 0x3f).toInt64.toUInt64).toInt64) &&& (31 : Int64)).toInt32) + (1 : Int32))), .unset, .unset, .unset, .unset] [(.int (((((q0.toUInt64 >>> ((1 : Int32) &&& 0x3f).toInt64.toUInt64).toInt64) &&& (31 : Int64)).toInt32) + (1 : Int32))), (.long (fmic q0))]))
    refine own_go (fun _ k => XS.lushr X1.here hx rfl (hb hby dmidl_31) rfl k) ?_
    show own_Ends _ _ _ _ _ _ _ (T1.setTop (mkF m 32 #[.val (.long q0), .second, .val (.long (fmic q0)), .second, .val (.int (((((q0.toUInt64 >>> ((1 : Int32) &&& 0x3f).toInt64.toUInt64).toInt64) &&& (31 : Int64)).toInt32) + (1 : Int32))), .unset, .unset, .unset, .unset] [(.long (((fmic q0).toUInt64 >>> ((((((q0.toUInt64 >>> ((1 : Int32) &&& 0x3f).toInt64.toUInt64).toInt64) &&& (31 : Int64)).toInt32) + (1 : Int32)) &&& 0x3f).toInt64.toUInt64).toInt64))]))
    refine own_go (fun _ k => XS.iload X1.here hx rfl (hb hby dmidl_32) rfl k) ?_
    show own_Ends _ _ _ _ _ _ _ (T1.setTop (mkF m 34 #[.val (.long q0), .second, .val (.long (fmic q0)), .second, .val (.int (((((q0.toUInt64 >>> ((1 : Int32) &&& 0x3f).toInt64.toUInt64).toInt64) &&& (31 : Int64)).toInt32) + (1 : Int32))), .unset, .unset, .unset, .unset] [(.int (((((q0.toUInt64 >>> ((1 : Int32) &&& 0x3f).toInt64.toUInt64).toInt64) &&& (31 : Int64)).toInt32) + (1 : Int32))), (.long (((fmic q0).toUInt64 >>> ((((((q0.toUInt64 >>> ((1 : Int32) &&& 0x3f).toInt64.toUInt64).toInt64) &&& (31 : Int64)).toInt32) + (1 : Int32)) &&& 0x3f).toInt64.toUInt64).toInt64))]))
    refine own_go (fun _ k => XS.lshl X1.here hx rfl (hb hby dmidl_34) rfl k) ?_
    show own_Ends _ _ _ _ _ _ _ (T1.setTop (mkF m 35 #[.val (.long q0), .second, .val (.long (fmic q0)), .second, .val (.int (((((q0.toUInt64 >>> ((1 : Int32) &&& 0x3f).toInt64.toUInt64).toInt64) &&& (31 : Int64)).toInt32) + (1 : Int32))), .unset, .unset, .unset, .unset] [(.long ((((fmic q0).toUInt64 >>> ((((((q0.toUInt64 >>> ((1 : Int32) &&& 0x3f).toInt64.toUInt64).toInt64) &&& (31 : Int64)).toInt32) + (1 : Int32)) &&& 0x3f).toInt64.toUInt64).toInt64) <<< ((((((q0.toUInt64 >>> ((1 : Int32) &&& 0x3f).toInt64.toUInt64).toInt64) &&& (31 : Int64)).toInt32) + (1 : Int32)) &&& 0x3f).toInt64))]))
    refine own_go (fun _ k => XS.lstore X1.here hx rfl (hb hby dmidl_35) rfl (l' := #[.val (.long q0), .second, .val (.long (fmic q0)), .second, .val (.int (((((q0.toUInt64 >>> ((1 : Int32) &&& 0x3f).toInt64.toUInt64).toInt64) &&& (31 : Int64)).toInt32) + (1 : Int32))), .val (.long ((((fmic q0).toUInt64 >>> ((((((q0.toUInt64 >>> ((1 : Int32) &&& 0x3f).toInt64.toUInt64).toInt64) &&& (31 : Int64)).toInt32) + (1 : Int32)) &&& 0x3f).toInt64.toUInt64).toInt64) <<< ((((((q0.toUInt64 >>> ((1 : Int32) &&& 0x3f).toInt64.toUInt64).toInt64) &&& (31 : Int64)).toInt32) + (1 : Int32)) &&& 0x3f).toInt64)), .second, .unset, .unset]) rfl k) ?_
    show own_Ends _ _ _ _ _ _ _ (T1.setTop (mkF m 37 #[.val (.long q0), .second, .val (.long (fmic q0)), .second, .val (.int (((((q0.toUInt64 >>> ((1 : Int32) &&& 0x3f).toInt64.toUInt64).toInt64) &&& (31 : Int64)).toInt32) + (1 : Int32))), .val (.long ((((fmic q0).toUInt64 >>> ((((((q0.toUInt64 >>> ((1 : Int32) &&& 0x3f).toInt64.toUInt64).toInt64) &&& (31 : Int64)).toInt32) + (1 : Int32)) &&& 0x3f).toInt64.toUInt64).toInt64) <<< ((((((q0.toUInt64 >>> ((1 : Int32) &&& 0x3f).toInt64.toUInt64).toInt64) &&& (31 : Int64)).toInt32) + (1 : Int32)) &&& 0x3f).toInt64)), .second, .unset, .unset] []))
    refine own_go (fun _ k => XS.lload X1.here hx rfl (hb hby dmidl_37) rfl k) ?_
    show own_Ends _ _ _ _ _ _ _ (T1.setTop (mkF m 39 #[.val (.long q0), .second, .val (.long (fmic q0)), .second, .val (.int (((((q0.toUInt64 >>> ((1 : Int32) &&& 0x3f).toInt64.toUInt64).toInt64) &&& (31 : Int64)).toInt32) + (1 : Int32))), .val (.long ((((fmic q0).toUInt64 >>> ((((((q0.toUInt64 >>> ((1 : Int32) &&& 0x3f).toInt64.toUInt64).toInt64) &&& (31 : Int64)).toInt32) + (1 : Int32)) &&& 0x3f).toInt64.toUInt64).toInt64) <<< ((((((q0.toUInt64 >>> ((1 : Int32) &&& 0x3f).toInt64.toUInt64).toInt64) &&& (31 : Int64)).toInt32) + (1 : Int32)) &&& 0x3f).toInt64)), .second, .unset, .unset] [(.long ((((fmic q0).toUInt64 >>> ((((((q0.toUInt64 >>> ((1 : Int32) &&& 0x3f).toInt64.toUInt64).toInt64) &&& (31 : Int64)).toInt32) + (1 : Int32)) &&& 0x3f).toInt64.toUInt64).toInt64) <<< ((((((q0.toUInt64 >>> ((1 : Int32) &&& 0x3f).toInt64.toUInt64).toInt64) &&& (31 : Int64)).toInt32) + (1 : Int32)) &&& 0x3f).toInt64))]))
    refine own_go (fun _ k => XS.lconst X1.here hx rfl (hb hby dmidl_39) k) ?_
    show own_Ends _ _ _ _ _ _ _ (T1.setTop (mkF m 40 #[.val (.long q0), .second, .val (.long (fmic q0)), .second, .val (.int (((((q0.toUInt64 >>> ((1 : Int32) &&& 0x3f).toInt64.toUInt64).toInt64) &&& (31 : Int64)).toInt32) + (1 : Int32))), .val (.long ((((fmic q0).toUInt64 >>> ((((((q0.toUInt64 >>> ((1 : Int32) &&& 0x3f).toInt64.toUInt64).toInt64) &&& (31 : Int64)).toInt32) + (1 : Int32)) &&& 0x3f).toInt64.toUInt64).toInt64) <<< ((((((q0.toUInt64 >>> ((1 : Int32) &&& 0x3f).toInt64.toUInt64).toInt64) &&& (31 : Int64)).toInt32) + (1 : Int32)) &&& 0x3f).toInt64)), .second, .unset, .unset] [(.long (1 : Int64)), (.long ((((fmic q0).toUInt64 >>> ((((((q0.toUInt64 >>> ((1 : Int32) &&& 0x3f).toInt64.toUInt64).toInt64) &&& (31 : Int64)).toInt32) + (1 : Int32)) &&& 0x3f).toInt64.toUInt64).toInt64) <<< ((((((q0.toUInt64 >>> ((1 : Int32) &&& 0x3f).toInt64.toUInt64).toInt64) &&& (31 : Int64)).toInt32) + (1 : Int32)) &&& 0x3f).toInt64))]))
    refine own_go (fun _ k => XS.iload X1.here hx rfl (hb hby dmidl_40) rfl k) ?_
    show own_Ends _ _ _ _ _ _ _ (T1.setTop (mkF m 42 #[.val (.long q0), .second, .val (.long (fmic q0)), .second, .val (.int (((((q0.toUInt64 >>> ((1 : Int32) &&& 0x3f).toInt64.toUInt64).toInt64) &&& (31 : Int64)).toInt32) + (1 : Int32))), .val (.long ((((fmic q0).toUInt64 >>> ((((((q0.toUInt64 >>> ((1 : Int32) &&& 0x3f).toInt64.toUInt64).toInt64) &&& (31 : Int64)).toInt32) + (1 : Int32)) &&& 0x3f).toInt64.toUInt64).toInt64) <<< ((((((q0.toUInt64 >>> ((1 : Int32) &&& 0x3f).toInt64.toUInt64).toInt64) &&& (31 : Int64)).toInt32) + (1 : Int32)) &&& 0x3f).toInt64)), .second, .unset, .unset] [(.int (((((q0.toUInt64 >>> ((1 : Int32) &&& 0x3f).toInt64.toUInt64).toInt64) &&& (31 : Int64)).toInt32) + (1 : Int32))), (.long (1 : Int64)), (.long ((((fmic q0).toUInt64 >>> ((((((q0.toUInt64 >>> ((1 : Int32) &&& 0x3f).toInt64.toUInt64).toInt64) &&& (31 : Int64)).toInt32) + (1 : Int32)) &&& 0x3f).toInt64.toUInt64).toInt64) <<< ((((((q0.toUInt64 >>> ((1 : Int32) &&& 0x3f).toInt64.toUInt64).toInt64) &&& (31 : Int64)).toInt32) + (1 : Int32)) &&& 0x3f).toInt64))]))
    refine own_go (fun _ k => XS.lshl X1.here hx rfl (hb hby dmidl_42) rfl k) ?_
    show own_Ends _ _ _ _ _ _ _ (T1.setTop (mkF m 43 #[.val (.long q0), .second, .val (.long (fmic q0)), .second, .val (.int (((((q0.toUInt64 >>> ((1 : Int32) &&& 0x3f).toInt64.toUInt64).toInt64) &&& (31 : Int64)).toInt32) + (1 : Int32))), .val (.long ((((fmic q0).toUInt64 >>> ((((((q0.toUInt64 >>> ((1 : Int32) &&& 0x3f).toInt64.toUInt64).toInt64) &&& (31 : Int64)).toInt32) + (1 : Int32)) &&& 0x3f).toInt64.toUInt64).toInt64) <<< ((((((q0.toUInt64 >>> ((1 : Int32) &&& 0x3f).toInt64.toUInt64).toInt64) &&& (31 : Int64)).toInt32) + (1 : Int32)) &&& 0x3f).toInt64)), .second, .unset, .unset] [(.long ((1 : Int64) <<< ((((((q0.toUInt64 >>> ((1 : Int32) &&& 0x3f).toInt64.toUInt64).toInt64) &&& (31 : Int64)).toInt32) + (1 : Int32)) &&& 0x3f).toInt64)), (.long ((((fmic q0).toUInt64 >>> ((((((q0.toUInt64 >>> ((1 : Int32) &&& 0x3f).toInt64.toUInt64).toInt64) &&& (31 : Int64)).toInt32) + (1 : Int32)) &&& 0x3f).toInt64.toUInt64).toInt64) <<< ((((((q0.toUInt64 >>> ((1 : Int32) &&& 0x3f).toInt64.toUInt64).toInt64) &&& (31 : Int64)).toInt32) + (1 : Int32)) &&& 0x3f).toInt64))]))
    refine own_go (fun _ k => XS.ladd X1.here hx rfl (hb hby dmidl_43) rfl k) ?_
    show own_Ends _ _ _ _ _ _ _ (T1.setTop (mkF m 44 #[.val (.long q0), .second, .val (.long (fmic q0)), .second, .val (.int (((((q0.toUInt64 >>> ((1 : Int32) &&& 0x3f).toInt64.toUInt64).toInt64) &&& (31 : Int64)).toInt32) + (1 : Int32))), .val (.long ((((fmic q0).toUInt64 >>> ((((((q0.toUInt64 >>> ((1 : Int32) &&& 0x3f).toInt64.toUInt64).toInt64) &&& (31 : Int64)).toInt32) + (1 : Int32)) &&& 0x3f).toInt64.toUInt64).toInt64) <<< ((((((q0.toUInt64 >>> ((1 : Int32) &&& 0x3f).toInt64.toUInt64).toInt64) &&& (31 : Int64)).toInt32) + (1 : Int32)) &&& 0x3f).toInt64)), .second, .unset, .unset] [(.long (((((fmic q0).toUInt64 >>> ((((((q0.toUInt64 >>> ((1 : Int32) &&& 0x3f).toInt64.toUInt64).toInt64) &&& (31 : Int64)).toInt32) + (1 : Int32)) &&& 0x3f).toInt64.toUInt64).toInt64) <<< ((((((q0.toUInt64 >>> ((1 : Int32) &&& 0x3f).toInt64.toUInt64).toInt64) &&& (31 : Int64)).toInt32) + (1 : Int32)) &&& 0x3f).toInt64) + ((1 : Int64) <<< ((((((q0.toUInt64 >>> ((1 : Int32) &&& 0x3f).toInt64.toUInt64).toInt64) &&& (31 : Int64)).toInt32) + (1 : Int32)) &&& 0x3f).toInt64)))]))
    refine own_go (fun _ k => XS.lconst X1.here hx rfl (hb hby dmidl_44) k) ?_
    show own_Ends _ _ _ _ _ _ _ (T1.setTop (mkF m 45 #[.val (.long q0), .second, .val (.long (fmic q0)), .second, .val (.int (((((q0.toUInt64 >>> ((1 : Int32) &&& 0x3f).toInt64.toUInt64).toInt64) &&& (31 : Int64)).toInt32) + (1 : Int32))), .val (.long ((((fmic q0).toUInt64 >>> ((((((q0.toUInt64 >>> ((1 : Int32) &&& 0x3f).toInt64.toUInt64).toInt64) &&& (31 : Int64)).toInt32) + (1 : Int32)) &&& 0x3f).toInt64.toUInt64).toInt64) <<< ((((((q0.toUInt64 >>> ((1 : Int32) &&& 0x3f).toInt64.toUInt64).toInt64) &&& (31 : Int64)).toInt32) + (1 : Int32)) &&& 0x3f).toInt64)), .second, .unset, .unset] [(.long (1 : Int64)), (.long (((((fmic q0).toUInt64 >>> ((((((q0.toUInt64 >>> ((1 : Int32) &&& 0x3f).toInt64.toUInt64).toInt64) &&& (31 : Int64)).toInt32) + (1 : Int32)) &&& 0x3f).toInt64.toUInt64).toInt64) <<< ((((((q0.toUInt64 >>> ((1 : Int32) &&& 0x3f).toInt64.toUInt64).toInt64) &&& (31 : Int64)).toInt32) + (1 : Int32)) &&& 0x3f).toInt64) + ((1 : Int64) <<< ((((((q0.toUInt64 >>> ((1 : Int32) &&& 0x3f).toInt64.toUInt64).toInt64) &&& (31 : Int64)).toInt32) + (1 : Int32)) &&& 0x3f).toInt64)))]))
    refine own_go (fun _ k => XS.lsub X1.here hx rfl (hb hby dmidl_45) rfl k) ?_
    show own_Ends _ _ _ _ _ _ _ (T1.setTop (mkF m 46 #[.val (.long q0), .second, .val (.long (fmic q0)), .second, .val (.int (((((q0.toUInt64 >>> ((1 : Int32) &&& 0x3f).toInt64.toUInt64).toInt64) &&& (31 : Int64)).toInt32) + (1 : Int32))), .val (.long ((((fmic q0).toUInt64 >>> ((((((q0.toUInt64 >>> ((1 : Int32) &&& 0x3f).toInt64.toUInt64).toInt64) &&& (31 : Int64)).toInt32) + (1 : Int32)) &&& 0x3f).toInt64.toUInt64).toInt64) <<< ((((((q0.toUInt64 >>> ((1 : Int32) &&& 0x3f).toInt64.toUInt64).toInt64) &&& (31 : Int64)).toInt32) + (1 : Int32)) &&& 0x3f).toInt64)), .second, .unset, .unset] [(.long ((((((fmic q0).toUInt64 >>> ((((((q0.toUInt64 >>> ((1 : Int32) &&& 0x3f).toInt64.toUInt64).toInt64) &&& (31 : Int64)).toInt32) + (1 : Int32)) &&& 0x3f).toInt64.toUInt64).toInt64) <<< ((((((q0.toUInt64 >>> ((1 : Int32) &&& 0x3f).toInt64.toUInt64).toInt64) &&& (31 : Int64)).toInt32) + (1 : Int32)) &&& 0x3f).toInt64) + ((1 : Int64) <<< ((((((q0.toUInt64 >>> ((1 : Int32) &&& 0x3f).toInt64.toUInt64).toInt64) &&& (31 : Int64)).toInt32) + (1 : Int32)) &&& 0x3f).toInt64)) - (1 : Int64)))]))
    refine own_go (fun _ k => XS.lstore X1.here hx rfl (hb hby dmidl_46) rfl (l' := #[.val (.long q0), .second, .val (.long (fmic q0)), .second, .val (.int (((((q0.toUInt64 >>> ((1 : Int32) &&& 0x3f).toInt64.toUInt64).toInt64) &&& (31 : Int64)).toInt32) + (1 : Int32))), .val (.long ((((fmic q0).toUInt64 >>> ((((((q0.toUInt64 >>> ((1 : Int32) &&& 0x3f).toInt64.toUInt64).toInt64) &&& (31 : Int64)).toInt32) + (1 : Int32)) &&& 0x3f).toInt64.toUInt64).toInt64) <<< ((((((q0.toUInt64 >>> ((1 : Int32) &&& 0x3f).toInt64.toUInt64).toInt64) &&& (31 : Int64)).toInt32) + (1 : Int32)) &&& 0x3f).toInt64)), .second, .val (.long ((((((fmic q0).toUInt64 >>> ((((((q0.toUInt64 >>> ((1 : Int32) &&& 0x3f).toInt64.toUInt64).toInt64) &&& (31 : Int64)).toInt32) + (1 : Int32)) &&& 0x3f).toInt64.toUInt64).toInt64) <<< ((((((q0.toUInt64 >>> ((1 : Int32) &&& 0x3f).toInt64.toUInt64).toInt64) &&& (31 : Int64)).toInt32) + (1 : Int32)) &&& 0x3f).toInt64) + ((1 : Int64) <<< ((((((q0.toUInt64 >>> ((1 : Int32) &&& 0x3f).toInt64.toUInt64).toInt64) &&& (31 : Int64)).toInt32) + (1 : Int32)) &&& 0x3f).toInt64)) - (1 : Int64))), .second]) rfl k) ?_
    show own_Ends _ _ _ _ _ _ _ (T1.setTop (mkF m 48 #[.val (.long q0), .second, .val (.long (fmic q0)), .second, .val (.int (((((q0.toUInt64 >>> ((1 : Int32) &&& 0x3f).toInt64.toUInt64).toInt64) &&& (31 : Int64)).toInt32) + (1 : Int32))), .val (.long ((((fmic q0).toUInt64 >>> ((((((q0.toUInt64 >>> ((1 : Int32) &&& 0x3f).toInt64.toUInt64).toInt64) &&& (31 : Int64)).toInt32) + (1 : Int32)) &&& 0x3f).toInt64.toUInt64).toInt64) <<< ((((((q0.toUInt64 >>> ((1 : Int32) &&& 0x3f).toInt64.toUInt64).toInt64) &&& (31 : Int64)).toInt32) + (1 : Int32)) &&& 0x3f).toInt64)), .second, .val (.long ((((((fmic q0).toUInt64 >>> ((((((q0.toUInt64 >>> ((1 : Int32) &&& 0x3f).toInt64.toUInt64).toInt64) &&& (31 : Int64)).toInt32) + (1 : Int32)) &&& 0x3f).toInt64.toUInt64).toInt64) <<< ((((((q0.toUInt64 >>> ((1 : Int32) &&& 0x3f).toInt64.toUInt64).toInt64) &&& (31 : Int64)).toInt32) + (1 : Int32)) &&& 0x3f).toInt64) + ((1 : Int64) <<< ((((((q0.toUInt64 >>> ((1 : Int32) &&& 0x3f).toInt64.toUInt64).toInt64) &&& (31 : Int64)).toInt32) + (1 : Int32)) &&& 0x3f).toInt64)) - (1 : Int64))), .second] []))
    refine own_go (fun _ k => XS.lload X1.here hx rfl (hb hby dmidl_48) rfl k) ?_
    show own_Ends _ _ _ _ _ _ _ (T1.setTop (mkF m 50 #[.val (.long q0), .second, .val (.long (fmic q0)), .second, .val (.int (((((q0.toUInt64 >>> ((1 : Int32) &&& 0x3f).toInt64.toUInt64).toInt64) &&& (31 : Int64)).toInt32) + (1 : Int32))), .val (.long ((((fmic q0).toUInt64 >>> ((((((q0.toUInt64 >>> ((1 : Int32) &&& 0x3f).toInt64.toUInt64).toInt64) &&& (31 : Int64)).toInt32) + (1 : Int32)) &&& 0x3f).toInt64.toUInt64).toInt64) <<< ((((((q0.toUInt64 >>> ((1 : Int32) &&& 0x3f).toInt64.toUInt64).toInt64) &&& (31 : Int64)).toInt32) + (1 : Int32)) &&& 0x3f).toInt64)), .second, .val (.long ((((((fmic q0).toUInt64 >>> ((((((q0.toUInt64 >>> ((1 : Int32) &&& 0x3f).toInt64.toUInt64).toInt64) &&& (31 : Int64)).toInt32) + (1 : Int32)) &&& 0x3f).toInt64.toUInt64).toInt64) <<< ((((((q0.toUInt64 >>> ((1 : Int32) &&& 0x3f).toInt64.toUInt64).toInt64) &&& (31 : Int64)).toInt32) + (1 : Int32)) &&& 0x3f).toInt64) + ((1 : Int64) <<< ((((((q0.toUInt64 >>> ((1 : Int32) &&& 0x3f).toInt64.toUInt64).toInt64) &&& (31 : Int64)).toInt32) + (1 : Int32)) &&& 0x3f).toInt64)) - (1 : Int64))), .second] [(.long ((((fmic q0).toUInt64 >>> ((((((q0.toUInt64 >>> ((1 : Int32) &&& 0x3f).toInt64.toUInt64).toInt64) &&& (31 : Int64)).toInt32) + (1 : Int32)) &&& 0x3f).toInt64.toUInt64).toInt64) <<< ((((((q0.toUInt64 >>> ((1 : Int32) &&& 0x3f).toInt64.toUInt64).toInt64) &&& (31 : Int64)).toInt32) + (1 : Int32)) &&& 0x3f).toInt64))]))
    refine own_go (fun _ k => XS.lload X1.here hx rfl (hb hby dmidl_50) rfl k) ?_
    show own_Ends _ _ _ _ _ _ _ (T1.setTop (mkF m 52 #[.val (.long q0), .second, .val (.long (fmic q0)), .second, .val (.int (((((q0.toUInt64 >>> ((1 : Int32) &&& 0x3f).toInt64.toUInt64).toInt64) &&& (31 : Int64)).toInt32) + (1 : Int32))), .val (.long ((((fmic q0).toUInt64 >>> ((((((q0.toUInt64 >>> ((1 : Int32) &&& 0x3f).toInt64.toUInt64).toInt64) &&& (31 : Int64)).toInt32) + (1 : Int32)) &&& 0x3f).toInt64.toUInt64).toInt64) <<< ((((((q0.toUInt64 >>> ((1 : Int32) &&& 0x3f).toInt64.toUInt64).toInt64) &&& (31 : Int64)).toInt32) + (1 : Int32)) &&& 0x3f).toInt64)), .second, .val (.long ((((((fmic q0).toUInt64 >>> ((((((q0.toUInt64 >>> ((1 : Int32) &&& 0x3f).toInt64.toUInt64).toInt64) &&& (31 : Int64)).toInt32) + (1 : Int32)) &&& 0x3f).toInt64.toUInt64).toInt64) <<< ((((((q0.toUInt64 >>> ((1 : Int32) &&& 0x3f).toInt64.toUInt64).toInt64) &&& (31 : Int64)).toInt32) + (1 : Int32)) &&& 0x3f).toInt64) + ((1 : Int64) <<< ((((((q0.toUInt64 >>> ((1 : Int32) &&& 0x3f).toInt64.toUInt64).toInt64) &&& (31 : Int64)).toInt32) + (1 : Int32)) &&& 0x3f).toInt64)) - (1 : Int64))), .second] [(.long ((((((fmic q0).toUInt64 >>> ((((((q0.toUInt64 >>> ((1 : Int32) &&& 0x3f).toInt64.toUInt64).toInt64) &&& (31 : Int64)).toInt32) + (1 : Int32)) &&& 0x3f).toInt64.toUInt64).toInt64) <<< ((((((q0.toUInt64 >>> ((1 : Int32) &&& 0x3f).toInt64.toUInt64).toInt64) &&& (31 : Int64)).toInt32) + (1 : Int32)) &&& 0x3f).toInt64) + ((1 : Int64) <<< ((((((q0.toUInt64 >>> ((1 : Int32) &&& 0x3f).toInt64.toUInt64).toInt64) &&& (31 : Int64)).toInt32) + (1 : Int32)) &&& 0x3f).toInt64)) - (1 : Int64))), (.long ((((fmic q0).toUInt64 >>> ((((((q0.toUInt64 >>> ((1 : Int32) &&& 0x3f).toInt64.toUInt64).toInt64) &&& (31 : Int64)).toInt32) + (1 : Int32)) &&& 0x3f).toInt64.toUInt64).toInt64) <<< ((((((q0.toUInt64 >>> ((1 : Int32) &&& 0x3f).toInt64.toUInt64).toInt64) &&& (31 : Int64)).toInt32) + (1 : Int32)) &&& 0x3f).toInt64))]))
    refine own_go (fun _ k => XS.ladd X1.here hx rfl (hb hby dmidl_52) rfl k) ?_
    show own_Ends _ _ _ _ _ _ _ (T1.setTop (mkF m 53 #[.val (.long q0), .second, .val (.long (fmic q0)), .second, .val (.int (((((q0.toUInt64 >>> ((1 : Int32) &&& 0x3f).toInt64.toUInt64).toInt64) &&& (31 : Int64)).toInt32) + (1 : Int32))), .val (.long ((((fmic q0).toUInt64 >>> ((((((q0.toUInt64 >>> ((1 : Int32) &&& 0x3f).toInt64.toUInt64).toInt64) &&& (31 : Int64)).toInt32) + (1 : Int32)) &&& 0x3f).toInt64.toUInt64).toInt64) <<< ((((((q0.toUInt64 >>> ((1 : Int32) &&& 0x3f).toInt64.toUInt64).toInt64) &&& (31 : Int64)).toInt32) + (1 : Int32)) &&& 0x3f).toInt64)), .second, .val (.long ((((((fmic q0).toUInt64 >>> ((((((q0.toUInt64 >>> ((1 : Int32) &&& 0x3f).toInt64.toUInt64).toInt64) &&& (31 : Int64)).toInt32) + (1 : Int32)) &&& 0x3f).toInt64.toUInt64).toInt64) <<< ((((((q0.toUInt64 >>> ((1 : Int32) &&& 0x3f).toInt64.toUInt64).toInt64) &&& (31 : Int64)).toInt32) + (1 : Int32)) &&& 0x3f).toInt64) + ((1 : Int64) <<< ((((((q0.toUInt64 >>> ((1 : Int32) &&& 0x3f).toInt64.toUInt64).toInt64) &&& (31 : Int64)).toInt32) + (1 : Int32)) &&& 0x3f).toInt64)) - (1 : Int64))), .second] [(.long (((((fmic q0).toUInt64 >>> ((((((q0.toUInt64 >>> ((1 : Int32) &&& 0x3f).toInt64.toUInt64).toInt64) &&& (31 : Int64)).toInt32) + (1 : Int32)) &&& 0x3f).toInt64.toUInt64).toInt64) <<< ((((((q0.toUInt64 >>> ((1 : Int32) &&& 0x3f).toInt64.toUInt64).toInt64) &&& (31 : Int64)).toInt32) + (1 : Int32)) &&& 0x3f).toInt64) + ((((((fmic q0).toUInt64 >>> ((((((q0.toUInt64 >>> ((1 : Int32) &&& 0x3f).toInt64.toUInt64).toInt64) &&& (31 : Int64)).toInt32) + (1 : Int32)) &&& 0x3f).toInt64.toUInt64).toInt64) <<< ((((((q0.toUInt64 >>> ((1 : Int32) &&& 0x3f).toInt64.toUInt64).toInt64) &&& (31 : Int64)).toInt32) + (1 : Int32)) &&& 0x3f).toInt64) + ((1 : Int64) <<< ((((((q0.toUInt64 >>> ((1 : Int32) &&& 0x3f).toInt64.toUInt64).toInt64) &&& (31 : Int64)).toInt32) + (1 : Int32)) &&& 0x3f).toInt64)) - (1 : Int64))))]))
    refine own_go (fun _ k => XS.l2dS X1.here hx rfl (hb hby dmidl_53) rfl rfl k) ?_
    show own_Ends _ _ _ _ _ _ _ (T1.setTop (mkF m 54 #[.val (.long q0), .second, .val (.long (fmic q0)), .second, .val (.int (((((q0.toUInt64 >>> ((1 : Int32) &&& 0x3f).toInt64.toUInt64).toInt64) &&& (31 : Int64)).toInt32) + (1 : Int32))), .val (.long ((((fmic q0).toUInt64 >>> ((((((q0.toUInt64 >>> ((1 : Int32) &&& 0x3f).toInt64.toUInt64).toInt64) &&& (31 : Int64)).toInt32) + (1 : Int32)) &&& 0x3f).toInt64.toUInt64).toInt64) <<< ((((((q0.toUInt64 >>> ((1 : Int32) &&& 0x3f).toInt64.toUInt64).toInt64) &&& (31 : Int64)).toInt32) + (1 : Int32)) &&& 0x3f).toInt64)), .second, .val (.long ((((((fmic q0).toUInt64 >>> ((((((q0.toUInt64 >>> ((1 : Int32) &&& 0x3f).toInt64.toUInt64).toInt64) &&& (31 : Int64)).toInt32) + (1 : Int32)) &&& 0x3f).toInt64.toUInt64).toInt64) <<< ((((((q0.toUInt64 >>> ((1 : Int32) &&& 0x3f).toInt64.toUInt64).toInt64) &&& (31 : Int64)).toInt32) + (1 : Int32)) &&& 0x3f).toInt64) + ((1 : Int64) <<< ((((((q0.toUInt64 >>> ((1 : Int32) &&& 0x3f).toInt64.toUInt64).toInt64) &&& (31 : Int64)).toInt32) + (1 : Int32)) &&& 0x3f).toInt64)) - (1 : Int64))), .second] [(.double (FP.l2d (((((fmic q0).toUInt64 >>> ((((((q0.toUInt64 >>> ((1 : Int32) &&& 0x3f).toInt64.toUInt64).toInt64) &&& (31 : Int64)).toInt32) + (1 : Int32)) &&& 0x3f).toInt64.toUInt64).toInt64) <<< ((((((q0.toUInt64 >>> ((1 : Int32) &&& 0x3f).toInt64.toUInt64).toInt64) &&& (31 : Int64)).toInt32) + (1 : Int32)) &&& 0x3f).toInt64) + ((((((fmic q0).toUInt64 >>> ((((((q0.toUInt64 >>> ((1 : Int32) &&& 0x3f).toInt64.toUInt64).toInt64) &&& (31 : Int64)).toInt32) + (1 : Int32)) &&& 0x3f).toInt64.toUInt64).toInt64) <<< ((((((q0.toUInt64 >>> ((1 : Int32) &&& 0x3f).toInt64.toUInt64).toInt64) &&& (31 : Int64)).toInt32) + (1 : Int32)) &&& 0x3f).toInt64) + ((1 : Int64) <<< ((((((q0.toUInt64 >>> ((1 : Int32) &&& 0x3f).toInt64.toUInt64).toInt64) &&& (31 : Int64)).toInt32) + (1 : Int32)) &&& 0x3f).toInt64)) - (1 : Int64)))))]))
    refine own_go (fun _ k => X1.ldc2DoubleC hx hown (mvT hZ (hw _ (List.mem_of_getElem? (i := 69) rfl))) (g := (mkF m 54 #[.val (.long q0), .second, .val (.long (fmic q0)), .second, .val (.int (((((q0.toUInt64 >>> ((1 : Int32) &&& 0x3f).toInt64.toUInt64).toInt64) &&& (31 : Int64)).toInt32) + (1 : Int32))), .val (.long ((((fmic q0).toUInt64 >>> ((((((q0.toUInt64 >>> ((1 : Int32) &&& 0x3f).toInt64.toUInt64).toInt64) &&& (31 : Int64)).toInt32) + (1 : Int32)) &&& 0x3f).toInt64.toUInt64).toInt64) <<< ((((((q0.toUInt64 >>> ((1 : Int32) &&& 0x3f).toInt64.toUInt64).toInt64) &&& (31 : Int64)).toInt32) + (1 : Int32)) &&& 0x3f).toInt64)), .second, .val (.long ((((((fmic q0).toUInt64 >>> ((((((q0.toUInt64 >>> ((1 : Int32) &&& 0x3f).toInt64.toUInt64).toInt64) &&& (31 : Int64)).toInt32) + (1 : Int32)) &&& 0x3f).toInt64.toUInt64).toInt64) <<< ((((((q0.toUInt64 >>> ((1 : Int32) &&& 0x3f).toInt64.toUInt64).toInt64) &&& (31 : Int64)).toInt32) + (1 : Int32)) &&& 0x3f).toInt64) + ((1 : Int64) <<< ((((((q0.toUInt64 >>> ((1 : Int32) &&& 0x3f).toInt64.toUInt64).toInt64) &&& (31 : Int64)).toInt32) + (1 : Int32)) &&& 0x3f).toInt64)) - (1 : Int64))), .second] [(.double (FP.l2d (((((fmic q0).toUInt64 >>> ((((((q0.toUInt64 >>> ((1 : Int32) &&& 0x3f).toInt64.toUInt64).toInt64) &&& (31 : Int64)).toInt32) + (1 : Int32)) &&& 0x3f).toInt64.toUInt64).toInt64) <<< ((((((q0.toUInt64 >>> ((1 : Int32) &&& 0x3f).toInt64.toUInt64).toInt64) &&& (31 : Int64)).toInt32) + (1 : Int32)) &&& 0x3f).toInt64) + ((((((fmic q0).toUInt64 >>> ((((((q0.toUInt64 >>> ((1 : Int32) &&& 0x3f).toInt64.toUInt64).toInt64) &&& (31 : Int64)).toInt32) + (1 : Int32)) &&& 0x3f).toInt64.toUInt64).toInt64) <<< ((((((q0.toUInt64 >>> ((1 : Int32) &&& 0x3f).toInt64.toUInt64).toInt64) &&& (31 : Int64)).toInt32) + (1 : Int32)) &&& 0x3f).toInt64) + ((1 : Int64) <<< ((((((q0.toUInt64 >>> ((1 : Int32) &&& 0x3f).toInt64.toUInt64).toInt64) &&& (31 : Int64)).toInt32) + (1 : Int32)) &&& 0x3f).toInt64)) - (1 : Int64)))))])) rfl (hb hby dmidl_54) _ k) ?_
    show own_Ends _ _ _ _ _ _ _ (T1.setTop (mkF m 57 #[.val (.long q0), .second, .val (.long (fmic q0)), .second, .val (.int (((((q0.toUInt64 >>> ((1 : Int32) &&& 0x3f).toInt64.toUInt64).toInt64) &&& (31 : Int64)).toInt32) + (1 : Int32))), .val (.long ((((fmic q0).toUInt64 >>> ((((((q0.toUInt64 >>> ((1 : Int32) &&& 0x3f).toInt64.toUInt64).toInt64) &&& (31 : Int64)).toInt32) + (1 : Int32)) &&& 0x3f).toInt64.toUInt64).toInt64) <<< ((((((q0.toUInt64 >>> ((1 : Int32) &&& 0x3f).toInt64.toUInt64).toInt64) &&& (31 : Int64)).toInt32) + (1 : Int32)) &&& 0x3f).toInt64)), .second, .val (.long ((((((fmic q0).toUInt64 >>> ((((((q0.toUInt64 >>> ((1 : Int32) &&& 0x3f).toInt64.toUInt64).toInt64) &&& (31 : Int64)).toInt32) + (1 : Int32)) &&& 0x3f).toInt64.toUInt64).toInt64) <<< ((((((q0.toUInt64 >>> ((1 : Int32) &&& 0x3f).toInt64.toUInt64).toInt64) &&& (31 : Int64)).toInt32) + (1 : Int32)) &&& 0x3f).toInt64) + ((1 : Int64) <<< ((((((q0.toUInt64 >>> ((1 : Int32) &&& 0x3f).toInt64.toUInt64).toInt64) &&& (31 : Int64)).toInt32) + (1 : Int32)) &&& 0x3f).toInt64)) - (1 : Int64))), .second] [(.double (4611686018427387904 : UInt64)), (.double (FP.l2d (((((fmic q0).toUInt64 >>> ((((((q0.toUInt64 >>> ((1 : Int32) &&& 0x3f).toInt64.toUInt64).toInt64) &&& (31 : Int64)).toInt32) + (1 : Int32)) &&& 0x3f).toInt64.toUInt64).toInt64) <<< ((((((q0.toUInt64 >>> ((1 : Int32) &&& 0x3f).toInt64.toUInt64).toInt64) &&& (31 : Int64)).toInt32) + (1 : Int32)) &&& 0x3f).toInt64) + ((((((fmic q0).toUInt64 >>> ((((((q0.toUInt64 >>> ((1 : Int32) &&& 0x3f).toInt64.toUInt64).toInt64) &&& (31 : Int64)).toInt32) + (1 : Int32)) &&& 0x3f).toInt64.toUInt64).toInt64) <<< ((((((q0.toUInt64 >>> ((1 : Int32) &&& 0x3f).toInt64.toUInt64).toInt64) &&& (31 : Int64)).toInt32) + (1 : Int32)) &&& 0x3f).toInt64) + ((1 : Int64) <<< ((((((q0.toUInt64 >>> ((1 : Int32) &&& 0x3f).toInt64.toUInt64).toInt64) &&& (31 : Int64)).toInt32) + (1 : Int32)) &&& 0x3f).toInt64)) - (1 : Int64)))))]))
    refine own_go (fun _ k => XS.ddivS X1.here hx rfl (hb hby dmidl_57) rfl (own_nnh _) rfl k) ?_
    show own_Ends _ _ _ _ _ _ _ (T1.setTop (mkF m 58 #[.val (.long q0), .second, .val (.long (fmic q0)), .second, .val (.int (((((q0.toUInt64 >>> ((1 : Int32) &&& 0x3f).toInt64.toUInt64).toInt64) &&& (31 : Int64)).toInt32) + (1 : Int32))), .val (.long ((((fmic q0).toUInt64 >>> ((((((q0.toUInt64 >>> ((1 : Int32) &&& 0x3f).toInt64.toUInt64).toInt64) &&& (31 : Int64)).toInt32) + (1 : Int32)) &&& 0x3f).toInt64.toUInt64).toInt64) <<< ((((((q0.toUInt64 >>> ((1 : Int32) &&& 0x3f).toInt64.toUInt64).toInt64) &&& (31 : Int64)).toInt32) + (1 : Int32)) &&& 0x3f).toInt64)), .second, .val (.long ((((((fmic q0).toUInt64 >>> ((((((q0.toUInt64 >>> ((1 : Int32) &&& 0x3f).toInt64.toUInt64).toInt64) &&& (31 : Int64)).toInt32) + (1 : Int32)) &&& 0x3f).toInt64.toUInt64).toInt64) <<< ((((((q0.toUInt64 >>> ((1 : Int32) &&& 0x3f).toInt64.toUInt64).toInt64) &&& (31 : Int64)).toInt32) + (1 : Int32)) &&& 0x3f).toInt64) + ((1 : Int64) <<< ((((((q0.toUInt64 >>> ((1 : Int32) &&& 0x3f).toInt64.toUInt64).toInt64) &&& (31 : Int64)).toInt32) + (1 : Int32)) &&& 0x3f).toInt64)) - (1 : Int64))), .second] [(.double (FP.ddiv (FP.l2d (((((fmic q0).toUInt64 >>> ((((((q0.toUInt64 >>> ((1 : Int32) &&& 0x3f).toInt64.toUInt64).toInt64) &&& (31 : Int64)).toInt32) + (1 : Int32)) &&& 0x3f).toInt64.toUInt64).toInt64) <<< ((((((q0.toUInt64 >>> ((1 : Int32) &&& 0x3f).toInt64.toUInt64).toInt64) &&& (31 : Int64)).toInt32) + (1 : Int32)) &&& 0x3f).toInt64) + ((((((fmic q0).toUInt64 >>> ((((((q0.toUInt64 >>> ((1 : Int32) &&& 0x3f).toInt64.toUInt64).toInt64) &&& (31 : Int64)).toInt32) + (1 : Int32)) &&& 0x3f).toInt64.toUInt64).toInt64) <<< ((((((q0.toUInt64 >>> ((1 : Int32) &&& 0x3f).toInt64.toUInt64).toInt64) &&& (31 : Int64)).toInt32) + (1 : Int32)) &&& 0x3f).toInt64) + ((1 : Int64) <<< ((((((q0.toUInt64 >>> ((1 : Int32) &&& 0x3f).toInt64.toUInt64).toInt64) &&& (31 : Int64)).toInt32) + (1 : Int32)) &&& 0x3f).toInt64)) - (1 : Int64)))) (4611686018427387904 : UInt64)))]))
    exact own_retD X1 hx hlk Bd.returns (hb hby dmidl_58) (by decide) (by decide) ⟨congrArg (fun z => some (Value.double z)) (by exact ((if_neg hc2)).symm), N1, e1⟩
theorem dkth_0 : decode method_6_code 0 = .ok (.iload 6, 2) := by decide +kernel
theorem dkth_2 : decode method_6_code 2 = .ok (.iconst 1, 1) := by decide +kernel
theorem dkth_3 : decode method_6_code 3 = .ok (.if_icmp .ne 5, 3) := by decide +kernel
theorem dkth_6 : decode method_6_code 6 = .ok (.dload_n 0, 1) := by decide +kernel
theorem dkth_7 : decode method_6_code 7 = .ok (.dreturn, 1) := by decide +kernel
theorem dkth_8 : decode method_6_code 8 = .ok (.dload_n 0, 1) := by decide +kernel
theorem dkth_9 : decode method_6_code 9 = .ok (.dload_n 2, 1) := by decide +kernel
theorem dkth_10 : decode method_6_code 10 = .ok (.dcmp .g, 1) := by decide +kernel
theorem dkth_11 : decode method_6_code 11 = .ok (.ifCond .ge 7, 3) := by decide +kernel
theorem dkth_14 : decode method_6_code 14 = .ok (.dload_n 0, 1) := by decide +kernel
theorem dkth_15 : decode method_6_code 15 = .ok (.goto 4, 3) := by decide +kernel
theorem dkth_18 : decode method_6_code 18 = .ok (.dload_n 2, 1) := by decide +kernel
theorem dkth_19 : decode method_6_code 19 = .ok (.dstore 8, 2) := by decide +kernel
theorem dkth_21 : decode method_6_code 21 = .ok (.dload_n 0, 1) := by decide +kernel
theorem dkth_22 : decode method_6_code 22 = .ok (.dload_n 2, 1) := by decide +kernel
theorem dkth_23 : decode method_6_code 23 = .ok (.dcmp .g, 1) := by decide +kernel
theorem dkth_24 : decode method_6_code 24 = .ok (.ifCond .ge 7, 3) := by decide +kernel
theorem dkth_27 : decode method_6_code 27 = .ok (.dload_n 2, 1) := by decide +kernel
theorem dkth_28 : decode method_6_code 28 = .ok (.goto 4, 3) := by decide +kernel
theorem dkth_31 : decode method_6_code 31 = .ok (.dload_n 0, 1) := by decide +kernel
theorem dkth_32 : decode method_6_code 32 = .ok (.dstore 10, 2) := by decide +kernel
theorem dkth_34 : decode method_6_code 34 = .ok (.iload 6, 2) := by decide +kernel
theorem dkth_36 : decode method_6_code 36 = .ok (.iconst 2, 1) := by decide +kernel
theorem dkth_37 : decode method_6_code 37 = .ok (.if_icmp .ne 17, 3) := by decide +kernel
theorem dkth_40 : decode method_6_code 40 = .ok (.iload 7, 2) := by decide +kernel
theorem dkth_42 : decode method_6_code 42 = .ok (.iconst 1, 1) := by decide +kernel
theorem dkth_43 : decode method_6_code 43 = .ok (.if_icmp .ne 8, 3) := by decide +kernel
theorem dkth_46 : decode method_6_code 46 = .ok (.dload 8, 2) := by decide +kernel
theorem dkth_48 : decode method_6_code 48 = .ok (.goto 5, 3) := by decide +kernel
theorem dkth_51 : decode method_6_code 51 = .ok (.dload 10, 2) := by decide +kernel
theorem dkth_53 : decode method_6_code 53 = .ok (.dreturn, 1) := by decide +kernel
theorem dkth_54 : decode method_6_code 54 = .ok (.iload 7, 2) := by decide +kernel
theorem dkth_56 : decode method_6_code 56 = .ok (.iconst 1, 1) := by decide +kernel
theorem dkth_57 : decode method_6_code 57 = .ok (.if_icmp .ne 19, 3) := by decide +kernel
theorem dkth_60 : decode method_6_code 60 = .ok (.dload 4, 2) := by decide +kernel
theorem dkth_62 : decode method_6_code 62 = .ok (.dload 8, 2) := by decide +kernel
theorem dkth_64 : decode method_6_code 64 = .ok (.dcmp .g, 1) := by decide +kernel
theorem dkth_65 : decode method_6_code 65 = .ok (.ifCond .ge 8, 3) := by decide +kernel
theorem dkth_68 : decode method_6_code 68 = .ok (.dload 4, 2) := by decide +kernel
theorem dkth_70 : decode method_6_code 70 = .ok (.goto 5, 3) := by decide +kernel
theorem dkth_73 : decode method_6_code 73 = .ok (.dload 8, 2) := by decide +kernel
theorem dkth_75 : decode method_6_code 75 = .ok (.dreturn, 1) := by decide +kernel
theorem dkth_76 : decode method_6_code 76 = .ok (.iload 7, 2) := by decide +kernel
theorem dkth_78 : decode method_6_code 78 = .ok (.iconst 3, 1) := by decide +kernel
theorem dkth_79 : decode method_6_code 79 = .ok (.if_icmp .ne 19, 3) := by decide +kernel
theorem dkth_82 : decode method_6_code 82 = .ok (.dload 4, 2) := by decide +kernel
theorem dkth_84 : decode method_6_code 84 = .ok (.dload 10, 2) := by decide +kernel
theorem dkth_86 : decode method_6_code 86 = .ok (.dcmp .g, 1) := by decide +kernel
theorem dkth_87 : decode method_6_code 87 = .ok (.ifCond .ge 8, 3) := by decide +kernel
theorem dkth_90 : decode method_6_code 90 = .ok (.dload 10, 2) := by decide +kernel
theorem dkth_92 : decode method_6_code 92 = .ok (.goto 5, 3) := by decide +kernel
theorem dkth_95 : decode method_6_code 95 = .ok (.dload 4, 2) := by decide +kernel
theorem dkth_97 : decode method_6_code 97 = .ok (.dreturn, 1) := by decide +kernel
theorem dkth_98 : decode method_6_code 98 = .ok (.dload 4, 2) := by decide +kernel
theorem dkth_100 : decode method_6_code 100 = .ok (.dload 8, 2) := by decide +kernel
theorem dkth_102 : decode method_6_code 102 = .ok (.dcmp .g, 1) := by decide +kernel
theorem dkth_103 : decode method_6_code 103 = .ok (.ifCond .ge 6, 3) := by decide +kernel
theorem dkth_106 : decode method_6_code 106 = .ok (.dload 8, 2) := by decide +kernel
theorem dkth_108 : decode method_6_code 108 = .ok (.dreturn, 1) := by decide +kernel
theorem dkth_109 : decode method_6_code 109 = .ok (.dload 4, 2) := by decide +kernel
theorem dkth_111 : decode method_6_code 111 = .ok (.dload 10, 2) := by decide +kernel
theorem dkth_113 : decode method_6_code 113 = .ok (.dcmp .g, 1) := by decide +kernel
theorem dkth_114 : decode method_6_code 114 = .ok (.ifCond .ge 6, 3) := by decide +kernel
theorem dkth_117 : decode method_6_code 117 = .ok (.dload 4, 2) := by decide +kernel
theorem dkth_119 : decode method_6_code 119 = .ok (.dreturn, 1) := by decide +kernel
theorem dkth_120 : decode method_6_code 120 = .ok (.dload 10, 2) := by decide +kernel
theorem dkth_122 : decode method_6_code 122 = .ok (.dreturn, 1) := by decide +kernel
theorem pnkth : plainName "com/example/rate_keeper/ratekeeper/server/bench/LatencyHistogramPercentileMicrosPinLaw" = true := by first | (simp [plainName, overriddenIn]; done) | decide +kernel
theorem efkth (m : MethodId) (d0 : UInt64) (d1 : UInt64) (d2 : UInt64) (p3 : Int32) (p4 : Int32) : entryFrame m #[(.double d0), (.double d1), (.double d2), (.int p3), (.int p4)] 12 = mkF m 0 #[.val (.double d0), .second, .val (.double d1), .second, .val (.double d2), .second, .val (.int p3), .val (.int p4), .unset, .unset, .unset, .unset] [] := by first | (simp [entryFrame, mkF, argsToLocals, Value.category]; done) | rfl
def fkth (d0 : UInt64) (d1 : UInt64) (d2 : UInt64) (p3 : Int32) (p4 : Int32) : UInt64 := (if p3 = (1 : Int32) then d0 else (let z2 : UInt64 := (if (cmpValue (FP.dcmp d0 d1) .g) < (0 : Int32) then d0 else d1); (let z5 : UInt64 := (if (cmpValue (FP.dcmp d0 d1) .g) < (0 : Int32) then d1 else d0); (if p3 = (2 : Int32) then (if p4 = (1 : Int32) then z2 else z5) else (if p4 = (1 : Int32) then (if (cmpValue (FP.dcmp d2 z2) .g) < (0 : Int32) then d2 else z2) else (if p4 = (3 : Int32) then (if (cmpValue (FP.dcmp d2 z5) .g) < (0 : Int32) then z5 else d2) else (if (cmpValue (FP.dcmp d2 z2) .g) < (0 : Int32) then z2 else (if (cmpValue (FP.dcmp d2 z5) .g) < (0 : Int32) then d2 else z5))))))))
def Qkth (Z : State) (d0 : UInt64) (d1 : UInt64) (d2 : UInt64) (p3 : Int32) (p4 : Int32) (h0 : Heap) (n0 : Nat) (v : Option Value) (h : Heap) (L : List Loc) : Prop := v = some (.double (fkth d0 d1 d2 p3 p4)) ∧ Fr n0 L ∧ h = h0
set_option maxRecDepth 65536 in
set_option maxHeartbeats 40000000 in
theorem rmkth (l : Launch) (Z : State) (ar : Array Value) (hw : ∀ d ∈ tables_1, d.before ar Z = true) (ws : List Jvm.Cond) (d0 : UInt64) (d1 : UInt64) (d2 : UInt64) (p3 : Int32) (p4 : Int32) (h0 : Heap) (n0 : Nat) (O0 : Old Z n0 h0) :
    MetFree l (⟨"com/example/rate_keeper/ratekeeper/server/bench/LatencyHistogramPercentileMicrosPinLaw", "kth", "(DDDII)D"⟩ : MethodName) (head1 (Jvm.Cond.code (⟨"com/example/rate_keeper/ratekeeper/server/bench/LatencyHistogramPercentileMicrosPinLaw", "kth", "(DDDII)D"⟩ : MethodName) method_6_code 12 (some .double) :: ws) ({ frames := 0, cells := 0, slots := 0, locals := 0 } : Room)) (fun a U => a = #[(.double d0), (.double d1), (.double d2), (.int p3), (.int p4)] ∧ Z.Warmed39 U.vm ∧ U.heap = h0) (fun _ _ _ _ _ => True) (fun _ U o U' => ∃ v L, o = .returned v ∧ Qkth Z d0 d1 d2 p3 p4 h0 n0 v U'.heap L ∧ FrameEnd U o U' L ({ frames := 0, cells := 0, slots := 0, locals := 0 } : Room).cells ({ frames := 0, cells := 0, slots := 0, locals := 0 } : Room).slots) := by
  refine MetFree.of_bodySF (plainFor_of_name pnkth) hisR ?_
  intro p e s m args below meth c s₁ Bd hml0 hP hK
  obtain ⟨rfl, hZ, hh⟩ := hP
  have hx := Bd.exec
  have hby := Bd.bytes
  have hml : c.maxLocals = 12 := hml0
  have hown : s.vm.findClass "com/example/rate_keeper/ratekeeper/server/bench/LatencyHistogramPercentileMicrosPinLaw" = some m.cls := findClass_of_methodNamed Bd.named
  have hnm := (name_of_methodNamed Bd.named Bd.method).1
  have hlk : meth.locks = false := BodyLoose.notSynchronized Bd
  have X0 : Stand p l e ({ frames := 0, cells := 0, slots := 0, locals := 0 } : Room) s m #[(.double d0), (.double d1), (.double d2), (.int p3), (.int p4)] below meth c s₁ [] 0 0 := Stand.of_body Bd
  have e0 : s₁.heap = h0 := by rw [← hh, Bd.state]; rfl
  have N0 := Fr.nil n0
  suffices hmain : own_Ends p e below s (Qkth Z d0 d1 d2 p3 p4 h0 n0) 0 0 (s₁.setTop (mkF m 0 #[.val (.double d0), .second, .val (.double d1), .second, .val (.double d2), .second, .val (.int p3), .val (.int p4), .unset, .unset, .unset, .unset] [])) by
    obtain ⟨U, o, h1, r⟩ := hmain
    exact ⟨U, o, castTop (efkth m d0 d1 d2 p3 p4) h1, r⟩
  show own_Ends _ _ _ _ _ _ _ (s₁.setTop (mkF m 0 #[.val (.double d0), .second, .val (.double d1), .second, .val (.double d2), .second, .val (.int p3), .val (.int p4), .unset, .unset, .unset, .unset] []))
  refine own_go (fun _ k => XS.iload X0.here hx rfl (hb hby dkth_0) rfl k) ?_
  show own_Ends _ _ _ _ _ _ _ (s₁.setTop (mkF m 2 #[.val (.double d0), .second, .val (.double d1), .second, .val (.double d2), .second, .val (.int p3), .val (.int p4), .unset, .unset, .unset, .unset] [(.int p3)]))
  refine own_go (fun _ k => XS.iconst X0.here hx rfl (hb hby dkth_2) k) ?_
  show own_Ends _ _ _ _ _ _ _ (s₁.setTop (mkF m 3 #[.val (.double d0), .second, .val (.double d1), .second, .val (.double d2), .second, .val (.int p3), .val (.int p4), .unset, .unset, .unset, .unset] [(.int (1 : Int32)), (.int p3)]))
  by_cases hc1 : p3 = (1 : Int32)
  · refine own_go (fun _ k => XS.icmpNo X0.here hx rfl (hb hby dkth_3) rfl (teq hc1).2 k) ?_
    show own_Ends _ _ _ _ _ _ _ (s₁.setTop (mkF m 6 #[.val (.double d0), .second, .val (.double d1), .second, .val (.double d2), .second, .val (.int p3), .val (.int p4), .unset, .unset, .unset, .unset] []))
    refine own_go (fun _ k => XS.dloadN X0.here hx rfl (hb hby dkth_6) rfl k) ?_
    show own_Ends _ _ _ _ _ _ _ (s₁.setTop (mkF m 7 #[.val (.double d0), .second, .val (.double d1), .second, .val (.double d2), .second, .val (.int p3), .val (.int p4), .unset, .unset, .unset, .unset] [(.double d0)]))
    exact own_retD X0 hx hlk Bd.returns (hb hby dkth_7) (by decide) (by decide) ⟨congrArg (fun z => some (Value.double z)) (by exact ((if_pos hc1)).symm), N0, e0⟩
  · refine own_go (fun _ k => XS.icmpYes X0.here hx rfl (pc0 := 3) (pc' := 8) rfl (hb hby dkth_3) rfl (feq hc1).2 (by decide) (by decide) k) ?_
    show own_Ends _ _ _ _ _ _ _ (s₁.setTop (mkF m 8 #[.val (.double d0), .second, .val (.double d1), .second, .val (.double d2), .second, .val (.int p3), .val (.int p4), .unset, .unset, .unset, .unset] []))
    refine own_go (fun _ k => XS.dloadN X0.here hx rfl (hb hby dkth_8) rfl k) ?_
    show own_Ends _ _ _ _ _ _ _ (s₁.setTop (mkF m 9 #[.val (.double d0), .second, .val (.double d1), .second, .val (.double d2), .second, .val (.int p3), .val (.int p4), .unset, .unset, .unset, .unset] [(.double d0)]))
    refine own_go (fun _ k => XS.dloadN X0.here hx rfl (hb hby dkth_9) rfl k) ?_
    show own_Ends _ _ _ _ _ _ _ (s₁.setTop (mkF m 10 #[.val (.double d0), .second, .val (.double d1), .second, .val (.double d2), .second, .val (.int p3), .val (.int p4), .unset, .unset, .unset, .unset] [(.double d1), (.double d0)]))
    refine own_go (fun _ k => XS.dcmpS X0.here hx rfl (hb hby dkth_10) rfl rfl k) ?_
    show own_Ends _ _ _ _ _ _ _ (s₁.setTop (mkF m 11 #[.val (.double d0), .second, .val (.double d1), .second, .val (.double d2), .second, .val (.int p3), .val (.int p4), .unset, .unset, .unset, .unset] [(.int (cmpValue (FP.dcmp d0 d1) .g))]))
    suffices hj3 : ∀ z2 : UInt64, z2 = (if (cmpValue (FP.dcmp d0 d1) .g) < (0 : Int32) then d0 else d1) → own_Ends p e below s (Qkth Z d0 d1 d2 p3 p4 h0 n0) 0 0 (s₁.setTop (mkF m 19 #[.val (.double d0), .second, .val (.double d1), .second, .val (.double d2), .second, .val (.int p3), .val (.int p4), .unset, .unset, .unset, .unset] [(.double z2)])) by
      show own_Ends _ _ _ _ _ _ _ (s₁.setTop (mkF m 11 #[.val (.double d0), .second, .val (.double d1), .second, .val (.double d2), .second, .val (.int p3), .val (.int p4), .unset, .unset, .unset, .unset] [(.int (cmpValue (FP.dcmp d0 d1) .g))]))
      by_cases hc4 : (cmpValue (FP.dcmp d0 d1) .g) < (0 : Int32)
      · refine own_go (fun _ k => XS.ifNo X0.here hx rfl (hb hby dkth_11) rfl ((if0 _ _).trans (tlt hc4).2.1) k) ?_
        show own_Ends _ _ _ _ _ _ _ (s₁.setTop (mkF m 14 #[.val (.double d0), .second, .val (.double d1), .second, .val (.double d2), .second, .val (.int p3), .val (.int p4), .unset, .unset, .unset, .unset] []))
        refine own_go (fun _ k => XS.dloadN X0.here hx rfl (hb hby dkth_14) rfl k) ?_
        show own_Ends _ _ _ _ _ _ _ (s₁.setTop (mkF m 15 #[.val (.double d0), .second, .val (.double d1), .second, .val (.double d2), .second, .val (.int p3), .val (.int p4), .unset, .unset, .unset, .unset] [(.double d0)]))
        refine own_go (fun _ k => XS.goto X0.here hx rfl (pc0 := 15) (pc' := 19) rfl (hb hby dkth_15) (by decide) (by decide) k) ?_
        exact hj3 _ ((if_pos hc4)).symm
      · refine own_go (fun _ k => XS.ifYes X0.here hx rfl (pc0 := 11) (pc' := 18) rfl (hb hby dkth_11) rfl ((if0 _ _).trans (flt hc4).2.1) (by decide) (by decide) k) ?_
        show own_Ends _ _ _ _ _ _ _ (s₁.setTop (mkF m 18 #[.val (.double d0), .second, .val (.double d1), .second, .val (.double d2), .second, .val (.int p3), .val (.int p4), .unset, .unset, .unset, .unset] []))
        refine own_go (fun _ k => XS.dloadN X0.here hx rfl (hb hby dkth_18) rfl k) ?_
        exact hj3 _ ((if_neg hc4)).symm
    intro z2 hz2
    show own_Ends _ _ _ _ _ _ _ (s₁.setTop (mkF m 19 #[.val (.double d0), .second, .val (.double d1), .second, .val (.double d2), .second, .val (.int p3), .val (.int p4), .unset, .unset, .unset, .unset] [(.double z2)]))
    refine own_go (fun _ k => XS.dstore X0.here hx rfl (hb hby dkth_19) rfl (l' := #[.val (.double d0), .second, .val (.double d1), .second, .val (.double d2), .second, .val (.int p3), .val (.int p4), .val (.double z2), .second, .unset, .unset]) rfl k) ?_
    show own_Ends _ _ _ _ _ _ _ (s₁.setTop (mkF m 21 #[.val (.double d0), .second, .val (.double d1), .second, .val (.double d2), .second, .val (.int p3), .val (.int p4), .val (.double z2), .second, .unset, .unset] []))
    refine own_go (fun _ k => XS.dloadN X0.here hx rfl (hb hby dkth_21) rfl k) ?_
    show own_Ends _ _ _ _ _ _ _ (s₁.setTop (mkF m 22 #[.val (.double d0), .second, .val (.double d1), .second, .val (.double d2), .second, .val (.int p3), .val (.int p4), .val (.double z2), .second, .unset, .unset] [(.double d0)]))
    refine own_go (fun _ k => XS.dloadN X0.here hx rfl (hb hby dkth_22) rfl k) ?_
    show own_Ends _ _ _ _ _ _ _ (s₁.setTop (mkF m 23 #[.val (.double d0), .second, .val (.double d1), .second, .val (.double d2), .second, .val (.int p3), .val (.int p4), .val (.double z2), .second, .unset, .unset] [(.double d1), (.double d0)]))
    refine own_go (fun _ k => XS.dcmpS X0.here hx rfl (hb hby dkth_23) rfl rfl k) ?_
    show own_Ends _ _ _ _ _ _ _ (s₁.setTop (mkF m 24 #[.val (.double d0), .second, .val (.double d1), .second, .val (.double d2), .second, .val (.int p3), .val (.int p4), .val (.double z2), .second, .unset, .unset] [(.int (cmpValue (FP.dcmp d0 d1) .g))]))
    suffices hj6 : ∀ z5 : UInt64, z5 = (if (cmpValue (FP.dcmp d0 d1) .g) < (0 : Int32) then d1 else d0) → own_Ends p e below s (Qkth Z d0 d1 d2 p3 p4 h0 n0) 0 0 (s₁.setTop (mkF m 32 #[.val (.double d0), .second, .val (.double d1), .second, .val (.double d2), .second, .val (.int p3), .val (.int p4), .val (.double z2), .second, .unset, .unset] [(.double z5)])) by
      show own_Ends _ _ _ _ _ _ _ (s₁.setTop (mkF m 24 #[.val (.double d0), .second, .val (.double d1), .second, .val (.double d2), .second, .val (.int p3), .val (.int p4), .val (.double z2), .second, .unset, .unset] [(.int (cmpValue (FP.dcmp d0 d1) .g))]))
      by_cases hc7 : (cmpValue (FP.dcmp d0 d1) .g) < (0 : Int32)
      · refine own_go (fun _ k => XS.ifNo X0.here hx rfl (hb hby dkth_24) rfl ((if0 _ _).trans (tlt hc7).2.1) k) ?_
        show own_Ends _ _ _ _ _ _ _ (s₁.setTop (mkF m 27 #[.val (.double d0), .second, .val (.double d1), .second, .val (.double d2), .second, .val (.int p3), .val (.int p4), .val (.double z2), .second, .unset, .unset] []))
        refine own_go (fun _ k => XS.dloadN X0.here hx rfl (hb hby dkth_27) rfl k) ?_
        show own_Ends _ _ _ _ _ _ _ (s₁.setTop (mkF m 28 #[.val (.double d0), .second, .val (.double d1), .second, .val (.double d2), .second, .val (.int p3), .val (.int p4), .val (.double z2), .second, .unset, .unset] [(.double d1)]))
        refine own_go (fun _ k => XS.goto X0.here hx rfl (pc0 := 28) (pc' := 32) rfl (hb hby dkth_28) (by decide) (by decide) k) ?_
        exact hj6 _ ((if_pos hc7)).symm
      · refine own_go (fun _ k => XS.ifYes X0.here hx rfl (pc0 := 24) (pc' := 31) rfl (hb hby dkth_24) rfl ((if0 _ _).trans (flt hc7).2.1) (by decide) (by decide) k) ?_
        show own_Ends _ _ _ _ _ _ _ (s₁.setTop (mkF m 31 #[.val (.double d0), .second, .val (.double d1), .second, .val (.double d2), .second, .val (.int p3), .val (.int p4), .val (.double z2), .second, .unset, .unset] []))
        refine own_go (fun _ k => XS.dloadN X0.here hx rfl (hb hby dkth_31) rfl k) ?_
        exact hj6 _ ((if_neg hc7)).symm
    intro z5 hz5
    show own_Ends _ _ _ _ _ _ _ (s₁.setTop (mkF m 32 #[.val (.double d0), .second, .val (.double d1), .second, .val (.double d2), .second, .val (.int p3), .val (.int p4), .val (.double z2), .second, .unset, .unset] [(.double z5)]))
    refine own_go (fun _ k => XS.dstore X0.here hx rfl (hb hby dkth_32) rfl (l' := #[.val (.double d0), .second, .val (.double d1), .second, .val (.double d2), .second, .val (.int p3), .val (.int p4), .val (.double z2), .second, .val (.double z5), .second]) rfl k) ?_
    show own_Ends _ _ _ _ _ _ _ (s₁.setTop (mkF m 34 #[.val (.double d0), .second, .val (.double d1), .second, .val (.double d2), .second, .val (.int p3), .val (.int p4), .val (.double z2), .second, .val (.double z5), .second] []))
    refine own_go (fun _ k => XS.iload X0.here hx rfl (hb hby dkth_34) rfl k) ?_
    show own_Ends _ _ _ _ _ _ _ (s₁.setTop (mkF m 36 #[.val (.double d0), .second, .val (.double d1), .second, .val (.double d2), .second, .val (.int p3), .val (.int p4), .val (.double z2), .second, .val (.double z5), .second] [(.int p3)]))
    refine own_go (fun _ k => XS.iconst X0.here hx rfl (hb hby dkth_36) k) ?_
    show own_Ends _ _ _ _ _ _ _ (s₁.setTop (mkF m 37 #[.val (.double d0), .second, .val (.double d1), .second, .val (.double d2), .second, .val (.int p3), .val (.int p4), .val (.double z2), .second, .val (.double z5), .second] [(.int (2 : Int32)), (.int p3)]))
    by_cases hc8 : p3 = (2 : Int32)
    · refine own_go (fun _ k => XS.icmpNo X0.here hx rfl (hb hby dkth_37) rfl (teq hc8).2 k) ?_
      show own_Ends _ _ _ _ _ _ _ (s₁.setTop (mkF m 40 #[.val (.double d0), .second, .val (.double d1), .second, .val (.double d2), .second, .val (.int p3), .val (.int p4), .val (.double z2), .second, .val (.double z5), .second] []))
      refine own_go (fun _ k => XS.iload X0.here hx rfl (hb hby dkth_40) rfl k) ?_
      show own_Ends _ _ _ _ _ _ _ (s₁.setTop (mkF m 42 #[.val (.double d0), .second, .val (.double d1), .second, .val (.double d2), .second, .val (.int p3), .val (.int p4), .val (.double z2), .second, .val (.double z5), .second] [(.int p4)]))
      refine own_go (fun _ k => XS.iconst X0.here hx rfl (hb hby dkth_42) k) ?_
      show own_Ends _ _ _ _ _ _ _ (s₁.setTop (mkF m 43 #[.val (.double d0), .second, .val (.double d1), .second, .val (.double d2), .second, .val (.int p3), .val (.int p4), .val (.double z2), .second, .val (.double z5), .second] [(.int (1 : Int32)), (.int p4)]))
      by_cases hc9 : p4 = (1 : Int32)
      · refine own_go (fun _ k => XS.icmpNo X0.here hx rfl (hb hby dkth_43) rfl (teq hc9).2 k) ?_
        show own_Ends _ _ _ _ _ _ _ (s₁.setTop (mkF m 46 #[.val (.double d0), .second, .val (.double d1), .second, .val (.double d2), .second, .val (.int p3), .val (.int p4), .val (.double z2), .second, .val (.double z5), .second] []))
        refine own_go (fun _ k => XS.dload X0.here hx rfl (hb hby dkth_46) rfl k) ?_
        show own_Ends _ _ _ _ _ _ _ (s₁.setTop (mkF m 48 #[.val (.double d0), .second, .val (.double d1), .second, .val (.double d2), .second, .val (.int p3), .val (.int p4), .val (.double z2), .second, .val (.double z5), .second] [(.double z2)]))
        refine own_go (fun _ k => XS.goto X0.here hx rfl (pc0 := 48) (pc' := 53) rfl (hb hby dkth_48) (by decide) (by decide) k) ?_
        show own_Ends _ _ _ _ _ _ _ (s₁.setTop (mkF m 53 #[.val (.double d0), .second, .val (.double d1), .second, .val (.double d2), .second, .val (.int p3), .val (.int p4), .val (.double z2), .second, .val (.double z5), .second] [(.double z2)]))
        exact own_retD X0 hx hlk Bd.returns (hb hby dkth_53) (by decide) (by decide) ⟨congrArg (fun z => some (Value.double z)) (by subst hz5 hz2; exact ((((if_neg hc1).trans (if_pos hc8)).trans (if_pos hc9))).symm), N0, e0⟩
      · refine own_go (fun _ k => XS.icmpYes X0.here hx rfl (pc0 := 43) (pc' := 51) rfl (hb hby dkth_43) rfl (feq hc9).2 (by decide) (by decide) k) ?_
        show own_Ends _ _ _ _ _ _ _ (s₁.setTop (mkF m 51 #[.val (.double d0), .second, .val (.double d1), .second, .val (.double d2), .second, .val (.int p3), .val (.int p4), .val (.double z2), .second, .val (.double z5), .second] []))
        refine own_go (fun _ k => XS.dload X0.here hx rfl (hb hby dkth_51) rfl k) ?_
        show own_Ends _ _ _ _ _ _ _ (s₁.setTop (mkF m 53 #[.val (.double d0), .second, .val (.double d1), .second, .val (.double d2), .second, .val (.int p3), .val (.int p4), .val (.double z2), .second, .val (.double z5), .second] [(.double z5)]))
        exact own_retD X0 hx hlk Bd.returns (hb hby dkth_53) (by decide) (by decide) ⟨congrArg (fun z => some (Value.double z)) (by subst hz5 hz2; exact ((((if_neg hc1).trans (if_pos hc8)).trans (if_neg hc9))).symm), N0, e0⟩
    · refine own_go (fun _ k => XS.icmpYes X0.here hx rfl (pc0 := 37) (pc' := 54) rfl (hb hby dkth_37) rfl (feq hc8).2 (by decide) (by decide) k) ?_
      show own_Ends _ _ _ _ _ _ _ (s₁.setTop (mkF m 54 #[.val (.double d0), .second, .val (.double d1), .second, .val (.double d2), .second, .val (.int p3), .val (.int p4), .val (.double z2), .second, .val (.double z5), .second] []))
      refine own_go (fun _ k => XS.iload X0.here hx rfl (hb hby dkth_54) rfl k) ?_
      show own_Ends _ _ _ _ _ _ _ (s₁.setTop (mkF m 56 #[.val (.double d0), .second, .val (.double d1), .second, .val (.double d2), .second, .val (.int p3), .val (.int p4), .val (.double z2), .second, .val (.double z5), .second] [(.int p4)]))
      refine own_go (fun _ k => XS.iconst X0.here hx rfl (hb hby dkth_56) k) ?_
      show own_Ends _ _ _ _ _ _ _ (s₁.setTop (mkF m 57 #[.val (.double d0), .second, .val (.double d1), .second, .val (.double d2), .second, .val (.int p3), .val (.int p4), .val (.double z2), .second, .val (.double z5), .second] [(.int (1 : Int32)), (.int p4)]))
      by_cases hc10 : p4 = (1 : Int32)
      · refine own_go (fun _ k => XS.icmpNo X0.here hx rfl (hb hby dkth_57) rfl (teq hc10).2 k) ?_
        show own_Ends _ _ _ _ _ _ _ (s₁.setTop (mkF m 60 #[.val (.double d0), .second, .val (.double d1), .second, .val (.double d2), .second, .val (.int p3), .val (.int p4), .val (.double z2), .second, .val (.double z5), .second] []))
        refine own_go (fun _ k => XS.dload X0.here hx rfl (hb hby dkth_60) rfl k) ?_
        show own_Ends _ _ _ _ _ _ _ (s₁.setTop (mkF m 62 #[.val (.double d0), .second, .val (.double d1), .second, .val (.double d2), .second, .val (.int p3), .val (.int p4), .val (.double z2), .second, .val (.double z5), .second] [(.double d2)]))
        refine own_go (fun _ k => XS.dload X0.here hx rfl (hb hby dkth_62) rfl k) ?_
        show own_Ends _ _ _ _ _ _ _ (s₁.setTop (mkF m 64 #[.val (.double d0), .second, .val (.double d1), .second, .val (.double d2), .second, .val (.int p3), .val (.int p4), .val (.double z2), .second, .val (.double z5), .second] [(.double z2), (.double d2)]))
        refine own_go (fun _ k => XS.dcmpS X0.here hx rfl (hb hby dkth_64) rfl rfl k) ?_
        show own_Ends _ _ _ _ _ _ _ (s₁.setTop (mkF m 65 #[.val (.double d0), .second, .val (.double d1), .second, .val (.double d2), .second, .val (.int p3), .val (.int p4), .val (.double z2), .second, .val (.double z5), .second] [(.int (cmpValue (FP.dcmp d2 z2) .g))]))
        by_cases hc11 : (cmpValue (FP.dcmp d2 z2) .g) < (0 : Int32)
        · refine own_go (fun _ k => XS.ifNo X0.here hx rfl (hb hby dkth_65) rfl ((if0 _ _).trans (tlt hc11).2.1) k) ?_
          show own_Ends _ _ _ _ _ _ _ (s₁.setTop (mkF m 68 #[.val (.double d0), .second, .val (.double d1), .second, .val (.double d2), .second, .val (.int p3), .val (.int p4), .val (.double z2), .second, .val (.double z5), .second] []))
          refine own_go (fun _ k => XS.dload X0.here hx rfl (hb hby dkth_68) rfl k) ?_
          show own_Ends _ _ _ _ _ _ _ (s₁.setTop (mkF m 70 #[.val (.double d0), .second, .val (.double d1), .second, .val (.double d2), .second, .val (.int p3), .val (.int p4), .val (.double z2), .second, .val (.double z5), .second] [(.double d2)]))
          refine own_go (fun _ k => XS.goto X0.here hx rfl (pc0 := 70) (pc' := 75) rfl (hb hby dkth_70) (by decide) (by decide) k) ?_
          show own_Ends _ _ _ _ _ _ _ (s₁.setTop (mkF m 75 #[.val (.double d0), .second, .val (.double d1), .second, .val (.double d2), .second, .val (.int p3), .val (.int p4), .val (.double z2), .second, .val (.double z5), .second] [(.double d2)]))
          exact own_retD X0 hx hlk Bd.returns (hb hby dkth_75) (by decide) (by decide) ⟨congrArg (fun z => some (Value.double z)) (by subst hz5 hz2; exact (((((if_neg hc1).trans (if_neg hc8)).trans (if_pos hc10)).trans (if_pos hc11))).symm), N0, e0⟩
        · refine own_go (fun _ k => XS.ifYes X0.here hx rfl (pc0 := 65) (pc' := 73) rfl (hb hby dkth_65) rfl ((if0 _ _).trans (flt hc11).2.1) (by decide) (by decide) k) ?_
          show own_Ends _ _ _ _ _ _ _ (s₁.setTop (mkF m 73 #[.val (.double d0), .second, .val (.double d1), .second, .val (.double d2), .second, .val (.int p3), .val (.int p4), .val (.double z2), .second, .val (.double z5), .second] []))
          refine own_go (fun _ k => XS.dload X0.here hx rfl (hb hby dkth_73) rfl k) ?_
          show own_Ends _ _ _ _ _ _ _ (s₁.setTop (mkF m 75 #[.val (.double d0), .second, .val (.double d1), .second, .val (.double d2), .second, .val (.int p3), .val (.int p4), .val (.double z2), .second, .val (.double z5), .second] [(.double z2)]))
          exact own_retD X0 hx hlk Bd.returns (hb hby dkth_75) (by decide) (by decide) ⟨congrArg (fun z => some (Value.double z)) (by subst hz5 hz2; exact (((((if_neg hc1).trans (if_neg hc8)).trans (if_pos hc10)).trans (if_neg hc11))).symm), N0, e0⟩
      · refine own_go (fun _ k => XS.icmpYes X0.here hx rfl (pc0 := 57) (pc' := 76) rfl (hb hby dkth_57) rfl (feq hc10).2 (by decide) (by decide) k) ?_
        show own_Ends _ _ _ _ _ _ _ (s₁.setTop (mkF m 76 #[.val (.double d0), .second, .val (.double d1), .second, .val (.double d2), .second, .val (.int p3), .val (.int p4), .val (.double z2), .second, .val (.double z5), .second] []))
        refine own_go (fun _ k => XS.iload X0.here hx rfl (hb hby dkth_76) rfl k) ?_
        show own_Ends _ _ _ _ _ _ _ (s₁.setTop (mkF m 78 #[.val (.double d0), .second, .val (.double d1), .second, .val (.double d2), .second, .val (.int p3), .val (.int p4), .val (.double z2), .second, .val (.double z5), .second] [(.int p4)]))
        refine own_go (fun _ k => XS.iconst X0.here hx rfl (hb hby dkth_78) k) ?_
        show own_Ends _ _ _ _ _ _ _ (s₁.setTop (mkF m 79 #[.val (.double d0), .second, .val (.double d1), .second, .val (.double d2), .second, .val (.int p3), .val (.int p4), .val (.double z2), .second, .val (.double z5), .second] [(.int (3 : Int32)), (.int p4)]))
        by_cases hc12 : p4 = (3 : Int32)
        · refine own_go (fun _ k => XS.icmpNo X0.here hx rfl (hb hby dkth_79) rfl (teq hc12).2 k) ?_
          show own_Ends _ _ _ _ _ _ _ (s₁.setTop (mkF m 82 #[.val (.double d0), .second, .val (.double d1), .second, .val (.double d2), .second, .val (.int p3), .val (.int p4), .val (.double z2), .second, .val (.double z5), .second] []))
          refine own_go (fun _ k => XS.dload X0.here hx rfl (hb hby dkth_82) rfl k) ?_
          show own_Ends _ _ _ _ _ _ _ (s₁.setTop (mkF m 84 #[.val (.double d0), .second, .val (.double d1), .second, .val (.double d2), .second, .val (.int p3), .val (.int p4), .val (.double z2), .second, .val (.double z5), .second] [(.double d2)]))
          refine own_go (fun _ k => XS.dload X0.here hx rfl (hb hby dkth_84) rfl k) ?_
          show own_Ends _ _ _ _ _ _ _ (s₁.setTop (mkF m 86 #[.val (.double d0), .second, .val (.double d1), .second, .val (.double d2), .second, .val (.int p3), .val (.int p4), .val (.double z2), .second, .val (.double z5), .second] [(.double z5), (.double d2)]))
          refine own_go (fun _ k => XS.dcmpS X0.here hx rfl (hb hby dkth_86) rfl rfl k) ?_
          show own_Ends _ _ _ _ _ _ _ (s₁.setTop (mkF m 87 #[.val (.double d0), .second, .val (.double d1), .second, .val (.double d2), .second, .val (.int p3), .val (.int p4), .val (.double z2), .second, .val (.double z5), .second] [(.int (cmpValue (FP.dcmp d2 z5) .g))]))
          by_cases hc13 : (cmpValue (FP.dcmp d2 z5) .g) < (0 : Int32)
          · refine own_go (fun _ k => XS.ifNo X0.here hx rfl (hb hby dkth_87) rfl ((if0 _ _).trans (tlt hc13).2.1) k) ?_
            show own_Ends _ _ _ _ _ _ _ (s₁.setTop (mkF m 90 #[.val (.double d0), .second, .val (.double d1), .second, .val (.double d2), .second, .val (.int p3), .val (.int p4), .val (.double z2), .second, .val (.double z5), .second] []))
            refine own_go (fun _ k => XS.dload X0.here hx rfl (hb hby dkth_90) rfl k) ?_
            show own_Ends _ _ _ _ _ _ _ (s₁.setTop (mkF m 92 #[.val (.double d0), .second, .val (.double d1), .second, .val (.double d2), .second, .val (.int p3), .val (.int p4), .val (.double z2), .second, .val (.double z5), .second] [(.double z5)]))
            refine own_go (fun _ k => XS.goto X0.here hx rfl (pc0 := 92) (pc' := 97) rfl (hb hby dkth_92) (by decide) (by decide) k) ?_
            show own_Ends _ _ _ _ _ _ _ (s₁.setTop (mkF m 97 #[.val (.double d0), .second, .val (.double d1), .second, .val (.double d2), .second, .val (.int p3), .val (.int p4), .val (.double z2), .second, .val (.double z5), .second] [(.double z5)]))
            exact own_retD X0 hx hlk Bd.returns (hb hby dkth_97) (by decide) (by decide) ⟨congrArg (fun z => some (Value.double z)) (by subst hz5 hz2; exact ((((((if_neg hc1).trans (if_neg hc8)).trans (if_neg hc10)).trans (if_pos hc12)).trans (if_pos hc13))).symm), N0, e0⟩
          · refine own_go (fun _ k => XS.ifYes X0.here hx rfl (pc0 := 87) (pc' := 95) rfl (hb hby dkth_87) rfl ((if0 _ _).trans (flt hc13).2.1) (by decide) (by decide) k) ?_
            show own_Ends _ _ _ _ _ _ _ (s₁.setTop (mkF m 95 #[.val (.double d0), .second, .val (.double d1), .second, .val (.double d2), .second, .val (.int p3), .val (.int p4), .val (.double z2), .second, .val (.double z5), .second] []))
            refine own_go (fun _ k => XS.dload X0.here hx rfl (hb hby dkth_95) rfl k) ?_
            show own_Ends _ _ _ _ _ _ _ (s₁.setTop (mkF m 97 #[.val (.double d0), .second, .val (.double d1), .second, .val (.double d2), .second, .val (.int p3), .val (.int p4), .val (.double z2), .second, .val (.double z5), .second] [(.double d2)]))
            exact own_retD X0 hx hlk Bd.returns (hb hby dkth_97) (by decide) (by decide) ⟨congrArg (fun z => some (Value.double z)) (by subst hz5 hz2; exact ((((((if_neg hc1).trans (if_neg hc8)).trans (if_neg hc10)).trans (if_pos hc12)).trans (if_neg hc13))).symm), N0, e0⟩
        · refine own_go (fun _ k => XS.icmpYes X0.here hx rfl (pc0 := 79) (pc' := 98) rfl (hb hby dkth_79) rfl (feq hc12).2 (by decide) (by decide) k) ?_
          show own_Ends _ _ _ _ _ _ _ (s₁.setTop (mkF m 98 #[.val (.double d0), .second, .val (.double d1), .second, .val (.double d2), .second, .val (.int p3), .val (.int p4), .val (.double z2), .second, .val (.double z5), .second] []))
          refine own_go (fun _ k => XS.dload X0.here hx rfl (hb hby dkth_98) rfl k) ?_
          show own_Ends _ _ _ _ _ _ _ (s₁.setTop (mkF m 100 #[.val (.double d0), .second, .val (.double d1), .second, .val (.double d2), .second, .val (.int p3), .val (.int p4), .val (.double z2), .second, .val (.double z5), .second] [(.double d2)]))
          refine own_go (fun _ k => XS.dload X0.here hx rfl (hb hby dkth_100) rfl k) ?_
          show own_Ends _ _ _ _ _ _ _ (s₁.setTop (mkF m 102 #[.val (.double d0), .second, .val (.double d1), .second, .val (.double d2), .second, .val (.int p3), .val (.int p4), .val (.double z2), .second, .val (.double z5), .second] [(.double z2), (.double d2)]))
          refine own_go (fun _ k => XS.dcmpS X0.here hx rfl (hb hby dkth_102) rfl rfl k) ?_
          show own_Ends _ _ _ _ _ _ _ (s₁.setTop (mkF m 103 #[.val (.double d0), .second, .val (.double d1), .second, .val (.double d2), .second, .val (.int p3), .val (.int p4), .val (.double z2), .second, .val (.double z5), .second] [(.int (cmpValue (FP.dcmp d2 z2) .g))]))
          by_cases hc14 : (cmpValue (FP.dcmp d2 z2) .g) < (0 : Int32)
          · refine own_go (fun _ k => XS.ifNo X0.here hx rfl (hb hby dkth_103) rfl ((if0 _ _).trans (tlt hc14).2.1) k) ?_
            show own_Ends _ _ _ _ _ _ _ (s₁.setTop (mkF m 106 #[.val (.double d0), .second, .val (.double d1), .second, .val (.double d2), .second, .val (.int p3), .val (.int p4), .val (.double z2), .second, .val (.double z5), .second] []))
            refine own_go (fun _ k => XS.dload X0.here hx rfl (hb hby dkth_106) rfl k) ?_
            show own_Ends _ _ _ _ _ _ _ (s₁.setTop (mkF m 108 #[.val (.double d0), .second, .val (.double d1), .second, .val (.double d2), .second, .val (.int p3), .val (.int p4), .val (.double z2), .second, .val (.double z5), .second] [(.double z2)]))
            exact own_retD X0 hx hlk Bd.returns (hb hby dkth_108) (by decide) (by decide) ⟨congrArg (fun z => some (Value.double z)) (by subst hz5 hz2; exact ((((((if_neg hc1).trans (if_neg hc8)).trans (if_neg hc10)).trans (if_neg hc12)).trans (if_pos hc14))).symm), N0, e0⟩
          · refine own_go (fun _ k => XS.ifYes X0.here hx rfl (pc0 := 103) (pc' := 109) rfl (hb hby dkth_103) rfl ((if0 _ _).trans (flt hc14).2.1) (by decide) (by decide) k) ?_
            show own_Ends _ _ _ _ _ _ _ (s₁.setTop (mkF m 109 #[.val (.double d0), .second, .val (.double d1), .second, .val (.double d2), .second, .val (.int p3), .val (.int p4), .val (.double z2), .second, .val (.double z5), .second] []))
            refine own_go (fun _ k => XS.dload X0.here hx rfl (hb hby dkth_109) rfl k) ?_
            show own_Ends _ _ _ _ _ _ _ (s₁.setTop (mkF m 111 #[.val (.double d0), .second, .val (.double d1), .second, .val (.double d2), .second, .val (.int p3), .val (.int p4), .val (.double z2), .second, .val (.double z5), .second] [(.double d2)]))
            refine own_go (fun _ k => XS.dload X0.here hx rfl (hb hby dkth_111) rfl k) ?_
            show own_Ends _ _ _ _ _ _ _ (s₁.setTop (mkF m 113 #[.val (.double d0), .second, .val (.double d1), .second, .val (.double d2), .second, .val (.int p3), .val (.int p4), .val (.double z2), .second, .val (.double z5), .second] [(.double z5), (.double d2)]))
            refine own_go (fun _ k => XS.dcmpS X0.here hx rfl (hb hby dkth_113) rfl rfl k) ?_
            show own_Ends _ _ _ _ _ _ _ (s₁.setTop (mkF m 114 #[.val (.double d0), .second, .val (.double d1), .second, .val (.double d2), .second, .val (.int p3), .val (.int p4), .val (.double z2), .second, .val (.double z5), .second] [(.int (cmpValue (FP.dcmp d2 z5) .g))]))
            by_cases hc15 : (cmpValue (FP.dcmp d2 z5) .g) < (0 : Int32)
            · refine own_go (fun _ k => XS.ifNo X0.here hx rfl (hb hby dkth_114) rfl ((if0 _ _).trans (tlt hc15).2.1) k) ?_
              show own_Ends _ _ _ _ _ _ _ (s₁.setTop (mkF m 117 #[.val (.double d0), .second, .val (.double d1), .second, .val (.double d2), .second, .val (.int p3), .val (.int p4), .val (.double z2), .second, .val (.double z5), .second] []))
              refine own_go (fun _ k => XS.dload X0.here hx rfl (hb hby dkth_117) rfl k) ?_
              show own_Ends _ _ _ _ _ _ _ (s₁.setTop (mkF m 119 #[.val (.double d0), .second, .val (.double d1), .second, .val (.double d2), .second, .val (.int p3), .val (.int p4), .val (.double z2), .second, .val (.double z5), .second] [(.double d2)]))
              exact own_retD X0 hx hlk Bd.returns (hb hby dkth_119) (by decide) (by decide) ⟨congrArg (fun z => some (Value.double z)) (by subst hz5 hz2; exact (((((((if_neg hc1).trans (if_neg hc8)).trans (if_neg hc10)).trans (if_neg hc12)).trans (if_neg hc14)).trans (if_pos hc15))).symm), N0, e0⟩
            · refine own_go (fun _ k => XS.ifYes X0.here hx rfl (pc0 := 114) (pc' := 120) rfl (hb hby dkth_114) rfl ((if0 _ _).trans (flt hc15).2.1) (by decide) (by decide) k) ?_
              show own_Ends _ _ _ _ _ _ _ (s₁.setTop (mkF m 120 #[.val (.double d0), .second, .val (.double d1), .second, .val (.double d2), .second, .val (.int p3), .val (.int p4), .val (.double z2), .second, .val (.double z5), .second] []))
              refine own_go (fun _ k => XS.dload X0.here hx rfl (hb hby dkth_120) rfl k) ?_
              show own_Ends _ _ _ _ _ _ _ (s₁.setTop (mkF m 122 #[.val (.double d0), .second, .val (.double d1), .second, .val (.double d2), .second, .val (.int p3), .val (.int p4), .val (.double z2), .second, .val (.double z5), .second] [(.double z5)]))
              exact own_retD X0 hx hlk Bd.returns (hb hby dkth_122) (by decide) (by decide) ⟨congrArg (fun z => some (Value.double z)) (by subst hz5 hz2; exact (((((((if_neg hc1).trans (if_neg hc8)).trans (if_neg hc10)).trans (if_neg hc12)).trans (if_neg hc14)).trans (if_neg hc15))).symm), N0, e0⟩
theorem own_rem {p z k : Int32} {K : Int} (hK : k.toInt = K) (h0 : 0 < K) (h : z = (p &&& 2147483647) % k) : 0 ≤ z.toInt ∧ z.toInt < K := by
  have e : (p &&& 2147483647).toInt = p.toInt % 2 ^ 31 := Jvm.Kit.i32_mask p 2147483647 (k := 31) (by decide) (by decide)
  have e0 : 0 ≤ (p &&& 2147483647).toInt := by rw [e]; exact Int.emod_nonneg _ (by decide)
  rw [h, Jvm.Kit.i32_rem_nonneg e0, hK]
  exact ⟨Int.emod_nonneg _ (by omega), Int.emod_lt_of_pos _ h0⟩
theorem own_ixn {zu zn : Int64} {s : Nat} {d : Int} (hu0 : 0 ≤ zu.toInt) (hu1 : zu.toInt < 2 ^ 44) (hat : own_at zu.toInt s) (hd : 0 ≤ d + 500 ∧ d < 500) (e2 : zn.toInt = zu.toInt * 1000 + d) : own_ixo zn = s * 1024 + (zu.toInt / 2 ^ s).toNat := by
  have e3 : (zn + (500 : Int64)).toInt = zu.toInt * 1000 + d + 500 := by
    rw [Jvm.Kit.i64_add (by rw [show (500 : Int64).toInt = 500 by decide]; omega) (by rw [show (500 : Int64).toInt = 500 by decide]; omega), e2, show (500 : Int64).toInt = 500 by decide]
  have e4 : (zn + (500 : Int64)) / (1000 : Int64) = zu := by
    apply Int64.toInt_inj.mp
    rw [Jvm.Kit.i64_div (by rw [show (1000 : Int64).toInt = 1000 by decide]; omega), e3, show (1000 : Int64).toInt = 1000 by decide, Int.tdiv_eq_ediv_of_nonneg (by omega)]
    omega
  rw [own_ixo, e4, own_fmax hu0, own_tn, own_index_at hu0 (by omega) hat]
  have : 0 ≤ zu.toInt / 2 ^ s := Int.ediv_nonneg hu0 (by have := own_pow_pos s; omega)
  omega
theorem own_or {a b : Int64} {h : Nat} (hh : h < 62) (ha : a.toInt = 2 ^ h) (hb0 : 0 ≤ b.toInt) (hb : b.toInt < 2 ^ h) : (a ||| b).toInt = 2 ^ h + b.toInt := by
  have p1 := own_pow_pos h
  have p2 := own_pow_le (show h ≤ 61 by omega)
  have na : a.toBitVec.toNat = 2 ^ h := by
    have q : a.toBitVec.toInt = 2 ^ h := ha
    have := a.toBitVec.isLt
    rw [BitVec.toInt_eq_toNat_cond] at q
    split at q
    · exact_mod_cast q
    · omega
  have nb : (b.toBitVec.toNat : Int) = b.toInt := by
    have q : b.toBitVec.toInt = b.toInt := rfl
    have := b.toBitVec.isLt
    rw [BitVec.toInt_eq_toNat_cond] at q
    split at q <;> omega
  have hb' : b.toBitVec.toNat < 2 ^ h := by
    have : (b.toBitVec.toNat : Int) < ((2 ^ h : Nat) : Int) := by rw [nb]; simpa using hb
    exact_mod_cast this
  have no : (a ||| b).toBitVec.toNat = 2 ^ h + b.toBitVec.toNat := by
    rw [Int64.toBitVec_or, BitVec.toNat_or, na]
    have := Nat.two_pow_add_eq_or_of_lt hb' 1
    rw [Nat.mul_one] at this; exact this.symm
  have q : (a ||| b).toBitVec.toInt = (a ||| b).toInt := rfl
  have e : ((a ||| b).toBitVec.toNat : Int) = 2 ^ h + b.toInt := by rw [no]; simp [nb]
  rw [← q, BitVec.toInt_eq_toNat_cond, if_pos (by omega), e]
theorem own_mask1 {h : Nat} {a : Int64} (y : Int64) (hh : h < 62) (ha : a.toInt = 2 ^ h) : (y &&& (a - 1)).toInt = y.toInt % 2 ^ h := by
  have p1 := own_pow_pos h
  have p2 := own_pow_le (show h ≤ 61 by omega)
  have e : (a - 1).toInt = 2 ^ h - 1 := by rw [Jvm.Kit.i64_sub (by rw [ha, show (1 : Int64).toInt = 1 by decide]; omega) (by rw [ha, show (1 : Int64).toInt = 1 by decide]; omega), ha]; rfl
  refine Jvm.Kit.i64_mask y _ (k := h) (by omega) ?_
  have q : (a - 1).toBitVec.toInt = 2 ^ h - 1 := e
  have := (a - 1).toBitVec.isLt
  rw [BitVec.toInt_eq_toNat_cond] at q
  have c : (2 : Int) ^ h = ((2 ^ h : Nat) : Int) := by simp
  split at q <;> omega
abbrev own_t (q : Int64) : Int64 := ((q.toUInt64 >>> ((1 : Int32) &&& 0x3f).toInt64.toUInt64).toInt64) &&& (31 : Int64)
theorem own_tb (q : Int64) : ∃ t : Nat, t ≤ 31 ∧ (own_t q).toInt32 = Int32.ofNat t := by
  have e : (own_t q).toInt = _ % 2 ^ 5 := Jvm.Kit.i64_mask _ _ (k := 5) (by decide) (by decide)
  have h0 : 0 ≤ (own_t q).toInt := by rw [e]; exact Int.emod_nonneg _ (by decide)
  have h1 : (own_t q).toInt < 32 := by rw [e]; exact Int.emod_lt_of_pos _ (by decide)
  refine ⟨(own_t q).toInt.toNat, by omega, Int32.toInt_inj.mp ?_⟩
  rw [Jvm.Kit.i32_of_i64 (by omega) (by omega), own_c32 (by omega)]; omega
theorem own_shl : ∀ t : Fin 32, ((1 : Int64) <<< (((11 : Int32) + Int32.ofNat t.val) &&& 0x3f).toInt64).toInt = 2 ^ (11 + t.val) ∧ (Int32.ofNat t.val + (1 : Int32)) = Int32.ofNat (t.val + 1) ∧ ((1 : Int64) <<< ((Int32.ofNat t.val + (1 : Int32)) &&& 0x3f).toInt64).toInt = 2 ^ (t.val + 1) ∧ (((Int32.ofNat (t.val + 1)) &&& 0x3f).toInt64.toUInt64).toNat = t.val + 1 := by decide +kernel
/-- the digits of micros -/
theorem own_micv (q : Int64) (v : Int64) (hv : v = fmic q) : ∃ s : Nat, s ≤ 32 ∧ 0 ≤ v.toInt ∧ v.toInt < 2 ^ 44 ∧ own_at v.toInt s ∧ (lcmpW (q &&& (1 : Int64)) (0 : Int64) = (0 : Int32) → s = 0) ∧ (¬ lcmpW (q &&& (1 : Int64)) (0 : Int64) = (0 : Int32) → 1 ≤ s ∧ (own_t q).toInt32 = Int32.ofNat (s - 1)) := by
  rw [fmic] at hv
  by_cases z : lcmpW (q &&& (1 : Int64)) (0 : Int64) = (0 : Int32)
  · rw [if_pos z] at hv
    have e : v.toInt = ((q.toUInt64 >>> ((6 : Int32) &&& 0x3f).toInt64.toUInt64).toInt64).toInt % 2 ^ 11 := by rw [hv]; exact Jvm.Kit.i64_mask _ _ (k := 11) (by decide) (by decide)
    have h0 : 0 ≤ v.toInt := by rw [e]; exact Int.emod_nonneg _ (by decide)
    have h1 : v.toInt < 2048 := by rw [e]; exact Int.emod_lt_of_pos _ (by decide)
    exact ⟨0, by decide, h0, by omega, ⟨by decide, Or.inl rfl, by simpa using h1⟩, fun _ => rfl, fun h => absurd z h⟩
  · rw [if_neg z] at hv
    obtain ⟨t, ht, et⟩ := own_tb q
    have hs := own_shl ⟨t, by omega⟩
    have ev : v.toInt = 2 ^ (11 + t) + ((q.toUInt64 >>> ((6 : Int32) &&& 0x3f).toInt64.toUInt64).toInt64).toInt % 2 ^ (11 + t) := by
      rw [hv, show ((((q.toUInt64 >>> ((1 : Int32) &&& 0x3f).toInt64.toUInt64).toInt64) &&& (31 : Int64)).toInt32) = Int32.ofNat t from et]
      have a := hs.1
      have b := own_mask1 ((q.toUInt64 >>> ((6 : Int32) &&& 0x3f).toInt64.toUInt64).toInt64) (h := 11 + t) (by omega) a
      have p := own_pow_pos (11 + t)
      rw [own_or (h := 11 + t) (by omega) a (by rw [b]; exact Int.emod_nonneg _ (by omega)) (by rw [b]; exact Int.emod_lt_of_pos _ p), b]
    have p := own_pow_pos (11 + t)
    have r0 := Int.emod_nonneg ((q.toUInt64 >>> ((6 : Int32) &&& 0x3f).toInt64.toUInt64).toInt64).toInt (show (2 : Int) ^ (11 + t) ≠ 0 by omega)
    have r1 := Int.emod_lt_of_pos ((q.toUInt64 >>> ((6 : Int32) &&& 0x3f).toInt64.toUInt64).toInt64).toInt p
    have pl := own_pow_le (show 11 + t ≤ 42 by omega)
    have lg : own_lg v.toInt (11 + t) := ⟨by omega, by rw [Int.pow_succ]; omega⟩
    have dv := own_lg_div lg (show t + 1 ≤ 11 + t by omega)
    rw [show 11 + t - (t + 1) = 10 by omega] at dv
    exact ⟨t + 1, by omega, by omega, by omega, ⟨by omega, Or.inr dv.1, dv.2⟩, fun h => absurd h z, fun _ => ⟨by omega, et⟩⟩
theorem own_u48 (q : Int64) : 0 ≤ ((q.toUInt64 >>> ((48 : Int32) &&& 0x3f).toInt64.toUInt64).toInt64).toInt := by
  have e : ((q.toUInt64 >>> ((48 : Int32) &&& 0x3f).toInt64.toUInt64).toInt64).toBitVec = q.toBitVec >>> 48 := by
    show q.toBitVec >>> ((((48 : Int32) &&& 0x3f).toInt64.toUInt64).toBitVec % 64#64) = _
    rw [show (((48 : Int32) &&& 0x3f).toInt64.toUInt64).toBitVec % 64#64 = 48#64 by decide]
    rfl
  show 0 ≤ ((q.toUInt64 >>> ((48 : Int32) &&& 0x3f).toInt64.toUInt64).toInt64).toBitVec.toInt
  rw [e, BitVec.toInt_eq_toNat_cond, BitVec.toNat_ushiftRight, Nat.shiftRight_eq_div_pow]
  have := q.toBitVec.isLt
  have : q.toBitVec.toNat / 2 ^ 48 < 2 ^ 16 := by omega
  rw [if_pos (by omega)]; omega
theorem own_nano {q v : Int64} (hv : v = fmic q) (h0 : 0 ≤ v.toInt) (h1 : v.toInt < 2 ^ 44) : ∃ d : Int, 0 ≤ d + 500 ∧ d < 500 ∧ (fnan q).toInt = v.toInt * 1000 + d := by
  have u := own_u48 q
  rw [fnan, ← hv]
  generalize ((q.toUInt64 >>> ((48 : Int32) &&& 0x3f).toInt64.toUInt64).toInt64) = y at *
  have e1 : (y - (y / (1000 : Int64)) * (1000 : Int64)).toInt = y.toInt % 1000 := by rw [Jvm.Kit.i64_rem_nonneg u]; rfl
  have c5 : (500 : Int32).toInt = 500 := by decide
  have e2 : (y - (y / (1000 : Int64)) * (1000 : Int64)).toInt32.toInt = y.toInt % 1000 := by rw [Jvm.Kit.i32_of_i64 (by rw [e1]; omega) (by rw [e1]; omega), e1]
  have e3 : ((y - (y / (1000 : Int64)) * (1000 : Int64)).toInt32 - (500 : Int32)).toInt64.toInt = y.toInt % 1000 - 500 := by rw [Int32.toInt_toInt64, Jvm.Kit.i32_sub (by rw [e2, c5]; omega) (by rw [e2, c5]; omega), e2, c5]
  have k : (1000 : Int64).toInt = 1000 := by decide
  have e4 : (v * (1000 : Int64)).toInt = v.toInt * 1000 := by rw [Jvm.Kit.i64_mul (by rw [k]; omega) (by rw [k]; omega), k]
  refine ⟨y.toInt % 1000 - 500, by omega, by omega, ?_⟩
  rw [Jvm.Kit.i64_add (by rw [e3, e4]; omega) (by rw [e3, e4]; omega), e3, e4]
theorem own_two : own_D 2 1074 (4611686018427387904 : UInt64) := by
  have := own_D.l2d (a := 2) (by decide)
  rw [show FP.l2d 2 = 4611686018427387904 by decide +kernel, show (2 : Int64).toInt = 2 by decide] at this; exact this
theorem own_half {a : Int64} (h : a.toInt.natAbs < 2 ^ 53) : own_D a.toInt 1073 (FP.ddiv (FP.l2d a) (4611686018427387904 : UInt64)) := by
  refine own_D.div (own_D.l2d h) own_two (by decide) h ?_ (by decide) (by decide)
  rw [Int.mul_assoc, Int.mul_assoc, own_pw, show (2 : Int) ^ 1073 * (2 * 2 ^ 1074) = 2 ^ (1074 + 1074) by rw [show (2 : Int) * 2 ^ 1074 = 2 ^ 1 * 2 ^ 1074 by rw [Int.pow_one], own_pw, own_pw]]
/-- twice the middle of a bucket -/
def own_N (i : Nat) : Int := 2 * (((i - (i / 1024 - 1) * 1024 : Nat) : Int) * 2 ^ (i / 1024 - 1)) + 2 ^ (i / 1024 - 1) - 1
theorem own_N_at {s m : Nat} (hm : m < 2048) (h : s = 0 ∨ 1024 ≤ m) : own_N (s * 1024 + m) = 2 * ((m : Int) * 2 ^ s) + 2 ^ s - 1 := by
  have e : (s * 1024 + m) / 1024 - 1 = s := by omega
  rw [own_N, e, show s * 1024 + m - s * 1024 = m by omega]
theorem own_mono {i j : Nat} (h : i < j) : own_N i < own_N j := by
  obtain ⟨s, hs⟩ : ∃ s, s = i / 1024 - 1 := ⟨_, rfl⟩
  obtain ⟨t, ht⟩ : ∃ t, t = j / 1024 - 1 := ⟨_, rfl⟩
  obtain ⟨m, hm⟩ : ∃ m, m = i - s * 1024 := ⟨_, rfl⟩
  obtain ⟨n, hn⟩ : ∃ n, n = j - t * 1024 := ⟨_, rfl⟩
  have e1 : own_N i = 2 * ((m : Int) * 2 ^ s) + 2 ^ s - 1 := by rw [own_N, ← hs, ← hm]
  have e2 : own_N j = 2 * ((n : Int) * 2 ^ t) + 2 ^ t - 1 := by rw [own_N, ← ht, ← hn]
  have p1 := own_pow_pos s
  have p2 := own_pow_pos t
  rw [e1, e2]
  rcases Nat.eq_or_lt_of_le (show s ≤ t by omega) with z | z
  · subst z
    have : ((m : Int) + 1) * 2 ^ s ≤ (n : Int) * 2 ^ s := Int.mul_le_mul_of_nonneg_right (by omega) (by omega)
    rw [Int.add_mul, Int.one_mul] at this
    omega
  · have l1 : ((m : Int) + 1) * 2 ^ s ≤ 2048 * 2 ^ s := Int.mul_le_mul_of_nonneg_right (by omega) (by omega)
    have l2 : (1024 : Int) * 2 ^ t ≤ (n : Int) * 2 ^ t := Int.mul_le_mul_of_nonneg_right (by omega) (by omega)
    have l3 := own_pow_le (show s + 1 ≤ t from z)
    rw [Int.pow_succ] at l3
    rw [Int.add_mul, Int.one_mul] at l1
    omega
theorem own_N_lt {i j : Nat} : own_N i < own_N j ↔ i < j := by
  constructor
  · intro h
    rcases Nat.lt_trichotomy i j with z | z | z
    · exact z
    · subst z; omega
    · have := own_mono z; omega
  · exact own_mono
theorem own_Nb {s m : Nat} (hs : s ≤ 32) (hm : m < 2048) : (2 * ((m : Int) * 2 ^ s) + 2 ^ s - 1).natAbs < 2 ^ 53 ∧ ((m : Int) * 2 ^ s).natAbs < 2 ^ 44 ∧ 0 ≤ (m : Int) * 2 ^ s := by
  have p1 := own_pow_pos s
  have p2 := own_pow_le hs
  have l1 : (m : Int) * 2 ^ s ≤ 2047 * 2 ^ s := Int.mul_le_mul_of_nonneg_right (by omega) (by omega)
  have l0 : 0 ≤ (m : Int) * 2 ^ s := Int.mul_nonneg (by omega) (by omega)
  omega
theorem own_sl {s : Nat} (hs : s ≤ 32) {x : Int64} (h0 : 0 ≤ x.toInt) (h1 : x.toInt * 2 ^ s < 2 ^ 63) : (x <<< (Int32.ofNat s &&& 0x3f).toInt64).toInt = x.toInt * 2 ^ s :=
  Jvm.Kit.i64_shl _ _ (k := s) (own_shamt ⟨s, by omega⟩) (by have := Int.mul_nonneg h0 (Int.le_of_lt (own_pow_pos s)); omega) h1
theorem own_one_s {s : Nat} (hs : s ≤ 32) : ((1 : Int64) <<< (Int32.ofNat s &&& 0x3f).toInt64).toInt = 2 ^ s := by
  have p2 := own_pow_le hs
  rw [own_sl hs (by decide) (by rw [show (1 : Int64).toInt = 1 by decide]; omega), show (1 : Int64).toInt = 1 by decide, Int.one_mul]
theorem own_midD {s m : Nat} (hs : s ≤ 32) (hm : m < 2048) (h : s = 0 ∨ 1024 ≤ m) : own_D (2 * ((m : Int) * 2 ^ s) + 2 ^ s - 1) 1073 (fmid (Int32.ofNat (s * 1024 + m))) := by
  obtain ⟨b1, b2, b3⟩ := own_Nb hs hm
  have p1 := own_pow_pos s
  have p2 := own_pow_le hs
  have em : (Int64.ofNat m).toInt = m := Int64.toInt_ofNat_of_lt (by omega)
  have e1 : (Int64.ofNat m <<< (Int32.ofNat s &&& 0x3f).toInt64).toInt = (m : Int) * 2 ^ s := by rw [own_sl hs (by omega) (by rw [em]; omega), em]
  have o := own_one_s hs
  have e2 : (((1 : Int64) <<< (Int32.ofNat s &&& 0x3f).toInt64) - (1 : Int64)).toInt = 2 ^ s - 1 := by
    rw [Jvm.Kit.i64_sub (by rw [o, show (1 : Int64).toInt = 1 by decide]; omega) (by rw [o, show (1 : Int64).toInt = 1 by decide]; omega), o]; rfl
  have d1 : own_D ((m : Int) * 2 ^ s * 2 ^ 1) 1073 (FP.l2d (Int64.ofNat m <<< (Int32.ofNat s &&& 0x3f).toInt64)) := by
    have := own_D.l2d (a := Int64.ofNat m <<< (Int32.ofNat s &&& 0x3f).toInt64) (by rw [e1]; omega)
    rw [e1] at this; exact own_D.up (k := 1073) (j := 1) this
  have d2 := own_half (a := ((1 : Int64) <<< (Int32.ofNat s &&& 0x3f).toInt64) - (1 : Int64)) (by rw [e2]; omega)
  rw [e2] at d2
  rw [own_mid (by omega) hm h]
  have := d1.add d2 (by omega) (by decide) (by decide)
  rw [show (2 * ((m : Int) * 2 ^ s) + 2 ^ s - 1) = (m : Int) * 2 ^ s * 2 ^ 1 + (2 ^ s - 1) by omega]; exact this
theorem own_midl (q : Int64) : ∃ s m : Nat, s ≤ 32 ∧ m < 2048 ∧ (s = 0 ∨ 1024 ≤ m) ∧ own_ixo (fnan q) = s * 1024 + m ∧ own_D (2 * ((m : Int) * 2 ^ s) + 2 ^ s - 1) 1073 (fmidl q) := by
  obtain ⟨v, hv⟩ : ∃ v, v = fmic q := ⟨_, rfl⟩
  obtain ⟨s, hs, h0, h1, hat, ev, od⟩ := own_micv q v hv
  obtain ⟨d, d0, d1, e⟩ := own_nano hv h0 h1
  have ix := own_ixn h0 h1 hat ⟨d0, d1⟩ e
  have p1 := own_pow_pos s
  have y0 : 0 ≤ v.toInt / 2 ^ s := Int.ediv_nonneg h0 (by omega)
  obtain ⟨m, hm⟩ : ∃ m, m = (v.toInt / 2 ^ s).toNat := ⟨_, rfl⟩
  have hm' : (m : Int) = v.toInt / 2 ^ s := by omega
  obtain ⟨a1, a2, a3⟩ := hat
  refine ⟨s, m, hs, by omega, by omega, by rw [ix, hm], ?_⟩
  rw [fmidl, ← hv]
  by_cases z : lcmpW (q &&& (1 : Int64)) (0 : Int64) = (0 : Int32)
  · rw [if_pos z]
    have s0 := ev z
    subst s0
    have := own_D.up (k := 1073) (j := 1) (own_D.l2d (a := v) (by omega))
    rw [Int.pow_zero, Int.ediv_one] at hm'
    rw [show (2 * ((m : Int) * 2 ^ 0) + 2 ^ 0 - 1) = v.toInt * 2 ^ 1 by rw [Int.pow_zero]; omega]; exact this
  · rw [if_neg z]
    obtain ⟨s1, et⟩ := od z
    have hsh := own_shl ⟨s - 1, by omega⟩
    have es : ((((q.toUInt64 >>> ((1 : Int32) &&& 0x3f).toInt64.toUInt64).toInt64) &&& (31 : Int64)).toInt32) + (1 : Int32) = Int32.ofNat s := by
      rw [show ((((q.toUInt64 >>> ((1 : Int32) &&& 0x3f).toInt64.toUInt64).toInt64) &&& (31 : Int64)).toInt32) = Int32.ofNat (s - 1) from et, hsh.2.1, show s - 1 + 1 = s by omega]
    rw [es]
    obtain ⟨b1, b2, b3⟩ := own_Nb hs (show m < 2048 by omega)
    have u := hsh.2.2.2
    rw [show (⟨s - 1, by omega⟩ : Fin 32).val + 1 = s from by show s - 1 + 1 = s; omega] at u
    have e1 : ((v.toUInt64 >>> (Int32.ofNat s &&& 0x3f).toInt64.toUInt64).toInt64).toInt = m := by rw [hm']; exact Jvm.Kit.i64_lushr (by rw [Int64.le_iff_toInt_le]; exact h0) u (by omega)
    have e2 : (((v.toUInt64 >>> (Int32.ofNat s &&& 0x3f).toInt64.toUInt64).toInt64) <<< (Int32.ofNat s &&& 0x3f).toInt64).toInt = (m : Int) * 2 ^ s := by rw [own_sl hs (by omega) (by rw [e1]; omega), e1]
    have o := own_one_s hs
    have p2 := own_pow_le hs
    generalize (((v.toUInt64 >>> (Int32.ofNat s &&& 0x3f).toInt64.toUInt64).toInt64) <<< (Int32.ofNat s &&& 0x3f).toInt64) = lo at *
    generalize ((1 : Int64) <<< (Int32.ofNat s &&& 0x3f).toInt64) = w at *
    have c1 : (1 : Int64).toInt = 1 := by decide
    have f1 : (lo + w).toInt = (m : Int) * 2 ^ s + 2 ^ s := by rw [Jvm.Kit.i64_add (by rw [e2, o]; omega) (by rw [e2, o]; omega), e2, o]
    have f2 : (lo + w - 1).toInt = (m : Int) * 2 ^ s + 2 ^ s - 1 := by rw [Jvm.Kit.i64_sub (by rw [f1, c1]; omega) (by rw [f1, c1]; omega), f1, c1]
    have f3 : (lo + (lo + w - 1)).toInt = 2 * ((m : Int) * 2 ^ s) + 2 ^ s - 1 := by rw [Jvm.Kit.i64_add (by rw [e2, f2]; omega) (by rw [e2, f2]; omega), e2, f2]; omega
    have := own_half (a := lo + (lo + w - 1)) (by rw [f3]; exact b1)
    rw [f3] at this; exact this
def own_R (i : Nat) (x : UInt64) : Prop := own_D (own_N i) 1073 x
theorem own_R.midl (q : Int64) : own_R (own_ixo (fnan q)) (fmidl q) ∧ own_R (own_ixo (fnan q)) (fmid (Int32.ofNat (own_ixo (fnan q)))) := by
  obtain ⟨s, m, hs, hm, h, e, d⟩ := own_midl q
  rw [e, own_R, own_R, own_N_at hm h]
  exact ⟨d, own_midD hs hm h⟩
theorem own_R.lt {i j : Nat} {x y : UInt64} (hx : own_R i x) (hy : own_R j y) : (cmpValue (FP.dcmp x y) .g < (0 : Int32)) ↔ i < j := by
  show (cmpValue (FP.Core.dcmp x y) .g < (0 : Int32)) ↔ _
  rw [FP.Core.dcmp_zval (own_nn hx.1) (own_nn hy.1), show FP.Core.zval FP.Core.b64 (FP.Core.val64 x) = own_N i * 2 ^ 1073 from hx.2, show FP.Core.zval FP.Core.b64 (FP.Core.val64 y) = own_N j * 2 ^ 1073 from hy.2, FP.Core.compare_ite]
  have p := own_pow_pos 1073
  have l : own_N i * 2 ^ 1073 < own_N j * 2 ^ 1073 ↔ i < j := by
    rw [← own_N_lt]
    exact ⟨fun h => Int.lt_of_mul_lt_mul_right h (Int.le_of_lt p), fun h => Int.mul_lt_mul_of_pos_right h p⟩
  by_cases q : i < j
  · rw [if_pos (l.mpr q)]; exact ⟨fun _ => q, fun _ => by decide⟩
  · rw [if_neg (fun h => q (l.mp h))]
    refine ⟨fun h => ?_, fun h => absurd h q⟩
    split at h
    · exact absurd h (by decide)
    · exact absurd h (by decide)
theorem own_R.eq {i : Nat} {x y : UInt64} (hx : own_R i x) (hy : own_R i y) : cmpValue (FP.dcmp x y) .l = (0 : Int32) :=
  own_dcmp (own_nn hx.1) (own_nn hy.1) (hx.2.trans hy.2.symm) _
/-- how many of the indices lie below n -/
def own_c1 (i n : Nat) : Nat := if i < n then 1 else 0
theorem own_c1_le (i n : Nat) : own_c1 i n ≤ 1 := by unfold own_c1; split <;> omega
theorem own_c1_iff (i n : Nat) : (i < n ∧ own_c1 i n = 1) ∨ (n ≤ i ∧ own_c1 i n = 0) := by unfold own_c1; split <;> omega
abbrev own_G1 (a : Int64) : Nat → Int64 := own_add a (fun _ => (0 : Int64))
abbrev own_G2 (a b : Int64) : Nat → Int64 := own_add b (own_G1 a)
abbrev own_G3 (a b c : Int64) : Nat → Int64 := own_add c (own_G2 a b)
theorem own_sumA (a : Int64) (G : Nat → Int64) (n k : Nat) (hk : own_sum G n = Int64.ofNat k) : own_sum (own_add a G) n = Int64.ofNat (k + own_c1 (own_ixo a) n) := by
  have h1 := own_sum_upd G (own_ixo a) n 1
  refine (show own_sum (own_add a G) n = _ from h1).trans ?_
  rw [hk, Int64.ofNat_add, own_c1]
  split <;> rfl
theorem own_s1 (a : Int64) (n : Nat) : own_sum (own_G1 a) n = Int64.ofNat (own_c1 (own_ixo a) n) := by
  rw [own_sumA a _ n 0 (own_sum0n n), Nat.zero_add]
theorem own_s2 (a b : Int64) (n : Nat) : own_sum (own_G2 a b) n = Int64.ofNat (own_c1 (own_ixo a) n + own_c1 (own_ixo b) n) := own_sumA b _ n _ (own_s1 a n)
theorem own_s3 (a b c : Int64) (n : Nat) : own_sum (own_G3 a b c) n = Int64.ofNat (own_c1 (own_ixo a) n + own_c1 (own_ixo b) n + own_c1 (own_ixo c) n) := own_sumA c _ n _ (own_s2 a b n)
theorem own_full (a : Int64) : own_c1 (own_ixo a) 55296 = 1 := if_pos (own_ixo_lt a)
theorem own_t1 (a : Int64) : own_sum (own_G1 a) 55296 = 1 := by rw [own_s1, own_full]; rfl
theorem own_t2 (a b : Int64) : own_sum (own_G2 a b) 55296 = 2 := by rw [own_s2, own_full, own_full]; rfl
theorem own_t3 (a b c : Int64) : own_sum (own_G3 a b c) 55296 = 3 := by rw [own_s3, own_full, own_full, own_full]; rfl
theorem own_i64 {a b : Nat} (ha : a < 100) (hb : b < 100) : (Int64.ofNat a ≤ Int64.ofNat b ↔ a ≤ b) ∧ (Int64.ofNat a < Int64.ofNat b ↔ a < b) := by
  rw [Int64.le_iff_toInt_le, Int64.lt_iff_toInt_lt, Int64.toInt_ofNat_of_lt (by omega), Int64.toInt_ofNat_of_lt (by omega)]; omega
/-- the rank's index is the one at which the count comes to r -/
theorem own_rank_w {G : Nat → Int64} {p : Int32} {ix r w : Nat} {cnt : Nat → Nat} (hc : ∀ n, own_sum G n = Int64.ofNat (cnt n)) (hb : ∀ n, cnt n < 100) (hr : own_rk G p = Int64.ofNat r) (hr1 : r < 100) (h : own_rank G p ix) (w1 : r ≤ cnt (w + 1)) (w2 : ∀ t, t < w → cnt (t + 1) < r) : ix = w := by
  obtain ⟨-, h2, h3⟩ := h
  rw [hr, hc, (own_i64 hr1 (hb _)).1] at h2
  rcases Nat.lt_trichotomy ix w with z | z | z
  · have := w2 _ z; omega
  · exact z
  · have := h3 _ z
    rw [hr, hc, (own_i64 (hb _) hr1).2] at this; omega
theorem own_pr {p0 p : Int32} (h : p = ((1 : Int32) + ((p0 &&& (2147483647 : Int32)) % (100 : Int32)))) : ∃ k : Fin 100, p = Int32.ofNat (k.val + 1) := by
  have r := own_rem (K := 100) (by decide) (by decide) (rfl : ((p0 &&& (2147483647 : Int32)) % (100 : Int32)) = _)
  have c : (1 : Int32).toInt = 1 := by decide
  have e : p.toInt = 1 + ((p0 &&& (2147483647 : Int32)) % (100 : Int32)).toInt := by rw [h, Jvm.Kit.i32_add (by rw [c]; omega) (by rw [c]; omega), c]
  refine ⟨⟨((p0 &&& (2147483647 : Int32)) % (100 : Int32)).toInt.toNat, by omega⟩, Int32.toInt_inj.mp ?_⟩
  rw [own_c32 (by show _ + 1 < _; omega), e]
  show _ = ((((p0 &&& (2147483647 : Int32)) % (100 : Int32)).toInt.toNat + 1 : Nat) : Int)
  omega
abbrev own_q (p : Int32) (n : Int64) : Int64 := ((p.toInt64 * n) + (99 : Int64)) / (100 : Int64)
abbrev own_k (p n : Int32) : Int32 := ((p * n) + (99 : Int32)) / (100 : Int32)
theorem own_q1 : ∀ k : Fin 100, own_q (Int32.ofNat (k.val + 1)) 1 = Int64.ofNat 1 := by decide +kernel
theorem own_q2 : ∀ k : Fin 100, (own_q (Int32.ofNat (k.val + 1)) 2 = Int64.ofNat 1 ∧ own_k (Int32.ofNat (k.val + 1)) 2 = 1) ∨ (own_q (Int32.ofNat (k.val + 1)) 2 = Int64.ofNat 2 ∧ own_k (Int32.ofNat (k.val + 1)) 2 = 2) := by decide +kernel
theorem own_q3 : ∀ k : Fin 100, (own_q (Int32.ofNat (k.val + 1)) 3 = Int64.ofNat 1 ∧ own_k (Int32.ofNat (k.val + 1)) 3 = 1) ∨ (own_q (Int32.ofNat (k.val + 1)) 3 = Int64.ofNat 2 ∧ own_k (Int32.ofNat (k.val + 1)) 3 = 2) ∨ (own_q (Int32.ofNat (k.val + 1)) 3 = Int64.ofNat 3 ∧ own_k (Int32.ofNat (k.val + 1)) 3 = 3) := by decide +kernel
theorem own_fin {ix w : Nat} {x : UInt64} (hm : own_R w (fmid (Int32.ofNat w))) (hw : own_R w x) (e : ix = w) : cmpValue (FP.dcmp (fmid (Int32.ofNat ix)) x) .l = (0 : Int32) := by
  subst e; exact own_R.eq hm hw
theorem own_f1 (x y z : UInt64) (k : Int32) : fkth x y z 1 k = x := if_pos rfl
theorem own_f2a {x y z lo hi : UInt64} (elo : (if (cmpValue (FP.dcmp x y) .g) < (0 : Int32) then x else y) = lo) (ehi : (if (cmpValue (FP.dcmp x y) .g) < (0 : Int32) then y else x) = hi) : fkth x y z 2 1 = lo ∧ fkth x y z 2 2 = hi := by
  subst elo ehi
  refine ⟨?_, ?_⟩
  · unfold fkth; rw [if_neg (by decide)]; dsimp only; rw [if_pos rfl, if_pos rfl]
  · unfold fkth; rw [if_neg (by decide)]; dsimp only; rw [if_pos rfl, if_neg (by decide)]
theorem own_f2 {x y z : UInt64} {i j : Nat} (hx : own_R i x) (hy : own_R j y) : ∃ w1 w2 : Nat, own_R w1 (fkth x y z 2 1) ∧ own_R w2 (fkth x y z 2 2) ∧ w1 ≤ w2 ∧ ((w1 = i ∧ w2 = j) ∨ (w1 = j ∧ w2 = i)) := by
  have l := own_R.lt hx hy
  by_cases h : i < j
  · obtain ⟨e1, e2⟩ := own_f2a (z := z) (if_pos (l.mpr h)) (if_pos (l.mpr h))
    rw [e1, e2]; exact ⟨i, j, hx, hy, by omega, Or.inl ⟨rfl, rfl⟩⟩
  · obtain ⟨e1, e2⟩ := own_f2a (z := z) (if_neg (fun q => h (l.mp q))) (if_neg (fun q => h (l.mp q)))
    rw [e1, e2]; exact ⟨j, i, hy, hx, by omega, Or.inr ⟨rfl, rfl⟩⟩
theorem own_f3a {x y z lo hi : UInt64} (elo : (if (cmpValue (FP.dcmp x y) .g) < (0 : Int32) then x else y) = lo) (ehi : (if (cmpValue (FP.dcmp x y) .g) < (0 : Int32) then y else x) = hi) :
    fkth x y z 3 1 = (if (cmpValue (FP.dcmp z lo) .g) < (0 : Int32) then z else lo) ∧ fkth x y z 3 2 = (if (cmpValue (FP.dcmp z lo) .g) < (0 : Int32) then lo else (if (cmpValue (FP.dcmp z hi) .g) < (0 : Int32) then z else hi)) ∧ fkth x y z 3 3 = (if (cmpValue (FP.dcmp z hi) .g) < (0 : Int32) then hi else z) := by
  subst elo ehi
  refine ⟨?_, ?_, ?_⟩
  · unfold fkth; rw [if_neg (by decide)]; dsimp only; rw [if_neg (by decide), if_pos rfl]
  · unfold fkth; rw [if_neg (by decide)]; dsimp only; rw [if_neg (by decide), if_neg (by decide), if_neg (by decide)]
  · unfold fkth; rw [if_neg (by decide)]; dsimp only; rw [if_neg (by decide), if_neg (by decide), if_pos rfl]
/-- the three middles by their rank: w is the index of the one taken -/
theorem own_f3 {x y z : UInt64} {i j k : Nat} (hx : own_R i x) (hy : own_R j y) (hz : own_R k z) : ∃ w1 w2 w3 : Nat, own_R w1 (fkth x y z 3 1) ∧ own_R w2 (fkth x y z 3 2) ∧ own_R w3 (fkth x y z 3 3) ∧ w1 ≤ w2 ∧ w2 ≤ w3 ∧ ((w1 = i ∧ w2 = j ∧ w3 = k) ∨ (w1 = i ∧ w2 = k ∧ w3 = j) ∨ (w1 = j ∧ w2 = i ∧ w3 = k) ∨ (w1 = j ∧ w2 = k ∧ w3 = i) ∨ (w1 = k ∧ w2 = i ∧ w3 = j) ∨ (w1 = k ∧ w2 = j ∧ w3 = i)) := by
  have go : ∀ (lo hi : UInt64) (a b : Nat), own_R a lo → own_R b hi → a ≤ b → fkth x y z 3 1 = (if (cmpValue (FP.dcmp z lo) .g) < (0 : Int32) then z else lo) ∧ fkth x y z 3 2 = (if (cmpValue (FP.dcmp z lo) .g) < (0 : Int32) then lo else (if (cmpValue (FP.dcmp z hi) .g) < (0 : Int32) then z else hi)) ∧ fkth x y z 3 3 = (if (cmpValue (FP.dcmp z hi) .g) < (0 : Int32) then hi else z) → ∃ w1 w2 w3 : Nat, own_R w1 (fkth x y z 3 1) ∧ own_R w2 (fkth x y z 3 2) ∧ own_R w3 (fkth x y z 3 3) ∧ w1 ≤ w2 ∧ w2 ≤ w3 ∧ ((w1 = a ∧ w2 = b ∧ w3 = k) ∨ (w1 = a ∧ w2 = k ∧ w3 = b) ∨ (w1 = k ∧ w2 = a ∧ w3 = b)) := by
    intro lo hi a b ha hb hab ⟨e1, e2, e3⟩
    have l1 := own_R.lt hz ha
    have l2 := own_R.lt hz hb
    rw [e1, e2, e3]
    by_cases c1 : k < a
    · rw [if_pos (l1.mpr c1), if_pos (l1.mpr c1), if_pos (l2.mpr (by omega))]
      exact ⟨k, a, b, hz, ha, hb, by omega, by omega, Or.inr (Or.inr ⟨rfl, rfl, rfl⟩)⟩
    · rw [if_neg (fun q => c1 (l1.mp q)), if_neg (fun q => c1 (l1.mp q))]
      by_cases c2 : k < b
      · rw [if_pos (l2.mpr c2), if_pos (l2.mpr c2)]
        exact ⟨a, k, b, ha, hz, hb, by omega, by omega, Or.inr (Or.inl ⟨rfl, rfl, rfl⟩)⟩
      · rw [if_neg (fun q => c2 (l2.mp q)), if_neg (fun q => c2 (l2.mp q))]
        exact ⟨a, b, k, ha, hb, hz, by omega, by omega, Or.inl ⟨rfl, rfl, rfl⟩⟩
  have l := own_R.lt hx hy
  by_cases h : i < j
  · obtain ⟨w1, w2, w3, q1, q2, q3, q4, q5, q6⟩ := go x y i j hx hy (by omega) (own_f3a (if_pos (l.mpr h)) (if_pos (l.mpr h)))
    exact ⟨w1, w2, w3, q1, q2, q3, q4, q5, by
      rcases q6 with q | q | q
      · exact Or.inl q
      · exact Or.inr (Or.inl q)
      · exact Or.inr (Or.inr (Or.inr (Or.inr (Or.inl q))))⟩
  · obtain ⟨w1, w2, w3, q1, q2, q3, q4, q5, q6⟩ := go y x j i hy hx (by omega) (own_f3a (if_neg (fun q => h (l.mp q))) (if_neg (fun q => h (l.mp q))))
    exact ⟨w1, w2, w3, q1, q2, q3, q4, q5, by
      rcases q6 with q | q | q
      · exact Or.inr (Or.inr (Or.inl q))
      · exact Or.inr (Or.inr (Or.inr (Or.inl q)))
      · exact Or.inr (Or.inr (Or.inr (Or.inr (Or.inr (q)))))⟩
theorem own_kth1 {a b c : Int64} {p k : Int32} {ix : Nat} {p0 : Int32} (hp : p = ((1 : Int32) + ((p0 &&& (2147483647 : Int32)) % (100 : Int32)))) (hr : own_rank (own_G1 (fnan a)) p ix) : cmpValue (FP.dcmp (fmid (Int32.ofNat ix)) (fkth (fmidl a) (fmidl b) (fmidl c) 1 k)) .l = (0 : Int32) := by
  obtain ⟨k, rfl⟩ := own_pr hp
  obtain ⟨ra, ma⟩ := own_R.midl a
  have hrk : own_rk (own_G1 (fnan a)) (Int32.ofNat (k.val + 1)) = Int64.ofNat 1 := by rw [own_rk, own_t1]; exact own_q1 k
  rw [own_f1]
  refine own_fin ma ra (own_rank_w (own_s1 _) (fun n => by have := own_c1_le (own_ixo (fnan a)) n; omega) hrk (by omega) hr ?_ fun t ht => ?_)
  · have := own_c1_iff (own_ixo (fnan a)) (own_ixo (fnan a) + 1); omega
  · have := own_c1_iff (own_ixo (fnan a)) (t + 1); omega
theorem own_kth2 {a b c : Int64} {p : Int32} {ix : Nat} {p0 : Int32} (hp : p = ((1 : Int32) + ((p0 &&& (2147483647 : Int32)) % (100 : Int32)))) (hr : own_rank (own_G2 (fnan a) (fnan b)) p ix) : cmpValue (FP.dcmp (fmid (Int32.ofNat ix)) (fkth (fmidl a) (fmidl b) (fmidl c) 2 (own_k p 2))) .l = (0 : Int32) := by
  obtain ⟨k, rfl⟩ := own_pr hp
  obtain ⟨ra, ma⟩ := own_R.midl a
  obtain ⟨rb, mb⟩ := own_R.midl b
  have hrk : own_rk (own_G2 (fnan a) (fnan b)) (Int32.ofNat (k.val + 1)) = own_q (Int32.ofNat (k.val + 1)) 2 := by rw [own_rk, own_t2]
  have key : ∀ r w, own_q (Int32.ofNat (k.val + 1)) 2 = Int64.ofNat r → r < 100 → r ≤ own_c1 (own_ixo (fnan a)) (w + 1) + own_c1 (own_ixo (fnan b)) (w + 1) → (∀ t, t < w → own_c1 (own_ixo (fnan a)) (t + 1) + own_c1 (own_ixo (fnan b)) (t + 1) < r) → ix = w := fun r w h1 h2 h3 h4 =>
    own_rank_w (own_s2 _ _) (fun n => by have := own_c1_le (own_ixo (fnan a)) n; have := own_c1_le (own_ixo (fnan b)) n; omega) (hrk.trans h1) h2 hr h3 h4
  obtain ⟨w1, w2, q1, q2, q3, q4⟩ := own_f2 (z := fmidl c) ra rb
  have m1 : own_R w1 (fmid (Int32.ofNat w1)) := by
    rcases q4 with ⟨h, -⟩ | ⟨h, -⟩
    · rw [h]; exact ma
    · rw [h]; exact mb
  have m2 : own_R w2 (fmid (Int32.ofNat w2)) := by
    rcases q4 with ⟨-, h⟩ | ⟨-, h⟩
    · rw [h]; exact mb
    · rw [h]; exact ma
  have sw : ∀ n, own_c1 (own_ixo (fnan a)) n + own_c1 (own_ixo (fnan b)) n = own_c1 w1 n + own_c1 w2 n := fun n => by rcases q4 with ⟨h, h'⟩ | ⟨h, h'⟩ <;> rw [h, h'] <;> omega
  simp only [sw] at key
  rcases own_q2 k with ⟨e1, e2⟩ | ⟨e1, e2⟩ <;> rw [e2]
  · refine own_fin m1 q1 (key _ w1 e1 (by omega) ?_ fun t ht => ?_)
    · have := own_c1_iff w1 (w1 + 1); have := own_c1_iff w2 (w1 + 1); omega
    · have := own_c1_iff w1 (t + 1); have := own_c1_iff w2 (t + 1); omega
  · refine own_fin m2 q2 (key _ w2 e1 (by omega) ?_ fun t ht => ?_)
    · have := own_c1_iff w1 (w2 + 1); have := own_c1_iff w2 (w2 + 1); omega
    · have := own_c1_iff w1 (t + 1); have := own_c1_iff w2 (t + 1); omega
theorem own_kth3 {a b c : Int64} {p : Int32} {ix : Nat} {p0 : Int32} (hp : p = ((1 : Int32) + ((p0 &&& (2147483647 : Int32)) % (100 : Int32)))) (hr : own_rank (own_G3 (fnan a) (fnan b) (fnan c)) p ix) : cmpValue (FP.dcmp (fmid (Int32.ofNat ix)) (fkth (fmidl a) (fmidl b) (fmidl c) 3 (own_k p 3))) .l = (0 : Int32) := by
  obtain ⟨k, rfl⟩ := own_pr hp
  obtain ⟨ra, ma⟩ := own_R.midl a
  obtain ⟨rb, mb⟩ := own_R.midl b
  obtain ⟨rc, mc⟩ := own_R.midl c
  have hrk : own_rk (own_G3 (fnan a) (fnan b) (fnan c)) (Int32.ofNat (k.val + 1)) = own_q (Int32.ofNat (k.val + 1)) 3 := by rw [own_rk, own_t3]
  have key : ∀ r w, own_q (Int32.ofNat (k.val + 1)) 3 = Int64.ofNat r → r < 100 → r ≤ own_c1 (own_ixo (fnan a)) (w + 1) + own_c1 (own_ixo (fnan b)) (w + 1) + own_c1 (own_ixo (fnan c)) (w + 1) → (∀ t, t < w → own_c1 (own_ixo (fnan a)) (t + 1) + own_c1 (own_ixo (fnan b)) (t + 1) + own_c1 (own_ixo (fnan c)) (t + 1) < r) → ix = w := fun r w h1 h2 h3 h4 =>
    own_rank_w (own_s3 _ _ _) (fun n => by have := own_c1_le (own_ixo (fnan a)) n; have := own_c1_le (own_ixo (fnan b)) n; have := own_c1_le (own_ixo (fnan c)) n; omega) (hrk.trans h1) h2 hr h3 h4
  obtain ⟨w1, w2, w3, q1, q2, q3, q4, q5, q6⟩ := own_f3 ra rb rc
  have m : own_R w1 (fmid (Int32.ofNat w1)) ∧ own_R w2 (fmid (Int32.ofNat w2)) ∧ own_R w3 (fmid (Int32.ofNat w3)) := by
    rcases q6 with ⟨h, h', h''⟩ | ⟨h, h', h''⟩ | ⟨h, h', h''⟩ | ⟨h, h', h''⟩ | ⟨h, h', h''⟩ | ⟨h, h', h''⟩ <;> rw [h, h', h'']
    · exact ⟨ma, mb, mc⟩
    · exact ⟨ma, mc, mb⟩
    · exact ⟨mb, ma, mc⟩
    · exact ⟨mb, mc, ma⟩
    · exact ⟨mc, ma, mb⟩
    · exact ⟨mc, mb, ma⟩
  have sw : ∀ n, own_c1 (own_ixo (fnan a)) n + own_c1 (own_ixo (fnan b)) n + own_c1 (own_ixo (fnan c)) n = own_c1 w1 n + own_c1 w2 n + own_c1 w3 n := fun n => by
    rcases q6 with ⟨h, h', h''⟩ | ⟨h, h', h''⟩ | ⟨h, h', h''⟩ | ⟨h, h', h''⟩ | ⟨h, h', h''⟩ | ⟨h, h', h''⟩ <;> rw [h, h', h''] <;> omega
  simp only [sw] at key
  clear q6 sw
  rcases own_q3 k with ⟨e1, e2⟩ | ⟨e1, e2⟩ | ⟨e1, e2⟩ <;> rw [e2]
  · refine own_fin m.1 q1 (key _ w1 e1 (by omega) ?_ fun t ht => ?_)
    · have := own_c1_iff w1 (w1 + 1); omega
    · have := own_c1_iff w1 (t + 1); have := own_c1_iff w2 (t + 1); have := own_c1_iff w3 (t + 1); omega
  · refine own_fin m.2.1 q2 (key _ w2 e1 (by omega) ?_ fun t ht => ?_)
    · have := own_c1_iff w1 (w2 + 1); have := own_c1_iff w2 (w2 + 1); omega
    · have := own_c1_iff w1 (t + 1); have := own_c1_iff w2 (t + 1); have := own_c1_iff w3 (t + 1); omega
  · refine own_fin m.2.2 q3 (key _ w3 e1 (by omega) ?_ fun t ht => ?_)
    · have := own_c1_iff w1 (w3 + 1); have := own_c1_iff w2 (w3 + 1); have := own_c1_iff w3 (w3 + 1); omega
    · have := own_c1_iff w1 (t + 1); have := own_c1_iff w2 (t + 1); have := own_c1_iff w3 (t + 1); omega
theorem own_i64b : ((Int64.ofNat 1 : Int64) ≤ 1 ∧ (Int64.ofNat 1 : Int64) ≤ 2 ∧ (Int64.ofNat 2 : Int64) ≤ 2) ∧ (Int64.ofNat 1 : Int64) ≤ 3 ∧ (Int64.ofNat 2 : Int64) ≤ 3 ∧ (Int64.ofNat 3 : Int64) ≤ 3 := by decide
theorem own_l1 {a : Int64} {p p0 : Int32} (hp : p = ((1 : Int32) + ((p0 &&& (2147483647 : Int32)) % (100 : Int32)))) : own_rk (own_G1 a) p ≤ own_sum (own_G1 a) 55296 := by
  obtain ⟨k, rfl⟩ := own_pr hp
  rw [own_rk, own_t1, show ((((Int32.ofNat (k.val + 1)).toInt64 * 1) + (99 : Int64)) / (100 : Int64)) = Int64.ofNat 1 from own_q1 k]; exact own_i64b.1.1
theorem own_l2 {a b : Int64} {p p0 : Int32} (hp : p = ((1 : Int32) + ((p0 &&& (2147483647 : Int32)) % (100 : Int32)))) : own_rk (own_G2 a b) p ≤ own_sum (own_G2 a b) 55296 := by
  obtain ⟨k, rfl⟩ := own_pr hp
  rw [own_rk, own_t2]
  show own_q (Int32.ofNat (k.val + 1)) 2 ≤ _
  rcases own_q2 k with ⟨e, -⟩ | ⟨e, -⟩ <;> rw [e]
  · exact own_i64b.1.2.1
  · exact own_i64b.1.2.2
theorem own_l3 {a b c : Int64} {p p0 : Int32} (hp : p = ((1 : Int32) + ((p0 &&& (2147483647 : Int32)) % (100 : Int32)))) : own_rk (own_G3 a b c) p ≤ own_sum (own_G3 a b c) 55296 := by
  obtain ⟨k, rfl⟩ := own_pr hp
  rw [own_rk, own_t3]
  show own_q (Int32.ofNat (k.val + 1)) 3 ≤ _
  rcases own_q3 k with ⟨e, -⟩ | ⟨e, -⟩ | ⟨e, -⟩ <;> rw [e]
  · exact own_i64b.2.1
  · exact own_i64b.2.2.1
  · exact own_i64b.2.2.2
theorem own_n1 (a : Int64) : ¬ own_sum (own_G1 a) 55296 = (0 : Int64) := by rw [own_t1]; decide
theorem own_n2 (a b : Int64) : ¬ own_sum (own_G2 a b) 55296 = (0 : Int64) := by rw [own_t2]; decide
theorem own_n3 (a b c : Int64) : ¬ own_sum (own_G3 a b c) 55296 = (0 : Int64) := by rw [own_t3]; decide
theorem own_zn {zn p4 : Int32} (h : zn = ((1 : Int32) + ((p4 &&& (3 : Int32)) % (3 : Int32)))) : zn = 1 ∨ zn = 2 ∨ zn = 3 := by
  have e : (p4 &&& 3).toInt = p4.toInt % 2 ^ 2 := Jvm.Kit.i32_mask p4 3 (k := 2) (by decide) (by decide)
  have e0 : 0 ≤ (p4 &&& 3).toInt := by rw [e]; exact Int.emod_nonneg _ (by decide)
  have e1 : ((p4 &&& 3) % 3).toInt = (p4 &&& 3).toInt % 3 := by rw [Jvm.Kit.i32_rem_nonneg e0]; rfl
  have c : (1 : Int32).toInt = 1 := by decide
  have e2 : zn.toInt = 1 + (p4 &&& 3).toInt % 3 := by rw [h, Jvm.Kit.i32_add (by rw [c]; omega) (by rw [c]; omega), c, e1]
  rcases (by omega : zn.toInt = 1 ∨ zn.toInt = 2 ∨ zn.toInt = 3) with q | q | q
  · exact Or.inl (Int32.toInt_inj.mp q)
  · exact Or.inr (Or.inl (Int32.toInt_inj.mp q))
  · exact Or.inr (Or.inr (Int32.toInt_inj.mp q))
theorem own_z1 {zn p4 : Int32} (h : zn = ((1 : Int32) + ((p4 &&& (3 : Int32)) % (3 : Int32)))) (a : zn < (2 : Int32)) : zn = 1 := by
  rcases own_zn h with q | q | q
  · exact q
  · rw [q] at a; exact absurd a (by decide)
  · rw [q] at a; exact absurd a (by decide)
theorem own_z68 {zn p4 : Int32} (h : zn = ((1 : Int32) + ((p4 &&& (3 : Int32)) % (3 : Int32)))) (a : zn < (2 : Int32)) : zn < (3 : Int32) := by
  rw [own_z1 h a]; decide
theorem own_z2 {zn p4 : Int32} (h : zn = ((1 : Int32) + ((p4 &&& (3 : Int32)) % (3 : Int32)))) (a : ¬ zn < (2 : Int32)) (b : zn < (3 : Int32)) : zn = 2 := by
  rcases own_zn h with q | q | q
  · rw [q] at a; exact absurd (by decide) a
  · exact q
  · rw [q] at b; exact absurd b (by decide)
theorem own_z3 {zn p4 : Int32} (h : zn = ((1 : Int32) + ((p4 &&& (3 : Int32)) % (3 : Int32)))) (a : ¬ zn < (2 : Int32)) (b : ¬ zn < (3 : Int32)) : zn = 3 := by
  rcases own_zn h with q | q | q
  · rw [q] at a; exact absurd (by decide) a
  · rw [q] at b; exact absurd (by decide) b
  · exact q
theorem pn0 : plainName "com/example/rate_keeper/ratekeeper/server/bench/LatencyHistogramPercentileMicrosPinLaw" = true := by first | (simp [plainName, overriddenIn]; done) | decide +kernel
theorem pd0_0 : parseMethodDescriptor "()V" = some ⟨[], none⟩ := by decide +kernel
theorem pd0_1 : parseMethodDescriptor "(J)J" = some ⟨[.long], some .long⟩ := by decide +kernel
theorem pd0_2 : parseMethodDescriptor "(J)V" = some ⟨[.long], none⟩ := by decide +kernel
theorem pd0_3 : parseMethodDescriptor "(I)D" = some ⟨[.int], some .double⟩ := by decide +kernel
theorem pd0_4 : parseMethodDescriptor "(J)D" = some ⟨[.long], some .double⟩ := by decide +kernel
theorem pd0_5 : parseMethodDescriptor "(DDDII)D" = some ⟨[.double, .double, .double, .int, .int], some .double⟩ := by decide +kernel
theorem ef0 (m : MethodId) (q0 : Int64) (q1 : Int64) (q2 : Int64) (p3 : Int32) (p4 : Int32) : entryFrame m #[(.long q0), (.long q1), (.long q2), (.int p3), (.int p4)] maxLocals = mkF m 0 #[.val (.long q0), .second, .val (.long q1), .second, .val (.long q2), .second, .val (.int p3), .val (.int p4), .unset, .unset, .unset, .unset, .unset, .unset, .unset, .unset] [] := by first | (simp [entryFrame, mkF, argsToLocals, Value.category, maxLocals]; done) | rfl
def Q0 (Z : State) (q0 : Int64) (q1 : Int64) (q2 : Int64) (p3 : Int32) (p4 : Int32) (h0 : Heap) (n0 : Nat) (v : Option Value) (h : Heap) (L : List Loc) : Prop := v = some (.int 1) ∧ Fr n0 L
set_option maxRecDepth 65536 in
set_option maxHeartbeats 40000000 in
theorem rm0 (l : Launch) (Z : State) (ar : Array Value) (hw : ∀ d ∈ tables_1, d.before ar Z = true) (ws : List Jvm.Cond) (q0 : Int64) (q1 : Int64) (q2 : Int64) (p3 : Int32) (p4 : Int32) (h0 : Heap) (n0 : Nat) (O0 : Old Z n0 h0) :
    MetFree l x (head1 (Jvm.Cond.code x code maxLocals ret :: ws) room_1) (fun a U => a = #[(.long q0), (.long q1), (.long q2), (.int p3), (.int p4)] ∧ Z.Warmed39 U.vm ∧ U.heap = h0) (fun _ _ _ _ _ => True) (fun _ U o U' => ∃ v L, o = .returned v ∧ Q0 Z q0 q1 q2 p3 p4 h0 n0 v U'.heap L ∧ FrameEnd U o U' L room_1.cells room_1.slots) := by
  refine MetFree.of_bodySF (plainFor_of_name pn0) hisR ?_
  intro p e s m args below meth c s₁ Bd hml0 hP hK
  obtain ⟨rfl, hZ, hh⟩ := hP
  have hx := Bd.exec
  have hby := Bd.bytes
  have hml : c.maxLocals = 16 := hml0
  have hown : s.vm.findClass "com/example/rate_keeper/ratekeeper/server/bench/LatencyHistogramPercentileMicrosPinLaw" = some m.cls := findClass_of_methodNamed Bd.named
  have hnm := (name_of_methodNamed Bd.named Bd.method).1
  have hlk : meth.locks = false := BodyLoose.notSynchronized Bd
  have X0 : Stand p l e room_1 s m #[(.long q0), (.long q1), (.long q2), (.int p3), (.int p4)] below meth c s₁ [] 0 0 := Stand.of_body Bd
  have e0 : s₁.heap = h0 := by rw [← hh, Bd.state]; rfl
  have N0 := Fr.nil n0
  suffices hmain : own_Ends p e below s (Q0 Z q0 q1 q2 p3 p4 h0 n0) 16 110720 (s₁.setTop (mkF m 0 #[.val (.long q0), .second, .val (.long q1), .second, .val (.long q2), .second, .val (.int p3), .val (.int p4), .unset, .unset, .unset, .unset, .unset, .unset, .unset, .unset] [])) by
    obtain ⟨U, o, h1, r⟩ := hmain
    exact ⟨U, o, castTop (ef0 m q0 q1 q2 p3 p4) h1, r⟩
  show own_Ends _ _ _ _ _ _ _ (s₁.setTop (mkF m 0 #[.val (.long q0), .second, .val (.long q1), .second, .val (.long q2), .second, .val (.int p3), .val (.int p4), .unset, .unset, .unset, .unset, .unset, .unset, .unset, .unset] []))
  refine own_go (fun _ k => XS.iload X0.here hx rfl (hb hby at_0) rfl k) ?_
  show own_Ends _ _ _ _ _ _ _ (s₁.setTop (mkF m 2 #[.val (.long q0), .second, .val (.long q1), .second, .val (.long q2), .second, .val (.int p3), .val (.int p4), .unset, .unset, .unset, .unset, .unset, .unset, .unset, .unset] [(.int p4)]))
  refine own_go (fun _ k => XS.bipush X0.here hx rfl (hb hby at_2) k) ?_
  show own_Ends _ _ _ _ _ _ _ (s₁.setTop (mkF m 4 #[.val (.long q0), .second, .val (.long q1), .second, .val (.long q2), .second, .val (.int p3), .val (.int p4), .unset, .unset, .unset, .unset, .unset, .unset, .unset, .unset] [(.int (8 : Int32)), (.int p4)]))
  refine own_go (fun _ k => XS.iand X0.here hx rfl (hb hby at_4) rfl k) ?_
  show own_Ends _ _ _ _ _ _ _ (s₁.setTop (mkF m 5 #[.val (.long q0), .second, .val (.long q1), .second, .val (.long q2), .second, .val (.int p3), .val (.int p4), .unset, .unset, .unset, .unset, .unset, .unset, .unset, .unset] [(.int (p4 &&& (8 : Int32)))]))
  suffices hj2 : ∀ z1 : Int64, z1 = (if (p4 &&& (8 : Int32)) = (0 : Int32) then q1 else q0) → own_Ends p e below s (Q0 Z q0 q1 q2 p3 p4 h0 n0) 16 110720 (s₁.setTop (mkF m 10 #[.val (.long q0), .second, .val (.long z1), .second, .val (.long q2), .second, .val (.int p3), .val (.int p4), .unset, .unset, .unset, .unset, .unset, .unset, .unset, .unset] [])) by
    show own_Ends _ _ _ _ _ _ _ (s₁.setTop (mkF m 5 #[.val (.long q0), .second, .val (.long q1), .second, .val (.long q2), .second, .val (.int p3), .val (.int p4), .unset, .unset, .unset, .unset, .unset, .unset, .unset, .unset] [(.int (p4 &&& (8 : Int32)))]))
    by_cases hc3 : (p4 &&& (8 : Int32)) = (0 : Int32)
    · refine own_go (fun _ k => XS.ifYes X0.here hx rfl (pc0 := 5) (pc' := 10) rfl (hb hby at_5) rfl ((if0 _ _).trans (teq hc3).1) (by decide) (by decide) k) ?_
      exact hj2 _ ((if_pos hc3)).symm
    · refine own_go (fun _ k => XS.ifNo X0.here hx rfl (hb hby at_5) rfl ((if0 _ _).trans (feq hc3).1) k) ?_
      show own_Ends _ _ _ _ _ _ _ (s₁.setTop (mkF m 8 #[.val (.long q0), .second, .val (.long q1), .second, .val (.long q2), .second, .val (.int p3), .val (.int p4), .unset, .unset, .unset, .unset, .unset, .unset, .unset, .unset] []))
      refine own_go (fun _ k => XS.lloadN X0.here hx rfl (hb hby at_8) rfl k) ?_
      show own_Ends _ _ _ _ _ _ _ (s₁.setTop (mkF m 9 #[.val (.long q0), .second, .val (.long q1), .second, .val (.long q2), .second, .val (.int p3), .val (.int p4), .unset, .unset, .unset, .unset, .unset, .unset, .unset, .unset] [(.long q0)]))
      refine own_go (fun _ k => XS.lstoreN X0.here hx rfl (hb hby at_9) rfl (l' := #[.val (.long q0), .second, .val (.long q0), .second, .val (.long q2), .second, .val (.int p3), .val (.int p4), .unset, .unset, .unset, .unset, .unset, .unset, .unset, .unset]) rfl k) ?_
      exact hj2 _ ((if_neg hc3)).symm
  intro z1 hz1
  show own_Ends _ _ _ _ _ _ _ (s₁.setTop (mkF m 10 #[.val (.long q0), .second, .val (.long z1), .second, .val (.long q2), .second, .val (.int p3), .val (.int p4), .unset, .unset, .unset, .unset, .unset, .unset, .unset, .unset] []))
  refine own_go (fun _ k => XS.iconst X0.here hx rfl (hb hby at_10) k) ?_
  show own_Ends _ _ _ _ _ _ _ (s₁.setTop (mkF m 11 #[.val (.long q0), .second, .val (.long z1), .second, .val (.long q2), .second, .val (.int p3), .val (.int p4), .unset, .unset, .unset, .unset, .unset, .unset, .unset, .unset] [(.int (1 : Int32))]))
  refine own_go (fun _ k => XS.iload X0.here hx rfl (hb hby at_11) rfl k) ?_
  show own_Ends _ _ _ _ _ _ _ (s₁.setTop (mkF m 13 #[.val (.long q0), .second, .val (.long z1), .second, .val (.long q2), .second, .val (.int p3), .val (.int p4), .unset, .unset, .unset, .unset, .unset, .unset, .unset, .unset] [(.int p4), (.int (1 : Int32))]))
  refine own_go (fun _ k => XS.iconst X0.here hx rfl (hb hby at_13) k) ?_
  show own_Ends _ _ _ _ _ _ _ (s₁.setTop (mkF m 14 #[.val (.long q0), .second, .val (.long z1), .second, .val (.long q2), .second, .val (.int p3), .val (.int p4), .unset, .unset, .unset, .unset, .unset, .unset, .unset, .unset] [(.int (3 : Int32)), (.int p4), (.int (1 : Int32))]))
  refine own_go (fun _ k => XS.iand X0.here hx rfl (hb hby at_14) rfl k) ?_
  show own_Ends _ _ _ _ _ _ _ (s₁.setTop (mkF m 15 #[.val (.long q0), .second, .val (.long z1), .second, .val (.long q2), .second, .val (.int p3), .val (.int p4), .unset, .unset, .unset, .unset, .unset, .unset, .unset, .unset] [(.int (p4 &&& (3 : Int32))), (.int (1 : Int32))]))
  refine own_go (fun _ k => XS.iconst X0.here hx rfl (hb hby at_15) k) ?_
  show own_Ends _ _ _ _ _ _ _ (s₁.setTop (mkF m 16 #[.val (.long q0), .second, .val (.long z1), .second, .val (.long q2), .second, .val (.int p3), .val (.int p4), .unset, .unset, .unset, .unset, .unset, .unset, .unset, .unset] [(.int (3 : Int32)), (.int (p4 &&& (3 : Int32))), (.int (1 : Int32))]))
  refine own_go (fun _ k => iremM X0 hx rfl (hb hby at_16) rfl (by decide) k) ?_
  show own_Ends _ _ _ _ _ _ _ (s₁.setTop (mkF m 17 #[.val (.long q0), .second, .val (.long z1), .second, .val (.long q2), .second, .val (.int p3), .val (.int p4), .unset, .unset, .unset, .unset, .unset, .unset, .unset, .unset] [(.int ((p4 &&& (3 : Int32)) % (3 : Int32))), (.int (1 : Int32))]))
  refine own_go (fun _ k => XS.iadd X0.here hx rfl (hb hby at_17) rfl k) ?_
  show own_Ends _ _ _ _ _ _ _ (s₁.setTop (mkF m 18 #[.val (.long q0), .second, .val (.long z1), .second, .val (.long q2), .second, .val (.int p3), .val (.int p4), .unset, .unset, .unset, .unset, .unset, .unset, .unset, .unset] [(.int ((1 : Int32) + ((p4 &&& (3 : Int32)) % (3 : Int32))))]))
  refine own_go (fun _ k => XS.istore X0.here hx rfl (hb hby at_18) rfl (l' := #[.val (.long q0), .second, .val (.long z1), .second, .val (.long q2), .second, .val (.int p3), .val (.int p4), .val (.int ((1 : Int32) + ((p4 &&& (3 : Int32)) % (3 : Int32)))), .unset, .unset, .unset, .unset, .unset, .unset, .unset]) rfl k) ?_
  suffices hjzn : ∀ zn : Int32, zn = ((1 : Int32) + ((p4 &&& (3 : Int32)) % (3 : Int32))) → own_Ends p e below s (Q0 Z q0 q1 q2 p3 p4 h0 n0) 16 110720 (s₁.setTop (mkF m 20 #[.val (.long q0), .second, .val (.long z1), .second, .val (.long q2), .second, .val (.int p3), .val (.int p4), .val (.int zn), .unset, .unset, .unset, .unset, .unset, .unset, .unset] [])) by exact hjzn _ rfl
  intro zn hzn
  show own_Ends _ _ _ _ _ _ _ (s₁.setTop (mkF m 20 #[.val (.long q0), .second, .val (.long z1), .second, .val (.long q2), .second, .val (.int p3), .val (.int p4), .val (.int zn), .unset, .unset, .unset, .unset, .unset, .unset, .unset] []))
  refine own_go (fun _ k => XS.iconst X0.here hx rfl (hb hby at_20) k) ?_
  show own_Ends _ _ _ _ _ _ _ (s₁.setTop (mkF m 21 #[.val (.long q0), .second, .val (.long z1), .second, .val (.long q2), .second, .val (.int p3), .val (.int p4), .val (.int zn), .unset, .unset, .unset, .unset, .unset, .unset, .unset] [(.int (1 : Int32))]))
  refine own_go (fun _ k => XS.iload X0.here hx rfl (hb hby at_21) rfl k) ?_
  show own_Ends _ _ _ _ _ _ _ (s₁.setTop (mkF m 23 #[.val (.long q0), .second, .val (.long z1), .second, .val (.long q2), .second, .val (.int p3), .val (.int p4), .val (.int zn), .unset, .unset, .unset, .unset, .unset, .unset, .unset] [(.int p3), (.int (1 : Int32))]))
  refine own_go (fun _ k => X0.ldcInt hx hown (mvT hZ (hw _ (List.mem_of_getElem? (i := 0) rfl))) (g := (mkF m 23 #[.val (.long q0), .second, .val (.long z1), .second, .val (.long q2), .second, .val (.int p3), .val (.int p4), .val (.int zn), .unset, .unset, .unset, .unset, .unset, .unset, .unset] [(.int p3), (.int (1 : Int32))])) rfl (hb hby at_23) _ k) ?_
  show own_Ends _ _ _ _ _ _ _ (s₁.setTop (mkF m 25 #[.val (.long q0), .second, .val (.long z1), .second, .val (.long q2), .second, .val (.int p3), .val (.int p4), .val (.int zn), .unset, .unset, .unset, .unset, .unset, .unset, .unset] [(.int (2147483647 : Int32)), (.int p3), (.int (1 : Int32))]))
  refine own_go (fun _ k => XS.iand X0.here hx rfl (hb hby at_25) rfl k) ?_
  show own_Ends _ _ _ _ _ _ _ (s₁.setTop (mkF m 26 #[.val (.long q0), .second, .val (.long z1), .second, .val (.long q2), .second, .val (.int p3), .val (.int p4), .val (.int zn), .unset, .unset, .unset, .unset, .unset, .unset, .unset] [(.int (p3 &&& (2147483647 : Int32))), (.int (1 : Int32))]))
  refine own_go (fun _ k => XS.bipush X0.here hx rfl (hb hby at_26) k) ?_
  show own_Ends _ _ _ _ _ _ _ (s₁.setTop (mkF m 28 #[.val (.long q0), .second, .val (.long z1), .second, .val (.long q2), .second, .val (.int p3), .val (.int p4), .val (.int zn), .unset, .unset, .unset, .unset, .unset, .unset, .unset] [(.int (100 : Int32)), (.int (p3 &&& (2147483647 : Int32))), (.int (1 : Int32))]))
  refine own_go (fun _ k => iremM X0 hx rfl (hb hby at_28) rfl (by decide) k) ?_
  show own_Ends _ _ _ _ _ _ _ (s₁.setTop (mkF m 29 #[.val (.long q0), .second, .val (.long z1), .second, .val (.long q2), .second, .val (.int p3), .val (.int p4), .val (.int zn), .unset, .unset, .unset, .unset, .unset, .unset, .unset] [(.int ((p3 &&& (2147483647 : Int32)) % (100 : Int32))), (.int (1 : Int32))]))
  refine own_go (fun _ k => XS.iadd X0.here hx rfl (hb hby at_29) rfl k) ?_
  show own_Ends _ _ _ _ _ _ _ (s₁.setTop (mkF m 30 #[.val (.long q0), .second, .val (.long z1), .second, .val (.long q2), .second, .val (.int p3), .val (.int p4), .val (.int zn), .unset, .unset, .unset, .unset, .unset, .unset, .unset] [(.int ((1 : Int32) + ((p3 &&& (2147483647 : Int32)) % (100 : Int32))))]))
  refine own_go (fun _ k => XS.istore X0.here hx rfl (hb hby at_30) rfl (l' := #[.val (.long q0), .second, .val (.long z1), .second, .val (.long q2), .second, .val (.int p3), .val (.int p4), .val (.int zn), .val (.int ((1 : Int32) + ((p3 &&& (2147483647 : Int32)) % (100 : Int32)))), .unset, .unset, .unset, .unset, .unset, .unset]) rfl k) ?_
  suffices hjzp : ∀ zp : Int32, zp = ((1 : Int32) + ((p3 &&& (2147483647 : Int32)) % (100 : Int32))) → own_Ends p e below s (Q0 Z q0 q1 q2 p3 p4 h0 n0) 16 110720 (s₁.setTop (mkF m 32 #[.val (.long q0), .second, .val (.long z1), .second, .val (.long q2), .second, .val (.int p3), .val (.int p4), .val (.int zn), .val (.int zp), .unset, .unset, .unset, .unset, .unset, .unset] [])) by exact hjzp _ rfl
  intro zp hzp
  show own_Ends _ _ _ _ _ _ _ (s₁.setTop (mkF m 32 #[.val (.long q0), .second, .val (.long z1), .second, .val (.long q2), .second, .val (.int p3), .val (.int p4), .val (.int zn), .val (.int zp), .unset, .unset, .unset, .unset, .unset, .unset] []))
  obtain ⟨T4, h4, X4, e4, E4, A4, D4, -, st4⟩ := newO X0 hx hZ hown (hw _ (List.mem_of_getElem? (i := 1) rfl)) (hw _ (List.mem_of_getElem? (i := 2) rfl)) (hw _ (List.mem_of_getElem? (i := 3) rfl)) e0 (g := (mkF m 32 #[.val (.long q0), .second, .val (.long z1), .second, .val (.long q2), .second, .val (.int p3), .val (.int p4), .val (.int zn), .val (.int zp), .unset, .unset, .unset, .unset, .unset, .unset] [])) rfl (hb hby at_32) (by decide) (by decide)
  obtain ⟨b4, q_b4⟩ : ∃ z, z = h0.size := ⟨_, rfl⟩
  rw [← q_b4] at A4 D4 st4
  have g_b4 : n0 ≤ b4 := Nat.le_trans (own_sz O0) (Nat.le_of_eq q_b4.symm)
  refine own_go (fun _ k => st4 _ k) ?_
  have F5 : Old Z n0 h4 := (O0.ext E4)
  have F6 : Fld Z h4 b4 "com/example/rate_keeper/ratekeeper/server/bench/LatencyHistogram" "counts" "[J" .null := D4 (Or.inr (hw _ (List.mem_of_getElem? (i := 13) rfl))) (ty := (.array .long)) (by decide)
  show own_Ends _ _ _ _ _ _ _ (T4.setTop (mkF m 35 #[.val (.long q0), .second, .val (.long z1), .second, .val (.long q2), .second, .val (.int p3), .val (.int p4), .val (.int zn), .val (.int zp), .unset, .unset, .unset, .unset, .unset, .unset] [(.ref b4)]))
  refine own_go (fun _ k => XS.dup X4.here hx rfl (hb hby at_35) rfl rfl k) ?_
  show own_Ends _ _ _ _ _ _ _ (T4.setTop (mkF m 36 #[.val (.long q0), .second, .val (.long z1), .second, .val (.long q2), .second, .val (.int p3), .val (.int p4), .val (.int zn), .val (.int zp), .unset, .unset, .unset, .unset, .unset, .unset] [(.ref b4), (.ref b4)]))
  obtain ⟨_, _, ⟨T7, L7, k7, n7⟩, -, X7, ⟨Lc7, hQ7, l7, y7, z7⟩, st7⟩ := X4.specialBack hx (y := (⟨"com/example/rate_keeper/ratekeeper/server/bench/LatencyHistogram", "<init>", "()V"⟩ : MethodName)) rfl hown (mvT hZ (hw _ (List.mem_of_getElem? (i := 4) rfl))) (mvT hZ (hw _ (List.mem_of_getElem? (i := 5) rfl))) (mvT hZ (hw _ (List.mem_of_getElem? (i := 6) rfl))) (by decide) (backOf (W := 1) (rminit l Z ar hw [] b4 (.null) h4 n0 F5 A4 g_b4 F6) hZ (hw _ (List.mem_of_getElem? (i := 6) rfl)) (hw _ (List.mem_of_getElem? (i := 3) rfl)) (by decide) (by decide)) (g := (mkF m 36 #[.val (.long q0), .second, .val (.long z1), .second, .val (.long q2), .second, .val (.int p3), .val (.int p4), .val (.int zn), .val (.int zp), .unset, .unset, .unset, .unset, .unset, .unset] [(.ref b4), (.ref b4)])) rfl (by rw [hml]; rfl) (Steps.refl _) (a := b4) (argsL := []) (rest := [(.ref b4)]) (lenOf pd0_0 rfl) rfl (by show 2 * 0 + _ ≤ _; exact Nat.le_of_eq rfl) (hb hby at_36) (fun _ _ => ⟨rfl, e4, (by decide : 1 + 1 ≤ _), (by decide : 1 + 55296 ≤ _)⟩)
  dsimp only [Pt.U, Pt.locs, Pt.cells, Pt.slots] at X7 l7 y7 z7 st7 hQ7
  subst l7 y7 z7
  obtain ⟨rfl, N7q, K7, E7_0, bb7, g_bb7, ne7, F7_0, A7_0⟩ := hQ7
  have N7 := Fr.app N0 N7q
  have F8 : Old Z n0 T7.heap := (F5.keep K7 (allS g_b4 all0))
  refine own_go (fun _ k => st7.trans k) ?_
  show own_Ends _ _ _ _ _ _ _ (T7.setTop (mkF m 39 #[.val (.long q0), .second, .val (.long z1), .second, .val (.long q2), .second, .val (.int p3), .val (.int p4), .val (.int zn), .val (.int zp), .unset, .unset, .unset, .unset, .unset, .unset] [(.ref b4)]))
  refine own_go (fun _ k => XS.astore X7.here hx rfl (hb hby at_39) rfl rfl (l' := #[.val (.long q0), .second, .val (.long z1), .second, .val (.long q2), .second, .val (.int p3), .val (.int p4), .val (.int zn), .val (.int zp), .val (.ref b4), .unset, .unset, .unset, .unset, .unset]) rfl k) ?_
  show own_Ends _ _ _ _ _ _ _ (T7.setTop (mkF m 41 #[.val (.long q0), .second, .val (.long z1), .second, .val (.long q2), .second, .val (.int p3), .val (.int p4), .val (.int zn), .val (.int zp), .val (.ref b4), .unset, .unset, .unset, .unset, .unset] []))
  refine own_go (fun _ k => XS.aload X7.here hx rfl (hb hby at_41) rfl rfl k) ?_
  show own_Ends _ _ _ _ _ _ _ (T7.setTop (mkF m 43 #[.val (.long q0), .second, .val (.long z1), .second, .val (.long q2), .second, .val (.int p3), .val (.int p4), .val (.int zn), .val (.int zp), .val (.ref b4), .unset, .unset, .unset, .unset, .unset] [(.ref b4)]))
  refine own_go (fun _ k => XS.lloadN X7.here hx rfl (hb hby at_43) rfl k) ?_
  show own_Ends _ _ _ _ _ _ _ (T7.setTop (mkF m 44 #[.val (.long q0), .second, .val (.long z1), .second, .val (.long q2), .second, .val (.int p3), .val (.int p4), .val (.int zn), .val (.int zp), .val (.ref b4), .unset, .unset, .unset, .unset, .unset] [(.long q0), (.ref b4)]))
  obtain ⟨_, _, ⟨T9, L9, k9, n9⟩, -, X9, ⟨Lc9, hQ9, l9, y9, z9⟩, st9⟩ := Jvm.LawKit.callS X7 hx (y := (⟨"com/example/rate_keeper/ratekeeper/server/bench/LatencyHistogramPercentileMicrosPinLaw", "nanos", "(J)J"⟩ : MethodName)) hown (mvT hZ (hw _ (List.mem_of_getElem? (i := 14) rfl))) (mvT hZ (hw _ (List.mem_of_getElem? (i := 15) rfl))) (mvT hZ (hw _ (List.mem_of_getElem? (i := 16) rfl))) (mvT hZ (hw _ (List.mem_of_getElem? (i := 17) rfl))) (by decide) (backOf (W := 1) (rmnan l Z ar hw [] q0 T7.heap n0 F8) hZ (hw _ (List.mem_of_getElem? (i := 17) rfl)) (hw _ (List.mem_of_getElem? (i := 16) rfl)) (by decide) (by decide)) (g := (mkF m 44 #[.val (.long q0), .second, .val (.long z1), .second, .val (.long q2), .second, .val (.int p3), .val (.int p4), .val (.int zn), .val (.int zp), .val (.ref b4), .unset, .unset, .unset, .unset, .unset] [(.long q0), (.ref b4)])) rfl (by rw [hml]; rfl) (argsL := [(.long q0)]) (rest := [(.ref b4)]) (lenOf pd0_1 rfl) rfl (by show 2 * 0 + _ ≤ _; exact Nat.le_of_eq rfl) (hb hby at_44) (fun _ _ => ⟨rfl, rfl, (by decide : 2 + 0 ≤ _), (by decide : 55297 + 0 ≤ _)⟩)
  dsimp only [Pt.U, Pt.locs, Pt.cells, Pt.slots] at X9 l9 y9 z9 st9 hQ9
  subst l9 y9 z9
  obtain ⟨rfl, N9q, eq9⟩ := hQ9
  have e9 : T9.heap = T7.heap := eq9
  have N9 := Fr.app N7 N9q
  refine own_go (fun _ k => st9 _ k) ?_
  show own_Ends _ _ _ _ _ _ _ (T9.setTop (mkF m 47 #[.val (.long q0), .second, .val (.long z1), .second, .val (.long q2), .second, .val (.int p3), .val (.int p4), .val (.int zn), .val (.int zp), .val (.ref b4), .unset, .unset, .unset, .unset, .unset] [(.long (fnan q0)), (.ref b4)]))
  obtain ⟨cq10, kq10, q10a, q10b, q10c⟩ := isOf hZ e9 E7_0
  obtain ⟨_, _, ⟨T10, L10, k10, n10⟩, -, X10, ⟨Lc10, hQ10, l10, y10, z10⟩, st10⟩ := X9.virtualBack hx (y := (⟨"com/example/rate_keeper/ratekeeper/server/bench/LatencyHistogram", "record", "(J)V"⟩ : MethodName)) (z := (⟨"com/example/rate_keeper/ratekeeper/server/bench/LatencyHistogram", "record", "(J)V"⟩ : MethodName)) hown (mvT hZ (hw _ (List.mem_of_getElem? (i := 23) rfl))) (mvT hZ (hw _ (List.mem_of_getElem? (i := 24) rfl))) (notFace_of_selects (args := #[]) (mvT hZ (hw _ (List.mem_of_getElem? (i := 26) rfl)))) (mvT hZ (hw _ (List.mem_of_getElem? (i := 26) rfl))) (mvT hZ (hw _ (List.mem_of_getElem? (i := 25) rfl))) (by decide) (backOf (W := 0) (rmrec l Z ar hw [] b4 (fnan q0) bb7 (fun _ => (0 : Int64)) T7.heap n0 F8 E7_0 F7_0 A7_0 g_bb7 ne7) hZ (hw _ (List.mem_of_getElem? (i := 27) rfl)) (hw _ (List.mem_of_getElem? (i := 3) rfl)) (by decide) (by decide)) q10a q10c (g := (mkF m 47 #[.val (.long q0), .second, .val (.long z1), .second, .val (.long q2), .second, .val (.int p3), .val (.int p4), .val (.int zn), .val (.int zp), .val (.ref b4), .unset, .unset, .unset, .unset, .unset] [(.long (fnan q0)), (.ref b4)])) rfl (by rw [hml]; rfl) (Steps.refl _) (argsL := [(.long (fnan q0))]) (rest := []) (lenOf pd0_2 rfl) rfl (by show 2 * 0 + _ ≤ _; exact Nat.le_of_eq rfl) (hb hby at_47) (fun _ _ => ⟨rfl, e9, (by decide : 2 + 0 ≤ _), (by decide : 55297 + 0 ≤ _)⟩)
  dsimp only [Pt.U, Pt.locs, Pt.cells, Pt.slots] at X10 l10 y10 z10 st10 hQ10
  subst l10 y10 z10
  obtain ⟨rfl, N10q, K10, E10_0, F10_0, A10_0⟩ := hQ10
  have N10 := Fr.app N9 N10q
  have F11 : Old Z n0 T10.heap := (F8.keep K10 (allS g_bb7 all0))
  refine own_go (fun _ k => st10.trans k) ?_
  show own_Ends _ _ _ _ _ _ _ (T10.setTop (mkF m 50 #[.val (.long q0), .second, .val (.long z1), .second, .val (.long q2), .second, .val (.int p3), .val (.int p4), .val (.int zn), .val (.int zp), .val (.ref b4), .unset, .unset, .unset, .unset, .unset] []))
  refine own_go (fun _ k => XS.iload X10.here hx rfl (hb hby at_50) rfl k) ?_
  show own_Ends _ _ _ _ _ _ _ (T10.setTop (mkF m 52 #[.val (.long q0), .second, .val (.long z1), .second, .val (.long q2), .second, .val (.int p3), .val (.int p4), .val (.int zn), .val (.int zp), .val (.ref b4), .unset, .unset, .unset, .unset, .unset] [(.int zn)]))
  refine own_go (fun _ k => XS.iconst X10.here hx rfl (hb hby at_52) k) ?_
  show own_Ends _ _ _ _ _ _ _ (T10.setTop (mkF m 53 #[.val (.long q0), .second, .val (.long z1), .second, .val (.long q2), .second, .val (.int p3), .val (.int p4), .val (.int zn), .val (.int zp), .val (.ref b4), .unset, .unset, .unset, .unset, .unset] [(.int (2 : Int32)), (.int zn)]))
  by_cases hc12 : zn < (2 : Int32)
  · refine own_go (fun _ k => XS.icmpYes X10.here hx rfl (pc0 := 53) (pc' := 65) rfl (hb hby at_53) rfl (tlt hc12).1 (by decide) (by decide) k) ?_
    show own_Ends _ _ _ _ _ _ _ (T10.setTop (mkF m 65 #[.val (.long q0), .second, .val (.long z1), .second, .val (.long q2), .second, .val (.int p3), .val (.int p4), .val (.int zn), .val (.int zp), .val (.ref b4), .unset, .unset, .unset, .unset, .unset] []))
    refine own_go (fun _ k => XS.iload X10.here hx rfl (hb hby at_65) rfl k) ?_
    show own_Ends _ _ _ _ _ _ _ (T10.setTop (mkF m 67 #[.val (.long q0), .second, .val (.long z1), .second, .val (.long q2), .second, .val (.int p3), .val (.int p4), .val (.int zn), .val (.int zp), .val (.ref b4), .unset, .unset, .unset, .unset, .unset] [(.int zn)]))
    refine own_go (fun _ k => XS.iconst X10.here hx rfl (hb hby at_67) k) ?_
    show own_Ends _ _ _ _ _ _ _ (T10.setTop (mkF m 68 #[.val (.long q0), .second, .val (.long z1), .second, .val (.long q2), .second, .val (.int p3), .val (.int p4), .val (.int zn), .val (.int zp), .val (.ref b4), .unset, .unset, .unset, .unset, .unset] [(.int (3 : Int32)), (.int zn)]))
    refine own_go (fun _ k => XS.icmpYes X10.here hx rfl (pc0 := 68) (pc' := 81) rfl (hb hby at_68) rfl (tlt (own_z68 hzn hc12)).1 (by decide) (by decide) k) ?_
    show own_Ends _ _ _ _ _ _ _ (T10.setTop (mkF m 81 #[.val (.long q0), .second, .val (.long z1), .second, .val (.long q2), .second, .val (.int p3), .val (.int p4), .val (.int zn), .val (.int zp), .val (.ref b4), .unset, .unset, .unset, .unset, .unset] []))
    refine own_go (fun _ k => XS.aload X10.here hx rfl (hb hby at_81) rfl rfl k) ?_
    show own_Ends _ _ _ _ _ _ _ (T10.setTop (mkF m 83 #[.val (.long q0), .second, .val (.long z1), .second, .val (.long q2), .second, .val (.int p3), .val (.int p4), .val (.int zn), .val (.int zp), .val (.ref b4), .unset, .unset, .unset, .unset, .unset] [(.ref b4)]))
    refine own_go (fun _ k => XS.iload X10.here hx rfl (hb hby at_83) rfl k) ?_
    show own_Ends _ _ _ _ _ _ _ (T10.setTop (mkF m 85 #[.val (.long q0), .second, .val (.long z1), .second, .val (.long q2), .second, .val (.int p3), .val (.int p4), .val (.int zn), .val (.int zp), .val (.ref b4), .unset, .unset, .unset, .unset, .unset] [(.int zp), (.ref b4)]))
    obtain ⟨cq13, kq13, q13a, q13b, q13c⟩ := isOf hZ rfl E10_0
    obtain ⟨_, _, ⟨T13, L13, k13, n13⟩, -, X13, ⟨Lc13, hQ13, l13, y13, z13⟩, st13⟩ := X10.virtualBack hx (y := (⟨"com/example/rate_keeper/ratekeeper/server/bench/LatencyHistogram", "percentileMicros", "(I)D"⟩ : MethodName)) (z := (⟨"com/example/rate_keeper/ratekeeper/server/bench/LatencyHistogram", "percentileMicros", "(I)D"⟩ : MethodName)) hown (mvT hZ (hw _ (List.mem_of_getElem? (i := 50) rfl))) (mvT hZ (hw _ (List.mem_of_getElem? (i := 51) rfl))) (notFace_of_selects (args := #[]) (mvT hZ (hw _ (List.mem_of_getElem? (i := 53) rfl)))) (mvT hZ (hw _ (List.mem_of_getElem? (i := 53) rfl))) (mvT hZ (hw _ (List.mem_of_getElem? (i := 52) rfl))) (by decide) (backOf (W := 0) (rmpct l Z ar hw [] b4 zp bb7 (own_add (fnan q0) (fun _ => (0 : Int64))) T10.heap n0 F11 E10_0 F10_0 A10_0 (own_n1 _ ) (own_l1 hzp)) hZ (hw _ (List.mem_of_getElem? (i := 54) rfl)) (hw _ (List.mem_of_getElem? (i := 3) rfl)) (by decide) (by decide)) q13a q13c (g := (mkF m 85 #[.val (.long q0), .second, .val (.long z1), .second, .val (.long q2), .second, .val (.int p3), .val (.int p4), .val (.int zn), .val (.int zp), .val (.ref b4), .unset, .unset, .unset, .unset, .unset] [(.int zp), (.ref b4)])) rfl (by rw [hml]; rfl) (Steps.refl _) (argsL := [(.int zp)]) (rest := []) (lenOf pd0_3 rfl) rfl (by show 2 * 0 + _ ≤ _; exact Nat.le_of_eq rfl) (hb hby at_85) (fun _ _ => ⟨rfl, rfl, (by decide : 2 + 0 ≤ _), (by decide : 55297 + 0 ≤ _)⟩)
    dsimp only [Pt.U, Pt.locs, Pt.cells, Pt.slots] at X13 l13 y13 z13 st13 hQ13
    subst l13 y13 z13
    obtain ⟨ix13, rfl, hr13, N13q, eq13⟩ := hQ13
    have e13 : T13.heap = T10.heap := eq13
    have N13 := Fr.app N10 N13q
    refine own_go (fun _ k => st13.trans k) ?_
    show own_Ends _ _ _ _ _ _ _ (T13.setTop (mkF m 88 #[.val (.long q0), .second, .val (.long z1), .second, .val (.long q2), .second, .val (.int p3), .val (.int p4), .val (.int zn), .val (.int zp), .val (.ref b4), .unset, .unset, .unset, .unset, .unset] [(.double (fmid (Int32.ofNat ix13)))]))
    refine own_go (fun _ k => XS.dstore X13.here hx rfl (hb hby at_88) rfl (l' := #[.val (.long q0), .second, .val (.long z1), .second, .val (.long q2), .second, .val (.int p3), .val (.int p4), .val (.int zn), .val (.int zp), .val (.ref b4), .val (.double (fmid (Int32.ofNat ix13))), .second, .unset, .unset, .unset]) rfl k) ?_
    show own_Ends _ _ _ _ _ _ _ (T13.setTop (mkF m 90 #[.val (.long q0), .second, .val (.long z1), .second, .val (.long q2), .second, .val (.int p3), .val (.int p4), .val (.int zn), .val (.int zp), .val (.ref b4), .val (.double (fmid (Int32.ofNat ix13))), .second, .unset, .unset, .unset] []))
    refine own_go (fun _ k => XS.iload X13.here hx rfl (hb hby at_90) rfl k) ?_
    show own_Ends _ _ _ _ _ _ _ (T13.setTop (mkF m 92 #[.val (.long q0), .second, .val (.long z1), .second, .val (.long q2), .second, .val (.int p3), .val (.int p4), .val (.int zn), .val (.int zp), .val (.ref b4), .val (.double (fmid (Int32.ofNat ix13))), .second, .unset, .unset, .unset] [(.int zp)]))
    refine own_go (fun _ k => XS.iload X13.here hx rfl (hb hby at_92) rfl k) ?_
    show own_Ends _ _ _ _ _ _ _ (T13.setTop (mkF m 94 #[.val (.long q0), .second, .val (.long z1), .second, .val (.long q2), .second, .val (.int p3), .val (.int p4), .val (.int zn), .val (.int zp), .val (.ref b4), .val (.double (fmid (Int32.ofNat ix13))), .second, .unset, .unset, .unset] [(.int zn), (.int zp)]))
    refine own_go (fun _ k => XS.imul X13.here hx rfl (hb hby at_94) rfl k) ?_
    show own_Ends _ _ _ _ _ _ _ (T13.setTop (mkF m 95 #[.val (.long q0), .second, .val (.long z1), .second, .val (.long q2), .second, .val (.int p3), .val (.int p4), .val (.int zn), .val (.int zp), .val (.ref b4), .val (.double (fmid (Int32.ofNat ix13))), .second, .unset, .unset, .unset] [(.int (zp * zn))]))
    refine own_go (fun _ k => XS.bipush X13.here hx rfl (hb hby at_95) k) ?_
    show own_Ends _ _ _ _ _ _ _ (T13.setTop (mkF m 97 #[.val (.long q0), .second, .val (.long z1), .second, .val (.long q2), .second, .val (.int p3), .val (.int p4), .val (.int zn), .val (.int zp), .val (.ref b4), .val (.double (fmid (Int32.ofNat ix13))), .second, .unset, .unset, .unset] [(.int (99 : Int32)), (.int (zp * zn))]))
    refine own_go (fun _ k => XS.iadd X13.here hx rfl (hb hby at_97) rfl k) ?_
    show own_Ends _ _ _ _ _ _ _ (T13.setTop (mkF m 98 #[.val (.long q0), .second, .val (.long z1), .second, .val (.long q2), .second, .val (.int p3), .val (.int p4), .val (.int zn), .val (.int zp), .val (.ref b4), .val (.double (fmid (Int32.ofNat ix13))), .second, .unset, .unset, .unset] [(.int ((zp * zn) + (99 : Int32)))]))
    refine own_go (fun _ k => XS.bipush X13.here hx rfl (hb hby at_98) k) ?_
    show own_Ends _ _ _ _ _ _ _ (T13.setTop (mkF m 100 #[.val (.long q0), .second, .val (.long z1), .second, .val (.long q2), .second, .val (.int p3), .val (.int p4), .val (.int zn), .val (.int zp), .val (.ref b4), .val (.double (fmid (Int32.ofNat ix13))), .second, .unset, .unset, .unset] [(.int (100 : Int32)), (.int ((zp * zn) + (99 : Int32)))]))
    refine own_go (fun _ k => XS.idiv X13.here hx rfl (hb hby at_100) rfl (by decide) k) ?_
    show own_Ends _ _ _ _ _ _ _ (T13.setTop (mkF m 101 #[.val (.long q0), .second, .val (.long z1), .second, .val (.long q2), .second, .val (.int p3), .val (.int p4), .val (.int zn), .val (.int zp), .val (.ref b4), .val (.double (fmid (Int32.ofNat ix13))), .second, .unset, .unset, .unset] [(.int (((zp * zn) + (99 : Int32)) / (100 : Int32)))]))
    refine own_go (fun _ k => XS.istore X13.here hx rfl (hb hby at_101) rfl (l' := #[.val (.long q0), .second, .val (.long z1), .second, .val (.long q2), .second, .val (.int p3), .val (.int p4), .val (.int zn), .val (.int zp), .val (.ref b4), .val (.double (fmid (Int32.ofNat ix13))), .second, .val (.int (((zp * zn) + (99 : Int32)) / (100 : Int32))), .unset, .unset]) rfl k) ?_
    show own_Ends _ _ _ _ _ _ _ (T13.setTop (mkF m 103 #[.val (.long q0), .second, .val (.long z1), .second, .val (.long q2), .second, .val (.int p3), .val (.int p4), .val (.int zn), .val (.int zp), .val (.ref b4), .val (.double (fmid (Int32.ofNat ix13))), .second, .val (.int (((zp * zn) + (99 : Int32)) / (100 : Int32))), .unset, .unset] []))
    refine own_go (fun _ k => XS.lloadN X13.here hx rfl (hb hby at_103) rfl k) ?_
    show own_Ends _ _ _ _ _ _ _ (T13.setTop (mkF m 104 #[.val (.long q0), .second, .val (.long z1), .second, .val (.long q2), .second, .val (.int p3), .val (.int p4), .val (.int zn), .val (.int zp), .val (.ref b4), .val (.double (fmid (Int32.ofNat ix13))), .second, .val (.int (((zp * zn) + (99 : Int32)) / (100 : Int32))), .unset, .unset] [(.long q0)]))
    obtain ⟨_, _, ⟨T14, L14, k14, n14⟩, -, X14, ⟨Lc14, hQ14, l14, y14, z14⟩, st14⟩ := Jvm.LawKit.callS X13 hx (y := (⟨"com/example/rate_keeper/ratekeeper/server/bench/LatencyHistogramPercentileMicrosPinLaw", "mid", "(J)D"⟩ : MethodName)) hown (mvT hZ (hw _ (List.mem_of_getElem? (i := 66) rfl))) (mvT hZ (hw _ (List.mem_of_getElem? (i := 67) rfl))) (mvT hZ (hw _ (List.mem_of_getElem? (i := 16) rfl))) (mvT hZ (hw _ (List.mem_of_getElem? (i := 68) rfl))) (by decide) (backOf (W := 0) (rmmidl l Z ar hw [] q0 T10.heap n0 F11) hZ (hw _ (List.mem_of_getElem? (i := 68) rfl)) (hw _ (List.mem_of_getElem? (i := 16) rfl)) (by decide) (by decide)) (g := (mkF m 104 #[.val (.long q0), .second, .val (.long z1), .second, .val (.long q2), .second, .val (.int p3), .val (.int p4), .val (.int zn), .val (.int zp), .val (.ref b4), .val (.double (fmid (Int32.ofNat ix13))), .second, .val (.int (((zp * zn) + (99 : Int32)) / (100 : Int32))), .unset, .unset] [(.long q0)])) rfl (by rw [hml]; rfl) (argsL := [(.long q0)]) (rest := []) (lenOf pd0_4 rfl) rfl (by show 2 * 0 + _ ≤ _; exact Nat.le_of_eq rfl) (hb hby at_104) (fun _ _ => ⟨rfl, e13, (by decide : 2 + 0 ≤ _), (by decide : 55297 + 0 ≤ _)⟩)
    dsimp only [Pt.U, Pt.locs, Pt.cells, Pt.slots] at X14 l14 y14 z14 st14 hQ14
    subst l14 y14 z14
    obtain ⟨rfl, N14q, eq14⟩ := hQ14
    have e14 : T14.heap = T10.heap := eq14
    have N14 := Fr.app N13 N14q
    refine own_go (fun _ k => st14 _ k) ?_
    show own_Ends _ _ _ _ _ _ _ (T14.setTop (mkF m 107 #[.val (.long q0), .second, .val (.long z1), .second, .val (.long q2), .second, .val (.int p3), .val (.int p4), .val (.int zn), .val (.int zp), .val (.ref b4), .val (.double (fmid (Int32.ofNat ix13))), .second, .val (.int (((zp * zn) + (99 : Int32)) / (100 : Int32))), .unset, .unset] [(.double (fmidl q0))]))
    refine own_go (fun _ k => XS.lloadN X14.here hx rfl (hb hby at_107) rfl k) ?_
    show own_Ends _ _ _ _ _ _ _ (T14.setTop (mkF m 108 #[.val (.long q0), .second, .val (.long z1), .second, .val (.long q2), .second, .val (.int p3), .val (.int p4), .val (.int zn), .val (.int zp), .val (.ref b4), .val (.double (fmid (Int32.ofNat ix13))), .second, .val (.int (((zp * zn) + (99 : Int32)) / (100 : Int32))), .unset, .unset] [(.long z1), (.double (fmidl q0))]))
    obtain ⟨_, _, ⟨T15, L15, k15, n15⟩, -, X15, ⟨Lc15, hQ15, l15, y15, z15⟩, st15⟩ := Jvm.LawKit.callS X14 hx (y := (⟨"com/example/rate_keeper/ratekeeper/server/bench/LatencyHistogramPercentileMicrosPinLaw", "mid", "(J)D"⟩ : MethodName)) hown (mvT hZ (hw _ (List.mem_of_getElem? (i := 66) rfl))) (mvT hZ (hw _ (List.mem_of_getElem? (i := 67) rfl))) (mvT hZ (hw _ (List.mem_of_getElem? (i := 16) rfl))) (mvT hZ (hw _ (List.mem_of_getElem? (i := 68) rfl))) (by decide) (backOf (W := 2) (rmmidl l Z ar hw [] z1 T10.heap n0 F11) hZ (hw _ (List.mem_of_getElem? (i := 68) rfl)) (hw _ (List.mem_of_getElem? (i := 16) rfl)) (by decide) (by decide)) (g := (mkF m 108 #[.val (.long q0), .second, .val (.long z1), .second, .val (.long q2), .second, .val (.int p3), .val (.int p4), .val (.int zn), .val (.int zp), .val (.ref b4), .val (.double (fmid (Int32.ofNat ix13))), .second, .val (.int (((zp * zn) + (99 : Int32)) / (100 : Int32))), .unset, .unset] [(.long z1), (.double (fmidl q0))])) rfl (by rw [hml]; rfl) (argsL := [(.long z1)]) (rest := [(.double (fmidl q0))]) (lenOf pd0_4 rfl) rfl (by show 2 * 0 + _ ≤ _; exact Nat.le_of_eq rfl) (hb hby at_108) (fun _ _ => ⟨rfl, e14, (by decide : 2 + 0 ≤ _), (by decide : 55297 + 0 ≤ _)⟩)
    dsimp only [Pt.U, Pt.locs, Pt.cells, Pt.slots] at X15 l15 y15 z15 st15 hQ15
    subst l15 y15 z15
    obtain ⟨rfl, N15q, eq15⟩ := hQ15
    have e15 : T15.heap = T10.heap := eq15
    have N15 := Fr.app N14 N15q
    refine own_go (fun _ k => st15 _ k) ?_
    show own_Ends _ _ _ _ _ _ _ (T15.setTop (mkF m 111 #[.val (.long q0), .second, .val (.long z1), .second, .val (.long q2), .second, .val (.int p3), .val (.int p4), .val (.int zn), .val (.int zp), .val (.ref b4), .val (.double (fmid (Int32.ofNat ix13))), .second, .val (.int (((zp * zn) + (99 : Int32)) / (100 : Int32))), .unset, .unset] [(.double (fmidl z1)), (.double (fmidl q0))]))
    refine own_go (fun _ k => XS.lload X15.here hx rfl (hb hby at_111) rfl k) ?_
    show own_Ends _ _ _ _ _ _ _ (T15.setTop (mkF m 113 #[.val (.long q0), .second, .val (.long z1), .second, .val (.long q2), .second, .val (.int p3), .val (.int p4), .val (.int zn), .val (.int zp), .val (.ref b4), .val (.double (fmid (Int32.ofNat ix13))), .second, .val (.int (((zp * zn) + (99 : Int32)) / (100 : Int32))), .unset, .unset] [(.long q2), (.double (fmidl z1)), (.double (fmidl q0))]))
    obtain ⟨_, _, ⟨T16, L16, k16, n16⟩, -, X16, ⟨Lc16, hQ16, l16, y16, z16⟩, st16⟩ := Jvm.LawKit.callS X15 hx (y := (⟨"com/example/rate_keeper/ratekeeper/server/bench/LatencyHistogramPercentileMicrosPinLaw", "mid", "(J)D"⟩ : MethodName)) hown (mvT hZ (hw _ (List.mem_of_getElem? (i := 66) rfl))) (mvT hZ (hw _ (List.mem_of_getElem? (i := 67) rfl))) (mvT hZ (hw _ (List.mem_of_getElem? (i := 16) rfl))) (mvT hZ (hw _ (List.mem_of_getElem? (i := 68) rfl))) (by decide) (backOf (W := 4) (rmmidl l Z ar hw [] q2 T10.heap n0 F11) hZ (hw _ (List.mem_of_getElem? (i := 68) rfl)) (hw _ (List.mem_of_getElem? (i := 16) rfl)) (by decide) (by decide)) (g := (mkF m 113 #[.val (.long q0), .second, .val (.long z1), .second, .val (.long q2), .second, .val (.int p3), .val (.int p4), .val (.int zn), .val (.int zp), .val (.ref b4), .val (.double (fmid (Int32.ofNat ix13))), .second, .val (.int (((zp * zn) + (99 : Int32)) / (100 : Int32))), .unset, .unset] [(.long q2), (.double (fmidl z1)), (.double (fmidl q0))])) rfl (by rw [hml]; rfl) (argsL := [(.long q2)]) (rest := [(.double (fmidl z1)), (.double (fmidl q0))]) (lenOf pd0_4 rfl) rfl (by show 2 * 0 + _ ≤ _; exact Nat.le_of_eq rfl) (hb hby at_113) (fun _ _ => ⟨rfl, e15, (by decide : 2 + 0 ≤ _), (by decide : 55297 + 0 ≤ _)⟩)
    dsimp only [Pt.U, Pt.locs, Pt.cells, Pt.slots] at X16 l16 y16 z16 st16 hQ16
    subst l16 y16 z16
    obtain ⟨rfl, N16q, eq16⟩ := hQ16
    have e16 : T16.heap = T10.heap := eq16
    have N16 := Fr.app N15 N16q
    refine own_go (fun _ k => st16 _ k) ?_
    show own_Ends _ _ _ _ _ _ _ (T16.setTop (mkF m 116 #[.val (.long q0), .second, .val (.long z1), .second, .val (.long q2), .second, .val (.int p3), .val (.int p4), .val (.int zn), .val (.int zp), .val (.ref b4), .val (.double (fmid (Int32.ofNat ix13))), .second, .val (.int (((zp * zn) + (99 : Int32)) / (100 : Int32))), .unset, .unset] [(.double (fmidl q2)), (.double (fmidl z1)), (.double (fmidl q0))]))
    refine own_go (fun _ k => XS.iload X16.here hx rfl (hb hby at_116) rfl k) ?_
    show own_Ends _ _ _ _ _ _ _ (T16.setTop (mkF m 118 #[.val (.long q0), .second, .val (.long z1), .second, .val (.long q2), .second, .val (.int p3), .val (.int p4), .val (.int zn), .val (.int zp), .val (.ref b4), .val (.double (fmid (Int32.ofNat ix13))), .second, .val (.int (((zp * zn) + (99 : Int32)) / (100 : Int32))), .unset, .unset] [(.int zn), (.double (fmidl q2)), (.double (fmidl z1)), (.double (fmidl q0))]))
    refine own_go (fun _ k => XS.iload X16.here hx rfl (hb hby at_118) rfl k) ?_
    show own_Ends _ _ _ _ _ _ _ (T16.setTop (mkF m 120 #[.val (.long q0), .second, .val (.long z1), .second, .val (.long q2), .second, .val (.int p3), .val (.int p4), .val (.int zn), .val (.int zp), .val (.ref b4), .val (.double (fmid (Int32.ofNat ix13))), .second, .val (.int (((zp * zn) + (99 : Int32)) / (100 : Int32))), .unset, .unset] [(.int (((zp * zn) + (99 : Int32)) / (100 : Int32))), (.int zn), (.double (fmidl q2)), (.double (fmidl z1)), (.double (fmidl q0))]))
    obtain ⟨_, _, ⟨T17, L17, k17, n17⟩, -, X17, ⟨Lc17, hQ17, l17, y17, z17⟩, st17⟩ := Jvm.LawKit.callS X16 hx (y := (⟨"com/example/rate_keeper/ratekeeper/server/bench/LatencyHistogramPercentileMicrosPinLaw", "kth", "(DDDII)D"⟩ : MethodName)) hown (mvT hZ (hw _ (List.mem_of_getElem? (i := 71) rfl))) (mvT hZ (hw _ (List.mem_of_getElem? (i := 72) rfl))) (mvT hZ (hw _ (List.mem_of_getElem? (i := 16) rfl))) (mvT hZ (hw _ (List.mem_of_getElem? (i := 73) rfl))) (by decide) (backOf (W := 0) (rmkth l Z ar hw [] (fmidl q0) (fmidl z1) (fmidl q2) zn (((zp * zn) + (99 : Int32)) / (100 : Int32)) T10.heap n0 F11) hZ (hw _ (List.mem_of_getElem? (i := 73) rfl)) (hw _ (List.mem_of_getElem? (i := 16) rfl)) (by decide) (by decide)) (g := (mkF m 120 #[.val (.long q0), .second, .val (.long z1), .second, .val (.long q2), .second, .val (.int p3), .val (.int p4), .val (.int zn), .val (.int zp), .val (.ref b4), .val (.double (fmid (Int32.ofNat ix13))), .second, .val (.int (((zp * zn) + (99 : Int32)) / (100 : Int32))), .unset, .unset] [(.int (((zp * zn) + (99 : Int32)) / (100 : Int32))), (.int zn), (.double (fmidl q2)), (.double (fmidl z1)), (.double (fmidl q0))])) rfl (by rw [hml]; rfl) (argsL := [(.double (fmidl q0)), (.double (fmidl z1)), (.double (fmidl q2)), (.int zn), (.int (((zp * zn) + (99 : Int32)) / (100 : Int32)))]) (rest := []) (lenOf pd0_5 rfl) rfl (by show 2 * 0 + _ ≤ _; exact Nat.le_of_eq rfl) (hb hby at_120) (fun _ _ => ⟨rfl, e16, (by decide : 2 + 0 ≤ _), (by decide : 55297 + 0 ≤ _)⟩)
    dsimp only [Pt.U, Pt.locs, Pt.cells, Pt.slots] at X17 l17 y17 z17 st17 hQ17
    subst l17 y17 z17
    obtain ⟨rfl, N17q, eq17⟩ := hQ17
    have e17 : T17.heap = T10.heap := eq17
    have N17 := Fr.app N16 N17q
    refine own_go (fun _ k => st17 _ k) ?_
    show own_Ends _ _ _ _ _ _ _ (T17.setTop (mkF m 123 #[.val (.long q0), .second, .val (.long z1), .second, .val (.long q2), .second, .val (.int p3), .val (.int p4), .val (.int zn), .val (.int zp), .val (.ref b4), .val (.double (fmid (Int32.ofNat ix13))), .second, .val (.int (((zp * zn) + (99 : Int32)) / (100 : Int32))), .unset, .unset] [(.double (fkth (fmidl q0) (fmidl z1) (fmidl q2) zn (((zp * zn) + (99 : Int32)) / (100 : Int32))))]))
    refine own_go (fun _ k => XS.dstore X17.here hx rfl (hb hby at_123) rfl (l' := #[.val (.long q0), .second, .val (.long z1), .second, .val (.long q2), .second, .val (.int p3), .val (.int p4), .val (.int zn), .val (.int zp), .val (.ref b4), .val (.double (fmid (Int32.ofNat ix13))), .second, .val (.int (((zp * zn) + (99 : Int32)) / (100 : Int32))), .val (.double (fkth (fmidl q0) (fmidl z1) (fmidl q2) zn (((zp * zn) + (99 : Int32)) / (100 : Int32)))), .second]) rfl k) ?_
    show own_Ends _ _ _ _ _ _ _ (T17.setTop (mkF m 125 #[.val (.long q0), .second, .val (.long z1), .second, .val (.long q2), .second, .val (.int p3), .val (.int p4), .val (.int zn), .val (.int zp), .val (.ref b4), .val (.double (fmid (Int32.ofNat ix13))), .second, .val (.int (((zp * zn) + (99 : Int32)) / (100 : Int32))), .val (.double (fkth (fmidl q0) (fmidl z1) (fmidl q2) zn (((zp * zn) + (99 : Int32)) / (100 : Int32)))), .second] []))
    refine own_go (fun _ k => XS.dload X17.here hx rfl (hb hby at_125) rfl k) ?_
    show own_Ends _ _ _ _ _ _ _ (T17.setTop (mkF m 127 #[.val (.long q0), .second, .val (.long z1), .second, .val (.long q2), .second, .val (.int p3), .val (.int p4), .val (.int zn), .val (.int zp), .val (.ref b4), .val (.double (fmid (Int32.ofNat ix13))), .second, .val (.int (((zp * zn) + (99 : Int32)) / (100 : Int32))), .val (.double (fkth (fmidl q0) (fmidl z1) (fmidl q2) zn (((zp * zn) + (99 : Int32)) / (100 : Int32)))), .second] [(.double (fmid (Int32.ofNat ix13)))]))
    refine own_go (fun _ k => XS.dload X17.here hx rfl (hb hby at_127) rfl k) ?_
    show own_Ends _ _ _ _ _ _ _ (T17.setTop (mkF m 129 #[.val (.long q0), .second, .val (.long z1), .second, .val (.long q2), .second, .val (.int p3), .val (.int p4), .val (.int zn), .val (.int zp), .val (.ref b4), .val (.double (fmid (Int32.ofNat ix13))), .second, .val (.int (((zp * zn) + (99 : Int32)) / (100 : Int32))), .val (.double (fkth (fmidl q0) (fmidl z1) (fmidl q2) zn (((zp * zn) + (99 : Int32)) / (100 : Int32)))), .second] [(.double (fkth (fmidl q0) (fmidl z1) (fmidl q2) zn (((zp * zn) + (99 : Int32)) / (100 : Int32)))), (.double (fmid (Int32.ofNat ix13)))]))
    refine own_go (fun _ k => XS.dcmpS X17.here hx rfl (hb hby at_129) rfl rfl k) ?_
    show own_Ends _ _ _ _ _ _ _ (T17.setTop (mkF m 130 #[.val (.long q0), .second, .val (.long z1), .second, .val (.long q2), .second, .val (.int p3), .val (.int p4), .val (.int zn), .val (.int zp), .val (.ref b4), .val (.double (fmid (Int32.ofNat ix13))), .second, .val (.int (((zp * zn) + (99 : Int32)) / (100 : Int32))), .val (.double (fkth (fmidl q0) (fmidl z1) (fmidl q2) zn (((zp * zn) + (99 : Int32)) / (100 : Int32)))), .second] [(.int (cmpValue (FP.dcmp (fmid (Int32.ofNat ix13)) (fkth (fmidl q0) (fmidl z1) (fmidl q2) zn (((zp * zn) + (99 : Int32)) / (100 : Int32)))) .l))]))
    refine own_go (fun _ k => XS.ifNo X17.here hx rfl (hb hby at_130) rfl ((if0 _ _).trans (teq (by rw [own_z1 hzn hc12]; exact own_kth1 hzp hr13)).2) k) ?_
    show own_Ends _ _ _ _ _ _ _ (T17.setTop (mkF m 133 #[.val (.long q0), .second, .val (.long z1), .second, .val (.long q2), .second, .val (.int p3), .val (.int p4), .val (.int zn), .val (.int zp), .val (.ref b4), .val (.double (fmid (Int32.ofNat ix13))), .second, .val (.int (((zp * zn) + (99 : Int32)) / (100 : Int32))), .val (.double (fkth (fmidl q0) (fmidl z1) (fmidl q2) zn (((zp * zn) + (99 : Int32)) / (100 : Int32)))), .second] []))
    refine own_go (fun _ k => XS.iconst X17.here hx rfl (hb hby at_133) k) ?_
    show own_Ends _ _ _ _ _ _ _ (T17.setTop (mkF m 134 #[.val (.long q0), .second, .val (.long z1), .second, .val (.long q2), .second, .val (.int p3), .val (.int p4), .val (.int zn), .val (.int zp), .val (.ref b4), .val (.double (fmid (Int32.ofNat ix13))), .second, .val (.int (((zp * zn) + (99 : Int32)) / (100 : Int32))), .val (.double (fkth (fmidl q0) (fmidl z1) (fmidl q2) zn (((zp * zn) + (99 : Int32)) / (100 : Int32)))), .second] [(.int (1 : Int32))]))
    refine own_go (fun _ k => XS.goto X17.here hx rfl (pc0 := 134) (pc' := 138) rfl (hb hby at_134) (by decide) (by decide) k) ?_
    show own_Ends _ _ _ _ _ _ _ (T17.setTop (mkF m 138 #[.val (.long q0), .second, .val (.long z1), .second, .val (.long q2), .second, .val (.int p3), .val (.int p4), .val (.int zn), .val (.int zp), .val (.ref b4), .val (.double (fmid (Int32.ofNat ix13))), .second, .val (.int (((zp * zn) + (99 : Int32)) / (100 : Int32))), .val (.double (fkth (fmidl q0) (fmidl z1) (fmidl q2) zn (((zp * zn) + (99 : Int32)) / (100 : Int32)))), .second] [(.int (1 : Int32))]))
    exact own_retN X17 hx hlk (t := .boolean) Bd.returns (by simp) (hb hby at_138) (by decide) (by decide) ⟨rfl, N17⟩
  · refine own_go (fun _ k => XS.icmpNo X10.here hx rfl (hb hby at_53) rfl (flt hc12).1 k) ?_
    show own_Ends _ _ _ _ _ _ _ (T10.setTop (mkF m 56 #[.val (.long q0), .second, .val (.long z1), .second, .val (.long q2), .second, .val (.int p3), .val (.int p4), .val (.int zn), .val (.int zp), .val (.ref b4), .unset, .unset, .unset, .unset, .unset] []))
    refine own_go (fun _ k => XS.aload X10.here hx rfl (hb hby at_56) rfl rfl k) ?_
    show own_Ends _ _ _ _ _ _ _ (T10.setTop (mkF m 58 #[.val (.long q0), .second, .val (.long z1), .second, .val (.long q2), .second, .val (.int p3), .val (.int p4), .val (.int zn), .val (.int zp), .val (.ref b4), .unset, .unset, .unset, .unset, .unset] [(.ref b4)]))
    refine own_go (fun _ k => XS.lloadN X10.here hx rfl (hb hby at_58) rfl k) ?_
    show own_Ends _ _ _ _ _ _ _ (T10.setTop (mkF m 59 #[.val (.long q0), .second, .val (.long z1), .second, .val (.long q2), .second, .val (.int p3), .val (.int p4), .val (.int zn), .val (.int zp), .val (.ref b4), .unset, .unset, .unset, .unset, .unset] [(.long z1), (.ref b4)]))
    obtain ⟨_, _, ⟨T18, L18, k18, n18⟩, -, X18, ⟨Lc18, hQ18, l18, y18, z18⟩, st18⟩ := Jvm.LawKit.callS X10 hx (y := (⟨"com/example/rate_keeper/ratekeeper/server/bench/LatencyHistogramPercentileMicrosPinLaw", "nanos", "(J)J"⟩ : MethodName)) hown (mvT hZ (hw _ (List.mem_of_getElem? (i := 14) rfl))) (mvT hZ (hw _ (List.mem_of_getElem? (i := 15) rfl))) (mvT hZ (hw _ (List.mem_of_getElem? (i := 16) rfl))) (mvT hZ (hw _ (List.mem_of_getElem? (i := 17) rfl))) (by decide) (backOf (W := 1) (rmnan l Z ar hw [] z1 T10.heap n0 F11) hZ (hw _ (List.mem_of_getElem? (i := 17) rfl)) (hw _ (List.mem_of_getElem? (i := 16) rfl)) (by decide) (by decide)) (g := (mkF m 59 #[.val (.long q0), .second, .val (.long z1), .second, .val (.long q2), .second, .val (.int p3), .val (.int p4), .val (.int zn), .val (.int zp), .val (.ref b4), .unset, .unset, .unset, .unset, .unset] [(.long z1), (.ref b4)])) rfl (by rw [hml]; rfl) (argsL := [(.long z1)]) (rest := [(.ref b4)]) (lenOf pd0_1 rfl) rfl (by show 2 * 0 + _ ≤ _; exact Nat.le_of_eq rfl) (hb hby at_59) (fun _ _ => ⟨rfl, rfl, (by decide : 2 + 0 ≤ _), (by decide : 55297 + 0 ≤ _)⟩)
    dsimp only [Pt.U, Pt.locs, Pt.cells, Pt.slots] at X18 l18 y18 z18 st18 hQ18
    subst l18 y18 z18
    obtain ⟨rfl, N18q, eq18⟩ := hQ18
    have e18 : T18.heap = T10.heap := eq18
    have N18 := Fr.app N10 N18q
    refine own_go (fun _ k => st18 _ k) ?_
    show own_Ends _ _ _ _ _ _ _ (T18.setTop (mkF m 62 #[.val (.long q0), .second, .val (.long z1), .second, .val (.long q2), .second, .val (.int p3), .val (.int p4), .val (.int zn), .val (.int zp), .val (.ref b4), .unset, .unset, .unset, .unset, .unset] [(.long (fnan z1)), (.ref b4)]))
    obtain ⟨cq19, kq19, q19a, q19b, q19c⟩ := isOf hZ e18 E10_0
    obtain ⟨_, _, ⟨T19, L19, k19, n19⟩, -, X19, ⟨Lc19, hQ19, l19, y19, z19⟩, st19⟩ := X18.virtualBack hx (y := (⟨"com/example/rate_keeper/ratekeeper/server/bench/LatencyHistogram", "record", "(J)V"⟩ : MethodName)) (z := (⟨"com/example/rate_keeper/ratekeeper/server/bench/LatencyHistogram", "record", "(J)V"⟩ : MethodName)) hown (mvT hZ (hw _ (List.mem_of_getElem? (i := 23) rfl))) (mvT hZ (hw _ (List.mem_of_getElem? (i := 24) rfl))) (notFace_of_selects (args := #[]) (mvT hZ (hw _ (List.mem_of_getElem? (i := 26) rfl)))) (mvT hZ (hw _ (List.mem_of_getElem? (i := 26) rfl))) (mvT hZ (hw _ (List.mem_of_getElem? (i := 25) rfl))) (by decide) (backOf (W := 0) (rmrec l Z ar hw [] b4 (fnan z1) bb7 (own_add (fnan q0) (fun _ => (0 : Int64))) T10.heap n0 F11 E10_0 F10_0 A10_0 g_bb7 ne7) hZ (hw _ (List.mem_of_getElem? (i := 27) rfl)) (hw _ (List.mem_of_getElem? (i := 3) rfl)) (by decide) (by decide)) q19a q19c (g := (mkF m 62 #[.val (.long q0), .second, .val (.long z1), .second, .val (.long q2), .second, .val (.int p3), .val (.int p4), .val (.int zn), .val (.int zp), .val (.ref b4), .unset, .unset, .unset, .unset, .unset] [(.long (fnan z1)), (.ref b4)])) rfl (by rw [hml]; rfl) (Steps.refl _) (argsL := [(.long (fnan z1))]) (rest := []) (lenOf pd0_2 rfl) rfl (by show 2 * 0 + _ ≤ _; exact Nat.le_of_eq rfl) (hb hby at_62) (fun _ _ => ⟨rfl, e18, (by decide : 2 + 0 ≤ _), (by decide : 55297 + 0 ≤ _)⟩)
    dsimp only [Pt.U, Pt.locs, Pt.cells, Pt.slots] at X19 l19 y19 z19 st19 hQ19
    subst l19 y19 z19
    obtain ⟨rfl, N19q, K19, E19_0, F19_0, A19_0⟩ := hQ19
    have N19 := Fr.app N18 N19q
    have F20 : Old Z n0 T19.heap := (F11.keep K19 (allS g_bb7 all0))
    refine own_go (fun _ k => st19.trans k) ?_
    show own_Ends _ _ _ _ _ _ _ (T19.setTop (mkF m 65 #[.val (.long q0), .second, .val (.long z1), .second, .val (.long q2), .second, .val (.int p3), .val (.int p4), .val (.int zn), .val (.int zp), .val (.ref b4), .unset, .unset, .unset, .unset, .unset] []))
    refine own_go (fun _ k => XS.iload X19.here hx rfl (hb hby at_65) rfl k) ?_
    show own_Ends _ _ _ _ _ _ _ (T19.setTop (mkF m 67 #[.val (.long q0), .second, .val (.long z1), .second, .val (.long q2), .second, .val (.int p3), .val (.int p4), .val (.int zn), .val (.int zp), .val (.ref b4), .unset, .unset, .unset, .unset, .unset] [(.int zn)]))
    refine own_go (fun _ k => XS.iconst X19.here hx rfl (hb hby at_67) k) ?_
    show own_Ends _ _ _ _ _ _ _ (T19.setTop (mkF m 68 #[.val (.long q0), .second, .val (.long z1), .second, .val (.long q2), .second, .val (.int p3), .val (.int p4), .val (.int zn), .val (.int zp), .val (.ref b4), .unset, .unset, .unset, .unset, .unset] [(.int (3 : Int32)), (.int zn)]))
    by_cases hc21 : zn < (3 : Int32)
    · refine own_go (fun _ k => XS.icmpYes X19.here hx rfl (pc0 := 68) (pc' := 81) rfl (hb hby at_68) rfl (tlt hc21).1 (by decide) (by decide) k) ?_
      show own_Ends _ _ _ _ _ _ _ (T19.setTop (mkF m 81 #[.val (.long q0), .second, .val (.long z1), .second, .val (.long q2), .second, .val (.int p3), .val (.int p4), .val (.int zn), .val (.int zp), .val (.ref b4), .unset, .unset, .unset, .unset, .unset] []))
      refine own_go (fun _ k => XS.aload X19.here hx rfl (hb hby at_81) rfl rfl k) ?_
      show own_Ends _ _ _ _ _ _ _ (T19.setTop (mkF m 83 #[.val (.long q0), .second, .val (.long z1), .second, .val (.long q2), .second, .val (.int p3), .val (.int p4), .val (.int zn), .val (.int zp), .val (.ref b4), .unset, .unset, .unset, .unset, .unset] [(.ref b4)]))
      refine own_go (fun _ k => XS.iload X19.here hx rfl (hb hby at_83) rfl k) ?_
      show own_Ends _ _ _ _ _ _ _ (T19.setTop (mkF m 85 #[.val (.long q0), .second, .val (.long z1), .second, .val (.long q2), .second, .val (.int p3), .val (.int p4), .val (.int zn), .val (.int zp), .val (.ref b4), .unset, .unset, .unset, .unset, .unset] [(.int zp), (.ref b4)]))
      obtain ⟨cq22, kq22, q22a, q22b, q22c⟩ := isOf hZ rfl E19_0
      obtain ⟨_, _, ⟨T22, L22, k22, n22⟩, -, X22, ⟨Lc22, hQ22, l22, y22, z22⟩, st22⟩ := X19.virtualBack hx (y := (⟨"com/example/rate_keeper/ratekeeper/server/bench/LatencyHistogram", "percentileMicros", "(I)D"⟩ : MethodName)) (z := (⟨"com/example/rate_keeper/ratekeeper/server/bench/LatencyHistogram", "percentileMicros", "(I)D"⟩ : MethodName)) hown (mvT hZ (hw _ (List.mem_of_getElem? (i := 50) rfl))) (mvT hZ (hw _ (List.mem_of_getElem? (i := 51) rfl))) (notFace_of_selects (args := #[]) (mvT hZ (hw _ (List.mem_of_getElem? (i := 53) rfl)))) (mvT hZ (hw _ (List.mem_of_getElem? (i := 53) rfl))) (mvT hZ (hw _ (List.mem_of_getElem? (i := 52) rfl))) (by decide) (backOf (W := 0) (rmpct l Z ar hw [] b4 zp bb7 (own_add (fnan z1) (own_add (fnan q0) (fun _ => (0 : Int64)))) T19.heap n0 F20 E19_0 F19_0 A19_0 (own_n2 _ _ ) (own_l2 hzp)) hZ (hw _ (List.mem_of_getElem? (i := 54) rfl)) (hw _ (List.mem_of_getElem? (i := 3) rfl)) (by decide) (by decide)) q22a q22c (g := (mkF m 85 #[.val (.long q0), .second, .val (.long z1), .second, .val (.long q2), .second, .val (.int p3), .val (.int p4), .val (.int zn), .val (.int zp), .val (.ref b4), .unset, .unset, .unset, .unset, .unset] [(.int zp), (.ref b4)])) rfl (by rw [hml]; rfl) (Steps.refl _) (argsL := [(.int zp)]) (rest := []) (lenOf pd0_3 rfl) rfl (by show 2 * 0 + _ ≤ _; exact Nat.le_of_eq rfl) (hb hby at_85) (fun _ _ => ⟨rfl, rfl, (by decide : 2 + 0 ≤ _), (by decide : 55297 + 0 ≤ _)⟩)
      dsimp only [Pt.U, Pt.locs, Pt.cells, Pt.slots] at X22 l22 y22 z22 st22 hQ22
      subst l22 y22 z22
      obtain ⟨ix22, rfl, hr22, N22q, eq22⟩ := hQ22
      have e22 : T22.heap = T19.heap := eq22
      have N22 := Fr.app N19 N22q
      refine own_go (fun _ k => st22.trans k) ?_
      show own_Ends _ _ _ _ _ _ _ (T22.setTop (mkF m 88 #[.val (.long q0), .second, .val (.long z1), .second, .val (.long q2), .second, .val (.int p3), .val (.int p4), .val (.int zn), .val (.int zp), .val (.ref b4), .unset, .unset, .unset, .unset, .unset] [(.double (fmid (Int32.ofNat ix22)))]))
      refine own_go (fun _ k => XS.dstore X22.here hx rfl (hb hby at_88) rfl (l' := #[.val (.long q0), .second, .val (.long z1), .second, .val (.long q2), .second, .val (.int p3), .val (.int p4), .val (.int zn), .val (.int zp), .val (.ref b4), .val (.double (fmid (Int32.ofNat ix22))), .second, .unset, .unset, .unset]) rfl k) ?_
      show own_Ends _ _ _ _ _ _ _ (T22.setTop (mkF m 90 #[.val (.long q0), .second, .val (.long z1), .second, .val (.long q2), .second, .val (.int p3), .val (.int p4), .val (.int zn), .val (.int zp), .val (.ref b4), .val (.double (fmid (Int32.ofNat ix22))), .second, .unset, .unset, .unset] []))
      refine own_go (fun _ k => XS.iload X22.here hx rfl (hb hby at_90) rfl k) ?_
      show own_Ends _ _ _ _ _ _ _ (T22.setTop (mkF m 92 #[.val (.long q0), .second, .val (.long z1), .second, .val (.long q2), .second, .val (.int p3), .val (.int p4), .val (.int zn), .val (.int zp), .val (.ref b4), .val (.double (fmid (Int32.ofNat ix22))), .second, .unset, .unset, .unset] [(.int zp)]))
      refine own_go (fun _ k => XS.iload X22.here hx rfl (hb hby at_92) rfl k) ?_
      show own_Ends _ _ _ _ _ _ _ (T22.setTop (mkF m 94 #[.val (.long q0), .second, .val (.long z1), .second, .val (.long q2), .second, .val (.int p3), .val (.int p4), .val (.int zn), .val (.int zp), .val (.ref b4), .val (.double (fmid (Int32.ofNat ix22))), .second, .unset, .unset, .unset] [(.int zn), (.int zp)]))
      refine own_go (fun _ k => XS.imul X22.here hx rfl (hb hby at_94) rfl k) ?_
      show own_Ends _ _ _ _ _ _ _ (T22.setTop (mkF m 95 #[.val (.long q0), .second, .val (.long z1), .second, .val (.long q2), .second, .val (.int p3), .val (.int p4), .val (.int zn), .val (.int zp), .val (.ref b4), .val (.double (fmid (Int32.ofNat ix22))), .second, .unset, .unset, .unset] [(.int (zp * zn))]))
      refine own_go (fun _ k => XS.bipush X22.here hx rfl (hb hby at_95) k) ?_
      show own_Ends _ _ _ _ _ _ _ (T22.setTop (mkF m 97 #[.val (.long q0), .second, .val (.long z1), .second, .val (.long q2), .second, .val (.int p3), .val (.int p4), .val (.int zn), .val (.int zp), .val (.ref b4), .val (.double (fmid (Int32.ofNat ix22))), .second, .unset, .unset, .unset] [(.int (99 : Int32)), (.int (zp * zn))]))
      refine own_go (fun _ k => XS.iadd X22.here hx rfl (hb hby at_97) rfl k) ?_
      show own_Ends _ _ _ _ _ _ _ (T22.setTop (mkF m 98 #[.val (.long q0), .second, .val (.long z1), .second, .val (.long q2), .second, .val (.int p3), .val (.int p4), .val (.int zn), .val (.int zp), .val (.ref b4), .val (.double (fmid (Int32.ofNat ix22))), .second, .unset, .unset, .unset] [(.int ((zp * zn) + (99 : Int32)))]))
      refine own_go (fun _ k => XS.bipush X22.here hx rfl (hb hby at_98) k) ?_
      show own_Ends _ _ _ _ _ _ _ (T22.setTop (mkF m 100 #[.val (.long q0), .second, .val (.long z1), .second, .val (.long q2), .second, .val (.int p3), .val (.int p4), .val (.int zn), .val (.int zp), .val (.ref b4), .val (.double (fmid (Int32.ofNat ix22))), .second, .unset, .unset, .unset] [(.int (100 : Int32)), (.int ((zp * zn) + (99 : Int32)))]))
      refine own_go (fun _ k => XS.idiv X22.here hx rfl (hb hby at_100) rfl (by decide) k) ?_
      show own_Ends _ _ _ _ _ _ _ (T22.setTop (mkF m 101 #[.val (.long q0), .second, .val (.long z1), .second, .val (.long q2), .second, .val (.int p3), .val (.int p4), .val (.int zn), .val (.int zp), .val (.ref b4), .val (.double (fmid (Int32.ofNat ix22))), .second, .unset, .unset, .unset] [(.int (((zp * zn) + (99 : Int32)) / (100 : Int32)))]))
      refine own_go (fun _ k => XS.istore X22.here hx rfl (hb hby at_101) rfl (l' := #[.val (.long q0), .second, .val (.long z1), .second, .val (.long q2), .second, .val (.int p3), .val (.int p4), .val (.int zn), .val (.int zp), .val (.ref b4), .val (.double (fmid (Int32.ofNat ix22))), .second, .val (.int (((zp * zn) + (99 : Int32)) / (100 : Int32))), .unset, .unset]) rfl k) ?_
      show own_Ends _ _ _ _ _ _ _ (T22.setTop (mkF m 103 #[.val (.long q0), .second, .val (.long z1), .second, .val (.long q2), .second, .val (.int p3), .val (.int p4), .val (.int zn), .val (.int zp), .val (.ref b4), .val (.double (fmid (Int32.ofNat ix22))), .second, .val (.int (((zp * zn) + (99 : Int32)) / (100 : Int32))), .unset, .unset] []))
      refine own_go (fun _ k => XS.lloadN X22.here hx rfl (hb hby at_103) rfl k) ?_
      show own_Ends _ _ _ _ _ _ _ (T22.setTop (mkF m 104 #[.val (.long q0), .second, .val (.long z1), .second, .val (.long q2), .second, .val (.int p3), .val (.int p4), .val (.int zn), .val (.int zp), .val (.ref b4), .val (.double (fmid (Int32.ofNat ix22))), .second, .val (.int (((zp * zn) + (99 : Int32)) / (100 : Int32))), .unset, .unset] [(.long q0)]))
      obtain ⟨_, _, ⟨T23, L23, k23, n23⟩, -, X23, ⟨Lc23, hQ23, l23, y23, z23⟩, st23⟩ := Jvm.LawKit.callS X22 hx (y := (⟨"com/example/rate_keeper/ratekeeper/server/bench/LatencyHistogramPercentileMicrosPinLaw", "mid", "(J)D"⟩ : MethodName)) hown (mvT hZ (hw _ (List.mem_of_getElem? (i := 66) rfl))) (mvT hZ (hw _ (List.mem_of_getElem? (i := 67) rfl))) (mvT hZ (hw _ (List.mem_of_getElem? (i := 16) rfl))) (mvT hZ (hw _ (List.mem_of_getElem? (i := 68) rfl))) (by decide) (backOf (W := 0) (rmmidl l Z ar hw [] q0 T19.heap n0 F20) hZ (hw _ (List.mem_of_getElem? (i := 68) rfl)) (hw _ (List.mem_of_getElem? (i := 16) rfl)) (by decide) (by decide)) (g := (mkF m 104 #[.val (.long q0), .second, .val (.long z1), .second, .val (.long q2), .second, .val (.int p3), .val (.int p4), .val (.int zn), .val (.int zp), .val (.ref b4), .val (.double (fmid (Int32.ofNat ix22))), .second, .val (.int (((zp * zn) + (99 : Int32)) / (100 : Int32))), .unset, .unset] [(.long q0)])) rfl (by rw [hml]; rfl) (argsL := [(.long q0)]) (rest := []) (lenOf pd0_4 rfl) rfl (by show 2 * 0 + _ ≤ _; exact Nat.le_of_eq rfl) (hb hby at_104) (fun _ _ => ⟨rfl, e22, (by decide : 2 + 0 ≤ _), (by decide : 55297 + 0 ≤ _)⟩)
      dsimp only [Pt.U, Pt.locs, Pt.cells, Pt.slots] at X23 l23 y23 z23 st23 hQ23
      subst l23 y23 z23
      obtain ⟨rfl, N23q, eq23⟩ := hQ23
      have e23 : T23.heap = T19.heap := eq23
      have N23 := Fr.app N22 N23q
      refine own_go (fun _ k => st23 _ k) ?_
      show own_Ends _ _ _ _ _ _ _ (T23.setTop (mkF m 107 #[.val (.long q0), .second, .val (.long z1), .second, .val (.long q2), .second, .val (.int p3), .val (.int p4), .val (.int zn), .val (.int zp), .val (.ref b4), .val (.double (fmid (Int32.ofNat ix22))), .second, .val (.int (((zp * zn) + (99 : Int32)) / (100 : Int32))), .unset, .unset] [(.double (fmidl q0))]))
      refine own_go (fun _ k => XS.lloadN X23.here hx rfl (hb hby at_107) rfl k) ?_
      show own_Ends _ _ _ _ _ _ _ (T23.setTop (mkF m 108 #[.val (.long q0), .second, .val (.long z1), .second, .val (.long q2), .second, .val (.int p3), .val (.int p4), .val (.int zn), .val (.int zp), .val (.ref b4), .val (.double (fmid (Int32.ofNat ix22))), .second, .val (.int (((zp * zn) + (99 : Int32)) / (100 : Int32))), .unset, .unset] [(.long z1), (.double (fmidl q0))]))
      obtain ⟨_, _, ⟨T24, L24, k24, n24⟩, -, X24, ⟨Lc24, hQ24, l24, y24, z24⟩, st24⟩ := Jvm.LawKit.callS X23 hx (y := (⟨"com/example/rate_keeper/ratekeeper/server/bench/LatencyHistogramPercentileMicrosPinLaw", "mid", "(J)D"⟩ : MethodName)) hown (mvT hZ (hw _ (List.mem_of_getElem? (i := 66) rfl))) (mvT hZ (hw _ (List.mem_of_getElem? (i := 67) rfl))) (mvT hZ (hw _ (List.mem_of_getElem? (i := 16) rfl))) (mvT hZ (hw _ (List.mem_of_getElem? (i := 68) rfl))) (by decide) (backOf (W := 2) (rmmidl l Z ar hw [] z1 T19.heap n0 F20) hZ (hw _ (List.mem_of_getElem? (i := 68) rfl)) (hw _ (List.mem_of_getElem? (i := 16) rfl)) (by decide) (by decide)) (g := (mkF m 108 #[.val (.long q0), .second, .val (.long z1), .second, .val (.long q2), .second, .val (.int p3), .val (.int p4), .val (.int zn), .val (.int zp), .val (.ref b4), .val (.double (fmid (Int32.ofNat ix22))), .second, .val (.int (((zp * zn) + (99 : Int32)) / (100 : Int32))), .unset, .unset] [(.long z1), (.double (fmidl q0))])) rfl (by rw [hml]; rfl) (argsL := [(.long z1)]) (rest := [(.double (fmidl q0))]) (lenOf pd0_4 rfl) rfl (by show 2 * 0 + _ ≤ _; exact Nat.le_of_eq rfl) (hb hby at_108) (fun _ _ => ⟨rfl, e23, (by decide : 2 + 0 ≤ _), (by decide : 55297 + 0 ≤ _)⟩)
      dsimp only [Pt.U, Pt.locs, Pt.cells, Pt.slots] at X24 l24 y24 z24 st24 hQ24
      subst l24 y24 z24
      obtain ⟨rfl, N24q, eq24⟩ := hQ24
      have e24 : T24.heap = T19.heap := eq24
      have N24 := Fr.app N23 N24q
      refine own_go (fun _ k => st24 _ k) ?_
      show own_Ends _ _ _ _ _ _ _ (T24.setTop (mkF m 111 #[.val (.long q0), .second, .val (.long z1), .second, .val (.long q2), .second, .val (.int p3), .val (.int p4), .val (.int zn), .val (.int zp), .val (.ref b4), .val (.double (fmid (Int32.ofNat ix22))), .second, .val (.int (((zp * zn) + (99 : Int32)) / (100 : Int32))), .unset, .unset] [(.double (fmidl z1)), (.double (fmidl q0))]))
      refine own_go (fun _ k => XS.lload X24.here hx rfl (hb hby at_111) rfl k) ?_
      show own_Ends _ _ _ _ _ _ _ (T24.setTop (mkF m 113 #[.val (.long q0), .second, .val (.long z1), .second, .val (.long q2), .second, .val (.int p3), .val (.int p4), .val (.int zn), .val (.int zp), .val (.ref b4), .val (.double (fmid (Int32.ofNat ix22))), .second, .val (.int (((zp * zn) + (99 : Int32)) / (100 : Int32))), .unset, .unset] [(.long q2), (.double (fmidl z1)), (.double (fmidl q0))]))
      obtain ⟨_, _, ⟨T25, L25, k25, n25⟩, -, X25, ⟨Lc25, hQ25, l25, y25, z25⟩, st25⟩ := Jvm.LawKit.callS X24 hx (y := (⟨"com/example/rate_keeper/ratekeeper/server/bench/LatencyHistogramPercentileMicrosPinLaw", "mid", "(J)D"⟩ : MethodName)) hown (mvT hZ (hw _ (List.mem_of_getElem? (i := 66) rfl))) (mvT hZ (hw _ (List.mem_of_getElem? (i := 67) rfl))) (mvT hZ (hw _ (List.mem_of_getElem? (i := 16) rfl))) (mvT hZ (hw _ (List.mem_of_getElem? (i := 68) rfl))) (by decide) (backOf (W := 4) (rmmidl l Z ar hw [] q2 T19.heap n0 F20) hZ (hw _ (List.mem_of_getElem? (i := 68) rfl)) (hw _ (List.mem_of_getElem? (i := 16) rfl)) (by decide) (by decide)) (g := (mkF m 113 #[.val (.long q0), .second, .val (.long z1), .second, .val (.long q2), .second, .val (.int p3), .val (.int p4), .val (.int zn), .val (.int zp), .val (.ref b4), .val (.double (fmid (Int32.ofNat ix22))), .second, .val (.int (((zp * zn) + (99 : Int32)) / (100 : Int32))), .unset, .unset] [(.long q2), (.double (fmidl z1)), (.double (fmidl q0))])) rfl (by rw [hml]; rfl) (argsL := [(.long q2)]) (rest := [(.double (fmidl z1)), (.double (fmidl q0))]) (lenOf pd0_4 rfl) rfl (by show 2 * 0 + _ ≤ _; exact Nat.le_of_eq rfl) (hb hby at_113) (fun _ _ => ⟨rfl, e24, (by decide : 2 + 0 ≤ _), (by decide : 55297 + 0 ≤ _)⟩)
      dsimp only [Pt.U, Pt.locs, Pt.cells, Pt.slots] at X25 l25 y25 z25 st25 hQ25
      subst l25 y25 z25
      obtain ⟨rfl, N25q, eq25⟩ := hQ25
      have e25 : T25.heap = T19.heap := eq25
      have N25 := Fr.app N24 N25q
      refine own_go (fun _ k => st25 _ k) ?_
      show own_Ends _ _ _ _ _ _ _ (T25.setTop (mkF m 116 #[.val (.long q0), .second, .val (.long z1), .second, .val (.long q2), .second, .val (.int p3), .val (.int p4), .val (.int zn), .val (.int zp), .val (.ref b4), .val (.double (fmid (Int32.ofNat ix22))), .second, .val (.int (((zp * zn) + (99 : Int32)) / (100 : Int32))), .unset, .unset] [(.double (fmidl q2)), (.double (fmidl z1)), (.double (fmidl q0))]))
      refine own_go (fun _ k => XS.iload X25.here hx rfl (hb hby at_116) rfl k) ?_
      show own_Ends _ _ _ _ _ _ _ (T25.setTop (mkF m 118 #[.val (.long q0), .second, .val (.long z1), .second, .val (.long q2), .second, .val (.int p3), .val (.int p4), .val (.int zn), .val (.int zp), .val (.ref b4), .val (.double (fmid (Int32.ofNat ix22))), .second, .val (.int (((zp * zn) + (99 : Int32)) / (100 : Int32))), .unset, .unset] [(.int zn), (.double (fmidl q2)), (.double (fmidl z1)), (.double (fmidl q0))]))
      refine own_go (fun _ k => XS.iload X25.here hx rfl (hb hby at_118) rfl k) ?_
      show own_Ends _ _ _ _ _ _ _ (T25.setTop (mkF m 120 #[.val (.long q0), .second, .val (.long z1), .second, .val (.long q2), .second, .val (.int p3), .val (.int p4), .val (.int zn), .val (.int zp), .val (.ref b4), .val (.double (fmid (Int32.ofNat ix22))), .second, .val (.int (((zp * zn) + (99 : Int32)) / (100 : Int32))), .unset, .unset] [(.int (((zp * zn) + (99 : Int32)) / (100 : Int32))), (.int zn), (.double (fmidl q2)), (.double (fmidl z1)), (.double (fmidl q0))]))
      obtain ⟨_, _, ⟨T26, L26, k26, n26⟩, -, X26, ⟨Lc26, hQ26, l26, y26, z26⟩, st26⟩ := Jvm.LawKit.callS X25 hx (y := (⟨"com/example/rate_keeper/ratekeeper/server/bench/LatencyHistogramPercentileMicrosPinLaw", "kth", "(DDDII)D"⟩ : MethodName)) hown (mvT hZ (hw _ (List.mem_of_getElem? (i := 71) rfl))) (mvT hZ (hw _ (List.mem_of_getElem? (i := 72) rfl))) (mvT hZ (hw _ (List.mem_of_getElem? (i := 16) rfl))) (mvT hZ (hw _ (List.mem_of_getElem? (i := 73) rfl))) (by decide) (backOf (W := 0) (rmkth l Z ar hw [] (fmidl q0) (fmidl z1) (fmidl q2) zn (((zp * zn) + (99 : Int32)) / (100 : Int32)) T19.heap n0 F20) hZ (hw _ (List.mem_of_getElem? (i := 73) rfl)) (hw _ (List.mem_of_getElem? (i := 16) rfl)) (by decide) (by decide)) (g := (mkF m 120 #[.val (.long q0), .second, .val (.long z1), .second, .val (.long q2), .second, .val (.int p3), .val (.int p4), .val (.int zn), .val (.int zp), .val (.ref b4), .val (.double (fmid (Int32.ofNat ix22))), .second, .val (.int (((zp * zn) + (99 : Int32)) / (100 : Int32))), .unset, .unset] [(.int (((zp * zn) + (99 : Int32)) / (100 : Int32))), (.int zn), (.double (fmidl q2)), (.double (fmidl z1)), (.double (fmidl q0))])) rfl (by rw [hml]; rfl) (argsL := [(.double (fmidl q0)), (.double (fmidl z1)), (.double (fmidl q2)), (.int zn), (.int (((zp * zn) + (99 : Int32)) / (100 : Int32)))]) (rest := []) (lenOf pd0_5 rfl) rfl (by show 2 * 0 + _ ≤ _; exact Nat.le_of_eq rfl) (hb hby at_120) (fun _ _ => ⟨rfl, e25, (by decide : 2 + 0 ≤ _), (by decide : 55297 + 0 ≤ _)⟩)
      dsimp only [Pt.U, Pt.locs, Pt.cells, Pt.slots] at X26 l26 y26 z26 st26 hQ26
      subst l26 y26 z26
      obtain ⟨rfl, N26q, eq26⟩ := hQ26
      have e26 : T26.heap = T19.heap := eq26
      have N26 := Fr.app N25 N26q
      refine own_go (fun _ k => st26 _ k) ?_
      show own_Ends _ _ _ _ _ _ _ (T26.setTop (mkF m 123 #[.val (.long q0), .second, .val (.long z1), .second, .val (.long q2), .second, .val (.int p3), .val (.int p4), .val (.int zn), .val (.int zp), .val (.ref b4), .val (.double (fmid (Int32.ofNat ix22))), .second, .val (.int (((zp * zn) + (99 : Int32)) / (100 : Int32))), .unset, .unset] [(.double (fkth (fmidl q0) (fmidl z1) (fmidl q2) zn (((zp * zn) + (99 : Int32)) / (100 : Int32))))]))
      refine own_go (fun _ k => XS.dstore X26.here hx rfl (hb hby at_123) rfl (l' := #[.val (.long q0), .second, .val (.long z1), .second, .val (.long q2), .second, .val (.int p3), .val (.int p4), .val (.int zn), .val (.int zp), .val (.ref b4), .val (.double (fmid (Int32.ofNat ix22))), .second, .val (.int (((zp * zn) + (99 : Int32)) / (100 : Int32))), .val (.double (fkth (fmidl q0) (fmidl z1) (fmidl q2) zn (((zp * zn) + (99 : Int32)) / (100 : Int32)))), .second]) rfl k) ?_
      show own_Ends _ _ _ _ _ _ _ (T26.setTop (mkF m 125 #[.val (.long q0), .second, .val (.long z1), .second, .val (.long q2), .second, .val (.int p3), .val (.int p4), .val (.int zn), .val (.int zp), .val (.ref b4), .val (.double (fmid (Int32.ofNat ix22))), .second, .val (.int (((zp * zn) + (99 : Int32)) / (100 : Int32))), .val (.double (fkth (fmidl q0) (fmidl z1) (fmidl q2) zn (((zp * zn) + (99 : Int32)) / (100 : Int32)))), .second] []))
      refine own_go (fun _ k => XS.dload X26.here hx rfl (hb hby at_125) rfl k) ?_
      show own_Ends _ _ _ _ _ _ _ (T26.setTop (mkF m 127 #[.val (.long q0), .second, .val (.long z1), .second, .val (.long q2), .second, .val (.int p3), .val (.int p4), .val (.int zn), .val (.int zp), .val (.ref b4), .val (.double (fmid (Int32.ofNat ix22))), .second, .val (.int (((zp * zn) + (99 : Int32)) / (100 : Int32))), .val (.double (fkth (fmidl q0) (fmidl z1) (fmidl q2) zn (((zp * zn) + (99 : Int32)) / (100 : Int32)))), .second] [(.double (fmid (Int32.ofNat ix22)))]))
      refine own_go (fun _ k => XS.dload X26.here hx rfl (hb hby at_127) rfl k) ?_
      show own_Ends _ _ _ _ _ _ _ (T26.setTop (mkF m 129 #[.val (.long q0), .second, .val (.long z1), .second, .val (.long q2), .second, .val (.int p3), .val (.int p4), .val (.int zn), .val (.int zp), .val (.ref b4), .val (.double (fmid (Int32.ofNat ix22))), .second, .val (.int (((zp * zn) + (99 : Int32)) / (100 : Int32))), .val (.double (fkth (fmidl q0) (fmidl z1) (fmidl q2) zn (((zp * zn) + (99 : Int32)) / (100 : Int32)))), .second] [(.double (fkth (fmidl q0) (fmidl z1) (fmidl q2) zn (((zp * zn) + (99 : Int32)) / (100 : Int32)))), (.double (fmid (Int32.ofNat ix22)))]))
      refine own_go (fun _ k => XS.dcmpS X26.here hx rfl (hb hby at_129) rfl rfl k) ?_
      show own_Ends _ _ _ _ _ _ _ (T26.setTop (mkF m 130 #[.val (.long q0), .second, .val (.long z1), .second, .val (.long q2), .second, .val (.int p3), .val (.int p4), .val (.int zn), .val (.int zp), .val (.ref b4), .val (.double (fmid (Int32.ofNat ix22))), .second, .val (.int (((zp * zn) + (99 : Int32)) / (100 : Int32))), .val (.double (fkth (fmidl q0) (fmidl z1) (fmidl q2) zn (((zp * zn) + (99 : Int32)) / (100 : Int32)))), .second] [(.int (cmpValue (FP.dcmp (fmid (Int32.ofNat ix22)) (fkth (fmidl q0) (fmidl z1) (fmidl q2) zn (((zp * zn) + (99 : Int32)) / (100 : Int32)))) .l))]))
      refine own_go (fun _ k => XS.ifNo X26.here hx rfl (hb hby at_130) rfl ((if0 _ _).trans (teq (by rw [own_z2 hzn hc12 hc21]; exact own_kth2 hzp hr22)).2) k) ?_
      show own_Ends _ _ _ _ _ _ _ (T26.setTop (mkF m 133 #[.val (.long q0), .second, .val (.long z1), .second, .val (.long q2), .second, .val (.int p3), .val (.int p4), .val (.int zn), .val (.int zp), .val (.ref b4), .val (.double (fmid (Int32.ofNat ix22))), .second, .val (.int (((zp * zn) + (99 : Int32)) / (100 : Int32))), .val (.double (fkth (fmidl q0) (fmidl z1) (fmidl q2) zn (((zp * zn) + (99 : Int32)) / (100 : Int32)))), .second] []))
      refine own_go (fun _ k => XS.iconst X26.here hx rfl (hb hby at_133) k) ?_
      show own_Ends _ _ _ _ _ _ _ (T26.setTop (mkF m 134 #[.val (.long q0), .second, .val (.long z1), .second, .val (.long q2), .second, .val (.int p3), .val (.int p4), .val (.int zn), .val (.int zp), .val (.ref b4), .val (.double (fmid (Int32.ofNat ix22))), .second, .val (.int (((zp * zn) + (99 : Int32)) / (100 : Int32))), .val (.double (fkth (fmidl q0) (fmidl z1) (fmidl q2) zn (((zp * zn) + (99 : Int32)) / (100 : Int32)))), .second] [(.int (1 : Int32))]))
      refine own_go (fun _ k => XS.goto X26.here hx rfl (pc0 := 134) (pc' := 138) rfl (hb hby at_134) (by decide) (by decide) k) ?_
      show own_Ends _ _ _ _ _ _ _ (T26.setTop (mkF m 138 #[.val (.long q0), .second, .val (.long z1), .second, .val (.long q2), .second, .val (.int p3), .val (.int p4), .val (.int zn), .val (.int zp), .val (.ref b4), .val (.double (fmid (Int32.ofNat ix22))), .second, .val (.int (((zp * zn) + (99 : Int32)) / (100 : Int32))), .val (.double (fkth (fmidl q0) (fmidl z1) (fmidl q2) zn (((zp * zn) + (99 : Int32)) / (100 : Int32)))), .second] [(.int (1 : Int32))]))
      exact own_retN X26 hx hlk (t := .boolean) Bd.returns (by simp) (hb hby at_138) (by decide) (by decide) ⟨rfl, N26⟩
    · refine own_go (fun _ k => XS.icmpNo X19.here hx rfl (hb hby at_68) rfl (flt hc21).1 k) ?_
      show own_Ends _ _ _ _ _ _ _ (T19.setTop (mkF m 71 #[.val (.long q0), .second, .val (.long z1), .second, .val (.long q2), .second, .val (.int p3), .val (.int p4), .val (.int zn), .val (.int zp), .val (.ref b4), .unset, .unset, .unset, .unset, .unset] []))
      refine own_go (fun _ k => XS.aload X19.here hx rfl (hb hby at_71) rfl rfl k) ?_
      show own_Ends _ _ _ _ _ _ _ (T19.setTop (mkF m 73 #[.val (.long q0), .second, .val (.long z1), .second, .val (.long q2), .second, .val (.int p3), .val (.int p4), .val (.int zn), .val (.int zp), .val (.ref b4), .unset, .unset, .unset, .unset, .unset] [(.ref b4)]))
      refine own_go (fun _ k => XS.lload X19.here hx rfl (hb hby at_73) rfl k) ?_
      show own_Ends _ _ _ _ _ _ _ (T19.setTop (mkF m 75 #[.val (.long q0), .second, .val (.long z1), .second, .val (.long q2), .second, .val (.int p3), .val (.int p4), .val (.int zn), .val (.int zp), .val (.ref b4), .unset, .unset, .unset, .unset, .unset] [(.long q2), (.ref b4)]))
      obtain ⟨_, _, ⟨T27, L27, k27, n27⟩, -, X27, ⟨Lc27, hQ27, l27, y27, z27⟩, st27⟩ := Jvm.LawKit.callS X19 hx (y := (⟨"com/example/rate_keeper/ratekeeper/server/bench/LatencyHistogramPercentileMicrosPinLaw", "nanos", "(J)J"⟩ : MethodName)) hown (mvT hZ (hw _ (List.mem_of_getElem? (i := 14) rfl))) (mvT hZ (hw _ (List.mem_of_getElem? (i := 15) rfl))) (mvT hZ (hw _ (List.mem_of_getElem? (i := 16) rfl))) (mvT hZ (hw _ (List.mem_of_getElem? (i := 17) rfl))) (by decide) (backOf (W := 1) (rmnan l Z ar hw [] q2 T19.heap n0 F20) hZ (hw _ (List.mem_of_getElem? (i := 17) rfl)) (hw _ (List.mem_of_getElem? (i := 16) rfl)) (by decide) (by decide)) (g := (mkF m 75 #[.val (.long q0), .second, .val (.long z1), .second, .val (.long q2), .second, .val (.int p3), .val (.int p4), .val (.int zn), .val (.int zp), .val (.ref b4), .unset, .unset, .unset, .unset, .unset] [(.long q2), (.ref b4)])) rfl (by rw [hml]; rfl) (argsL := [(.long q2)]) (rest := [(.ref b4)]) (lenOf pd0_1 rfl) rfl (by show 2 * 0 + _ ≤ _; exact Nat.le_of_eq rfl) (hb hby at_75) (fun _ _ => ⟨rfl, rfl, (by decide : 2 + 0 ≤ _), (by decide : 55297 + 0 ≤ _)⟩)
      dsimp only [Pt.U, Pt.locs, Pt.cells, Pt.slots] at X27 l27 y27 z27 st27 hQ27
      subst l27 y27 z27
      obtain ⟨rfl, N27q, eq27⟩ := hQ27
      have e27 : T27.heap = T19.heap := eq27
      have N27 := Fr.app N19 N27q
      refine own_go (fun _ k => st27 _ k) ?_
      show own_Ends _ _ _ _ _ _ _ (T27.setTop (mkF m 78 #[.val (.long q0), .second, .val (.long z1), .second, .val (.long q2), .second, .val (.int p3), .val (.int p4), .val (.int zn), .val (.int zp), .val (.ref b4), .unset, .unset, .unset, .unset, .unset] [(.long (fnan q2)), (.ref b4)]))
      obtain ⟨cq28, kq28, q28a, q28b, q28c⟩ := isOf hZ e27 E19_0
      obtain ⟨_, _, ⟨T28, L28, k28, n28⟩, -, X28, ⟨Lc28, hQ28, l28, y28, z28⟩, st28⟩ := X27.virtualBack hx (y := (⟨"com/example/rate_keeper/ratekeeper/server/bench/LatencyHistogram", "record", "(J)V"⟩ : MethodName)) (z := (⟨"com/example/rate_keeper/ratekeeper/server/bench/LatencyHistogram", "record", "(J)V"⟩ : MethodName)) hown (mvT hZ (hw _ (List.mem_of_getElem? (i := 23) rfl))) (mvT hZ (hw _ (List.mem_of_getElem? (i := 24) rfl))) (notFace_of_selects (args := #[]) (mvT hZ (hw _ (List.mem_of_getElem? (i := 26) rfl)))) (mvT hZ (hw _ (List.mem_of_getElem? (i := 26) rfl))) (mvT hZ (hw _ (List.mem_of_getElem? (i := 25) rfl))) (by decide) (backOf (W := 0) (rmrec l Z ar hw [] b4 (fnan q2) bb7 (own_add (fnan z1) (own_add (fnan q0) (fun _ => (0 : Int64)))) T19.heap n0 F20 E19_0 F19_0 A19_0 g_bb7 ne7) hZ (hw _ (List.mem_of_getElem? (i := 27) rfl)) (hw _ (List.mem_of_getElem? (i := 3) rfl)) (by decide) (by decide)) q28a q28c (g := (mkF m 78 #[.val (.long q0), .second, .val (.long z1), .second, .val (.long q2), .second, .val (.int p3), .val (.int p4), .val (.int zn), .val (.int zp), .val (.ref b4), .unset, .unset, .unset, .unset, .unset] [(.long (fnan q2)), (.ref b4)])) rfl (by rw [hml]; rfl) (Steps.refl _) (argsL := [(.long (fnan q2))]) (rest := []) (lenOf pd0_2 rfl) rfl (by show 2 * 0 + _ ≤ _; exact Nat.le_of_eq rfl) (hb hby at_78) (fun _ _ => ⟨rfl, e27, (by decide : 2 + 0 ≤ _), (by decide : 55297 + 0 ≤ _)⟩)
      dsimp only [Pt.U, Pt.locs, Pt.cells, Pt.slots] at X28 l28 y28 z28 st28 hQ28
      subst l28 y28 z28
      obtain ⟨rfl, N28q, K28, E28_0, F28_0, A28_0⟩ := hQ28
      have N28 := Fr.app N27 N28q
      have F29 : Old Z n0 T28.heap := (F20.keep K28 (allS g_bb7 all0))
      refine own_go (fun _ k => st28.trans k) ?_
      show own_Ends _ _ _ _ _ _ _ (T28.setTop (mkF m 81 #[.val (.long q0), .second, .val (.long z1), .second, .val (.long q2), .second, .val (.int p3), .val (.int p4), .val (.int zn), .val (.int zp), .val (.ref b4), .unset, .unset, .unset, .unset, .unset] []))
      refine own_go (fun _ k => XS.aload X28.here hx rfl (hb hby at_81) rfl rfl k) ?_
      show own_Ends _ _ _ _ _ _ _ (T28.setTop (mkF m 83 #[.val (.long q0), .second, .val (.long z1), .second, .val (.long q2), .second, .val (.int p3), .val (.int p4), .val (.int zn), .val (.int zp), .val (.ref b4), .unset, .unset, .unset, .unset, .unset] [(.ref b4)]))
      refine own_go (fun _ k => XS.iload X28.here hx rfl (hb hby at_83) rfl k) ?_
      show own_Ends _ _ _ _ _ _ _ (T28.setTop (mkF m 85 #[.val (.long q0), .second, .val (.long z1), .second, .val (.long q2), .second, .val (.int p3), .val (.int p4), .val (.int zn), .val (.int zp), .val (.ref b4), .unset, .unset, .unset, .unset, .unset] [(.int zp), (.ref b4)]))
      obtain ⟨cq30, kq30, q30a, q30b, q30c⟩ := isOf hZ rfl E28_0
      obtain ⟨_, _, ⟨T30, L30, k30, n30⟩, -, X30, ⟨Lc30, hQ30, l30, y30, z30⟩, st30⟩ := X28.virtualBack hx (y := (⟨"com/example/rate_keeper/ratekeeper/server/bench/LatencyHistogram", "percentileMicros", "(I)D"⟩ : MethodName)) (z := (⟨"com/example/rate_keeper/ratekeeper/server/bench/LatencyHistogram", "percentileMicros", "(I)D"⟩ : MethodName)) hown (mvT hZ (hw _ (List.mem_of_getElem? (i := 50) rfl))) (mvT hZ (hw _ (List.mem_of_getElem? (i := 51) rfl))) (notFace_of_selects (args := #[]) (mvT hZ (hw _ (List.mem_of_getElem? (i := 53) rfl)))) (mvT hZ (hw _ (List.mem_of_getElem? (i := 53) rfl))) (mvT hZ (hw _ (List.mem_of_getElem? (i := 52) rfl))) (by decide) (backOf (W := 0) (rmpct l Z ar hw [] b4 zp bb7 (own_add (fnan q2) (own_add (fnan z1) (own_add (fnan q0) (fun _ => (0 : Int64))))) T28.heap n0 F29 E28_0 F28_0 A28_0 (own_n3 _ _ _ ) (own_l3 hzp)) hZ (hw _ (List.mem_of_getElem? (i := 54) rfl)) (hw _ (List.mem_of_getElem? (i := 3) rfl)) (by decide) (by decide)) q30a q30c (g := (mkF m 85 #[.val (.long q0), .second, .val (.long z1), .second, .val (.long q2), .second, .val (.int p3), .val (.int p4), .val (.int zn), .val (.int zp), .val (.ref b4), .unset, .unset, .unset, .unset, .unset] [(.int zp), (.ref b4)])) rfl (by rw [hml]; rfl) (Steps.refl _) (argsL := [(.int zp)]) (rest := []) (lenOf pd0_3 rfl) rfl (by show 2 * 0 + _ ≤ _; exact Nat.le_of_eq rfl) (hb hby at_85) (fun _ _ => ⟨rfl, rfl, (by decide : 2 + 0 ≤ _), (by decide : 55297 + 0 ≤ _)⟩)
      dsimp only [Pt.U, Pt.locs, Pt.cells, Pt.slots] at X30 l30 y30 z30 st30 hQ30
      subst l30 y30 z30
      obtain ⟨ix30, rfl, hr30, N30q, eq30⟩ := hQ30
      have e30 : T30.heap = T28.heap := eq30
      have N30 := Fr.app N28 N30q
      refine own_go (fun _ k => st30.trans k) ?_
      show own_Ends _ _ _ _ _ _ _ (T30.setTop (mkF m 88 #[.val (.long q0), .second, .val (.long z1), .second, .val (.long q2), .second, .val (.int p3), .val (.int p4), .val (.int zn), .val (.int zp), .val (.ref b4), .unset, .unset, .unset, .unset, .unset] [(.double (fmid (Int32.ofNat ix30)))]))
      refine own_go (fun _ k => XS.dstore X30.here hx rfl (hb hby at_88) rfl (l' := #[.val (.long q0), .second, .val (.long z1), .second, .val (.long q2), .second, .val (.int p3), .val (.int p4), .val (.int zn), .val (.int zp), .val (.ref b4), .val (.double (fmid (Int32.ofNat ix30))), .second, .unset, .unset, .unset]) rfl k) ?_
      show own_Ends _ _ _ _ _ _ _ (T30.setTop (mkF m 90 #[.val (.long q0), .second, .val (.long z1), .second, .val (.long q2), .second, .val (.int p3), .val (.int p4), .val (.int zn), .val (.int zp), .val (.ref b4), .val (.double (fmid (Int32.ofNat ix30))), .second, .unset, .unset, .unset] []))
      refine own_go (fun _ k => XS.iload X30.here hx rfl (hb hby at_90) rfl k) ?_
      show own_Ends _ _ _ _ _ _ _ (T30.setTop (mkF m 92 #[.val (.long q0), .second, .val (.long z1), .second, .val (.long q2), .second, .val (.int p3), .val (.int p4), .val (.int zn), .val (.int zp), .val (.ref b4), .val (.double (fmid (Int32.ofNat ix30))), .second, .unset, .unset, .unset] [(.int zp)]))
      refine own_go (fun _ k => XS.iload X30.here hx rfl (hb hby at_92) rfl k) ?_
      show own_Ends _ _ _ _ _ _ _ (T30.setTop (mkF m 94 #[.val (.long q0), .second, .val (.long z1), .second, .val (.long q2), .second, .val (.int p3), .val (.int p4), .val (.int zn), .val (.int zp), .val (.ref b4), .val (.double (fmid (Int32.ofNat ix30))), .second, .unset, .unset, .unset] [(.int zn), (.int zp)]))
      refine own_go (fun _ k => XS.imul X30.here hx rfl (hb hby at_94) rfl k) ?_
      show own_Ends _ _ _ _ _ _ _ (T30.setTop (mkF m 95 #[.val (.long q0), .second, .val (.long z1), .second, .val (.long q2), .second, .val (.int p3), .val (.int p4), .val (.int zn), .val (.int zp), .val (.ref b4), .val (.double (fmid (Int32.ofNat ix30))), .second, .unset, .unset, .unset] [(.int (zp * zn))]))
      refine own_go (fun _ k => XS.bipush X30.here hx rfl (hb hby at_95) k) ?_
      show own_Ends _ _ _ _ _ _ _ (T30.setTop (mkF m 97 #[.val (.long q0), .second, .val (.long z1), .second, .val (.long q2), .second, .val (.int p3), .val (.int p4), .val (.int zn), .val (.int zp), .val (.ref b4), .val (.double (fmid (Int32.ofNat ix30))), .second, .unset, .unset, .unset] [(.int (99 : Int32)), (.int (zp * zn))]))
      refine own_go (fun _ k => XS.iadd X30.here hx rfl (hb hby at_97) rfl k) ?_
      show own_Ends _ _ _ _ _ _ _ (T30.setTop (mkF m 98 #[.val (.long q0), .second, .val (.long z1), .second, .val (.long q2), .second, .val (.int p3), .val (.int p4), .val (.int zn), .val (.int zp), .val (.ref b4), .val (.double (fmid (Int32.ofNat ix30))), .second, .unset, .unset, .unset] [(.int ((zp * zn) + (99 : Int32)))]))
      refine own_go (fun _ k => XS.bipush X30.here hx rfl (hb hby at_98) k) ?_
      show own_Ends _ _ _ _ _ _ _ (T30.setTop (mkF m 100 #[.val (.long q0), .second, .val (.long z1), .second, .val (.long q2), .second, .val (.int p3), .val (.int p4), .val (.int zn), .val (.int zp), .val (.ref b4), .val (.double (fmid (Int32.ofNat ix30))), .second, .unset, .unset, .unset] [(.int (100 : Int32)), (.int ((zp * zn) + (99 : Int32)))]))
      refine own_go (fun _ k => XS.idiv X30.here hx rfl (hb hby at_100) rfl (by decide) k) ?_
      show own_Ends _ _ _ _ _ _ _ (T30.setTop (mkF m 101 #[.val (.long q0), .second, .val (.long z1), .second, .val (.long q2), .second, .val (.int p3), .val (.int p4), .val (.int zn), .val (.int zp), .val (.ref b4), .val (.double (fmid (Int32.ofNat ix30))), .second, .unset, .unset, .unset] [(.int (((zp * zn) + (99 : Int32)) / (100 : Int32)))]))
      refine own_go (fun _ k => XS.istore X30.here hx rfl (hb hby at_101) rfl (l' := #[.val (.long q0), .second, .val (.long z1), .second, .val (.long q2), .second, .val (.int p3), .val (.int p4), .val (.int zn), .val (.int zp), .val (.ref b4), .val (.double (fmid (Int32.ofNat ix30))), .second, .val (.int (((zp * zn) + (99 : Int32)) / (100 : Int32))), .unset, .unset]) rfl k) ?_
      show own_Ends _ _ _ _ _ _ _ (T30.setTop (mkF m 103 #[.val (.long q0), .second, .val (.long z1), .second, .val (.long q2), .second, .val (.int p3), .val (.int p4), .val (.int zn), .val (.int zp), .val (.ref b4), .val (.double (fmid (Int32.ofNat ix30))), .second, .val (.int (((zp * zn) + (99 : Int32)) / (100 : Int32))), .unset, .unset] []))
      refine own_go (fun _ k => XS.lloadN X30.here hx rfl (hb hby at_103) rfl k) ?_
      show own_Ends _ _ _ _ _ _ _ (T30.setTop (mkF m 104 #[.val (.long q0), .second, .val (.long z1), .second, .val (.long q2), .second, .val (.int p3), .val (.int p4), .val (.int zn), .val (.int zp), .val (.ref b4), .val (.double (fmid (Int32.ofNat ix30))), .second, .val (.int (((zp * zn) + (99 : Int32)) / (100 : Int32))), .unset, .unset] [(.long q0)]))
      obtain ⟨_, _, ⟨T31, L31, k31, n31⟩, -, X31, ⟨Lc31, hQ31, l31, y31, z31⟩, st31⟩ := Jvm.LawKit.callS X30 hx (y := (⟨"com/example/rate_keeper/ratekeeper/server/bench/LatencyHistogramPercentileMicrosPinLaw", "mid", "(J)D"⟩ : MethodName)) hown (mvT hZ (hw _ (List.mem_of_getElem? (i := 66) rfl))) (mvT hZ (hw _ (List.mem_of_getElem? (i := 67) rfl))) (mvT hZ (hw _ (List.mem_of_getElem? (i := 16) rfl))) (mvT hZ (hw _ (List.mem_of_getElem? (i := 68) rfl))) (by decide) (backOf (W := 0) (rmmidl l Z ar hw [] q0 T28.heap n0 F29) hZ (hw _ (List.mem_of_getElem? (i := 68) rfl)) (hw _ (List.mem_of_getElem? (i := 16) rfl)) (by decide) (by decide)) (g := (mkF m 104 #[.val (.long q0), .second, .val (.long z1), .second, .val (.long q2), .second, .val (.int p3), .val (.int p4), .val (.int zn), .val (.int zp), .val (.ref b4), .val (.double (fmid (Int32.ofNat ix30))), .second, .val (.int (((zp * zn) + (99 : Int32)) / (100 : Int32))), .unset, .unset] [(.long q0)])) rfl (by rw [hml]; rfl) (argsL := [(.long q0)]) (rest := []) (lenOf pd0_4 rfl) rfl (by show 2 * 0 + _ ≤ _; exact Nat.le_of_eq rfl) (hb hby at_104) (fun _ _ => ⟨rfl, e30, (by decide : 2 + 0 ≤ _), (by decide : 55297 + 0 ≤ _)⟩)
      dsimp only [Pt.U, Pt.locs, Pt.cells, Pt.slots] at X31 l31 y31 z31 st31 hQ31
      subst l31 y31 z31
      obtain ⟨rfl, N31q, eq31⟩ := hQ31
      have e31 : T31.heap = T28.heap := eq31
      have N31 := Fr.app N30 N31q
      refine own_go (fun _ k => st31 _ k) ?_
      show own_Ends _ _ _ _ _ _ _ (T31.setTop (mkF m 107 #[.val (.long q0), .second, .val (.long z1), .second, .val (.long q2), .second, .val (.int p3), .val (.int p4), .val (.int zn), .val (.int zp), .val (.ref b4), .val (.double (fmid (Int32.ofNat ix30))), .second, .val (.int (((zp * zn) + (99 : Int32)) / (100 : Int32))), .unset, .unset] [(.double (fmidl q0))]))
      refine own_go (fun _ k => XS.lloadN X31.here hx rfl (hb hby at_107) rfl k) ?_
      show own_Ends _ _ _ _ _ _ _ (T31.setTop (mkF m 108 #[.val (.long q0), .second, .val (.long z1), .second, .val (.long q2), .second, .val (.int p3), .val (.int p4), .val (.int zn), .val (.int zp), .val (.ref b4), .val (.double (fmid (Int32.ofNat ix30))), .second, .val (.int (((zp * zn) + (99 : Int32)) / (100 : Int32))), .unset, .unset] [(.long z1), (.double (fmidl q0))]))
      obtain ⟨_, _, ⟨T32, L32, k32, n32⟩, -, X32, ⟨Lc32, hQ32, l32, y32, z32⟩, st32⟩ := Jvm.LawKit.callS X31 hx (y := (⟨"com/example/rate_keeper/ratekeeper/server/bench/LatencyHistogramPercentileMicrosPinLaw", "mid", "(J)D"⟩ : MethodName)) hown (mvT hZ (hw _ (List.mem_of_getElem? (i := 66) rfl))) (mvT hZ (hw _ (List.mem_of_getElem? (i := 67) rfl))) (mvT hZ (hw _ (List.mem_of_getElem? (i := 16) rfl))) (mvT hZ (hw _ (List.mem_of_getElem? (i := 68) rfl))) (by decide) (backOf (W := 2) (rmmidl l Z ar hw [] z1 T28.heap n0 F29) hZ (hw _ (List.mem_of_getElem? (i := 68) rfl)) (hw _ (List.mem_of_getElem? (i := 16) rfl)) (by decide) (by decide)) (g := (mkF m 108 #[.val (.long q0), .second, .val (.long z1), .second, .val (.long q2), .second, .val (.int p3), .val (.int p4), .val (.int zn), .val (.int zp), .val (.ref b4), .val (.double (fmid (Int32.ofNat ix30))), .second, .val (.int (((zp * zn) + (99 : Int32)) / (100 : Int32))), .unset, .unset] [(.long z1), (.double (fmidl q0))])) rfl (by rw [hml]; rfl) (argsL := [(.long z1)]) (rest := [(.double (fmidl q0))]) (lenOf pd0_4 rfl) rfl (by show 2 * 0 + _ ≤ _; exact Nat.le_of_eq rfl) (hb hby at_108) (fun _ _ => ⟨rfl, e31, (by decide : 2 + 0 ≤ _), (by decide : 55297 + 0 ≤ _)⟩)
      dsimp only [Pt.U, Pt.locs, Pt.cells, Pt.slots] at X32 l32 y32 z32 st32 hQ32
      subst l32 y32 z32
      obtain ⟨rfl, N32q, eq32⟩ := hQ32
      have e32 : T32.heap = T28.heap := eq32
      have N32 := Fr.app N31 N32q
      refine own_go (fun _ k => st32 _ k) ?_
      show own_Ends _ _ _ _ _ _ _ (T32.setTop (mkF m 111 #[.val (.long q0), .second, .val (.long z1), .second, .val (.long q2), .second, .val (.int p3), .val (.int p4), .val (.int zn), .val (.int zp), .val (.ref b4), .val (.double (fmid (Int32.ofNat ix30))), .second, .val (.int (((zp * zn) + (99 : Int32)) / (100 : Int32))), .unset, .unset] [(.double (fmidl z1)), (.double (fmidl q0))]))
      refine own_go (fun _ k => XS.lload X32.here hx rfl (hb hby at_111) rfl k) ?_
      show own_Ends _ _ _ _ _ _ _ (T32.setTop (mkF m 113 #[.val (.long q0), .second, .val (.long z1), .second, .val (.long q2), .second, .val (.int p3), .val (.int p4), .val (.int zn), .val (.int zp), .val (.ref b4), .val (.double (fmid (Int32.ofNat ix30))), .second, .val (.int (((zp * zn) + (99 : Int32)) / (100 : Int32))), .unset, .unset] [(.long q2), (.double (fmidl z1)), (.double (fmidl q0))]))
      obtain ⟨_, _, ⟨T33, L33, k33, n33⟩, -, X33, ⟨Lc33, hQ33, l33, y33, z33⟩, st33⟩ := Jvm.LawKit.callS X32 hx (y := (⟨"com/example/rate_keeper/ratekeeper/server/bench/LatencyHistogramPercentileMicrosPinLaw", "mid", "(J)D"⟩ : MethodName)) hown (mvT hZ (hw _ (List.mem_of_getElem? (i := 66) rfl))) (mvT hZ (hw _ (List.mem_of_getElem? (i := 67) rfl))) (mvT hZ (hw _ (List.mem_of_getElem? (i := 16) rfl))) (mvT hZ (hw _ (List.mem_of_getElem? (i := 68) rfl))) (by decide) (backOf (W := 4) (rmmidl l Z ar hw [] q2 T28.heap n0 F29) hZ (hw _ (List.mem_of_getElem? (i := 68) rfl)) (hw _ (List.mem_of_getElem? (i := 16) rfl)) (by decide) (by decide)) (g := (mkF m 113 #[.val (.long q0), .second, .val (.long z1), .second, .val (.long q2), .second, .val (.int p3), .val (.int p4), .val (.int zn), .val (.int zp), .val (.ref b4), .val (.double (fmid (Int32.ofNat ix30))), .second, .val (.int (((zp * zn) + (99 : Int32)) / (100 : Int32))), .unset, .unset] [(.long q2), (.double (fmidl z1)), (.double (fmidl q0))])) rfl (by rw [hml]; rfl) (argsL := [(.long q2)]) (rest := [(.double (fmidl z1)), (.double (fmidl q0))]) (lenOf pd0_4 rfl) rfl (by show 2 * 0 + _ ≤ _; exact Nat.le_of_eq rfl) (hb hby at_113) (fun _ _ => ⟨rfl, e32, (by decide : 2 + 0 ≤ _), (by decide : 55297 + 0 ≤ _)⟩)
      dsimp only [Pt.U, Pt.locs, Pt.cells, Pt.slots] at X33 l33 y33 z33 st33 hQ33
      subst l33 y33 z33
      obtain ⟨rfl, N33q, eq33⟩ := hQ33
      have e33 : T33.heap = T28.heap := eq33
      have N33 := Fr.app N32 N33q
      refine own_go (fun _ k => st33 _ k) ?_
      show own_Ends _ _ _ _ _ _ _ (T33.setTop (mkF m 116 #[.val (.long q0), .second, .val (.long z1), .second, .val (.long q2), .second, .val (.int p3), .val (.int p4), .val (.int zn), .val (.int zp), .val (.ref b4), .val (.double (fmid (Int32.ofNat ix30))), .second, .val (.int (((zp * zn) + (99 : Int32)) / (100 : Int32))), .unset, .unset] [(.double (fmidl q2)), (.double (fmidl z1)), (.double (fmidl q0))]))
      refine own_go (fun _ k => XS.iload X33.here hx rfl (hb hby at_116) rfl k) ?_
      show own_Ends _ _ _ _ _ _ _ (T33.setTop (mkF m 118 #[.val (.long q0), .second, .val (.long z1), .second, .val (.long q2), .second, .val (.int p3), .val (.int p4), .val (.int zn), .val (.int zp), .val (.ref b4), .val (.double (fmid (Int32.ofNat ix30))), .second, .val (.int (((zp * zn) + (99 : Int32)) / (100 : Int32))), .unset, .unset] [(.int zn), (.double (fmidl q2)), (.double (fmidl z1)), (.double (fmidl q0))]))
      refine own_go (fun _ k => XS.iload X33.here hx rfl (hb hby at_118) rfl k) ?_
      show own_Ends _ _ _ _ _ _ _ (T33.setTop (mkF m 120 #[.val (.long q0), .second, .val (.long z1), .second, .val (.long q2), .second, .val (.int p3), .val (.int p4), .val (.int zn), .val (.int zp), .val (.ref b4), .val (.double (fmid (Int32.ofNat ix30))), .second, .val (.int (((zp * zn) + (99 : Int32)) / (100 : Int32))), .unset, .unset] [(.int (((zp * zn) + (99 : Int32)) / (100 : Int32))), (.int zn), (.double (fmidl q2)), (.double (fmidl z1)), (.double (fmidl q0))]))
      obtain ⟨_, _, ⟨T34, L34, k34, n34⟩, -, X34, ⟨Lc34, hQ34, l34, y34, z34⟩, st34⟩ := Jvm.LawKit.callS X33 hx (y := (⟨"com/example/rate_keeper/ratekeeper/server/bench/LatencyHistogramPercentileMicrosPinLaw", "kth", "(DDDII)D"⟩ : MethodName)) hown (mvT hZ (hw _ (List.mem_of_getElem? (i := 71) rfl))) (mvT hZ (hw _ (List.mem_of_getElem? (i := 72) rfl))) (mvT hZ (hw _ (List.mem_of_getElem? (i := 16) rfl))) (mvT hZ (hw _ (List.mem_of_getElem? (i := 73) rfl))) (by decide) (backOf (W := 0) (rmkth l Z ar hw [] (fmidl q0) (fmidl z1) (fmidl q2) zn (((zp * zn) + (99 : Int32)) / (100 : Int32)) T28.heap n0 F29) hZ (hw _ (List.mem_of_getElem? (i := 73) rfl)) (hw _ (List.mem_of_getElem? (i := 16) rfl)) (by decide) (by decide)) (g := (mkF m 120 #[.val (.long q0), .second, .val (.long z1), .second, .val (.long q2), .second, .val (.int p3), .val (.int p4), .val (.int zn), .val (.int zp), .val (.ref b4), .val (.double (fmid (Int32.ofNat ix30))), .second, .val (.int (((zp * zn) + (99 : Int32)) / (100 : Int32))), .unset, .unset] [(.int (((zp * zn) + (99 : Int32)) / (100 : Int32))), (.int zn), (.double (fmidl q2)), (.double (fmidl z1)), (.double (fmidl q0))])) rfl (by rw [hml]; rfl) (argsL := [(.double (fmidl q0)), (.double (fmidl z1)), (.double (fmidl q2)), (.int zn), (.int (((zp * zn) + (99 : Int32)) / (100 : Int32)))]) (rest := []) (lenOf pd0_5 rfl) rfl (by show 2 * 0 + _ ≤ _; exact Nat.le_of_eq rfl) (hb hby at_120) (fun _ _ => ⟨rfl, e33, (by decide : 2 + 0 ≤ _), (by decide : 55297 + 0 ≤ _)⟩)
      dsimp only [Pt.U, Pt.locs, Pt.cells, Pt.slots] at X34 l34 y34 z34 st34 hQ34
      subst l34 y34 z34
      obtain ⟨rfl, N34q, eq34⟩ := hQ34
      have e34 : T34.heap = T28.heap := eq34
      have N34 := Fr.app N33 N34q
      refine own_go (fun _ k => st34 _ k) ?_
      show own_Ends _ _ _ _ _ _ _ (T34.setTop (mkF m 123 #[.val (.long q0), .second, .val (.long z1), .second, .val (.long q2), .second, .val (.int p3), .val (.int p4), .val (.int zn), .val (.int zp), .val (.ref b4), .val (.double (fmid (Int32.ofNat ix30))), .second, .val (.int (((zp * zn) + (99 : Int32)) / (100 : Int32))), .unset, .unset] [(.double (fkth (fmidl q0) (fmidl z1) (fmidl q2) zn (((zp * zn) + (99 : Int32)) / (100 : Int32))))]))
      refine own_go (fun _ k => XS.dstore X34.here hx rfl (hb hby at_123) rfl (l' := #[.val (.long q0), .second, .val (.long z1), .second, .val (.long q2), .second, .val (.int p3), .val (.int p4), .val (.int zn), .val (.int zp), .val (.ref b4), .val (.double (fmid (Int32.ofNat ix30))), .second, .val (.int (((zp * zn) + (99 : Int32)) / (100 : Int32))), .val (.double (fkth (fmidl q0) (fmidl z1) (fmidl q2) zn (((zp * zn) + (99 : Int32)) / (100 : Int32)))), .second]) rfl k) ?_
      show own_Ends _ _ _ _ _ _ _ (T34.setTop (mkF m 125 #[.val (.long q0), .second, .val (.long z1), .second, .val (.long q2), .second, .val (.int p3), .val (.int p4), .val (.int zn), .val (.int zp), .val (.ref b4), .val (.double (fmid (Int32.ofNat ix30))), .second, .val (.int (((zp * zn) + (99 : Int32)) / (100 : Int32))), .val (.double (fkth (fmidl q0) (fmidl z1) (fmidl q2) zn (((zp * zn) + (99 : Int32)) / (100 : Int32)))), .second] []))
      refine own_go (fun _ k => XS.dload X34.here hx rfl (hb hby at_125) rfl k) ?_
      show own_Ends _ _ _ _ _ _ _ (T34.setTop (mkF m 127 #[.val (.long q0), .second, .val (.long z1), .second, .val (.long q2), .second, .val (.int p3), .val (.int p4), .val (.int zn), .val (.int zp), .val (.ref b4), .val (.double (fmid (Int32.ofNat ix30))), .second, .val (.int (((zp * zn) + (99 : Int32)) / (100 : Int32))), .val (.double (fkth (fmidl q0) (fmidl z1) (fmidl q2) zn (((zp * zn) + (99 : Int32)) / (100 : Int32)))), .second] [(.double (fmid (Int32.ofNat ix30)))]))
      refine own_go (fun _ k => XS.dload X34.here hx rfl (hb hby at_127) rfl k) ?_
      show own_Ends _ _ _ _ _ _ _ (T34.setTop (mkF m 129 #[.val (.long q0), .second, .val (.long z1), .second, .val (.long q2), .second, .val (.int p3), .val (.int p4), .val (.int zn), .val (.int zp), .val (.ref b4), .val (.double (fmid (Int32.ofNat ix30))), .second, .val (.int (((zp * zn) + (99 : Int32)) / (100 : Int32))), .val (.double (fkth (fmidl q0) (fmidl z1) (fmidl q2) zn (((zp * zn) + (99 : Int32)) / (100 : Int32)))), .second] [(.double (fkth (fmidl q0) (fmidl z1) (fmidl q2) zn (((zp * zn) + (99 : Int32)) / (100 : Int32)))), (.double (fmid (Int32.ofNat ix30)))]))
      refine own_go (fun _ k => XS.dcmpS X34.here hx rfl (hb hby at_129) rfl rfl k) ?_
      show own_Ends _ _ _ _ _ _ _ (T34.setTop (mkF m 130 #[.val (.long q0), .second, .val (.long z1), .second, .val (.long q2), .second, .val (.int p3), .val (.int p4), .val (.int zn), .val (.int zp), .val (.ref b4), .val (.double (fmid (Int32.ofNat ix30))), .second, .val (.int (((zp * zn) + (99 : Int32)) / (100 : Int32))), .val (.double (fkth (fmidl q0) (fmidl z1) (fmidl q2) zn (((zp * zn) + (99 : Int32)) / (100 : Int32)))), .second] [(.int (cmpValue (FP.dcmp (fmid (Int32.ofNat ix30)) (fkth (fmidl q0) (fmidl z1) (fmidl q2) zn (((zp * zn) + (99 : Int32)) / (100 : Int32)))) .l))]))
      refine own_go (fun _ k => XS.ifNo X34.here hx rfl (hb hby at_130) rfl ((if0 _ _).trans (teq (by rw [own_z3 hzn hc12 hc21]; exact own_kth3 hzp hr30)).2) k) ?_
      show own_Ends _ _ _ _ _ _ _ (T34.setTop (mkF m 133 #[.val (.long q0), .second, .val (.long z1), .second, .val (.long q2), .second, .val (.int p3), .val (.int p4), .val (.int zn), .val (.int zp), .val (.ref b4), .val (.double (fmid (Int32.ofNat ix30))), .second, .val (.int (((zp * zn) + (99 : Int32)) / (100 : Int32))), .val (.double (fkth (fmidl q0) (fmidl z1) (fmidl q2) zn (((zp * zn) + (99 : Int32)) / (100 : Int32)))), .second] []))
      refine own_go (fun _ k => XS.iconst X34.here hx rfl (hb hby at_133) k) ?_
      show own_Ends _ _ _ _ _ _ _ (T34.setTop (mkF m 134 #[.val (.long q0), .second, .val (.long z1), .second, .val (.long q2), .second, .val (.int p3), .val (.int p4), .val (.int zn), .val (.int zp), .val (.ref b4), .val (.double (fmid (Int32.ofNat ix30))), .second, .val (.int (((zp * zn) + (99 : Int32)) / (100 : Int32))), .val (.double (fkth (fmidl q0) (fmidl z1) (fmidl q2) zn (((zp * zn) + (99 : Int32)) / (100 : Int32)))), .second] [(.int (1 : Int32))]))
      refine own_go (fun _ k => XS.goto X34.here hx rfl (pc0 := 134) (pc' := 138) rfl (hb hby at_134) (by decide) (by decide) k) ?_
      show own_Ends _ _ _ _ _ _ _ (T34.setTop (mkF m 138 #[.val (.long q0), .second, .val (.long z1), .second, .val (.long q2), .second, .val (.int p3), .val (.int p4), .val (.int zn), .val (.int zp), .val (.ref b4), .val (.double (fmid (Int32.ofNat ix30))), .second, .val (.int (((zp * zn) + (99 : Int32)) / (100 : Int32))), .val (.double (fkth (fmidl q0) (fmidl z1) (fmidl q2) zn (((zp * zn) + (99 : Int32)) / (100 : Int32)))), .second] [(.int (1 : Int32))]))
      exact own_retN X34 hx hlk (t := .boolean) Bd.returns (by simp) (hb hby at_138) (by decide) (by decide) ⟨rfl, N34⟩
set_option maxRecDepth 65536 in
set_option maxHeartbeats 40000000 in
theorem comes_1 {Post : Tables → Env → Array Value → State → Outcome → State → Prop} (hpost : ∀ tb e args s v u, (limb_1_1.after args s (.returned v) u = true ∧ limb_1_2.after args s (.returned v) u = true ∧ True) → FrameEnd s (.returned v) u (Jvm.fieldLocs frame_1_writes args s ++ Jvm.arrayLocs frame_1_arrays args s ++ Jvm.staticLocs frame_1_statics s) 16 110720 → Post tb e args s (.returned v) u) :
    ArmFor flags0 classFile x code maxLocals ret World_1 tables_1 room_1 Calls_1 rest_1 Pre_1 Post := by
  intro l hfl _ _ p e ha hc hk s m args below hf hA hF happ hP
  obtain ⟨hcalls, hrest, hpre⟩ := hP
  obtain ⟨-, -, -, hnamed, -, -, -, hat⟩ := (Spec.applies_iff hf).mp happ
  obtain ⟨hg, hn⟩ := and_e (Cond.before_iff.mp (show (Jvm.Cond.and given_1 narrow_1).before args s = true from hpre))
  obtain ⟨hcount, hg0⟩ := and_e hg
  obtain ⟨ga0, hg1⟩ := and_e hg0
  obtain ⟨ga1, hg2⟩ := and_e hg1
  obtain ⟨ga2, hg3⟩ := and_e hg2
  obtain ⟨ga3, hg4⟩ := and_e hg3
  obtain ⟨w0, w1, w2, w3, w4, rfl⟩ : ∃ w0 w1 w2 w3 w4 : Value, args = #[w0, w1, w2, w3, w4] := by
    have hs : args.size = 5 := by simpa [Cond.value, given_1] using hcount
    obtain ⟨L⟩ := args
    match L, hs with
    | [w0, w1, w2, w3, w4], _ => exact ⟨w0, w1, w2, w3, w4, rfl⟩
  have hw := fun d (hd : d ∈ tables_1) => atoms_spec (ws := Jvm.Cond.code x code maxLocals ret :: tables_1) hat d (List.mem_cons_of_mem _ hd)
  have hfit : Fit s := fun {y c} hc i hi => by
    obtain ⟨ha, rfl⟩ := Array.getElem?_eq_some_iff.mp hc
    have q := List.all_eq_true.mp ((Array.all_eq_true_iff_forall_mem.mp hF) _ (Array.getElem_mem ha)) i (List.mem_range.mpr hi)
    simpa [Array.getElem?_eq_getElem hi] using q
  obtain ⟨q0, ei0⟩ := isL_v ga0
  obtain rfl : w0 = (.long q0) := Option.some.inj ei0
  obtain ⟨q1, ei1⟩ := isL_v ga1
  obtain rfl : w1 = (.long q1) := Option.some.inj ei1
  obtain ⟨q2, ei2⟩ := isL_v ga2
  obtain rfl : w2 = (.long q2) := Option.some.inj ei2
  obtain ⟨p3, ei3⟩ := is_v ga3
  obtain rfl : w3 = (.int p3) := Option.some.inj ei3
  obtain ⟨p4, ei4⟩ := is_v hg4
  obtain rfl : w4 = (.int p4) := Option.some.inj ei4
  obtain ⟨n, o, h1, h2, h3, _, L, rfl, ⟨rfl, N⟩, hq⟩ := rm0 l s _ hw tables_1 q0 q1 q2 p3 p4 s.heap s.heap.size (Old.start s) p e ha hc hk s m _ below hf ((Spec.applies_iff_loose hf).mp happ).1 ⟨rfl, State.Warmed39.refl s, rfl⟩ trivial
  refine ⟨n, _, h1, h2, h3, hpost _ _ _ _ _ _ ⟨Cond.after_iff.mpr rfl, Cond.after_iff.mpr (eq_i res_at (Term.int_eval (1)) rfl), trivial⟩ ⟨hq.1, hq.2.1, (hq.2.2.sift fun y hy => Or.inr (N y hy)).mono (by decide) (by decide)⟩⟩
theorem main_1_1 : Claimed_1_1 := comes_1 fun _ _ _ _ _ _ h hF => ⟨h.1, hF⟩
theorem main_1_2 : Claimed_1_2 := comes_1 fun _ _ _ _ _ _ h hF => ⟨h.2.1, hF⟩
end Jvm.Pilot.@@N@@
namespace Jvm.Pilot.@@N@@
open Jvm Jvm.ClassFile Sem Op Lib Jvm.Free Jvm.Stand Jvm.Pilot.@@N@@.Jvm.D
/-! MADE BY PROGRAM (witnessworld.py) out of the Statement's table words and the real class files: 18 classes; the members and pool entries that the words name. The judged class is class 1, her method 1. -/
namespace start1
open Jvm.ClassFile
def u (s : String) : CpInfo := .utf8 (stringToUtf16 s)
/-- a pool by its gaps: so many unusable entries, then the entry; so many at the end -/
def gap : Nat → List CpInfo → List CpInfo
  | 0, r => r
  | n + 1, r => .unusable :: gap n r
def poolList (es : List (Nat × CpInfo)) (last : Nat) : List CpInfo := es.foldr (fun e r => gap e.1 (e.2 :: r)) (gap last [])
def pool (es : List (Nat × CpInfo)) (last : Nat) : Array CpInfo := ⟨poolList es last⟩
def fileOf (pool : Array CpInfo) (this : Nat) (attrs : Array Attribute := #[]) (ms : Array MethodInfo := #[]) (fl : Nat := 33) (sup : Nat := 0) (ifs : Array Nat := #[]) (fds : Array FieldInfo := #[]) : ClassFile where
  minorVersion := 0
  majorVersion := 65
  constantPool := pool
  accessFlags := fl
  thisClass := this
  superClass := sup
  interfaces := ifs
  fields := fds
  methods := ms
  attributes := attrs
def plain (name : String) (sup : Option ClassId) : Class where
  name := name
  kind := .ordinary
  loader := none
  accessFlags := 33
  super := sup
  interfaces := #[]
  cf := none
  fields := #[]
  methods := #[]
  instanceTypes := #[]
  staticTypes := #[]
  resolved := #[]
  callSites := []
  init := .initialized
  statics := none
  mirror := none

def pool0 : Array CpInfo := pool [(5, u "<init>"), (0, u "()V"), (1, .class_ 10), (1, u "java/lang/Object")] 113

def k0c0 : Code := { maxStack := 0, maxLocals := 1, code := object_method_1_code, exceptionTable := #[], attributes := #[] }
def k0m0 : Method := { name := "<init>", desc := "()V", sig := { parameters := [], returnType := none }, accessFlags := 1, code := some k0c0 }
/-- java/lang/Object -/
def k0 : Class := { plain "java/lang/Object" none with
  accessFlags := 33
  interfaces := #[]
  cf := some (fileOf pool0 8 #[] #[{ accessFlags := 1, nameIndex := 5, descriptorIndex := 6, attributes := #[] }] 33 0 #[] #[])
  fields := #[]
  methods := #[k0m0]
  instanceTypes := #[]
  staticTypes := #[]
  resolved := Array.replicate 124 none
  statics := none }

def pool1 : Array CpInfo := pool [(2, .class_ 4), (0, .nameAndType 5 6), (0, u "java/lang/Object"), (0, u "<init>"), (0, u "()V"), (0, .integer 2147483647), (0, .class_ 9), (0, u "com/example/rate_keeper/ratekeeper/server/bench/LatencyHistogram"), (0, .methodref 8 3), (0, .methodref 12 13), (0, .class_ 14), (0, .nameAndType 15 16), (0, u "com/example/rate_keeper/ratekeeper/server/bench/LatencyHistogramPercentileMicrosPinLaw"), (0, u "nanos"), (0, u "(J)J"), (0, .methodref 8 18), (0, .nameAndType 19 20), (0, u "record"), (0, u "(J)V"), (0, .methodref 8 22), (0, .nameAndType 23 24), (0, u "percentileMicros"), (0, u "(I)D"), (0, .methodref 12 26), (0, .nameAndType 27 28), (0, u "mid"), (0, u "(J)D"), (0, .methodref 12 30), (0, .nameAndType 31 32), (0, u "kth"), (0, u "(DDDII)D"), (0, .long 2047), (1, .long 31), (1, .long 1000), (1, .methodref 12 40), (0, .nameAndType 41 16), (0, u "micros"), (0, .double 4611686018427387904), (3, u "law"), (0, u "(JJJII)Z")] 3

def k1m0 : Method := { name := "<init>", desc := "()V", sig := { parameters := [], returnType := none }, accessFlags := 1, code := none }
def k1c1 : Code := { maxStack := 8, maxLocals := 16, code := code, exceptionTable := #[], attributes := #[] }
def k1m1 : Method := { name := "law", desc := "(JJJII)Z", sig := { parameters := [.long, .long, .long, .int, .int], returnType := some .boolean }, accessFlags := 9, code := some k1c1 }
def k1c2 : Code := { maxStack := 8, maxLocals := 3, code := method_3_code, exceptionTable := #[], attributes := #[] }
def k1m2 : Method := { name := "micros", desc := "(J)J", sig := { parameters := [.long], returnType := some .long }, accessFlags := 10, code := some k1c2 }
def k1c3 : Code := { maxStack := 4, maxLocals := 3, code := method_4_code, exceptionTable := #[], attributes := #[] }
def k1m3 : Method := { name := "nanos", desc := "(J)J", sig := { parameters := [.long], returnType := some .long }, accessFlags := 10, code := some k1c3 }
def k1c4 : Code := { maxStack := 5, maxLocals := 9, code := method_5_code, exceptionTable := #[], attributes := #[] }
def k1m4 : Method := { name := "mid", desc := "(J)D", sig := { parameters := [.long], returnType := some .double }, accessFlags := 10, code := some k1c4 }
def k1c5 : Code := { maxStack := 4, maxLocals := 12, code := method_6_code, exceptionTable := #[], attributes := #[] }
def k1m5 : Method := { name := "kth", desc := "(DDDII)D", sig := { parameters := [.double, .double, .double, .int, .int], returnType := some .double }, accessFlags := 10, code := some k1c5 }
/-- com/example/rate_keeper/ratekeeper/server/bench/LatencyHistogramPercentileMicrosPinLaw -/
def k1 : Class := { plain "com/example/rate_keeper/ratekeeper/server/bench/LatencyHistogramPercentileMicrosPinLaw" (some 0) with
  accessFlags := 49
  interfaces := #[]
  cf := some (fileOf pool1 12 #[] #[{ accessFlags := 1, nameIndex := 5, descriptorIndex := 6, attributes := #[] }, { accessFlags := 9, nameIndex := 46, descriptorIndex := 47, attributes := #[] }, { accessFlags := 10, nameIndex := 41, descriptorIndex := 16, attributes := #[] }, { accessFlags := 10, nameIndex := 15, descriptorIndex := 16, attributes := #[] }, { accessFlags := 10, nameIndex := 27, descriptorIndex := 28, attributes := #[] }, { accessFlags := 10, nameIndex := 31, descriptorIndex := 32, attributes := #[] }] 49 2 #[] #[])
  fields := #[]
  methods := #[k1m0, k1m1, k1m2, k1m3, k1m4, k1m5]
  instanceTypes := #[]
  staticTypes := #[]
  resolved := Array.replicate 51 none
  statics := none }

def pool2 : Array CpInfo := pool [(1, .class_ 2), (0, u "com/example/rate_keeper/ratekeeper/server/bench/LatencyHistogram"), (0, .methodref 4 5), (0, .class_ 6), (0, .nameAndType 7 8), (0, u "java/lang/Object"), (0, u "<init>"), (0, u "()V"), (0, .class_ 10), (0, u "java/lang/Long"), (0, .integer 55296), (0, .fieldref 1 13), (0, .nameAndType 14 15), (0, u "counts"), (0, u "[J"), (0, .long 500), (1, .long 1000), (1, .methodref 21 22), (0, .class_ 23), (0, .nameAndType 24 25), (0, u "java/lang/Math"), (0, u "max"), (0, u "(JJ)J"), (0, .methodref 1 27), (0, .nameAndType 28 29), (0, u "index"), (0, u "(J)I"), (0, .methodref 1 31), (0, .nameAndType 32 33), (0, u "count"), (0, u "()J"), (7, .long 99), (1, .long 100), (1, .methodref 1 46), (0, .nameAndType 47 48), (0, u "middle"), (0, u "(I)D"), (0, .methodref 9 50), (0, .nameAndType 51 29), (0, u "numberOfLeadingZeros"), (0, .methodref 21 53), (0, .nameAndType 24 54), (0, u "(II)I"), (0, .long 1024), (1, .double 4611686018427387904), (1, u "SUB_BUCKET_BITS"), (0, u "I"), (2, u "SUB_BUCKETS"), (1, u "EXACT_MICROS"), (0, u "J"), (2, u "NANOS_PER_MICRO"), (2, u "record"), (0, u "(J)V"), (2, u "percentileMicros")] 2

def k2c0 : Code := { maxStack := 2, maxLocals := 1, code := prog_10_method_1_code, exceptionTable := #[], attributes := #[] }
def k2m0 : Method := { name := "<init>", desc := "()V", sig := { parameters := [], returnType := none }, accessFlags := 0, code := some k2c0 }
def k2c1 : Code := { maxStack := 6, maxLocals := 5, code := prog_10_method_2_code, exceptionTable := #[], attributes := #[] }
def k2m1 : Method := { name := "record", desc := "(J)V", sig := { parameters := [.long], returnType := none }, accessFlags := 0, code := some k2c1 }
def k2c2 : Code := { maxStack := 4, maxLocals := 8, code := prog_10_method_3_code, exceptionTable := #[], attributes := #[] }
def k2m2 : Method := { name := "count", desc := "()J", sig := { parameters := [], returnType := some .long }, accessFlags := 0, code := some k2c2 }
def k2c3 : Code := { maxStack := 4, maxLocals := 9, code := prog_10_method_4_code, exceptionTable := #[], attributes := #[] }
def k2m3 : Method := { name := "percentileMicros", desc := "(I)D", sig := { parameters := [.int], returnType := some .double }, accessFlags := 0, code := some k2c3 }
def k2c4 : Code := { maxStack := 5, maxLocals := 4, code := prog_10_method_5_code, exceptionTable := #[], attributes := #[] }
def k2m4 : Method := { name := "index", desc := "(J)I", sig := { parameters := [.long], returnType := some .int }, accessFlags := 10, code := some k2c4 }
def k2c5 : Code := { maxStack := 6, maxLocals := 4, code := prog_10_method_6_code, exceptionTable := #[], attributes := #[] }
def k2m5 : Method := { name := "middle", desc := "(I)D", sig := { parameters := [.int], returnType := some .double }, accessFlags := 10, code := some k2c5 }
/-- com/example/rate_keeper/ratekeeper/server/bench/LatencyHistogram -/
def k2 : Class := { plain "com/example/rate_keeper/ratekeeper/server/bench/LatencyHistogram" (some 0) with
  accessFlags := 48
  interfaces := #[]
  cf := some (fileOf pool2 1 #[] #[{ accessFlags := 0, nameIndex := 7, descriptorIndex := 8, attributes := #[] }, { accessFlags := 0, nameIndex := 72, descriptorIndex := 73, attributes := #[] }, { accessFlags := 0, nameIndex := 32, descriptorIndex := 33, attributes := #[] }, { accessFlags := 0, nameIndex := 76, descriptorIndex := 48, attributes := #[] }, { accessFlags := 10, nameIndex := 28, descriptorIndex := 29, attributes := #[] }, { accessFlags := 10, nameIndex := 47, descriptorIndex := 48, attributes := #[] }] 48 4 #[] #[{ accessFlags := 26, nameIndex := 59, descriptorIndex := 60, attributes := #[] }, { accessFlags := 26, nameIndex := 63, descriptorIndex := 60, attributes := #[] }, { accessFlags := 24, nameIndex := 65, descriptorIndex := 66, attributes := #[] }, { accessFlags := 26, nameIndex := 69, descriptorIndex := 66, attributes := #[] }, { accessFlags := 18, nameIndex := 14, descriptorIndex := 15, attributes := #[] }])
  fields := #[{ name := "SUB_BUCKET_BITS", type := .int, accessFlags := 26, slot := 0, constantValue := 0 }, { name := "SUB_BUCKETS", type := .int, accessFlags := 26, slot := 1, constantValue := 0 }, { name := "EXACT_MICROS", type := .long, accessFlags := 24, slot := 2, constantValue := 0 }, { name := "NANOS_PER_MICRO", type := .long, accessFlags := 26, slot := 3, constantValue := 0 }, { name := "counts", type := (.array .long), accessFlags := 18, slot := 0, constantValue := 0 }]
  methods := #[k2m0, k2m1, k2m2, k2m3, k2m4, k2m5]
  instanceTypes := #[(.array .long)]
  staticTypes := #[.int, .int, .long, .long]
  resolved := Array.replicate 79 none
  statics := none }

def pool3 : Array CpInfo := pool [(1, .class_ 2), (0, u "java/lang/Math"), (1, .class_ 6), (1, u "java/lang/Object"), (0, u "<init>"), (0, u "()V"), (89, .class_ 100), (1, u "java/lang/Math$RandomNumberGeneratorHolder"), (20, u "(JJ)J"), (50, u "negativeZeroFloatBits"), (0, u "J"), (2, u "negativeZeroDoubleBits"), (21, u "max"), (46, u "$assertionsDisabled"), (0, u "Z"), (88, u "(II)I"), (2, u "twoToTheDoubleScaleDown"), (0, u "D"), (4, u "twoToTheDoubleScaleUp"), (9, u "E"), (3, u "PI"), (2, u "TAU"), (2, u "DEGREES_TO_RADIANS"), (0, u "RADIANS_TO_DEGREES")] 94

def k3m0 : Method := { name := "<init>", desc := "()V", sig := { parameters := [], returnType := none }, accessFlags := 2, code := none }
def k3c1 : Code := { maxStack := 2, maxLocals := 2, code := jdk_29_method_65_code, exceptionTable := #[], attributes := #[] }
def k3m1 : Method := { name := "max", desc := "(II)I", sig := { parameters := [.int, .int], returnType := some .int }, accessFlags := 9, code := some k3c1 }
def k3c2 : Code := { maxStack := 4, maxLocals := 4, code := jdk_29_method_66_code, exceptionTable := #[], attributes := #[] }
def k3m2 : Method := { name := "max", desc := "(JJ)J", sig := { parameters := [.long, .long], returnType := some .long }, accessFlags := 9, code := some k3c2 }
/-- java/lang/Math -/
def k3 : Class := { plain "java/lang/Math" (some 0) with
  accessFlags := 49
  interfaces := #[]
  cf := some (fileOf pool3 1 #[.nestMembers #[98]] #[{ accessFlags := 2, nameIndex := 7, descriptorIndex := 8, attributes := #[] }, { accessFlags := 9, nameIndex := 198, descriptorIndex := 335, attributes := #[] }, { accessFlags := 9, nameIndex := 198, descriptorIndex := 121, attributes := #[] }] 49 4 #[] #[{ accessFlags := 25, nameIndex := 354, descriptorIndex := 339, attributes := #[] }, { accessFlags := 25, nameIndex := 358, descriptorIndex := 339, attributes := #[] }, { accessFlags := 25, nameIndex := 361, descriptorIndex := 339, attributes := #[] }, { accessFlags := 26, nameIndex := 364, descriptorIndex := 339, attributes := #[] }, { accessFlags := 26, nameIndex := 365, descriptorIndex := 339, attributes := #[] }, { accessFlags := 26, nameIndex := 172, descriptorIndex := 173, attributes := #[] }, { accessFlags := 26, nameIndex := 176, descriptorIndex := 173, attributes := #[] }, { accessFlags := 8, nameIndex := 344, descriptorIndex := 339, attributes := #[] }, { accessFlags := 8, nameIndex := 338, descriptorIndex := 339, attributes := #[] }, { accessFlags := 4120, nameIndex := 245, descriptorIndex := 246, attributes := #[] }])
  fields := #[{ name := "E", type := .double, accessFlags := 25, slot := 0, constantValue := 0 }, { name := "PI", type := .double, accessFlags := 25, slot := 1, constantValue := 0 }, { name := "TAU", type := .double, accessFlags := 25, slot := 2, constantValue := 0 }, { name := "DEGREES_TO_RADIANS", type := .double, accessFlags := 26, slot := 3, constantValue := 0 }, { name := "RADIANS_TO_DEGREES", type := .double, accessFlags := 26, slot := 4, constantValue := 0 }, { name := "negativeZeroFloatBits", type := .long, accessFlags := 26, slot := 5, constantValue := 0 }, { name := "negativeZeroDoubleBits", type := .long, accessFlags := 26, slot := 6, constantValue := 0 }, { name := "twoToTheDoubleScaleUp", type := .double, accessFlags := 8, slot := 7, constantValue := 0 }, { name := "twoToTheDoubleScaleDown", type := .double, accessFlags := 8, slot := 8, constantValue := 0 }, { name := "$assertionsDisabled", type := .boolean, accessFlags := 4120, slot := 9, constantValue := 0 }]
  methods := #[k3m0, k3m1, k3m2]
  instanceTypes := #[]
  staticTypes := #[.double, .double, .double, .double, .double, .long, .long, .double, .double, .boolean]
  resolved := Array.replicate 460 none
  statics := none }

def pool4 : Array CpInfo := pool [(1, .class_ 2), (0, u "java/io/Serializable"), (0, .class_ 4), (0, u "java/lang/Object")] 2

/-- java/io/Serializable -/
def k4 : Class := { plain "java/io/Serializable" (some 0) with
  accessFlags := 1537
  interfaces := #[]
  cf := some (fileOf pool4 1 #[] #[] 1537 3 #[] #[])
  fields := #[]
  methods := #[]
  instanceTypes := #[]
  staticTypes := #[]
  resolved := Array.replicate 7 none
  statics := none }

def pool5 : Array CpInfo := pool [(2, .class_ 4), (1, u "java/lang/Object"), (0, u "<init>"), (0, u "()V"), (1, .class_ 10), (1, u "java/lang/Number"), (2, .class_ 14), (0, u "java/io/Serializable"), (0, u "serialVersionUID"), (0, u "J")] 20

def k5m0 : Method := { name := "<init>", desc := "()V", sig := { parameters := [], returnType := none }, accessFlags := 1, code := none }
/-- java/lang/Number -/
def k5 : Class := { plain "java/lang/Number" (some 0) with
  accessFlags := 1057
  interfaces := #[4]
  cf := some (fileOf pool5 8 #[] #[{ accessFlags := 1, nameIndex := 5, descriptorIndex := 6, attributes := #[] }] 1057 2 #[13] #[{ accessFlags := 26, nameIndex := 15, descriptorIndex := 16, attributes := #[] }])
  fields := #[{ name := "serialVersionUID", type := .long, accessFlags := 26, slot := 0, constantValue := 0 }]
  methods := #[k5m0]
  instanceTypes := #[]
  staticTypes := #[.long]
  resolved := Array.replicate 37 none
  statics := none }

def pool6 : Array CpInfo := pool [(1, .class_ 2), (0, u "java/lang/Comparable"), (0, .class_ 4), (0, u "java/lang/Object")] 7

/-- java/lang/Comparable -/
def k6 : Class := { plain "java/lang/Comparable" (some 0) with
  accessFlags := 1537
  interfaces := #[]
  cf := some (fileOf pool6 1 #[] #[] 1537 3 #[] #[])
  fields := #[]
  methods := #[]
  instanceTypes := #[]
  staticTypes := #[]
  resolved := Array.replicate 12 none
  statics := none }

def pool7 : Array CpInfo := pool [(1, .class_ 2), (0, u "java/lang/constant/Constable"), (0, .class_ 4), (0, u "java/lang/Object")] 6

/-- java/lang/constant/Constable -/
def k7 : Class := { plain "java/lang/constant/Constable" (some 0) with
  accessFlags := 1537
  interfaces := #[]
  cf := some (fileOf pool7 1 #[] #[] 1537 3 #[] #[])
  fields := #[]
  methods := #[]
  instanceTypes := #[]
  staticTypes := #[]
  resolved := Array.replicate 11 none
  statics := none }

def pool8 : Array CpInfo := pool [(1, .class_ 2), (0, u "java/lang/constant/ConstantDesc"), (0, .class_ 4), (0, u "java/lang/Object")] 32

/-- java/lang/constant/ConstantDesc -/
def k8 : Class := { plain "java/lang/constant/ConstantDesc" (some 0) with
  accessFlags := 1537
  interfaces := #[]
  cf := some (fileOf pool8 1 #[] #[] 1537 3 #[] #[])
  fields := #[]
  methods := #[]
  instanceTypes := #[]
  staticTypes := #[]
  resolved := Array.replicate 37 none
  statics := none }

def pool9 : Array CpInfo := pool [(1, .class_ 2), (0, u "java/lang/Long"), (15, .class_ 20), (1, u "java/lang/Integer"), (79, u "numberOfLeadingZeros"), (0, u "(J)I"), (133, .class_ 237), (1, u "java/lang/Long$LongCache"), (33, .class_ 272), (0, u "java/lang/Number"), (2, u "value"), (0, u "J"), (31, .methodref 18 309), (0, .nameAndType 100 310), (0, u "(I)I"), (50, u "TYPE"), (0, u "Ljava/lang/Class;"), (0, .class_ 364), (0, u "java/lang/Comparable"), (0, .class_ 366), (0, u "java/lang/constant/Constable"), (0, .class_ 368), (0, u "java/lang/constant/ConstantDesc"), (0, u "MIN_VALUE"), (1, u "MAX_VALUE"), (4, u "SIZE"), (0, u "I"), (1, u "BYTES"), (1, u "serialVersionUID")] 142

def k9c0 : Code := { maxStack := 3, maxLocals := 3, code := jdk_35_method_48_code, exceptionTable := #[], attributes := #[] }
def k9m0 : Method := { name := "numberOfLeadingZeros", desc := "(J)I", sig := { parameters := [.long], returnType := some .int }, accessFlags := 9, code := some k9c0 }
/-- java/lang/Long -/
def k9 : Class := { plain "java/lang/Long" (some 5) with
  accessFlags := 49
  interfaces := #[6, 7, 8]
  cf := some (fileOf pool9 1 #[.nestMembers #[235]] #[{ accessFlags := 9, nameIndex := 100, descriptorIndex := 101, attributes := #[] }] 49 271 #[363, 365, 367] #[{ accessFlags := 25, nameIndex := 369, descriptorIndex := 276, attributes := #[] }, { accessFlags := 25, nameIndex := 371, descriptorIndex := 276, attributes := #[] }, { accessFlags := 25, nameIndex := 361, descriptorIndex := 362, attributes := #[] }, { accessFlags := 18, nameIndex := 275, descriptorIndex := 276, attributes := #[] }, { accessFlags := 25, nameIndex := 376, descriptorIndex := 377, attributes := #[] }, { accessFlags := 25, nameIndex := 379, descriptorIndex := 377, attributes := #[] }, { accessFlags := 26, nameIndex := 381, descriptorIndex := 276, attributes := #[] }])
  fields := #[{ name := "MIN_VALUE", type := .long, accessFlags := 25, slot := 0, constantValue := 0 }, { name := "MAX_VALUE", type := .long, accessFlags := 25, slot := 1, constantValue := 0 }, { name := "TYPE", type := (.object "java/lang/Class"), accessFlags := 25, slot := 2, constantValue := 0 }, { name := "value", type := .long, accessFlags := 18, slot := 0, constantValue := 0 }, { name := "SIZE", type := .int, accessFlags := 25, slot := 3, constantValue := 0 }, { name := "BYTES", type := .int, accessFlags := 25, slot := 4, constantValue := 0 }, { name := "serialVersionUID", type := .long, accessFlags := 26, slot := 5, constantValue := 0 }]
  methods := #[k9m0]
  instanceTypes := #[.long]
  staticTypes := #[.long, .long, (.object "java/lang/Class"), .int, .int, .long]
  resolved := Array.replicate 524 none
  statics := none }

def pool10 : Array CpInfo := pool [(1, .class_ 2), (0, u "java/lang/Integer"), (16, u "digits"), (0, u "[C"), (32, u "numberOfLeadingZeros"), (0, u "(I)I"), (30, u "DigitOnes"), (0, u "[B"), (2, u "DigitTens"), (99, .class_ 190), (0, u "java/lang/Integer$IntegerCache"), (3, u "I"), (8, .class_ 204), (0, u "java/lang/Number"), (2, u "value"), (56, .integer 65536), (37, u "TYPE"), (0, u "Ljava/lang/Class;"), (0, .class_ 305), (0, u "java/lang/Comparable"), (0, .class_ 307), (0, u "java/lang/constant/Constable"), (0, .class_ 309), (0, u "java/lang/constant/ConstantDesc"), (0, u "MIN_VALUE"), (1, u "MAX_VALUE"), (3, u "SIZE"), (1, u "BYTES"), (1, u "serialVersionUID"), (0, u "J")] 131

def k10c0 : Code := { maxStack := 3, maxLocals := 2, code := jdk_33_method_47_code, exceptionTable := #[], attributes := #[] }
def k10m0 : Method := { name := "numberOfLeadingZeros", desc := "(I)I", sig := { parameters := [.int], returnType := some .int }, accessFlags := 9, code := some k10c0 }
/-- java/lang/Integer -/
def k10 : Class := { plain "java/lang/Integer" (some 5) with
  accessFlags := 49
  interfaces := #[6, 7, 8]
  cf := some (fileOf pool10 1 #[.nestMembers #[189]] #[{ accessFlags := 9, nameIndex := 53, descriptorIndex := 54, attributes := #[] }] 49 203 #[304, 306, 308] #[{ accessFlags := 25, nameIndex := 310, descriptorIndex := 194, attributes := #[] }, { accessFlags := 25, nameIndex := 312, descriptorIndex := 194, attributes := #[] }, { accessFlags := 25, nameIndex := 302, descriptorIndex := 303, attributes := #[] }, { accessFlags := 24, nameIndex := 19, descriptorIndex := 20, attributes := #[] }, { accessFlags := 24, nameIndex := 89, descriptorIndex := 86, attributes := #[] }, { accessFlags := 24, nameIndex := 85, descriptorIndex := 86, attributes := #[] }, { accessFlags := 18, nameIndex := 207, descriptorIndex := 194, attributes := #[] }, { accessFlags := 25, nameIndex := 316, descriptorIndex := 194, attributes := #[] }, { accessFlags := 25, nameIndex := 318, descriptorIndex := 194, attributes := #[] }, { accessFlags := 26, nameIndex := 320, descriptorIndex := 321, attributes := #[] }])
  fields := #[{ name := "MIN_VALUE", type := .int, accessFlags := 25, slot := 0, constantValue := 0 }, { name := "MAX_VALUE", type := .int, accessFlags := 25, slot := 1, constantValue := 0 }, { name := "TYPE", type := (.object "java/lang/Class"), accessFlags := 25, slot := 2, constantValue := 0 }, { name := "digits", type := (.array .char), accessFlags := 24, slot := 3, constantValue := 0 }, { name := "DigitTens", type := (.array .byte), accessFlags := 24, slot := 4, constantValue := 0 }, { name := "DigitOnes", type := (.array .byte), accessFlags := 24, slot := 5, constantValue := 0 }, { name := "value", type := .int, accessFlags := 18, slot := 0, constantValue := 0 }, { name := "SIZE", type := .int, accessFlags := 25, slot := 6, constantValue := 0 }, { name := "BYTES", type := .int, accessFlags := 25, slot := 7, constantValue := 0 }, { name := "serialVersionUID", type := .long, accessFlags := 26, slot := 8, constantValue := 0 }]
  methods := #[k10m0]
  instanceTypes := #[.int]
  staticTypes := #[.int, .int, (.object "java/lang/Class"), (.array .char), (.array .byte), (.array .byte), .int, .int, .long]
  resolved := Array.replicate 453 none
  statics := none }

def pool11 : Array CpInfo := pool [(1, u "java/lang/Cloneable"), (0, .class_ 1), (0, u "java/lang/Object"), (0, .class_ 3)] 3

/-- java/lang/Cloneable -/
def k11 : Class := { plain "java/lang/Cloneable" (some 0) with
  accessFlags := 1537
  interfaces := #[]
  cf := some (fileOf pool11 2 #[] #[] 1537 4 #[] #[])
  fields := #[]
  methods := #[]
  instanceTypes := #[]
  staticTypes := #[]
  resolved := Array.replicate 8 none
  statics := none }

/-- the primitive byte -/
def k12 : Class := { plain "byte" none with kind := .primitive 'B', accessFlags := 0x411 }
/-- [B -/
def k13 : Class := { plain "[B" (some 0) with kind := .array 12 .byte, interfaces := #[11, 4], accessFlags := 1041 }

/-- the primitive int -/
def k14 : Class := { plain "int" none with kind := .primitive 'I', accessFlags := 0x411 }
/-- [I -/
def k15 : Class := { plain "[I" (some 0) with kind := .array 14 .int, interfaces := #[11, 4], accessFlags := 1041 }

/-- the primitive long -/
def k16 : Class := { plain "long" none with kind := .primitive 'J', accessFlags := 0x411 }
/-- [J -/
def k17 : Class := { plain "[J" (some 0) with kind := .array 16 .long, interfaces := #[11, 4], accessFlags := 1041 }

def heap : Heap := #[]
def classes : Array Class := #[k0, k1, k2, k3, k4, k5, k6, k7, k8, k9, k10, k11, k12, k13, k14, k15, k16, k17]
def interned : List (Array UInt16 × Addr) := []
def slotsUsed : Nat := 0
def theMethod : MethodId := ⟨1, 1⟩
def args0 : Array Value := #[.long 5, .long 300, .long 7, .int 50, .int 3]
def aboutOver (below : List Frame) : State where
  vm := { classes := classes, interned := interned.toArray }
  heap := heap
  slotsUsed := slotsUsed
  threads := #[{ frames := .invoking theMethod args0 :: below }]
def below0 : List Frame := [.native { method := ⟨0, 0⟩, args := #[] }]
def about1 : State := aboutOver below0
def p0 : Program := .bare "" "" ""
def e0 : Env := launch0.env 0 0 0
theorem w_frames : about1.frames = Frame.invoking theMethod args0 :: below0 := rfl
set_option maxRecDepth 65536 in
theorem w_args : argsFit about1.vm theMethod args0 = true := by decide +kernel
set_option maxRecDepth 65536 in
theorem w_heap : heapFits about1 = true := by decide +kernel
set_option maxRecDepth 65536 in
theorem w_runnable : about1.curStatus? = some .runnable := by decide +kernel
set_option maxRecDepth 65536 in
theorem w_alone : about1.alone = true := by decide +kernel
set_option maxRecDepth 65536 in
theorem w_named : about1.methodNamed? x = some theMethod := by decide +kernel
set_option maxRecDepth 65536 in
theorem w_hears : about1.hears theMethod below0 = true := by decide +kernel
set_option maxRecDepth 65536 in
theorem w_ripe : about1.ripe theMethod args0 below0 = true := by decide +kernel
theorem w_running : about1.status = .running := rfl
set_option maxRecDepth 65536 in
theorem w_room : about1.hasRoom e0.platform room_1 = true :=
  launch0.hasRoom_least _ room_1 (by decide +kernel) (by decide +kernel) (by decide +kernel) (by decide +kernel) (by decide +kernel) (by decide +kernel)
theorem allAtoms_all (ts : List Jvm.Cond) (a : Array Jvm.Value) (st : Jvm.State) : (allAtoms ts).before a st = ts.all (fun c => c.before a st) := by
  induction ts with
  | nil => rfl
  | cons c t ih =>
    show (Jvm.Cond.and c (allAtoms t)).before a st = _
    rw [Jvm.Cond.before_and, ih, List.all_cons]
def words1 : List Jvm.Cond := Jvm.Cond.code x code maxLocals ret :: tables_1
/-- a 'code' word, met by the world's own term for the bytes: nothing is compared byte by byte -/
theorem code_word {y : MethodName} {bytes : ByteArray} {mx : Nat} {rt : Option FieldType} {a : Array Value} {s : State} {m : MethodId} {meth : Method} {c : Code} (h1 : s.methodNamed? y = some m) (h2 : s.vm.method? m = some meth) (h3 : meth.code = some c) (h4 : c.code = bytes)
    (h5 : (c.maxLocals == mx && c.exceptionTable.isEmpty && decide (c.maxStack ≤ mostOperands) && decide (meth.sig.returnType = rt) && !meth.locks && decide (parseMethodDescriptor y.desc = some meth.sig)) = true) : (Jvm.Cond.code y bytes mx rt).before a s = true := by
  simp only [Bool.and_eq_true, beq_iff_eq, Bool.not_eq_true', decide_eq_true_eq] at h5
  obtain ⟨⟨⟨⟨⟨g1, g2⟩, g3⟩, g4⟩, g5⟩, g6⟩ := h5
  simp [Cond.before, Cond.holds, Cond.value, h1, h2, h3, h4, g1, g2, g3, g4, g5, g6]
def isCode : Jvm.Cond → Bool
  | .code _ _ _ _ => true
  | _ => false
theorem all_split {L : List Jvm.Cond} {P : Jvm.Cond → Bool} (h1 : L.all (fun c => isCode c || P c) = true) (h2 : ∀ c ∈ L.filter isCode, P c = true) : L.all P = true := by
  refine List.all_eq_true.mpr fun c hc => ?_
  have h := List.all_eq_true.mp h1 c hc
  rcases Bool.eq_false_or_eq_true (isCode c) with hi | hi
  · exact h2 c (List.mem_filter.mpr ⟨hc, hi⟩)
  · simpa [hi] using h
set_option maxRecDepth 65536 in
theorem w_c0 : (Jvm.Cond.code x code maxLocals ret).before args0 about1 = true := code_word (m := ⟨1, 1⟩) (meth := k1m1) (c := k1c1) (by decide +kernel) rfl rfl rfl (by decide +kernel)
set_option maxRecDepth 65536 in
theorem w_c1 : (Jvm.Cond.code ({ cls := "com/example/rate_keeper/ratekeeper/server/bench/LatencyHistogram", name := "<init>", desc := "()V" } : Jvm.MethodName) prog_10_method_1_code (1 : Nat) (Option.none : Option Jvm.ClassFile.FieldType)).before args0 about1 = true := code_word (m := ⟨2, 0⟩) (meth := k2m0) (c := k2c0) (by decide +kernel) rfl rfl rfl (by decide +kernel)
set_option maxRecDepth 65536 in
theorem w_c2 : (Jvm.Cond.code ({ cls := "java/lang/Object", name := "<init>", desc := "()V" } : Jvm.MethodName) object_method_1_code (1 : Nat) (Option.none : Option Jvm.ClassFile.FieldType)).before args0 about1 = true := code_word (m := ⟨0, 0⟩) (meth := k0m0) (c := k0c0) (by decide +kernel) rfl rfl rfl (by decide +kernel)
set_option maxRecDepth 65536 in
theorem w_c3 : (Jvm.Cond.code ({ cls := "com/example/rate_keeper/ratekeeper/server/bench/LatencyHistogramPercentileMicrosPinLaw", name := "nanos", desc := "(J)J" } : Jvm.MethodName) method_4_code (3 : Nat) (Option.some Jvm.ClassFile.FieldType.long)).before args0 about1 = true := code_word (m := ⟨1, 3⟩) (meth := k1m3) (c := k1c3) (by decide +kernel) rfl rfl rfl (by decide +kernel)
set_option maxRecDepth 65536 in
theorem w_c4 : (Jvm.Cond.code ({ cls := "com/example/rate_keeper/ratekeeper/server/bench/LatencyHistogramPercentileMicrosPinLaw", name := "micros", desc := "(J)J" } : Jvm.MethodName) method_3_code (3 : Nat) (Option.some Jvm.ClassFile.FieldType.long)).before args0 about1 = true := code_word (m := ⟨1, 2⟩) (meth := k1m2) (c := k1c2) (by decide +kernel) rfl rfl rfl (by decide +kernel)
set_option maxRecDepth 65536 in
theorem w_c5 : (Jvm.Cond.code ({ cls := "com/example/rate_keeper/ratekeeper/server/bench/LatencyHistogram", name := "record", desc := "(J)V" } : Jvm.MethodName) prog_10_method_2_code (5 : Nat) (Option.none : Option Jvm.ClassFile.FieldType)).before args0 about1 = true := code_word (m := ⟨2, 1⟩) (meth := k2m1) (c := k2c1) (by decide +kernel) rfl rfl rfl (by decide +kernel)
set_option maxRecDepth 65536 in
theorem w_c6 : (Jvm.Cond.code ({ cls := "java/lang/Math", name := "max", desc := "(JJ)J" } : Jvm.MethodName) jdk_29_method_66_code (4 : Nat) (Option.some Jvm.ClassFile.FieldType.long)).before args0 about1 = true := code_word (m := ⟨3, 2⟩) (meth := k3m2) (c := k3c2) (by decide +kernel) rfl rfl rfl (by decide +kernel)
set_option maxRecDepth 65536 in
theorem w_c7 : (Jvm.Cond.code ({ cls := "com/example/rate_keeper/ratekeeper/server/bench/LatencyHistogram", name := "index", desc := "(J)I" } : Jvm.MethodName) prog_10_method_5_code (4 : Nat) (Option.some Jvm.ClassFile.FieldType.int)).before args0 about1 = true := code_word (m := ⟨2, 4⟩) (meth := k2m4) (c := k2c4) (by decide +kernel) rfl rfl rfl (by decide +kernel)
set_option maxRecDepth 65536 in
theorem w_c8 : (Jvm.Cond.code ({ cls := "java/lang/Long", name := "numberOfLeadingZeros", desc := "(J)I" } : Jvm.MethodName) jdk_35_method_48_code (3 : Nat) (Option.some Jvm.ClassFile.FieldType.int)).before args0 about1 = true := code_word (m := ⟨9, 0⟩) (meth := k9m0) (c := k9c0) (by decide +kernel) rfl rfl rfl (by decide +kernel)
set_option maxRecDepth 65536 in
theorem w_c9 : (Jvm.Cond.code ({ cls := "java/lang/Integer", name := "numberOfLeadingZeros", desc := "(I)I" } : Jvm.MethodName) jdk_33_method_47_code (2 : Nat) (Option.some Jvm.ClassFile.FieldType.int)).before args0 about1 = true := code_word (m := ⟨10, 0⟩) (meth := k10m0) (c := k10c0) (by decide +kernel) rfl rfl rfl (by decide +kernel)
set_option maxRecDepth 65536 in
theorem w_c10 : (Jvm.Cond.code ({ cls := "java/lang/Math", name := "max", desc := "(II)I" } : Jvm.MethodName) jdk_29_method_65_code (2 : Nat) (Option.some Jvm.ClassFile.FieldType.int)).before args0 about1 = true := code_word (m := ⟨3, 1⟩) (meth := k3m1) (c := k3c1) (by decide +kernel) rfl rfl rfl (by decide +kernel)
set_option maxRecDepth 65536 in
theorem w_c11 : (Jvm.Cond.code ({ cls := "com/example/rate_keeper/ratekeeper/server/bench/LatencyHistogram", name := "percentileMicros", desc := "(I)D" } : Jvm.MethodName) prog_10_method_4_code (9 : Nat) (Option.some Jvm.ClassFile.FieldType.double)).before args0 about1 = true := code_word (m := ⟨2, 3⟩) (meth := k2m3) (c := k2c3) (by decide +kernel) rfl rfl rfl (by decide +kernel)
set_option maxRecDepth 65536 in
theorem w_c12 : (Jvm.Cond.code ({ cls := "com/example/rate_keeper/ratekeeper/server/bench/LatencyHistogram", name := "count", desc := "()J" } : Jvm.MethodName) prog_10_method_3_code (8 : Nat) (Option.some Jvm.ClassFile.FieldType.long)).before args0 about1 = true := code_word (m := ⟨2, 2⟩) (meth := k2m2) (c := k2c2) (by decide +kernel) rfl rfl rfl (by decide +kernel)
set_option maxRecDepth 65536 in
theorem w_c13 : (Jvm.Cond.code ({ cls := "com/example/rate_keeper/ratekeeper/server/bench/LatencyHistogram", name := "middle", desc := "(I)D" } : Jvm.MethodName) prog_10_method_6_code (4 : Nat) (Option.some Jvm.ClassFile.FieldType.double)).before args0 about1 = true := code_word (m := ⟨2, 5⟩) (meth := k2m5) (c := k2c5) (by decide +kernel) rfl rfl rfl (by decide +kernel)
set_option maxRecDepth 65536 in
theorem w_c14 : (Jvm.Cond.code ({ cls := "com/example/rate_keeper/ratekeeper/server/bench/LatencyHistogramPercentileMicrosPinLaw", name := "mid", desc := "(J)D" } : Jvm.MethodName) method_5_code (9 : Nat) (Option.some Jvm.ClassFile.FieldType.double)).before args0 about1 = true := code_word (m := ⟨1, 4⟩) (meth := k1m4) (c := k1c4) (by decide +kernel) rfl rfl rfl (by decide +kernel)
set_option maxRecDepth 65536 in
theorem w_c15 : (Jvm.Cond.code ({ cls := "com/example/rate_keeper/ratekeeper/server/bench/LatencyHistogramPercentileMicrosPinLaw", name := "kth", desc := "(DDDII)D" } : Jvm.MethodName) method_6_code (12 : Nat) (Option.some Jvm.ClassFile.FieldType.double)).before args0 about1 = true := code_word (m := ⟨1, 5⟩) (meth := k1m5) (c := k1c5) (by decide +kernel) rfl rfl rfl (by decide +kernel)
def codes1 : List Jvm.Cond := [Jvm.Cond.code x code maxLocals ret, Jvm.Cond.code ({ cls := "com/example/rate_keeper/ratekeeper/server/bench/LatencyHistogram", name := "<init>", desc := "()V" } : Jvm.MethodName) prog_10_method_1_code (1 : Nat) (Option.none : Option Jvm.ClassFile.FieldType), Jvm.Cond.code ({ cls := "java/lang/Object", name := "<init>", desc := "()V" } : Jvm.MethodName) object_method_1_code (1 : Nat) (Option.none : Option Jvm.ClassFile.FieldType), Jvm.Cond.code ({ cls := "com/example/rate_keeper/ratekeeper/server/bench/LatencyHistogramPercentileMicrosPinLaw", name := "nanos", desc := "(J)J" } : Jvm.MethodName) method_4_code (3 : Nat) (Option.some Jvm.ClassFile.FieldType.long), Jvm.Cond.code ({ cls := "com/example/rate_keeper/ratekeeper/server/bench/LatencyHistogramPercentileMicrosPinLaw", name := "micros", desc := "(J)J" } : Jvm.MethodName) method_3_code (3 : Nat) (Option.some Jvm.ClassFile.FieldType.long), Jvm.Cond.code ({ cls := "com/example/rate_keeper/ratekeeper/server/bench/LatencyHistogram", name := "record", desc := "(J)V" } : Jvm.MethodName) prog_10_method_2_code (5 : Nat) (Option.none : Option Jvm.ClassFile.FieldType), Jvm.Cond.code ({ cls := "java/lang/Math", name := "max", desc := "(JJ)J" } : Jvm.MethodName) jdk_29_method_66_code (4 : Nat) (Option.some Jvm.ClassFile.FieldType.long), Jvm.Cond.code ({ cls := "com/example/rate_keeper/ratekeeper/server/bench/LatencyHistogram", name := "index", desc := "(J)I" } : Jvm.MethodName) prog_10_method_5_code (4 : Nat) (Option.some Jvm.ClassFile.FieldType.int), Jvm.Cond.code ({ cls := "java/lang/Long", name := "numberOfLeadingZeros", desc := "(J)I" } : Jvm.MethodName) jdk_35_method_48_code (3 : Nat) (Option.some Jvm.ClassFile.FieldType.int), Jvm.Cond.code ({ cls := "java/lang/Integer", name := "numberOfLeadingZeros", desc := "(I)I" } : Jvm.MethodName) jdk_33_method_47_code (2 : Nat) (Option.some Jvm.ClassFile.FieldType.int), Jvm.Cond.code ({ cls := "java/lang/Math", name := "max", desc := "(II)I" } : Jvm.MethodName) jdk_29_method_65_code (2 : Nat) (Option.some Jvm.ClassFile.FieldType.int), Jvm.Cond.code ({ cls := "com/example/rate_keeper/ratekeeper/server/bench/LatencyHistogram", name := "percentileMicros", desc := "(I)D" } : Jvm.MethodName) prog_10_method_4_code (9 : Nat) (Option.some Jvm.ClassFile.FieldType.double), Jvm.Cond.code ({ cls := "com/example/rate_keeper/ratekeeper/server/bench/LatencyHistogram", name := "count", desc := "()J" } : Jvm.MethodName) prog_10_method_3_code (8 : Nat) (Option.some Jvm.ClassFile.FieldType.long), Jvm.Cond.code ({ cls := "com/example/rate_keeper/ratekeeper/server/bench/LatencyHistogram", name := "middle", desc := "(I)D" } : Jvm.MethodName) prog_10_method_6_code (4 : Nat) (Option.some Jvm.ClassFile.FieldType.double), Jvm.Cond.code ({ cls := "com/example/rate_keeper/ratekeeper/server/bench/LatencyHistogramPercentileMicrosPinLaw", name := "mid", desc := "(J)D" } : Jvm.MethodName) method_5_code (9 : Nat) (Option.some Jvm.ClassFile.FieldType.double), Jvm.Cond.code ({ cls := "com/example/rate_keeper/ratekeeper/server/bench/LatencyHistogramPercentileMicrosPinLaw", name := "kth", desc := "(DDDII)D" } : Jvm.MethodName) method_6_code (12 : Nat) (Option.some Jvm.ClassFile.FieldType.double)]
set_option maxRecDepth 65536 in
theorem codes_eq : words1.filter isCode = codes1 := rfl
theorem w_codes : ∀ c ∈ words1.filter isCode, c.before args0 about1 = true := by
  rw [codes_eq]
  intro c hc
  simp only [codes1, List.mem_cons, List.not_mem_nil, or_false] at hc
  rcases hc with rfl | rfl | rfl | rfl | rfl | rfl | rfl | rfl | rfl | rfl | rfl | rfl | rfl | rfl | rfl | rfl
  · exact w_c0
  · exact w_c1
  · exact w_c2
  · exact w_c3
  · exact w_c4
  · exact w_c5
  · exact w_c6
  · exact w_c7
  · exact w_c8
  · exact w_c9
  · exact w_c10
  · exact w_c11
  · exact w_c12
  · exact w_c13
  · exact w_c14
  · exact w_c15
set_option maxRecDepth 65536 in
theorem w_t1 : (words1.take 24).all (fun c => isCode c || c.before args0 about1) = true := by decide +kernel
set_option maxRecDepth 65536 in
theorem w_t2 : ((words1.drop 24).take 24).all (fun c => isCode c || c.before args0 about1) = true := by decide +kernel
set_option maxRecDepth 65536 in
theorem w_t3 : (((words1.drop 24).drop 24).take 24).all (fun c => isCode c || c.before args0 about1) = true := by decide +kernel
set_option maxRecDepth 65536 in
theorem w_t4 : (((words1.drop 24).drop 24).drop 24).all (fun c => isCode c || c.before args0 about1) = true := by decide +kernel
theorem w_tables : (allAtoms (Jvm.Cond.code x code maxLocals ret :: tables_1)).before args0 about1 = true := by
  rw [allAtoms_all]
  show words1.all (fun c => c.before args0 about1) = true
  refine all_split ?_ w_codes
  rw [← List.take_append_drop 24 words1, List.all_append, w_t1, ← List.take_append_drop 24 (words1.drop 24), List.all_append, w_t2, ← List.take_append_drop 24 ((words1.drop 24).drop 24), List.all_append, w_t3, w_t4]
  rfl
set_option maxRecDepth 65536 in
theorem w_case : (Jvm.Cond.and given_1 narrow_1).before args0 about1 = true := by decide +kernel
theorem w_applies : (headSpec (Jvm.Cond.code x code maxLocals ret :: tables_1) room_1).applies x e0.platform about1 = true :=
  (Spec.applies_iff w_frames).mpr ⟨w_running, w_runnable, w_alone, w_named, w_hears, w_ripe, w_room, w_tables⟩
theorem atStart : AtStart classFile x code maxLocals ret World_1 tables_1 room_1 Calls_1 rest_1 Pre_1 launch0 p0 e0 about1 theMethod args0 below0 :=
  ⟨lists_1, trivial, launch0.admits_env _ _ _, launch0.least_env, fairChoices_fair.cas, fairChoices_fair.clock, w_frames, w_args, w_heap, w_applies, trivial, trivial, w_case⟩
end start1
theorem witness_1 : WitnessClaimed_1 := ⟨start1.p0, start1.e0, start1.about1, start1.theMethod, start1.args0, start1.below0, start1.atStart⟩
end Jvm.Pilot.@@N@@
