import JvmDerived
import JvmDerived.Pilot.@@N@@Statement
import JvmDerived.Pilot.@@N@@Code
set_option linter.unusedVariables false
set_option linter.unusedSimpArgs false
@@BLOCK:NumsL.lean.txt@@
namespace Jvm.Pilot.@@N@@
open Jvm Jvm.ClassFile Sem Op Lib Jvm.Free Jvm.Stand Jvm.LawKit Jvm.RoadKit Bundle Jvm.Pilot.@@N@@.Jvm.D
theorem own_ne {k : Int32} {n : Int} (z : Int32) (hl : z.toInt = n) (h : ¬ k = z) : n ≠ k.toInt := fun e => h (Int32.toInt_inj.mp (by rw [hl]; exact e.symm))
theorem own_ext {Z : State} {n0 : Nat} {h : Heap} (O : Old Z n0 h) : Ext Z.heap h := O.2
theorem own_sz {Z : State} {n0 : Nat} {h : Heap} (O : Old Z n0 h) : n0 ≤ h.size := by have := O.2.1; rw [O.1] at this; exact this
def own_Ends (p : Program) (e : Env) (below : List Frame) (s : State) (Q : Option Value → Heap → List Loc → Prop) (k n : Nat) (A : State) : Prop :=
  ∃ (U : State) (o : Outcome), Steps p.tables e below A U ∧ U.status = .running ∧ Ended U below o ∧ ∃ v L, o = .returned v ∧ Q v U.heap L ∧ FrameEnd s o U L k n
section OwnKit
variable {p : Program} {l : Launch} {e : Env} {R : Room} {s : State} {m : MethodId} {args : Array Value} {below : List Frame} {meth : Method} {c : Code} {T : State} {locs : List Loc} {cells slots k n : Nat} {Q : Option Value → Heap → List Loc → Prop} {A B : State}
theorem own_go (h : ∀ t, Steps p.tables e below B t → Steps p.tables e below A t) (K : own_Ends p e below s Q k n B) : own_Ends p e below s Q k n A := by
  obtain ⟨U, o, h1, r⟩ := K
  exact ⟨U, o, h U h1, r⟩
theorem own_ret (X : Stand p l e R s m args below meth c T locs cells slots) (hx : p.tables.exec = Jvm.exec) (hlk : meth.locks = false) {pc : Nat} {Ls : Array Slot} {w : Value} {t : FieldType} {i : Instr} {rest : List Value} (hret : meth.sig.returnType = some t) (hn : narrow t w = w)
    (hi : (i = .ireturn ∧ (t = .int ∨ t = .boolean ∨ t = .byte ∨ t = .char ∨ t = .short) ∧ ∃ z, w = .int z) ∨ (i = .lreturn ∧ t = .long ∧ ∃ z, w = .long z) ∨ (i = .dreturn ∧ t = .double ∧ ∃ z, w = .double z) ∨ (i = .freturn ∧ t = .float ∧ ∃ z, w = .float z) ∨ (i = .areturn ∧ t.isReference = true ∧ w.isRef = true))
    (hd : decode c.code pc = .ok (i, 1)) (hk : cells ≤ k) (hs : slots ≤ n) (hQ : Q (some w) T.heap locs) : own_Ends p e below s Q k n (T.setTop (mkF m pc Ls (w :: rest))) := by
  obtain ⟨fs, hr, hrun, hended, hW, hsame⟩ := X.leave (v := some w) (fun h => by rw [hret] at h; cases h) hlk
  exact ⟨_, _, retOut X hx hret hn hi hd hr, hrun, hended, _, _, rfl, hQ, ⟨_, rfl⟩, hW, hsame.mono hk hs⟩
theorem own_retI (X : Stand p l e R s m args below meth c T locs cells slots) (hx : p.tables.exec = Jvm.exec) (hlk : meth.locks = false) {pc : Nat} {Ls : Array Slot} {z : Int32} {rest : List Value} (hret : meth.sig.returnType = some .int) (hd : decode c.code pc = .ok (.ireturn, 1)) (hk : cells ≤ k) (hs : slots ≤ n) (hQ : Q (some (.int z)) T.heap locs) : own_Ends p e below s Q k n (T.setTop (mkF m pc Ls (.int z :: rest))) :=
  own_ret X hx hlk hret rfl (Or.inl ⟨rfl, Or.inl rfl, _, rfl⟩) hd hk hs hQ
theorem own_retJ (X : Stand p l e R s m args below meth c T locs cells slots) (hx : p.tables.exec = Jvm.exec) (hlk : meth.locks = false) {pc : Nat} {Ls : Array Slot} {z : Int64} {rest : List Value} (hret : meth.sig.returnType = some .long) (hd : decode c.code pc = .ok (.lreturn, 1)) (hk : cells ≤ k) (hs : slots ≤ n) (hQ : Q (some (.long z)) T.heap locs) : own_Ends p e below s Q k n (T.setTop (mkF m pc Ls (.long z :: rest))) :=
  own_ret X hx hlk hret rfl (Or.inr (Or.inl ⟨rfl, rfl, _, rfl⟩)) hd hk hs hQ
theorem own_retD (X : Stand p l e R s m args below meth c T locs cells slots) (hx : p.tables.exec = Jvm.exec) (hlk : meth.locks = false) {pc : Nat} {Ls : Array Slot} {z : UInt64} {rest : List Value} (hret : meth.sig.returnType = some .double) (hd : decode c.code pc = .ok (.dreturn, 1)) (hk : cells ≤ k) (hs : slots ≤ n) (hQ : Q (some (.double z)) T.heap locs) : own_Ends p e below s Q k n (T.setTop (mkF m pc Ls (.double z :: rest))) :=
  own_ret X hx hlk hret rfl (Or.inr (Or.inr (Or.inl ⟨rfl, rfl, _, rfl⟩))) hd hk hs hQ
theorem own_retA (X : Stand p l e R s m args below meth c T locs cells slots) (hx : p.tables.exec = Jvm.exec) (hlk : meth.locks = false) {pc : Nat} {Ls : Array Slot} {w : Value} {t : FieldType} {rest : List Value} (hret : meth.sig.returnType = some t) (ht : t.isReference = true) (hw : w.isRef = true) (hn : narrow t w = w) (hd : decode c.code pc = .ok (.areturn, 1)) (hk : cells ≤ k) (hs : slots ≤ n) (hQ : Q (some w) T.heap locs) : own_Ends p e below s Q k n (T.setTop (mkF m pc Ls (w :: rest))) :=
  own_ret X hx hlk hret hn (Or.inr (Or.inr (Or.inr (Or.inr ⟨rfl, ht, hw⟩)))) hd hk hs hQ
theorem own_retN (X : Stand p l e R s m args below meth c T locs cells slots) (hx : p.tables.exec = Jvm.exec) (hlk : meth.locks = false) {pc : Nat} {Ls : Array Slot} {z : Int32} {t : FieldType} {rest : List Value} (hret : meth.sig.returnType = some t) (ht : t = .boolean ∨ t = .byte ∨ t = .char ∨ t = .short) (hd : decode c.code pc = .ok (.ireturn, 1)) (hk : cells ≤ k) (hs : slots ≤ n) (hQ : Q (some (.int (nar t z))) T.heap locs) : own_Ends p e below s Q k n (T.setTop (mkF m pc Ls (.int z :: rest))) := by
  obtain ⟨fs, hr, hrun, hended, hW, hsame⟩ := X.leave (v := some (.int (nar t z))) (fun h => by rw [hret] at h; cases h) hlk
  exact ⟨_, _, retN X hx hret ht hd hr, hrun, hended, _, _, rfl, hQ, ⟨_, rfl⟩, hW, hsame.mono hk hs⟩
theorem own_retV (X : Stand p l e R s m args below meth c T locs cells slots) (hx : p.tables.exec = Jvm.exec) (hlk : meth.locks = false) {pc : Nat} {Ls : Array Slot} (hret : meth.sig.returnType = none) (hd : decode c.code pc = .ok (.return_, 1)) (hk : cells ≤ k) (hs : slots ≤ n) (hQ : Q none T.heap locs) : own_Ends p e below s Q k n (T.setTop (mkF m pc Ls [])) := by
  obtain ⟨fs, hr, hrun, hended, hW, hsame⟩ := X.leave (v := none) (fun _ => rfl) hlk
  exact ⟨_, _, X.returnOut hx hret hd hr, hrun, hended, _, _, rfl, hQ, ⟨_, rfl⟩, hW, hsame.mono hk hs⟩
end OwnKit

def own_Ar (Z : State) (h : Heap) (a : Addr) (ty : FieldType) (n : Nat) (f : Nat → Value) : Prop := ∃ c : Cell, Arr Z h a c ty ∧ c.slots.size = n ∧ ∀ i, i < n → c.slots[i]? = some (f i)
section OwnArr
variable {Z : State} {h h' : Heap} {a b : Addr} {ty : FieldType} {n sl : Nat} {f : Nat → Value} {v : Value} {ws : List Addr}
theorem own_Ar.lt (F : own_Ar Z h a ty n f) : a < h.size := by obtain ⟨c, A, -⟩ := F; exact A.lt
theorem own_Ar.ext (F : own_Ar Z h a ty n f) (E : Ext h h') : own_Ar Z h' a ty n f := by obtain ⟨c, A, r⟩ := F; exact ⟨c, A.ext E, r⟩
theorem own_Ar.other (F : own_Ar Z h b ty n f) (W : Wr h h' a sl v) (q : b ≠ a) : own_Ar Z h' b ty n f := by obtain ⟨c, A, r⟩ := F; exact ⟨c, A.other W q, r⟩
theorem own_Ar.keep (F : own_Ar Z h a ty n f) (K : Keep h h' ws) (q : a ∉ ws) : own_Ar Z h' a ty n f := by obtain ⟨c, A, r⟩ := F; exact ⟨c, ⟨K.2.1 a c A.1 q, A.2⟩, r⟩
theorem own_Ar.at (F : own_Ar Z h a ty n f) (j : Int32) (h0 : ¬ j < 0) (h1 : j.toNatClampNeg < n) : ∃ c : Cell, Arr Z h a c ty ∧ ¬ (j < 0 ∨ c.slots.size ≤ j.toNatClampNeg) ∧ c.slots[j.toNatClampNeg]? = some (f j.toNatClampNeg) := by
  obtain ⟨c, A, e, r⟩ := F
  exact ⟨c, A, fun q => q.elim h0 (fun z => by omega), r _ h1⟩
theorem own_Ar.len (F : own_Ar Z h a ty n f) : ∃ c : Cell, Arr Z h a c ty ∧ c.slots.size.toInt32 = Int32.ofNat n := by
  obtain ⟨c, A, e, r⟩ := F
  exact ⟨c, A, by rw [e]⟩
theorem own_Ar.newI {k : ClassId} {z : Int32} (A : Arr Z h a (newA k ty z) ty) (hz : z.toNatClampNeg = n) (hd : defaultValue ty = .int 0) : own_Ar Z h a ty n (fun _ => .int 0) :=
  ⟨_, A, by rw [sz_new]; exact hz, fun i hi => by simp [newA, hz, hi, hd]⟩
theorem own_Ar.newJ {k : ClassId} {z : Int32} (A : Arr Z h a (newA k .long z) .long) (hz : z.toNatClampNeg = n) : own_Ar Z h a .long n (fun _ => .long 0) :=
  ⟨_, A, by rw [sz_new]; exact hz, fun i hi => by simp [newA, hz, hi, defaultValue]⟩
theorem own_Ar.set (F : own_Ar Z h a ty n f) (W : Wr h h' a sl v) {f' : Nat → Value} (hf : ∀ i, i < n → f' i = if i = sl then v else f i) : own_Ar Z h' a ty n f' := by
  obtain ⟨c, A, e, r⟩ := F
  refine ⟨_, A.same W, by simp [Cell.setSlot, e], fun i hi => ?_⟩
  obtain ⟨c', w1, -, w3, w4⟩ := W
  cases A.1.symm.trans w1
  rw [hf i hi]
  by_cases q : i = sl
  · subst q; simp [Cell.setSlot, w3]
  · rw [if_neg q, ← r i hi]; exact Array.getElem?_setIfInBounds_ne (Ne.symm q)
theorem own_Ar.setI {G : Nat → Int32} {x : Int32} (F : own_Ar Z h a ty n (fun i => .int (G i))) (W : Wr h h' a sl (.int x)) : own_Ar Z h' a ty n (fun i => .int (if i = sl then x else G i)) :=
  F.set W fun i _ => by by_cases q : i = sl <;> simp [q]
theorem own_Ar.setJ {G : Nat → Int64} {x : Int64} (F : own_Ar Z h a ty n (fun i => .long (G i))) (W : Wr h h' a sl (.long x)) : own_Ar Z h' a ty n (fun i => .long (if i = sl then x else G i)) :=
  F.set W fun i _ => by by_cases q : i = sl <;> simp [q]
theorem own_Ar.cong (F : own_Ar Z h a ty n f) {f' : Nat → Value} (hf : ∀ i, i < n → f' i = f i) : own_Ar Z h a ty n f' := by
  obtain ⟨c, A, e, r⟩ := F
  exact ⟨c, A, e, fun i hi => by rw [hf i hi]; exact r i hi⟩
end OwnArr
theorem own_c32 {i : Nat} (h : i < 2147483648) : (Int32.ofNat i).toInt = (i : Int) := Int32.toInt_ofNat_of_lt h
theorem own_tn {x : Int32} : x.toNatClampNeg = x.toInt.toNat := rfl
theorem own_cn {i : Nat} (h : i < 2147483648) : (Int32.ofNat i).toNatClampNeg = i := by rw [own_tn, own_c32 h]; rfl
theorem own_succ {i : Nat} : Int32.ofNat i + (1 : Int32) = Int32.ofNat (i + 1) := (Int32.ofNat_add i 1).symm
def own_sum (G : Nat → Int64) : Nat → Int64
  | 0 => 0
  | i + 1 => own_sum G i + G i
theorem own_sum_step {G : Nat → Int64} {i : Nat} (h : i < 2147483648) : own_sum G i + G (Int32.ofNat i).toNatClampNeg = own_sum G (i + 1) := by rw [own_cn h]; rfl
theorem own_18z {i : Nat} (h : i = 55296) : ¬ Int32.ofNat i < Int32.ofNat 55296 := by rw [h]; exact Int32.lt_irrefl
theorem own_18s {i : Nat} (h : i < 55296) : Int32.ofNat i < Int32.ofNat 55296 := by
  rw [Int32.lt_iff_toInt_lt, own_c32 (by omega), own_c32 (by omega)]; omega
theorem own_nn0 {i : Nat} (h : i < 2147483648) : ¬ Int32.ofNat i < 0 := by
  rw [Int32.lt_iff_toInt_lt, own_c32 h, show (0 : Int32).toInt = 0 by decide]; omega
theorem own_lt0 {i : Nat} (h : i < 55296) : (Int32.ofNat i).toNatClampNeg < 55296 := by rw [own_cn (by omega)]; exact h
theorem own_st6 {s6 s7 z0 z1 z2 z3 z4 z5 : Slot} {x : Int64} (hs : (s6 = .unset ∧ s7 = .unset) ∨ ∃ w, s6 = .val (.long w) ∧ s7 = .second) : storeLocals #[z0, z1, z2, z3, z4, z5, s6, s7] 6 (.long x) = some #[z0, z1, z2, z3, z4, z5, .val (.long x), .second] := by
  rcases hs with ⟨rfl, rfl⟩ | ⟨w, rfl, rfl⟩ <;> rfl
theorem dmaxI_0 : decode jdk_29_method_65_code 0 = .ok (.iload_n 0, 1) := by decide +kernel
theorem dmaxI_1 : decode jdk_29_method_65_code 1 = .ok (.iload_n 1, 1) := by decide +kernel
theorem dmaxI_2 : decode jdk_29_method_65_code 2 = .ok (.if_icmp .lt 7, 3) := by decide +kernel
theorem dmaxI_5 : decode jdk_29_method_65_code 5 = .ok (.iload_n 0, 1) := by decide +kernel
theorem dmaxI_6 : decode jdk_29_method_65_code 6 = .ok (.goto 4, 3) := by decide +kernel
theorem dmaxI_9 : decode jdk_29_method_65_code 9 = .ok (.iload_n 1, 1) := by decide +kernel
theorem dmaxI_10 : decode jdk_29_method_65_code 10 = .ok (.ireturn, 1) := by decide +kernel
theorem efmaxI (m : MethodId) (p0 : Int32) (p1 : Int32) : entryFrame m #[(.int p0), (.int p1)] 2 = mkF m 0 #[.val (.int p0), .val (.int p1)] [] := by first | (simp [entryFrame, mkF, argsToLocals, Value.category]; done) | rfl
def fmaxI (p0 : Int32) (p1 : Int32) : Int32 := (if p0 < p1 then p1 else p0)
def QmaxI (Z : State) (p0 : Int32) (p1 : Int32) (h0 : Heap) (n0 : Nat) (v : Option Value) (h : Heap) (L : List Loc) : Prop := v = some (.int (fmaxI p0 p1)) ∧ Fr n0 L ∧ h = h0
set_option maxRecDepth 65536 in
set_option maxHeartbeats 40000000 in
theorem rmmaxI (l : Launch) (Z : State) (ar : Array Value) (hw : ∀ d ∈ tables_1, d.before ar Z = true) (ws : List Jvm.Cond) (p0 : Int32) (p1 : Int32) (h0 : Heap) (n0 : Nat) (O0 : Old Z n0 h0) :
    MetFree l (⟨"java/lang/Math", "max", "(II)I"⟩ : MethodName) (head1 (Jvm.Cond.code (⟨"java/lang/Math", "max", "(II)I"⟩ : MethodName) jdk_29_method_65_code 2 (some .int) :: ws) ({ frames := 0, cells := 0, slots := 0, locals := 0 } : Room)) (fun a U => a = #[(.int p0), (.int p1)] ∧ Z.Warmed39 U.vm ∧ U.heap = h0) (fun _ _ _ _ _ => True) (fun _ U o U' => ∃ v L, o = .returned v ∧ QmaxI Z p0 p1 h0 n0 v U'.heap L ∧ FrameEnd U o U' L ({ frames := 0, cells := 0, slots := 0, locals := 0 } : Room).cells ({ frames := 0, cells := 0, slots := 0, locals := 0 } : Room).slots) := by
  refine MetFree.of_bodySF (Jvm.Free.JP.mathPlain rfl (by decide +kernel)) hisR ?_
  intro p e s m args below meth c s₁ Bd hml0 hP hK
  obtain ⟨rfl, hZ, hh⟩ := hP
  have hx := Bd.exec
  have hby := Bd.bytes
  have hml : c.maxLocals = 2 := hml0
  have hown : s.vm.findClass "java/lang/Math" = some m.cls := findClass_of_methodNamed Bd.named
  have hnm := (name_of_methodNamed Bd.named Bd.method).1
  have hlk : meth.locks = false := BodyLoose.notSynchronized Bd
  have X0 : Stand p l e ({ frames := 0, cells := 0, slots := 0, locals := 0 } : Room) s m #[(.int p0), (.int p1)] below meth c s₁ [] 0 0 := Stand.of_body Bd
  have e0 : s₁.heap = h0 := by rw [← hh, Bd.state]; rfl
  have N0 := Fr.nil n0
  suffices hmain : own_Ends p e below s (QmaxI Z p0 p1 h0 n0) 0 0 (s₁.setTop (mkF m 0 #[.val (.int p0), .val (.int p1)] [])) by
    obtain ⟨U, o, h1, r⟩ := hmain
    exact ⟨U, o, castTop (efmaxI m p0 p1) h1, r⟩
  show own_Ends _ _ _ _ _ _ _ (s₁.setTop (mkF m 0 #[.val (.int p0), .val (.int p1)] []))
  refine own_go (fun _ k => XS.iloadN X0.here hx rfl (hb hby dmaxI_0) rfl k) ?_
  show own_Ends _ _ _ _ _ _ _ (s₁.setTop (mkF m 1 #[.val (.int p0), .val (.int p1)] [(.int p0)]))
  refine own_go (fun _ k => XS.iloadN X0.here hx rfl (hb hby dmaxI_1) rfl k) ?_
  show own_Ends _ _ _ _ _ _ _ (s₁.setTop (mkF m 2 #[.val (.int p0), .val (.int p1)] [(.int p1), (.int p0)]))
  by_cases hc1 : p0 < p1
  · refine own_go (fun _ k => XS.icmpYes X0.here hx rfl (pc0 := 2) (pc' := 9) rfl (hb hby dmaxI_2) rfl (tlt hc1).1 (by decide) (by decide) k) ?_
    show own_Ends _ _ _ _ _ _ _ (s₁.setTop (mkF m 9 #[.val (.int p0), .val (.int p1)] []))
    refine own_go (fun _ k => XS.iloadN X0.here hx rfl (hb hby dmaxI_9) rfl k) ?_
    show own_Ends _ _ _ _ _ _ _ (s₁.setTop (mkF m 10 #[.val (.int p0), .val (.int p1)] [(.int p1)]))
    exact own_retI X0 hx hlk Bd.returns (hb hby dmaxI_10) (by decide) (by decide) ⟨congrArg (fun z => some (Value.int z)) (by exact ((if_pos hc1)).symm), N0, e0⟩
  · refine own_go (fun _ k => XS.icmpNo X0.here hx rfl (hb hby dmaxI_2) rfl (flt hc1).1 k) ?_
    show own_Ends _ _ _ _ _ _ _ (s₁.setTop (mkF m 5 #[.val (.int p0), .val (.int p1)] []))
    refine own_go (fun _ k => XS.iloadN X0.here hx rfl (hb hby dmaxI_5) rfl k) ?_
    show own_Ends _ _ _ _ _ _ _ (s₁.setTop (mkF m 6 #[.val (.int p0), .val (.int p1)] [(.int p0)]))
    refine own_go (fun _ k => XS.goto X0.here hx rfl (pc0 := 6) (pc' := 10) rfl (hb hby dmaxI_6) (by decide) (by decide) k) ?_
    show own_Ends _ _ _ _ _ _ _ (s₁.setTop (mkF m 10 #[.val (.int p0), .val (.int p1)] [(.int p0)]))
    exact own_retI X0 hx hlk Bd.returns (hb hby dmaxI_10) (by decide) (by decide) ⟨congrArg (fun z => some (Value.int z)) (by exact ((if_neg hc1)).symm), N0, e0⟩
theorem dmaxJ_0 : decode jdk_29_method_66_code 0 = .ok (.lload_n 0, 1) := by decide +kernel
theorem dmaxJ_1 : decode jdk_29_method_66_code 1 = .ok (.lload_n 2, 1) := by decide +kernel
theorem dmaxJ_2 : decode jdk_29_method_66_code 2 = .ok (.lcmp, 1) := by decide +kernel
theorem dmaxJ_3 : decode jdk_29_method_66_code 3 = .ok (.ifCond .lt 7, 3) := by decide +kernel
theorem dmaxJ_6 : decode jdk_29_method_66_code 6 = .ok (.lload_n 0, 1) := by decide +kernel
theorem dmaxJ_7 : decode jdk_29_method_66_code 7 = .ok (.goto 4, 3) := by decide +kernel
theorem dmaxJ_10 : decode jdk_29_method_66_code 10 = .ok (.lload_n 2, 1) := by decide +kernel
theorem dmaxJ_11 : decode jdk_29_method_66_code 11 = .ok (.lreturn, 1) := by decide +kernel
theorem efmaxJ (m : MethodId) (q0 : Int64) (q1 : Int64) : entryFrame m #[(.long q0), (.long q1)] 4 = mkF m 0 #[.val (.long q0), .second, .val (.long q1), .second] [] := by first | (simp [entryFrame, mkF, argsToLocals, Value.category]; done) | rfl
def fmaxJ (q0 : Int64) (q1 : Int64) : Int64 := (if (lcmpW q0 q1) < (0 : Int32) then q1 else q0)
def QmaxJ (Z : State) (q0 : Int64) (q1 : Int64) (h0 : Heap) (n0 : Nat) (v : Option Value) (h : Heap) (L : List Loc) : Prop := v = some (.long (fmaxJ q0 q1)) ∧ Fr n0 L ∧ h = h0
set_option maxRecDepth 65536 in
set_option maxHeartbeats 40000000 in
theorem rmmaxJ (l : Launch) (Z : State) (ar : Array Value) (hw : ∀ d ∈ tables_1, d.before ar Z = true) (ws : List Jvm.Cond) (q0 : Int64) (q1 : Int64) (h0 : Heap) (n0 : Nat) (O0 : Old Z n0 h0) :
    MetFree l (⟨"java/lang/Math", "max", "(JJ)J"⟩ : MethodName) (head1 (Jvm.Cond.code (⟨"java/lang/Math", "max", "(JJ)J"⟩ : MethodName) jdk_29_method_66_code 4 (some .long) :: ws) ({ frames := 0, cells := 0, slots := 0, locals := 0 } : Room)) (fun a U => a = #[(.long q0), (.long q1)] ∧ Z.Warmed39 U.vm ∧ U.heap = h0) (fun _ _ _ _ _ => True) (fun _ U o U' => ∃ v L, o = .returned v ∧ QmaxJ Z q0 q1 h0 n0 v U'.heap L ∧ FrameEnd U o U' L ({ frames := 0, cells := 0, slots := 0, locals := 0 } : Room).cells ({ frames := 0, cells := 0, slots := 0, locals := 0 } : Room).slots) := by
  refine MetFree.of_bodySF (Jvm.Free.JP.mathPlain rfl (by decide +kernel)) hisR ?_
  intro p e s m args below meth c s₁ Bd hml0 hP hK
  obtain ⟨rfl, hZ, hh⟩ := hP
  have hx := Bd.exec
  have hby := Bd.bytes
  have hml : c.maxLocals = 4 := hml0
  have hown : s.vm.findClass "java/lang/Math" = some m.cls := findClass_of_methodNamed Bd.named
  have hnm := (name_of_methodNamed Bd.named Bd.method).1
  have hlk : meth.locks = false := BodyLoose.notSynchronized Bd
  have X0 : Stand p l e ({ frames := 0, cells := 0, slots := 0, locals := 0 } : Room) s m #[(.long q0), (.long q1)] below meth c s₁ [] 0 0 := Stand.of_body Bd
  have e0 : s₁.heap = h0 := by rw [← hh, Bd.state]; rfl
  have N0 := Fr.nil n0
  suffices hmain : own_Ends p e below s (QmaxJ Z q0 q1 h0 n0) 0 0 (s₁.setTop (mkF m 0 #[.val (.long q0), .second, .val (.long q1), .second] [])) by
    obtain ⟨U, o, h1, r⟩ := hmain
    exact ⟨U, o, castTop (efmaxJ m q0 q1) h1, r⟩
  show own_Ends _ _ _ _ _ _ _ (s₁.setTop (mkF m 0 #[.val (.long q0), .second, .val (.long q1), .second] []))
  refine own_go (fun _ k => XS.lloadN X0.here hx rfl (hb hby dmaxJ_0) rfl k) ?_
  show own_Ends _ _ _ _ _ _ _ (s₁.setTop (mkF m 1 #[.val (.long q0), .second, .val (.long q1), .second] [(.long q0)]))
  refine own_go (fun _ k => XS.lloadN X0.here hx rfl (hb hby dmaxJ_1) rfl k) ?_
  show own_Ends _ _ _ _ _ _ _ (s₁.setTop (mkF m 2 #[.val (.long q0), .second, .val (.long q1), .second] [(.long q1), (.long q0)]))
  refine own_go (fun _ k => XS.lcmp X0.here hx rfl (hb hby dmaxJ_2) rfl k) ?_
  show own_Ends _ _ _ _ _ _ _ (s₁.setTop (mkF m 3 #[.val (.long q0), .second, .val (.long q1), .second] [(.int (lcmpW q0 q1))]))
  by_cases hc1 : (lcmpW q0 q1) < (0 : Int32)
  · refine own_go (fun _ k => XS.ifYes X0.here hx rfl (pc0 := 3) (pc' := 10) rfl (hb hby dmaxJ_3) rfl ((if0 _ _).trans (tlt hc1).1) (by decide) (by decide) k) ?_
    show own_Ends _ _ _ _ _ _ _ (s₁.setTop (mkF m 10 #[.val (.long q0), .second, .val (.long q1), .second] []))
    refine own_go (fun _ k => XS.lloadN X0.here hx rfl (hb hby dmaxJ_10) rfl k) ?_
    show own_Ends _ _ _ _ _ _ _ (s₁.setTop (mkF m 11 #[.val (.long q0), .second, .val (.long q1), .second] [(.long q1)]))
    exact own_retJ X0 hx hlk Bd.returns (hb hby dmaxJ_11) (by decide) (by decide) ⟨congrArg (fun z => some (Value.long z)) (by exact ((if_pos hc1)).symm), N0, e0⟩
  · refine own_go (fun _ k => XS.ifNo X0.here hx rfl (hb hby dmaxJ_3) rfl ((if0 _ _).trans (flt hc1).1) k) ?_
    show own_Ends _ _ _ _ _ _ _ (s₁.setTop (mkF m 6 #[.val (.long q0), .second, .val (.long q1), .second] []))
    refine own_go (fun _ k => XS.lloadN X0.here hx rfl (hb hby dmaxJ_6) rfl k) ?_
    show own_Ends _ _ _ _ _ _ _ (s₁.setTop (mkF m 7 #[.val (.long q0), .second, .val (.long q1), .second] [(.long q0)]))
    refine own_go (fun _ k => XS.goto X0.here hx rfl (pc0 := 7) (pc' := 11) rfl (hb hby dmaxJ_7) (by decide) (by decide) k) ?_
    show own_Ends _ _ _ _ _ _ _ (s₁.setTop (mkF m 11 #[.val (.long q0), .second, .val (.long q1), .second] [(.long q0)]))
    exact own_retJ X0 hx hlk Bd.returns (hb hby dmaxJ_11) (by decide) (by decide) ⟨congrArg (fun z => some (Value.long z)) (by exact ((if_neg hc1)).symm), N0, e0⟩
theorem dnlzI_0 : decode jdk_33_method_47_code 0 = .ok (.iload_n 0, 1) := by decide +kernel
theorem dnlzI_1 : decode jdk_33_method_47_code 1 = .ok (.ifCond .gt 14, 3) := by decide +kernel
theorem dnlzI_4 : decode jdk_33_method_47_code 4 = .ok (.iload_n 0, 1) := by decide +kernel
theorem dnlzI_5 : decode jdk_33_method_47_code 5 = .ok (.ifCond .ne 8, 3) := by decide +kernel
theorem dnlzI_8 : decode jdk_33_method_47_code 8 = .ok (.bipush 32, 2) := by decide +kernel
theorem dnlzI_10 : decode jdk_33_method_47_code 10 = .ok (.goto 4, 3) := by decide +kernel
theorem dnlzI_13 : decode jdk_33_method_47_code 13 = .ok (.iconst 0, 1) := by decide +kernel
theorem dnlzI_14 : decode jdk_33_method_47_code 14 = .ok (.ireturn, 1) := by decide +kernel
theorem dnlzI_15 : decode jdk_33_method_47_code 15 = .ok (.bipush 31, 2) := by decide +kernel
theorem dnlzI_17 : decode jdk_33_method_47_code 17 = .ok (.istore_n 1, 1) := by decide +kernel
theorem dnlzI_18 : decode jdk_33_method_47_code 18 = .ok (.iload_n 0, 1) := by decide +kernel
theorem dnlzI_19 : decode jdk_33_method_47_code 19 = .ok (.ldc_w 264, 3) := by decide +kernel
theorem dnlzI_22 : decode jdk_33_method_47_code 22 = .ok (.if_icmp .lt 11, 3) := by decide +kernel
theorem dnlzI_25 : decode jdk_33_method_47_code 25 = .ok (.iinc 1 (-16), 3) := by decide +kernel
theorem dnlzI_28 : decode jdk_33_method_47_code 28 = .ok (.iload_n 0, 1) := by decide +kernel
theorem dnlzI_29 : decode jdk_33_method_47_code 29 = .ok (.bipush 16, 2) := by decide +kernel
theorem dnlzI_31 : decode jdk_33_method_47_code 31 = .ok (.iushr, 1) := by decide +kernel
theorem dnlzI_32 : decode jdk_33_method_47_code 32 = .ok (.istore_n 0, 1) := by decide +kernel
theorem dnlzI_33 : decode jdk_33_method_47_code 33 = .ok (.iload_n 0, 1) := by decide +kernel
theorem dnlzI_34 : decode jdk_33_method_47_code 34 = .ok (.sipush 256, 3) := by decide +kernel
theorem dnlzI_37 : decode jdk_33_method_47_code 37 = .ok (.if_icmp .lt 11, 3) := by decide +kernel
theorem dnlzI_40 : decode jdk_33_method_47_code 40 = .ok (.iinc 1 (-8), 3) := by decide +kernel
theorem dnlzI_43 : decode jdk_33_method_47_code 43 = .ok (.iload_n 0, 1) := by decide +kernel
theorem dnlzI_44 : decode jdk_33_method_47_code 44 = .ok (.bipush 8, 2) := by decide +kernel
theorem dnlzI_46 : decode jdk_33_method_47_code 46 = .ok (.iushr, 1) := by decide +kernel
theorem dnlzI_47 : decode jdk_33_method_47_code 47 = .ok (.istore_n 0, 1) := by decide +kernel
theorem dnlzI_48 : decode jdk_33_method_47_code 48 = .ok (.iload_n 0, 1) := by decide +kernel
theorem dnlzI_49 : decode jdk_33_method_47_code 49 = .ok (.bipush 16, 2) := by decide +kernel
theorem dnlzI_51 : decode jdk_33_method_47_code 51 = .ok (.if_icmp .lt 10, 3) := by decide +kernel
theorem dnlzI_54 : decode jdk_33_method_47_code 54 = .ok (.iinc 1 (-4), 3) := by decide +kernel
theorem dnlzI_57 : decode jdk_33_method_47_code 57 = .ok (.iload_n 0, 1) := by decide +kernel
theorem dnlzI_58 : decode jdk_33_method_47_code 58 = .ok (.iconst 4, 1) := by decide +kernel
theorem dnlzI_59 : decode jdk_33_method_47_code 59 = .ok (.iushr, 1) := by decide +kernel
theorem dnlzI_60 : decode jdk_33_method_47_code 60 = .ok (.istore_n 0, 1) := by decide +kernel
theorem dnlzI_61 : decode jdk_33_method_47_code 61 = .ok (.iload_n 0, 1) := by decide +kernel
theorem dnlzI_62 : decode jdk_33_method_47_code 62 = .ok (.iconst 4, 1) := by decide +kernel
theorem dnlzI_63 : decode jdk_33_method_47_code 63 = .ok (.if_icmp .lt 10, 3) := by decide +kernel
theorem dnlzI_66 : decode jdk_33_method_47_code 66 = .ok (.iinc 1 (-2), 3) := by decide +kernel
theorem dnlzI_69 : decode jdk_33_method_47_code 69 = .ok (.iload_n 0, 1) := by decide +kernel
theorem dnlzI_70 : decode jdk_33_method_47_code 70 = .ok (.iconst 2, 1) := by decide +kernel
theorem dnlzI_71 : decode jdk_33_method_47_code 71 = .ok (.iushr, 1) := by decide +kernel
theorem dnlzI_72 : decode jdk_33_method_47_code 72 = .ok (.istore_n 0, 1) := by decide +kernel
theorem dnlzI_73 : decode jdk_33_method_47_code 73 = .ok (.iload_n 1, 1) := by decide +kernel
theorem dnlzI_74 : decode jdk_33_method_47_code 74 = .ok (.iload_n 0, 1) := by decide +kernel
theorem dnlzI_75 : decode jdk_33_method_47_code 75 = .ok (.iconst 1, 1) := by decide +kernel
theorem dnlzI_76 : decode jdk_33_method_47_code 76 = .ok (.iushr, 1) := by decide +kernel
theorem dnlzI_77 : decode jdk_33_method_47_code 77 = .ok (.isub, 1) := by decide +kernel
theorem dnlzI_78 : decode jdk_33_method_47_code 78 = .ok (.ireturn, 1) := by decide +kernel
theorem pnnlzI : plainName "java/lang/Integer" = true := by first | (simp [plainName, overriddenIn]; done) | decide +kernel
theorem efnlzI (m : MethodId) (p0 : Int32) : entryFrame m #[(.int p0)] 2 = mkF m 0 #[.val (.int p0), .unset] [] := by first | (simp [entryFrame, mkF, argsToLocals, Value.category]; done) | rfl
def fnlzI (p0 : Int32) : Int32 := (if (0 : Int32) < p0 then (let z2 : Int32 := (if p0 < (65536 : Int32) then p0 else ((p0.toUInt32 >>> ((16 : Int32) &&& 31).toUInt32).toInt32)); (let z3 : Int32 := (if p0 < (65536 : Int32) then (31 : Int32) else ((31 : Int32) + (-16 : Int32))); (let z6 : Int32 := (if z2 < (256 : Int32) then z2 else ((z2.toUInt32 >>> ((8 : Int32) &&& 31).toUInt32).toInt32)); (let z7 : Int32 := (if z2 < (256 : Int32) then z3 else (z3 + (-8 : Int32))); (let z10 : Int32 := (if z6 < (16 : Int32) then z6 else ((z6.toUInt32 >>> ((4 : Int32) &&& 31).toUInt32).toInt32)); (let z11 : Int32 := (if z6 < (16 : Int32) then z7 else (z7 + (-4 : Int32))); (let z14 : Int32 := (if z10 < (4 : Int32) then z10 else ((z10.toUInt32 >>> ((2 : Int32) &&& 31).toUInt32).toInt32)); (let z15 : Int32 := (if z10 < (4 : Int32) then z11 else (z11 + (-2 : Int32))); (z15 - ((z14.toUInt32 >>> ((1 : Int32) &&& 31).toUInt32).toInt32)))))))))) else (if p0 = (0 : Int32) then (32 : Int32) else (0 : Int32)))
def QnlzI (Z : State) (p0 : Int32) (h0 : Heap) (n0 : Nat) (v : Option Value) (h : Heap) (L : List Loc) : Prop := v = some (.int (fnlzI p0)) ∧ Fr n0 L ∧ h = h0
set_option maxRecDepth 65536 in
set_option maxHeartbeats 40000000 in
theorem rmnlzI (l : Launch) (Z : State) (ar : Array Value) (hw : ∀ d ∈ tables_1, d.before ar Z = true) (ws : List Jvm.Cond) (p0 : Int32) (h0 : Heap) (n0 : Nat) (O0 : Old Z n0 h0) :
    MetFree l (⟨"java/lang/Integer", "numberOfLeadingZeros", "(I)I"⟩ : MethodName) (head1 (Jvm.Cond.code (⟨"java/lang/Integer", "numberOfLeadingZeros", "(I)I"⟩ : MethodName) jdk_33_method_47_code 2 (some .int) :: ws) ({ frames := 0, cells := 0, slots := 0, locals := 0 } : Room)) (fun a U => a = #[(.int p0)] ∧ Z.Warmed39 U.vm ∧ U.heap = h0) (fun _ _ _ _ _ => True) (fun _ U o U' => ∃ v L, o = .returned v ∧ QnlzI Z p0 h0 n0 v U'.heap L ∧ FrameEnd U o U' L ({ frames := 0, cells := 0, slots := 0, locals := 0 } : Room).cells ({ frames := 0, cells := 0, slots := 0, locals := 0 } : Room).slots) := by
  refine MetFree.of_bodySF (plainFor_of_name pnnlzI) hisR ?_
  intro p e s m args below meth c s₁ Bd hml0 hP hK
  obtain ⟨rfl, hZ, hh⟩ := hP
  have hx := Bd.exec
  have hby := Bd.bytes
  have hml : c.maxLocals = 2 := hml0
  have hown : s.vm.findClass "java/lang/Integer" = some m.cls := findClass_of_methodNamed Bd.named
  have hnm := (name_of_methodNamed Bd.named Bd.method).1
  have hlk : meth.locks = false := BodyLoose.notSynchronized Bd
  have X0 : Stand p l e ({ frames := 0, cells := 0, slots := 0, locals := 0 } : Room) s m #[(.int p0)] below meth c s₁ [] 0 0 := Stand.of_body Bd
  have e0 : s₁.heap = h0 := by rw [← hh, Bd.state]; rfl
  have N0 := Fr.nil n0
  suffices hmain : own_Ends p e below s (QnlzI Z p0 h0 n0) 0 0 (s₁.setTop (mkF m 0 #[.val (.int p0), .unset] [])) by
    obtain ⟨U, o, h1, r⟩ := hmain
    exact ⟨U, o, castTop (efnlzI m p0) h1, r⟩
  show own_Ends _ _ _ _ _ _ _ (s₁.setTop (mkF m 0 #[.val (.int p0), .unset] []))
  refine own_go (fun _ k => XS.iloadN X0.here hx rfl (hb hby dnlzI_0) rfl k) ?_
  show own_Ends _ _ _ _ _ _ _ (s₁.setTop (mkF m 1 #[.val (.int p0), .unset] [(.int p0)]))
  by_cases hc1 : (0 : Int32) < p0
  · refine own_go (fun _ k => XS.ifYes X0.here hx rfl (pc0 := 1) (pc' := 15) rfl (hb hby dnlzI_1) rfl ((if0 _ _).trans (tlt hc1).2.2.1) (by decide) (by decide) k) ?_
    show own_Ends _ _ _ _ _ _ _ (s₁.setTop (mkF m 15 #[.val (.int p0), .unset] []))
    refine own_go (fun _ k => XS.bipush X0.here hx rfl (hb hby dnlzI_15) k) ?_
    show own_Ends _ _ _ _ _ _ _ (s₁.setTop (mkF m 17 #[.val (.int p0), .unset] [(.int (31 : Int32))]))
    refine own_go (fun _ k => XS.istoreN X0.here hx rfl (hb hby dnlzI_17) rfl (l' := #[.val (.int p0), .val (.int (31 : Int32))]) rfl k) ?_
    show own_Ends _ _ _ _ _ _ _ (s₁.setTop (mkF m 18 #[.val (.int p0), .val (.int (31 : Int32))] []))
    refine own_go (fun _ k => XS.iloadN X0.here hx rfl (hb hby dnlzI_18) rfl k) ?_
    show own_Ends _ _ _ _ _ _ _ (s₁.setTop (mkF m 19 #[.val (.int p0), .val (.int (31 : Int32))] [(.int p0)]))
    refine own_go (fun _ k => X0.ldcwInt hx hown (mvT hZ (hw _ (List.mem_of_getElem? (i := 41) rfl))) (g := (mkF m 19 #[.val (.int p0), .val (.int (31 : Int32))] [(.int p0)])) rfl (hb hby dnlzI_19) _ k) ?_
    show own_Ends _ _ _ _ _ _ _ (s₁.setTop (mkF m 22 #[.val (.int p0), .val (.int (31 : Int32))] [(.int (65536 : Int32)), (.int p0)]))
    suffices hj4 : ∀ z2 : Int32, z2 = (if p0 < (65536 : Int32) then p0 else ((p0.toUInt32 >>> ((16 : Int32) &&& 31).toUInt32).toInt32)) → ∀ z3 : Int32, z3 = (if p0 < (65536 : Int32) then (31 : Int32) else ((31 : Int32) + (-16 : Int32))) → own_Ends p e below s (QnlzI Z p0 h0 n0) 0 0 (s₁.setTop (mkF m 33 #[.val (.int z2), .val (.int z3)] [])) by
      show own_Ends _ _ _ _ _ _ _ (s₁.setTop (mkF m 22 #[.val (.int p0), .val (.int (31 : Int32))] [(.int (65536 : Int32)), (.int p0)]))
      by_cases hc5 : p0 < (65536 : Int32)
      · refine own_go (fun _ k => XS.icmpYes X0.here hx rfl (pc0 := 22) (pc' := 33) rfl (hb hby dnlzI_22) rfl (tlt hc5).1 (by decide) (by decide) k) ?_
        exact hj4 _ ((if_pos hc5)).symm _ ((if_pos hc5)).symm
      · refine own_go (fun _ k => XS.icmpNo X0.here hx rfl (hb hby dnlzI_22) rfl (flt hc5).1 k) ?_
        show own_Ends _ _ _ _ _ _ _ (s₁.setTop (mkF m 25 #[.val (.int p0), .val (.int (31 : Int32))] []))
        refine own_go (fun _ k => XS.iinc X0.here hx rfl (hb hby dnlzI_25) rfl (l' := #[.val (.int p0), .val (.int ((31 : Int32) + (-16 : Int32)))]) rfl k) ?_
        show own_Ends _ _ _ _ _ _ _ (s₁.setTop (mkF m 28 #[.val (.int p0), .val (.int ((31 : Int32) + (-16 : Int32)))] []))
        refine own_go (fun _ k => XS.iloadN X0.here hx rfl (hb hby dnlzI_28) rfl k) ?_
        show own_Ends _ _ _ _ _ _ _ (s₁.setTop (mkF m 29 #[.val (.int p0), .val (.int ((31 : Int32) + (-16 : Int32)))] [(.int p0)]))
        refine own_go (fun _ k => XS.bipush X0.here hx rfl (hb hby dnlzI_29) k) ?_
        show own_Ends _ _ _ _ _ _ _ (s₁.setTop (mkF m 31 #[.val (.int p0), .val (.int ((31 : Int32) + (-16 : Int32)))] [(.int (16 : Int32)), (.int p0)]))
        refine own_go (fun _ k => XS.iushr X0.here hx rfl (hb hby dnlzI_31) rfl k) ?_
        show own_Ends _ _ _ _ _ _ _ (s₁.setTop (mkF m 32 #[.val (.int p0), .val (.int ((31 : Int32) + (-16 : Int32)))] [(.int ((p0.toUInt32 >>> ((16 : Int32) &&& 31).toUInt32).toInt32))]))
        refine own_go (fun _ k => XS.istoreN X0.here hx rfl (hb hby dnlzI_32) rfl (l' := #[.val (.int ((p0.toUInt32 >>> ((16 : Int32) &&& 31).toUInt32).toInt32)), .val (.int ((31 : Int32) + (-16 : Int32)))]) rfl k) ?_
        exact hj4 _ ((if_neg hc5)).symm _ ((if_neg hc5)).symm
    intro z2 hz2
    intro z3 hz3
    show own_Ends _ _ _ _ _ _ _ (s₁.setTop (mkF m 33 #[.val (.int z2), .val (.int z3)] []))
    refine own_go (fun _ k => XS.iloadN X0.here hx rfl (hb hby dnlzI_33) rfl k) ?_
    show own_Ends _ _ _ _ _ _ _ (s₁.setTop (mkF m 34 #[.val (.int z2), .val (.int z3)] [(.int z2)]))
    refine own_go (fun _ k => XS.sipush X0.here hx rfl (hb hby dnlzI_34) k) ?_
    show own_Ends _ _ _ _ _ _ _ (s₁.setTop (mkF m 37 #[.val (.int z2), .val (.int z3)] [(.int (256 : Int32)), (.int z2)]))
    suffices hj8 : ∀ z6 : Int32, z6 = (if z2 < (256 : Int32) then z2 else ((z2.toUInt32 >>> ((8 : Int32) &&& 31).toUInt32).toInt32)) → ∀ z7 : Int32, z7 = (if z2 < (256 : Int32) then z3 else (z3 + (-8 : Int32))) → own_Ends p e below s (QnlzI Z p0 h0 n0) 0 0 (s₁.setTop (mkF m 48 #[.val (.int z6), .val (.int z7)] [])) by
      show own_Ends _ _ _ _ _ _ _ (s₁.setTop (mkF m 37 #[.val (.int z2), .val (.int z3)] [(.int (256 : Int32)), (.int z2)]))
      by_cases hc9 : z2 < (256 : Int32)
      · refine own_go (fun _ k => XS.icmpYes X0.here hx rfl (pc0 := 37) (pc' := 48) rfl (hb hby dnlzI_37) rfl (tlt hc9).1 (by decide) (by decide) k) ?_
        exact hj8 _ ((if_pos hc9)).symm _ ((if_pos hc9)).symm
      · refine own_go (fun _ k => XS.icmpNo X0.here hx rfl (hb hby dnlzI_37) rfl (flt hc9).1 k) ?_
        show own_Ends _ _ _ _ _ _ _ (s₁.setTop (mkF m 40 #[.val (.int z2), .val (.int z3)] []))
        refine own_go (fun _ k => XS.iinc X0.here hx rfl (hb hby dnlzI_40) rfl (l' := #[.val (.int z2), .val (.int (z3 + (-8 : Int32)))]) rfl k) ?_
        show own_Ends _ _ _ _ _ _ _ (s₁.setTop (mkF m 43 #[.val (.int z2), .val (.int (z3 + (-8 : Int32)))] []))
        refine own_go (fun _ k => XS.iloadN X0.here hx rfl (hb hby dnlzI_43) rfl k) ?_
        show own_Ends _ _ _ _ _ _ _ (s₁.setTop (mkF m 44 #[.val (.int z2), .val (.int (z3 + (-8 : Int32)))] [(.int z2)]))
        refine own_go (fun _ k => XS.bipush X0.here hx rfl (hb hby dnlzI_44) k) ?_
        show own_Ends _ _ _ _ _ _ _ (s₁.setTop (mkF m 46 #[.val (.int z2), .val (.int (z3 + (-8 : Int32)))] [(.int (8 : Int32)), (.int z2)]))
        refine own_go (fun _ k => XS.iushr X0.here hx rfl (hb hby dnlzI_46) rfl k) ?_
        show own_Ends _ _ _ _ _ _ _ (s₁.setTop (mkF m 47 #[.val (.int z2), .val (.int (z3 + (-8 : Int32)))] [(.int ((z2.toUInt32 >>> ((8 : Int32) &&& 31).toUInt32).toInt32))]))
        refine own_go (fun _ k => XS.istoreN X0.here hx rfl (hb hby dnlzI_47) rfl (l' := #[.val (.int ((z2.toUInt32 >>> ((8 : Int32) &&& 31).toUInt32).toInt32)), .val (.int (z3 + (-8 : Int32)))]) rfl k) ?_
        exact hj8 _ ((if_neg hc9)).symm _ ((if_neg hc9)).symm
    intro z6 hz6
    intro z7 hz7
    show own_Ends _ _ _ _ _ _ _ (s₁.setTop (mkF m 48 #[.val (.int z6), .val (.int z7)] []))
    refine own_go (fun _ k => XS.iloadN X0.here hx rfl (hb hby dnlzI_48) rfl k) ?_
    show own_Ends _ _ _ _ _ _ _ (s₁.setTop (mkF m 49 #[.val (.int z6), .val (.int z7)] [(.int z6)]))
    refine own_go (fun _ k => XS.bipush X0.here hx rfl (hb hby dnlzI_49) k) ?_
    show own_Ends _ _ _ _ _ _ _ (s₁.setTop (mkF m 51 #[.val (.int z6), .val (.int z7)] [(.int (16 : Int32)), (.int z6)]))
    suffices hj12 : ∀ z10 : Int32, z10 = (if z6 < (16 : Int32) then z6 else ((z6.toUInt32 >>> ((4 : Int32) &&& 31).toUInt32).toInt32)) → ∀ z11 : Int32, z11 = (if z6 < (16 : Int32) then z7 else (z7 + (-4 : Int32))) → own_Ends p e below s (QnlzI Z p0 h0 n0) 0 0 (s₁.setTop (mkF m 61 #[.val (.int z10), .val (.int z11)] [])) by
      show own_Ends _ _ _ _ _ _ _ (s₁.setTop (mkF m 51 #[.val (.int z6), .val (.int z7)] [(.int (16 : Int32)), (.int z6)]))
      by_cases hc13 : z6 < (16 : Int32)
      · refine own_go (fun _ k => XS.icmpYes X0.here hx rfl (pc0 := 51) (pc' := 61) rfl (hb hby dnlzI_51) rfl (tlt hc13).1 (by decide) (by decide) k) ?_
        exact hj12 _ ((if_pos hc13)).symm _ ((if_pos hc13)).symm
      · refine own_go (fun _ k => XS.icmpNo X0.here hx rfl (hb hby dnlzI_51) rfl (flt hc13).1 k) ?_
        show own_Ends _ _ _ _ _ _ _ (s₁.setTop (mkF m 54 #[.val (.int z6), .val (.int z7)] []))
        refine own_go (fun _ k => XS.iinc X0.here hx rfl (hb hby dnlzI_54) rfl (l' := #[.val (.int z6), .val (.int (z7 + (-4 : Int32)))]) rfl k) ?_
        show own_Ends _ _ _ _ _ _ _ (s₁.setTop (mkF m 57 #[.val (.int z6), .val (.int (z7 + (-4 : Int32)))] []))
        refine own_go (fun _ k => XS.iloadN X0.here hx rfl (hb hby dnlzI_57) rfl k) ?_
        show own_Ends _ _ _ _ _ _ _ (s₁.setTop (mkF m 58 #[.val (.int z6), .val (.int (z7 + (-4 : Int32)))] [(.int z6)]))
        refine own_go (fun _ k => XS.iconst X0.here hx rfl (hb hby dnlzI_58) k) ?_
        show own_Ends _ _ _ _ _ _ _ (s₁.setTop (mkF m 59 #[.val (.int z6), .val (.int (z7 + (-4 : Int32)))] [(.int (4 : Int32)), (.int z6)]))
        refine own_go (fun _ k => XS.iushr X0.here hx rfl (hb hby dnlzI_59) rfl k) ?_
        show own_Ends _ _ _ _ _ _ _ (s₁.setTop (mkF m 60 #[.val (.int z6), .val (.int (z7 + (-4 : Int32)))] [(.int ((z6.toUInt32 >>> ((4 : Int32) &&& 31).toUInt32).toInt32))]))
        refine own_go (fun _ k => XS.istoreN X0.here hx rfl (hb hby dnlzI_60) rfl (l' := #[.val (.int ((z6.toUInt32 >>> ((4 : Int32) &&& 31).toUInt32).toInt32)), .val (.int (z7 + (-4 : Int32)))]) rfl k) ?_
        exact hj12 _ ((if_neg hc13)).symm _ ((if_neg hc13)).symm
    intro z10 hz10
    intro z11 hz11
    show own_Ends _ _ _ _ _ _ _ (s₁.setTop (mkF m 61 #[.val (.int z10), .val (.int z11)] []))
    refine own_go (fun _ k => XS.iloadN X0.here hx rfl (hb hby dnlzI_61) rfl k) ?_
    show own_Ends _ _ _ _ _ _ _ (s₁.setTop (mkF m 62 #[.val (.int z10), .val (.int z11)] [(.int z10)]))
    refine own_go (fun _ k => XS.iconst X0.here hx rfl (hb hby dnlzI_62) k) ?_
    show own_Ends _ _ _ _ _ _ _ (s₁.setTop (mkF m 63 #[.val (.int z10), .val (.int z11)] [(.int (4 : Int32)), (.int z10)]))
    suffices hj16 : ∀ z14 : Int32, z14 = (if z10 < (4 : Int32) then z10 else ((z10.toUInt32 >>> ((2 : Int32) &&& 31).toUInt32).toInt32)) → ∀ z15 : Int32, z15 = (if z10 < (4 : Int32) then z11 else (z11 + (-2 : Int32))) → own_Ends p e below s (QnlzI Z p0 h0 n0) 0 0 (s₁.setTop (mkF m 73 #[.val (.int z14), .val (.int z15)] [])) by
      show own_Ends _ _ _ _ _ _ _ (s₁.setTop (mkF m 63 #[.val (.int z10), .val (.int z11)] [(.int (4 : Int32)), (.int z10)]))
      by_cases hc17 : z10 < (4 : Int32)
      · refine own_go (fun _ k => XS.icmpYes X0.here hx rfl (pc0 := 63) (pc' := 73) rfl (hb hby dnlzI_63) rfl (tlt hc17).1 (by decide) (by decide) k) ?_
        exact hj16 _ ((if_pos hc17)).symm _ ((if_pos hc17)).symm
      · refine own_go (fun _ k => XS.icmpNo X0.here hx rfl (hb hby dnlzI_63) rfl (flt hc17).1 k) ?_
        show own_Ends _ _ _ _ _ _ _ (s₁.setTop (mkF m 66 #[.val (.int z10), .val (.int z11)] []))
        refine own_go (fun _ k => XS.iinc X0.here hx rfl (hb hby dnlzI_66) rfl (l' := #[.val (.int z10), .val (.int (z11 + (-2 : Int32)))]) rfl k) ?_
        show own_Ends _ _ _ _ _ _ _ (s₁.setTop (mkF m 69 #[.val (.int z10), .val (.int (z11 + (-2 : Int32)))] []))
        refine own_go (fun _ k => XS.iloadN X0.here hx rfl (hb hby dnlzI_69) rfl k) ?_
        show own_Ends _ _ _ _ _ _ _ (s₁.setTop (mkF m 70 #[.val (.int z10), .val (.int (z11 + (-2 : Int32)))] [(.int z10)]))
        refine own_go (fun _ k => XS.iconst X0.here hx rfl (hb hby dnlzI_70) k) ?_
        show own_Ends _ _ _ _ _ _ _ (s₁.setTop (mkF m 71 #[.val (.int z10), .val (.int (z11 + (-2 : Int32)))] [(.int (2 : Int32)), (.int z10)]))
        refine own_go (fun _ k => XS.iushr X0.here hx rfl (hb hby dnlzI_71) rfl k) ?_
        show own_Ends _ _ _ _ _ _ _ (s₁.setTop (mkF m 72 #[.val (.int z10), .val (.int (z11 + (-2 : Int32)))] [(.int ((z10.toUInt32 >>> ((2 : Int32) &&& 31).toUInt32).toInt32))]))
        refine own_go (fun _ k => XS.istoreN X0.here hx rfl (hb hby dnlzI_72) rfl (l' := #[.val (.int ((z10.toUInt32 >>> ((2 : Int32) &&& 31).toUInt32).toInt32)), .val (.int (z11 + (-2 : Int32)))]) rfl k) ?_
        exact hj16 _ ((if_neg hc17)).symm _ ((if_neg hc17)).symm
    intro z14 hz14
    intro z15 hz15
    show own_Ends _ _ _ _ _ _ _ (s₁.setTop (mkF m 73 #[.val (.int z14), .val (.int z15)] []))
    refine own_go (fun _ k => XS.iloadN X0.here hx rfl (hb hby dnlzI_73) rfl k) ?_
    show own_Ends _ _ _ _ _ _ _ (s₁.setTop (mkF m 74 #[.val (.int z14), .val (.int z15)] [(.int z15)]))
    refine own_go (fun _ k => XS.iloadN X0.here hx rfl (hb hby dnlzI_74) rfl k) ?_
    show own_Ends _ _ _ _ _ _ _ (s₁.setTop (mkF m 75 #[.val (.int z14), .val (.int z15)] [(.int z14), (.int z15)]))
    refine own_go (fun _ k => XS.iconst X0.here hx rfl (hb hby dnlzI_75) k) ?_
    show own_Ends _ _ _ _ _ _ _ (s₁.setTop (mkF m 76 #[.val (.int z14), .val (.int z15)] [(.int (1 : Int32)), (.int z14), (.int z15)]))
    refine own_go (fun _ k => XS.iushr X0.here hx rfl (hb hby dnlzI_76) rfl k) ?_
    show own_Ends _ _ _ _ _ _ _ (s₁.setTop (mkF m 77 #[.val (.int z14), .val (.int z15)] [(.int ((z14.toUInt32 >>> ((1 : Int32) &&& 31).toUInt32).toInt32)), (.int z15)]))
    refine own_go (fun _ k => XS.isub X0.here hx rfl (hb hby dnlzI_77) rfl k) ?_
    show own_Ends _ _ _ _ _ _ _ (s₁.setTop (mkF m 78 #[.val (.int z14), .val (.int z15)] [(.int (z15 - ((z14.toUInt32 >>> ((1 : Int32) &&& 31).toUInt32).toInt32)))]))
    exact own_retI X0 hx hlk Bd.returns (hb hby dnlzI_78) (by decide) (by decide) ⟨congrArg (fun z => some (Value.int z)) (by subst hz15 hz14 hz11 hz10 hz7 hz6 hz3 hz2; exact ((if_pos hc1)).symm), N0, e0⟩
  · refine own_go (fun _ k => XS.ifNo X0.here hx rfl (hb hby dnlzI_1) rfl ((if0 _ _).trans (flt hc1).2.2.1) k) ?_
    show own_Ends _ _ _ _ _ _ _ (s₁.setTop (mkF m 4 #[.val (.int p0), .unset] []))
    refine own_go (fun _ k => XS.iloadN X0.here hx rfl (hb hby dnlzI_4) rfl k) ?_
    show own_Ends _ _ _ _ _ _ _ (s₁.setTop (mkF m 5 #[.val (.int p0), .unset] [(.int p0)]))
    by_cases hc18 : p0 = (0 : Int32)
    · refine own_go (fun _ k => XS.ifNo X0.here hx rfl (hb hby dnlzI_5) rfl ((if0 _ _).trans (teq hc18).2) k) ?_
      show own_Ends _ _ _ _ _ _ _ (s₁.setTop (mkF m 8 #[.val (.int p0), .unset] []))
      refine own_go (fun _ k => XS.bipush X0.here hx rfl (hb hby dnlzI_8) k) ?_
      show own_Ends _ _ _ _ _ _ _ (s₁.setTop (mkF m 10 #[.val (.int p0), .unset] [(.int (32 : Int32))]))
      refine own_go (fun _ k => XS.goto X0.here hx rfl (pc0 := 10) (pc' := 14) rfl (hb hby dnlzI_10) (by decide) (by decide) k) ?_
      show own_Ends _ _ _ _ _ _ _ (s₁.setTop (mkF m 14 #[.val (.int p0), .unset] [(.int (32 : Int32))]))
      exact own_retI X0 hx hlk Bd.returns (hb hby dnlzI_14) (by decide) (by decide) ⟨congrArg (fun z => some (Value.int z)) (by exact (((if_neg hc1).trans (if_pos hc18))).symm), N0, e0⟩
    · refine own_go (fun _ k => XS.ifYes X0.here hx rfl (pc0 := 5) (pc' := 13) rfl (hb hby dnlzI_5) rfl ((if0 _ _).trans (feq hc18).2) (by decide) (by decide) k) ?_
      show own_Ends _ _ _ _ _ _ _ (s₁.setTop (mkF m 13 #[.val (.int p0), .unset] []))
      refine own_go (fun _ k => XS.iconst X0.here hx rfl (hb hby dnlzI_13) k) ?_
      show own_Ends _ _ _ _ _ _ _ (s₁.setTop (mkF m 14 #[.val (.int p0), .unset] [(.int (0 : Int32))]))
      exact own_retI X0 hx hlk Bd.returns (hb hby dnlzI_14) (by decide) (by decide) ⟨congrArg (fun z => some (Value.int z)) (by exact (((if_neg hc1).trans (if_neg hc18))).symm), N0, e0⟩
theorem dnlzJ_0 : decode jdk_35_method_48_code 0 = .ok (.lload_n 0, 1) := by decide +kernel
theorem dnlzJ_1 : decode jdk_35_method_48_code 1 = .ok (.bipush 32, 2) := by decide +kernel
theorem dnlzJ_3 : decode jdk_35_method_48_code 3 = .ok (.lushr, 1) := by decide +kernel
theorem dnlzJ_4 : decode jdk_35_method_48_code 4 = .ok (.l2i, 1) := by decide +kernel
theorem dnlzJ_5 : decode jdk_35_method_48_code 5 = .ok (.istore_n 2, 1) := by decide +kernel
theorem dnlzJ_6 : decode jdk_35_method_48_code 6 = .ok (.iload_n 2, 1) := by decide +kernel
theorem dnlzJ_7 : decode jdk_35_method_48_code 7 = .ok (.ifCond .ne 14, 3) := by decide +kernel
theorem dnlzJ_10 : decode jdk_35_method_48_code 10 = .ok (.bipush 32, 2) := by decide +kernel
theorem dnlzJ_12 : decode jdk_35_method_48_code 12 = .ok (.lload_n 0, 1) := by decide +kernel
theorem dnlzJ_13 : decode jdk_35_method_48_code 13 = .ok (.l2i, 1) := by decide +kernel
theorem dnlzJ_14 : decode jdk_35_method_48_code 14 = .ok (.invokestatic 308, 3) := by decide +kernel
theorem dnlzJ_17 : decode jdk_35_method_48_code 17 = .ok (.iadd, 1) := by decide +kernel
theorem dnlzJ_18 : decode jdk_35_method_48_code 18 = .ok (.goto 7, 3) := by decide +kernel
theorem dnlzJ_21 : decode jdk_35_method_48_code 21 = .ok (.iload_n 2, 1) := by decide +kernel
theorem dnlzJ_22 : decode jdk_35_method_48_code 22 = .ok (.invokestatic 308, 3) := by decide +kernel
theorem dnlzJ_25 : decode jdk_35_method_48_code 25 = .ok (.ireturn, 1) := by decide +kernel
theorem pnnlzJ : plainName "java/lang/Long" = true := by first | (simp [plainName, overriddenIn]; done) | decide +kernel
theorem pdnlzJ_0 : parseMethodDescriptor "(I)I" = some ⟨[.int], some .int⟩ := by decide +kernel
theorem efnlzJ (m : MethodId) (q0 : Int64) : entryFrame m #[(.long q0)] 3 = mkF m 0 #[.val (.long q0), .second, .unset] [] := by first | (simp [entryFrame, mkF, argsToLocals, Value.category]; done) | rfl
def fnlzJ (q0 : Int64) : Int32 := (if (((q0.toUInt64 >>> ((32 : Int32) &&& 0x3f).toInt64.toUInt64).toInt64).toInt32) = (0 : Int32) then ((32 : Int32) + (fnlzI (q0.toInt32))) else (fnlzI (((q0.toUInt64 >>> ((32 : Int32) &&& 0x3f).toInt64.toUInt64).toInt64).toInt32)))
def QnlzJ (Z : State) (q0 : Int64) (h0 : Heap) (n0 : Nat) (v : Option Value) (h : Heap) (L : List Loc) : Prop := v = some (.int (fnlzJ q0)) ∧ Fr n0 L ∧ h = h0
set_option maxRecDepth 65536 in
set_option maxHeartbeats 40000000 in
theorem rmnlzJ (l : Launch) (Z : State) (ar : Array Value) (hw : ∀ d ∈ tables_1, d.before ar Z = true) (ws : List Jvm.Cond) (q0 : Int64) (h0 : Heap) (n0 : Nat) (O0 : Old Z n0 h0) :
    MetFree l (⟨"java/lang/Long", "numberOfLeadingZeros", "(J)I"⟩ : MethodName) (head1 (Jvm.Cond.code (⟨"java/lang/Long", "numberOfLeadingZeros", "(J)I"⟩ : MethodName) jdk_35_method_48_code 3 (some .int) :: ws) ({ frames := 1, cells := 0, slots := 0, locals := 14 } : Room)) (fun a U => a = #[(.long q0)] ∧ Z.Warmed39 U.vm ∧ U.heap = h0) (fun _ _ _ _ _ => True) (fun _ U o U' => ∃ v L, o = .returned v ∧ QnlzJ Z q0 h0 n0 v U'.heap L ∧ FrameEnd U o U' L ({ frames := 1, cells := 0, slots := 0, locals := 14 } : Room).cells ({ frames := 1, cells := 0, slots := 0, locals := 14 } : Room).slots) := by
  refine MetFree.of_bodySF (plainFor_of_name pnnlzJ) hisR ?_
  intro p e s m args below meth c s₁ Bd hml0 hP hK
  obtain ⟨rfl, hZ, hh⟩ := hP
  have hx := Bd.exec
  have hby := Bd.bytes
  have hml : c.maxLocals = 3 := hml0
  have hown : s.vm.findClass "java/lang/Long" = some m.cls := findClass_of_methodNamed Bd.named
  have hnm := (name_of_methodNamed Bd.named Bd.method).1
  have hlk : meth.locks = false := BodyLoose.notSynchronized Bd
  have X0 : Stand p l e ({ frames := 1, cells := 0, slots := 0, locals := 14 } : Room) s m #[(.long q0)] below meth c s₁ [] 0 0 := Stand.of_body Bd
  have e0 : s₁.heap = h0 := by rw [← hh, Bd.state]; rfl
  have N0 := Fr.nil n0
  suffices hmain : own_Ends p e below s (QnlzJ Z q0 h0 n0) 0 0 (s₁.setTop (mkF m 0 #[.val (.long q0), .second, .unset] [])) by
    obtain ⟨U, o, h1, r⟩ := hmain
    exact ⟨U, o, castTop (efnlzJ m q0) h1, r⟩
  show own_Ends _ _ _ _ _ _ _ (s₁.setTop (mkF m 0 #[.val (.long q0), .second, .unset] []))
  refine own_go (fun _ k => XS.lloadN X0.here hx rfl (hb hby dnlzJ_0) rfl k) ?_
  show own_Ends _ _ _ _ _ _ _ (s₁.setTop (mkF m 1 #[.val (.long q0), .second, .unset] [(.long q0)]))
  refine own_go (fun _ k => XS.bipush X0.here hx rfl (hb hby dnlzJ_1) k) ?_
  show own_Ends _ _ _ _ _ _ _ (s₁.setTop (mkF m 3 #[.val (.long q0), .second, .unset] [(.int (32 : Int32)), (.long q0)]))
  refine own_go (fun _ k => XS.lushr X0.here hx rfl (hb hby dnlzJ_3) rfl k) ?_
  show own_Ends _ _ _ _ _ _ _ (s₁.setTop (mkF m 4 #[.val (.long q0), .second, .unset] [(.long ((q0.toUInt64 >>> ((32 : Int32) &&& 0x3f).toInt64.toUInt64).toInt64))]))
  refine own_go (fun _ k => XS.l2i X0.here hx rfl (hb hby dnlzJ_4) rfl k) ?_
  show own_Ends _ _ _ _ _ _ _ (s₁.setTop (mkF m 5 #[.val (.long q0), .second, .unset] [(.int (((q0.toUInt64 >>> ((32 : Int32) &&& 0x3f).toInt64.toUInt64).toInt64).toInt32))]))
  refine own_go (fun _ k => XS.istoreN X0.here hx rfl (hb hby dnlzJ_5) rfl (l' := #[.val (.long q0), .second, .val (.int (((q0.toUInt64 >>> ((32 : Int32) &&& 0x3f).toInt64.toUInt64).toInt64).toInt32))]) rfl k) ?_
  show own_Ends _ _ _ _ _ _ _ (s₁.setTop (mkF m 6 #[.val (.long q0), .second, .val (.int (((q0.toUInt64 >>> ((32 : Int32) &&& 0x3f).toInt64.toUInt64).toInt64).toInt32))] []))
  refine own_go (fun _ k => XS.iloadN X0.here hx rfl (hb hby dnlzJ_6) rfl k) ?_
  show own_Ends _ _ _ _ _ _ _ (s₁.setTop (mkF m 7 #[.val (.long q0), .second, .val (.int (((q0.toUInt64 >>> ((32 : Int32) &&& 0x3f).toInt64.toUInt64).toInt64).toInt32))] [(.int (((q0.toUInt64 >>> ((32 : Int32) &&& 0x3f).toInt64.toUInt64).toInt64).toInt32))]))
  by_cases hc1 : (((q0.toUInt64 >>> ((32 : Int32) &&& 0x3f).toInt64.toUInt64).toInt64).toInt32) = (0 : Int32)
  · refine own_go (fun _ k => XS.ifNo X0.here hx rfl (hb hby dnlzJ_7) rfl ((if0 _ _).trans (teq hc1).2) k) ?_
    show own_Ends _ _ _ _ _ _ _ (s₁.setTop (mkF m 10 #[.val (.long q0), .second, .val (.int (((q0.toUInt64 >>> ((32 : Int32) &&& 0x3f).toInt64.toUInt64).toInt64).toInt32))] []))
    refine own_go (fun _ k => XS.bipush X0.here hx rfl (hb hby dnlzJ_10) k) ?_
    show own_Ends _ _ _ _ _ _ _ (s₁.setTop (mkF m 12 #[.val (.long q0), .second, .val (.int (((q0.toUInt64 >>> ((32 : Int32) &&& 0x3f).toInt64.toUInt64).toInt64).toInt32))] [(.int (32 : Int32))]))
    refine own_go (fun _ k => XS.lloadN X0.here hx rfl (hb hby dnlzJ_12) rfl k) ?_
    show own_Ends _ _ _ _ _ _ _ (s₁.setTop (mkF m 13 #[.val (.long q0), .second, .val (.int (((q0.toUInt64 >>> ((32 : Int32) &&& 0x3f).toInt64.toUInt64).toInt64).toInt32))] [(.long q0), (.int (32 : Int32))]))
    refine own_go (fun _ k => XS.l2i X0.here hx rfl (hb hby dnlzJ_13) rfl k) ?_
    show own_Ends _ _ _ _ _ _ _ (s₁.setTop (mkF m 14 #[.val (.long q0), .second, .val (.int (((q0.toUInt64 >>> ((32 : Int32) &&& 0x3f).toInt64.toUInt64).toInt64).toInt32))] [(.int (q0.toInt32)), (.int (32 : Int32))]))
    obtain ⟨_, _, ⟨T2, L2, k2, n2⟩, -, X2, ⟨Lc2, hQ2, l2, y2, z2⟩, st2⟩ := Jvm.LawKit.callS X0 hx (y := (⟨"java/lang/Integer", "numberOfLeadingZeros", "(I)I"⟩ : MethodName)) hown (mvT hZ (hw _ (List.mem_of_getElem? (i := 37) rfl))) (mvT hZ (hw _ (List.mem_of_getElem? (i := 38) rfl))) (mvT hZ (hw _ (List.mem_of_getElem? (i := 39) rfl))) (mvT hZ (hw _ (List.mem_of_getElem? (i := 40) rfl))) (by decide) (backOf (W := 1) (rmnlzI l Z ar hw [] (q0.toInt32) h0 n0 O0) hZ (hw _ (List.mem_of_getElem? (i := 40) rfl)) (hw _ (List.mem_of_getElem? (i := 39) rfl)) (by decide) (by decide)) (g := (mkF m 14 #[.val (.long q0), .second, .val (.int (((q0.toUInt64 >>> ((32 : Int32) &&& 0x3f).toInt64.toUInt64).toInt64).toInt32))] [(.int (q0.toInt32)), (.int (32 : Int32))])) rfl (by rw [hml]; rfl) (argsL := [(.int (q0.toInt32))]) (rest := [(.int (32 : Int32))]) (lenOf pdnlzJ_0 rfl) rfl (by show 2 * 0 + _ ≤ _; exact Nat.le_of_eq rfl) (hb hby dnlzJ_14) (fun _ _ => ⟨rfl, e0, (by decide : 0 + 0 ≤ _), (by decide : 0 + 0 ≤ _)⟩)
    dsimp only [Pt.U, Pt.locs, Pt.cells, Pt.slots] at X2 l2 y2 z2 st2 hQ2
    subst l2 y2 z2
    obtain ⟨rfl, N2q, eq2⟩ := hQ2
    have e2 : T2.heap = h0 := eq2
    have N2 := Fr.app N0 N2q
    refine own_go (fun _ k => st2 _ k) ?_
    show own_Ends _ _ _ _ _ _ _ (T2.setTop (mkF m 17 #[.val (.long q0), .second, .val (.int (((q0.toUInt64 >>> ((32 : Int32) &&& 0x3f).toInt64.toUInt64).toInt64).toInt32))] [(.int (fnlzI (q0.toInt32))), (.int (32 : Int32))]))
    refine own_go (fun _ k => XS.iadd X2.here hx rfl (hb hby dnlzJ_17) rfl k) ?_
    show own_Ends _ _ _ _ _ _ _ (T2.setTop (mkF m 18 #[.val (.long q0), .second, .val (.int (((q0.toUInt64 >>> ((32 : Int32) &&& 0x3f).toInt64.toUInt64).toInt64).toInt32))] [(.int ((32 : Int32) + (fnlzI (q0.toInt32))))]))
    refine own_go (fun _ k => XS.goto X2.here hx rfl (pc0 := 18) (pc' := 25) rfl (hb hby dnlzJ_18) (by decide) (by decide) k) ?_
    show own_Ends _ _ _ _ _ _ _ (T2.setTop (mkF m 25 #[.val (.long q0), .second, .val (.int (((q0.toUInt64 >>> ((32 : Int32) &&& 0x3f).toInt64.toUInt64).toInt64).toInt32))] [(.int ((32 : Int32) + (fnlzI (q0.toInt32))))]))
    exact own_retI X2 hx hlk Bd.returns (hb hby dnlzJ_25) (by decide) (by decide) ⟨congrArg (fun z => some (Value.int z)) (by exact ((if_pos hc1)).symm), N2, e2⟩
  · refine own_go (fun _ k => XS.ifYes X0.here hx rfl (pc0 := 7) (pc' := 21) rfl (hb hby dnlzJ_7) rfl ((if0 _ _).trans (feq hc1).2) (by decide) (by decide) k) ?_
    show own_Ends _ _ _ _ _ _ _ (s₁.setTop (mkF m 21 #[.val (.long q0), .second, .val (.int (((q0.toUInt64 >>> ((32 : Int32) &&& 0x3f).toInt64.toUInt64).toInt64).toInt32))] []))
    refine own_go (fun _ k => XS.iloadN X0.here hx rfl (hb hby dnlzJ_21) rfl k) ?_
    show own_Ends _ _ _ _ _ _ _ (s₁.setTop (mkF m 22 #[.val (.long q0), .second, .val (.int (((q0.toUInt64 >>> ((32 : Int32) &&& 0x3f).toInt64.toUInt64).toInt64).toInt32))] [(.int (((q0.toUInt64 >>> ((32 : Int32) &&& 0x3f).toInt64.toUInt64).toInt64).toInt32))]))
    obtain ⟨_, _, ⟨T3, L3, k3, n3⟩, -, X3, ⟨Lc3, hQ3, l3, y3, z3⟩, st3⟩ := Jvm.LawKit.callS X0 hx (y := (⟨"java/lang/Integer", "numberOfLeadingZeros", "(I)I"⟩ : MethodName)) hown (mvT hZ (hw _ (List.mem_of_getElem? (i := 37) rfl))) (mvT hZ (hw _ (List.mem_of_getElem? (i := 38) rfl))) (mvT hZ (hw _ (List.mem_of_getElem? (i := 39) rfl))) (mvT hZ (hw _ (List.mem_of_getElem? (i := 40) rfl))) (by decide) (backOf (W := 0) (rmnlzI l Z ar hw [] (((q0.toUInt64 >>> ((32 : Int32) &&& 0x3f).toInt64.toUInt64).toInt64).toInt32) h0 n0 O0) hZ (hw _ (List.mem_of_getElem? (i := 40) rfl)) (hw _ (List.mem_of_getElem? (i := 39) rfl)) (by decide) (by decide)) (g := (mkF m 22 #[.val (.long q0), .second, .val (.int (((q0.toUInt64 >>> ((32 : Int32) &&& 0x3f).toInt64.toUInt64).toInt64).toInt32))] [(.int (((q0.toUInt64 >>> ((32 : Int32) &&& 0x3f).toInt64.toUInt64).toInt64).toInt32))])) rfl (by rw [hml]; rfl) (argsL := [(.int (((q0.toUInt64 >>> ((32 : Int32) &&& 0x3f).toInt64.toUInt64).toInt64).toInt32))]) (rest := []) (lenOf pdnlzJ_0 rfl) rfl (by show 2 * 0 + _ ≤ _; exact Nat.le_of_eq rfl) (hb hby dnlzJ_22) (fun _ _ => ⟨rfl, e0, (by decide : 0 + 0 ≤ _), (by decide : 0 + 0 ≤ _)⟩)
    dsimp only [Pt.U, Pt.locs, Pt.cells, Pt.slots] at X3 l3 y3 z3 st3 hQ3
    subst l3 y3 z3
    obtain ⟨rfl, N3q, eq3⟩ := hQ3
    have e3 : T3.heap = h0 := eq3
    have N3 := Fr.app N0 N3q
    refine own_go (fun _ k => st3 _ k) ?_
    show own_Ends _ _ _ _ _ _ _ (T3.setTop (mkF m 25 #[.val (.long q0), .second, .val (.int (((q0.toUInt64 >>> ((32 : Int32) &&& 0x3f).toInt64.toUInt64).toInt64).toInt32))] [(.int (fnlzI (((q0.toUInt64 >>> ((32 : Int32) &&& 0x3f).toInt64.toUInt64).toInt64).toInt32)))]))
    exact own_retI X3 hx hlk Bd.returns (hb hby dnlzJ_25) (by decide) (by decide) ⟨congrArg (fun z => some (Value.int z)) (by exact ((if_neg hc1)).symm), N3, e3⟩
theorem dindex_0 : decode prog_10_method_5_code 0 = .ok (.bipush 63, 2) := by decide +kernel
theorem dindex_2 : decode prog_10_method_5_code 2 = .ok (.lload_n 0, 1) := by decide +kernel
theorem dindex_3 : decode prog_10_method_5_code 3 = .ok (.invokestatic 49, 3) := by decide +kernel
theorem dindex_6 : decode prog_10_method_5_code 6 = .ok (.isub, 1) := by decide +kernel
theorem dindex_7 : decode prog_10_method_5_code 7 = .ok (.istore_n 2, 1) := by decide +kernel
theorem dindex_8 : decode prog_10_method_5_code 8 = .ok (.iconst 0, 1) := by decide +kernel
theorem dindex_9 : decode prog_10_method_5_code 9 = .ok (.iload_n 2, 1) := by decide +kernel
theorem dindex_10 : decode prog_10_method_5_code 10 = .ok (.bipush 10, 2) := by decide +kernel
theorem dindex_12 : decode prog_10_method_5_code 12 = .ok (.isub, 1) := by decide +kernel
theorem dindex_13 : decode prog_10_method_5_code 13 = .ok (.invokestatic 52, 3) := by decide +kernel
theorem dindex_16 : decode prog_10_method_5_code 16 = .ok (.istore_n 3, 1) := by decide +kernel
theorem dindex_17 : decode prog_10_method_5_code 17 = .ok (.iload_n 3, 1) := by decide +kernel
theorem dindex_18 : decode prog_10_method_5_code 18 = .ok (.i2l, 1) := by decide +kernel
theorem dindex_19 : decode prog_10_method_5_code 19 = .ok (.ldc2_w 55, 3) := by decide +kernel
theorem dindex_22 : decode prog_10_method_5_code 22 = .ok (.lmul, 1) := by decide +kernel
theorem dindex_23 : decode prog_10_method_5_code 23 = .ok (.lload_n 0, 1) := by decide +kernel
theorem dindex_24 : decode prog_10_method_5_code 24 = .ok (.iload_n 3, 1) := by decide +kernel
theorem dindex_25 : decode prog_10_method_5_code 25 = .ok (.lshr, 1) := by decide +kernel
theorem dindex_26 : decode prog_10_method_5_code 26 = .ok (.ladd, 1) := by decide +kernel
theorem dindex_27 : decode prog_10_method_5_code 27 = .ok (.l2i, 1) := by decide +kernel
theorem dindex_28 : decode prog_10_method_5_code 28 = .ok (.ireturn, 1) := by decide +kernel
theorem pnindex : plainName "com/example/rate_keeper/ratekeeper/server/bench/LatencyHistogram" = true := by first | (simp [plainName, overriddenIn]; done) | decide +kernel
theorem pdindex_0 : parseMethodDescriptor "(J)I" = some ⟨[.long], some .int⟩ := by decide +kernel
theorem pdindex_1 : parseMethodDescriptor "(II)I" = some ⟨[.int, .int], some .int⟩ := by decide +kernel
theorem efindex (m : MethodId) (q0 : Int64) : entryFrame m #[(.long q0)] 4 = mkF m 0 #[.val (.long q0), .second, .unset, .unset] [] := by first | (simp [entryFrame, mkF, argsToLocals, Value.category]; done) | rfl
def findex (q0 : Int64) : Int32 := (((((fmaxI (0 : Int32) (((63 : Int32) - (fnlzJ q0)) - (10 : Int32))).toInt64) * (1024 : Int64)) + (q0 >>> ((fmaxI (0 : Int32) (((63 : Int32) - (fnlzJ q0)) - (10 : Int32))) &&& 0x3f).toInt64)).toInt32)
def Qindex (Z : State) (q0 : Int64) (h0 : Heap) (n0 : Nat) (v : Option Value) (h : Heap) (L : List Loc) : Prop := v = some (.int (findex q0)) ∧ Fr n0 L ∧ h = h0
set_option maxRecDepth 65536 in
set_option maxHeartbeats 40000000 in
theorem rmindex (l : Launch) (Z : State) (ar : Array Value) (hw : ∀ d ∈ tables_1, d.before ar Z = true) (ws : List Jvm.Cond) (q0 : Int64) (h0 : Heap) (n0 : Nat) (O0 : Old Z n0 h0) :
    MetFree l (⟨"com/example/rate_keeper/ratekeeper/server/bench/LatencyHistogram", "index", "(J)I"⟩ : MethodName) (head1 (Jvm.Cond.code (⟨"com/example/rate_keeper/ratekeeper/server/bench/LatencyHistogram", "index", "(J)I"⟩ : MethodName) prog_10_method_5_code 4 (some .int) :: ws) ({ frames := 2, cells := 0, slots := 0, locals := 29 } : Room)) (fun a U => a = #[(.long q0)] ∧ Z.Warmed39 U.vm ∧ U.heap = h0) (fun _ _ _ _ _ => True) (fun _ U o U' => ∃ v L, o = .returned v ∧ Qindex Z q0 h0 n0 v U'.heap L ∧ FrameEnd U o U' L ({ frames := 2, cells := 0, slots := 0, locals := 29 } : Room).cells ({ frames := 2, cells := 0, slots := 0, locals := 29 } : Room).slots) := by
  refine MetFree.of_bodySF (plainFor_of_name pnindex) hisR ?_
  intro p e s m args below meth c s₁ Bd hml0 hP hK
  obtain ⟨rfl, hZ, hh⟩ := hP
  have hx := Bd.exec
  have hby := Bd.bytes
  have hml : c.maxLocals = 4 := hml0
  have hown : s.vm.findClass "com/example/rate_keeper/ratekeeper/server/bench/LatencyHistogram" = some m.cls := findClass_of_methodNamed Bd.named
  have hnm := (name_of_methodNamed Bd.named Bd.method).1
  have hlk : meth.locks = false := BodyLoose.notSynchronized Bd
  have X0 : Stand p l e ({ frames := 2, cells := 0, slots := 0, locals := 29 } : Room) s m #[(.long q0)] below meth c s₁ [] 0 0 := Stand.of_body Bd
  have e0 : s₁.heap = h0 := by rw [← hh, Bd.state]; rfl
  have N0 := Fr.nil n0
  suffices hmain : own_Ends p e below s (Qindex Z q0 h0 n0) 0 0 (s₁.setTop (mkF m 0 #[.val (.long q0), .second, .unset, .unset] [])) by
    obtain ⟨U, o, h1, r⟩ := hmain
    exact ⟨U, o, castTop (efindex m q0) h1, r⟩
  show own_Ends _ _ _ _ _ _ _ (s₁.setTop (mkF m 0 #[.val (.long q0), .second, .unset, .unset] []))
  refine own_go (fun _ k => XS.bipush X0.here hx rfl (hb hby dindex_0) k) ?_
  show own_Ends _ _ _ _ _ _ _ (s₁.setTop (mkF m 2 #[.val (.long q0), .second, .unset, .unset] [(.int (63 : Int32))]))
  refine own_go (fun _ k => XS.lloadN X0.here hx rfl (hb hby dindex_2) rfl k) ?_
  show own_Ends _ _ _ _ _ _ _ (s₁.setTop (mkF m 3 #[.val (.long q0), .second, .unset, .unset] [(.long q0), (.int (63 : Int32))]))
  obtain ⟨_, _, ⟨T1, L1, k1, n1⟩, -, X1, ⟨Lc1, hQ1, l1, y1, z1⟩, st1⟩ := Jvm.LawKit.callS X0 hx (y := (⟨"java/lang/Long", "numberOfLeadingZeros", "(J)I"⟩ : MethodName)) hown (mvT hZ (hw _ (List.mem_of_getElem? (i := 33) rfl))) (mvT hZ (hw _ (List.mem_of_getElem? (i := 34) rfl))) (mvT hZ (hw _ (List.mem_of_getElem? (i := 35) rfl))) (mvT hZ (hw _ (List.mem_of_getElem? (i := 36) rfl))) (by decide) (backOf (W := 1) (rmnlzJ l Z ar hw [] q0 h0 n0 O0) hZ (hw _ (List.mem_of_getElem? (i := 36) rfl)) (hw _ (List.mem_of_getElem? (i := 35) rfl)) (by decide) (by decide)) (g := (mkF m 3 #[.val (.long q0), .second, .unset, .unset] [(.long q0), (.int (63 : Int32))])) rfl (by rw [hml]; rfl) (argsL := [(.long q0)]) (rest := [(.int (63 : Int32))]) (lenOf pdindex_0 rfl) rfl (by show 2 * 0 + _ ≤ _; exact Nat.le_of_eq rfl) (hb hby dindex_3) (fun _ _ => ⟨rfl, e0, (by decide : 0 + 0 ≤ _), (by decide : 0 + 0 ≤ _)⟩)
  dsimp only [Pt.U, Pt.locs, Pt.cells, Pt.slots] at X1 l1 y1 z1 st1 hQ1
  subst l1 y1 z1
  obtain ⟨rfl, N1q, eq1⟩ := hQ1
  have e1 : T1.heap = h0 := eq1
  have N1 := Fr.app N0 N1q
  refine own_go (fun _ k => st1 _ k) ?_
  show own_Ends _ _ _ _ _ _ _ (T1.setTop (mkF m 6 #[.val (.long q0), .second, .unset, .unset] [(.int (fnlzJ q0)), (.int (63 : Int32))]))
  refine own_go (fun _ k => XS.isub X1.here hx rfl (hb hby dindex_6) rfl k) ?_
  show own_Ends _ _ _ _ _ _ _ (T1.setTop (mkF m 7 #[.val (.long q0), .second, .unset, .unset] [(.int ((63 : Int32) - (fnlzJ q0)))]))
  refine own_go (fun _ k => XS.istoreN X1.here hx rfl (hb hby dindex_7) rfl (l' := #[.val (.long q0), .second, .val (.int ((63 : Int32) - (fnlzJ q0))), .unset]) rfl k) ?_
  show own_Ends _ _ _ _ _ _ _ (T1.setTop (mkF m 8 #[.val (.long q0), .second, .val (.int ((63 : Int32) - (fnlzJ q0))), .unset] []))
  refine own_go (fun _ k => XS.iconst X1.here hx rfl (hb hby dindex_8) k) ?_
  show own_Ends _ _ _ _ _ _ _ (T1.setTop (mkF m 9 #[.val (.long q0), .second, .val (.int ((63 : Int32) - (fnlzJ q0))), .unset] [(.int (0 : Int32))]))
  refine own_go (fun _ k => XS.iloadN X1.here hx rfl (hb hby dindex_9) rfl k) ?_
  show own_Ends _ _ _ _ _ _ _ (T1.setTop (mkF m 10 #[.val (.long q0), .second, .val (.int ((63 : Int32) - (fnlzJ q0))), .unset] [(.int ((63 : Int32) - (fnlzJ q0))), (.int (0 : Int32))]))
  refine own_go (fun _ k => XS.bipush X1.here hx rfl (hb hby dindex_10) k) ?_
  show own_Ends _ _ _ _ _ _ _ (T1.setTop (mkF m 12 #[.val (.long q0), .second, .val (.int ((63 : Int32) - (fnlzJ q0))), .unset] [(.int (10 : Int32)), (.int ((63 : Int32) - (fnlzJ q0))), (.int (0 : Int32))]))
  refine own_go (fun _ k => XS.isub X1.here hx rfl (hb hby dindex_12) rfl k) ?_
  show own_Ends _ _ _ _ _ _ _ (T1.setTop (mkF m 13 #[.val (.long q0), .second, .val (.int ((63 : Int32) - (fnlzJ q0))), .unset] [(.int (((63 : Int32) - (fnlzJ q0)) - (10 : Int32))), (.int (0 : Int32))]))
  obtain ⟨_, _, ⟨T2, L2, k2, n2⟩, -, X2, ⟨Lc2, hQ2, l2, y2, z2⟩, st2⟩ := Jvm.LawKit.callS X1 hx (y := (⟨"java/lang/Math", "max", "(II)I"⟩ : MethodName)) hown (mvT hZ (hw _ (List.mem_of_getElem? (i := 42) rfl))) (mvT hZ (hw _ (List.mem_of_getElem? (i := 43) rfl))) (mvT hZ (hw _ (List.mem_of_getElem? (i := 28) rfl))) (mvT hZ (hw _ (List.mem_of_getElem? (i := 44) rfl))) (by decide) (backOf (W := 0) (rmmaxI l Z ar hw [] (0 : Int32) (((63 : Int32) - (fnlzJ q0)) - (10 : Int32)) h0 n0 O0) hZ (hw _ (List.mem_of_getElem? (i := 44) rfl)) (hw _ (List.mem_of_getElem? (i := 28) rfl)) (by decide) (by decide)) (g := (mkF m 13 #[.val (.long q0), .second, .val (.int ((63 : Int32) - (fnlzJ q0))), .unset] [(.int (((63 : Int32) - (fnlzJ q0)) - (10 : Int32))), (.int (0 : Int32))])) rfl (by rw [hml]; rfl) (argsL := [(.int (0 : Int32)), (.int (((63 : Int32) - (fnlzJ q0)) - (10 : Int32)))]) (rest := []) (lenOf pdindex_1 rfl) rfl (by show 2 * 0 + _ ≤ _; exact Nat.le_of_eq rfl) (hb hby dindex_13) (fun _ _ => ⟨rfl, e1, (by decide : 0 + 0 ≤ _), (by decide : 0 + 0 ≤ _)⟩)
  dsimp only [Pt.U, Pt.locs, Pt.cells, Pt.slots] at X2 l2 y2 z2 st2 hQ2
  subst l2 y2 z2
  obtain ⟨rfl, N2q, eq2⟩ := hQ2
  have e2 : T2.heap = h0 := eq2
  have N2 := Fr.app N1 N2q
  refine own_go (fun _ k => st2 _ k) ?_
  show own_Ends _ _ _ _ _ _ _ (T2.setTop (mkF m 16 #[.val (.long q0), .second, .val (.int ((63 : Int32) - (fnlzJ q0))), .unset] [(.int (fmaxI (0 : Int32) (((63 : Int32) - (fnlzJ q0)) - (10 : Int32))))]))
  refine own_go (fun _ k => XS.istoreN X2.here hx rfl (hb hby dindex_16) rfl (l' := #[.val (.long q0), .second, .val (.int ((63 : Int32) - (fnlzJ q0))), .val (.int (fmaxI (0 : Int32) (((63 : Int32) - (fnlzJ q0)) - (10 : Int32))))]) rfl k) ?_
  show own_Ends _ _ _ _ _ _ _ (T2.setTop (mkF m 17 #[.val (.long q0), .second, .val (.int ((63 : Int32) - (fnlzJ q0))), .val (.int (fmaxI (0 : Int32) (((63 : Int32) - (fnlzJ q0)) - (10 : Int32))))] []))
  refine own_go (fun _ k => XS.iloadN X2.here hx rfl (hb hby dindex_17) rfl k) ?_
  show own_Ends _ _ _ _ _ _ _ (T2.setTop (mkF m 18 #[.val (.long q0), .second, .val (.int ((63 : Int32) - (fnlzJ q0))), .val (.int (fmaxI (0 : Int32) (((63 : Int32) - (fnlzJ q0)) - (10 : Int32))))] [(.int (fmaxI (0 : Int32) (((63 : Int32) - (fnlzJ q0)) - (10 : Int32))))]))
  refine own_go (fun _ k => XS.i2l X2.here hx rfl (hb hby dindex_18) rfl k) ?_
  show own_Ends _ _ _ _ _ _ _ (T2.setTop (mkF m 19 #[.val (.long q0), .second, .val (.int ((63 : Int32) - (fnlzJ q0))), .val (.int (fmaxI (0 : Int32) (((63 : Int32) - (fnlzJ q0)) - (10 : Int32))))] [(.long ((fmaxI (0 : Int32) (((63 : Int32) - (fnlzJ q0)) - (10 : Int32))).toInt64))]))
  refine own_go (fun _ k => X2.ldc2Long hx hown (mvT hZ (hw _ (List.mem_of_getElem? (i := 45) rfl))) (g := (mkF m 19 #[.val (.long q0), .second, .val (.int ((63 : Int32) - (fnlzJ q0))), .val (.int (fmaxI (0 : Int32) (((63 : Int32) - (fnlzJ q0)) - (10 : Int32))))] [(.long ((fmaxI (0 : Int32) (((63 : Int32) - (fnlzJ q0)) - (10 : Int32))).toInt64))])) rfl (hb hby dindex_19) _ k) ?_
  show own_Ends _ _ _ _ _ _ _ (T2.setTop (mkF m 22 #[.val (.long q0), .second, .val (.int ((63 : Int32) - (fnlzJ q0))), .val (.int (fmaxI (0 : Int32) (((63 : Int32) - (fnlzJ q0)) - (10 : Int32))))] [(.long (1024 : Int64)), (.long ((fmaxI (0 : Int32) (((63 : Int32) - (fnlzJ q0)) - (10 : Int32))).toInt64))]))
  refine own_go (fun _ k => XS.lmul X2.here hx rfl (hb hby dindex_22) rfl k) ?_
  show own_Ends _ _ _ _ _ _ _ (T2.setTop (mkF m 23 #[.val (.long q0), .second, .val (.int ((63 : Int32) - (fnlzJ q0))), .val (.int (fmaxI (0 : Int32) (((63 : Int32) - (fnlzJ q0)) - (10 : Int32))))] [(.long (((fmaxI (0 : Int32) (((63 : Int32) - (fnlzJ q0)) - (10 : Int32))).toInt64) * (1024 : Int64)))]))
  refine own_go (fun _ k => XS.lloadN X2.here hx rfl (hb hby dindex_23) rfl k) ?_
  show own_Ends _ _ _ _ _ _ _ (T2.setTop (mkF m 24 #[.val (.long q0), .second, .val (.int ((63 : Int32) - (fnlzJ q0))), .val (.int (fmaxI (0 : Int32) (((63 : Int32) - (fnlzJ q0)) - (10 : Int32))))] [(.long q0), (.long (((fmaxI (0 : Int32) (((63 : Int32) - (fnlzJ q0)) - (10 : Int32))).toInt64) * (1024 : Int64)))]))
  refine own_go (fun _ k => XS.iloadN X2.here hx rfl (hb hby dindex_24) rfl k) ?_
  show own_Ends _ _ _ _ _ _ _ (T2.setTop (mkF m 25 #[.val (.long q0), .second, .val (.int ((63 : Int32) - (fnlzJ q0))), .val (.int (fmaxI (0 : Int32) (((63 : Int32) - (fnlzJ q0)) - (10 : Int32))))] [(.int (fmaxI (0 : Int32) (((63 : Int32) - (fnlzJ q0)) - (10 : Int32)))), (.long q0), (.long (((fmaxI (0 : Int32) (((63 : Int32) - (fnlzJ q0)) - (10 : Int32))).toInt64) * (1024 : Int64)))]))
  refine own_go (fun _ k => XS.lshr X2.here hx rfl (hb hby dindex_25) rfl k) ?_
  show own_Ends _ _ _ _ _ _ _ (T2.setTop (mkF m 26 #[.val (.long q0), .second, .val (.int ((63 : Int32) - (fnlzJ q0))), .val (.int (fmaxI (0 : Int32) (((63 : Int32) - (fnlzJ q0)) - (10 : Int32))))] [(.long (q0 >>> ((fmaxI (0 : Int32) (((63 : Int32) - (fnlzJ q0)) - (10 : Int32))) &&& 0x3f).toInt64)), (.long (((fmaxI (0 : Int32) (((63 : Int32) - (fnlzJ q0)) - (10 : Int32))).toInt64) * (1024 : Int64)))]))
  refine own_go (fun _ k => XS.ladd X2.here hx rfl (hb hby dindex_26) rfl k) ?_
  show own_Ends _ _ _ _ _ _ _ (T2.setTop (mkF m 27 #[.val (.long q0), .second, .val (.int ((63 : Int32) - (fnlzJ q0))), .val (.int (fmaxI (0 : Int32) (((63 : Int32) - (fnlzJ q0)) - (10 : Int32))))] [(.long ((((fmaxI (0 : Int32) (((63 : Int32) - (fnlzJ q0)) - (10 : Int32))).toInt64) * (1024 : Int64)) + (q0 >>> ((fmaxI (0 : Int32) (((63 : Int32) - (fnlzJ q0)) - (10 : Int32))) &&& 0x3f).toInt64)))]))
  refine own_go (fun _ k => XS.l2i X2.here hx rfl (hb hby dindex_27) rfl k) ?_
  show own_Ends _ _ _ _ _ _ _ (T2.setTop (mkF m 28 #[.val (.long q0), .second, .val (.int ((63 : Int32) - (fnlzJ q0))), .val (.int (fmaxI (0 : Int32) (((63 : Int32) - (fnlzJ q0)) - (10 : Int32))))] [(.int (((((fmaxI (0 : Int32) (((63 : Int32) - (fnlzJ q0)) - (10 : Int32))).toInt64) * (1024 : Int64)) + (q0 >>> ((fmaxI (0 : Int32) (((63 : Int32) - (fnlzJ q0)) - (10 : Int32))) &&& 0x3f).toInt64)).toInt32))]))
  exact own_retI X2 hx hlk Bd.returns (hb hby dindex_28) (by decide) (by decide) ⟨congrArg (fun z => some (Value.int z)) (by exact rfl), N2, e2⟩
/-- x's leading binary digit is the k-th -/
def own_lg (x : Int) (k : Nat) : Prop := 2 ^ k ≤ x ∧ x < 2 ^ (k + 1)
theorem own_pow_le {a b : Nat} (h : a ≤ b) : (2 : Int) ^ a ≤ 2 ^ b := by
  have := Nat.pow_le_pow_right (show 0 < 2 by decide) h
  exact_mod_cast this
theorem own_pow_pos (k : Nat) : (0 : Int) < 2 ^ k := Int.pow_pos (by decide)
theorem own_lg_ge {x : Int} {k s : Nat} (h : own_lg x k) (hs : (2 : Int) ^ s ≤ x) : s ≤ k := by
  rcases Nat.lt_or_ge k s with z | z
  · have := own_pow_le (show k + 1 ≤ s from z)
    have := h.2; omega
  · exact z
theorem own_lg_lt {x : Int} {k s : Nat} (h : own_lg x k) (hs : x < (2 : Int) ^ s) : k < s := by
  rcases Nat.lt_or_ge k s with z | z
  · exact z
  · have := own_pow_le z
    have := h.1; omega
theorem own_lg_div {x : Int} {k s : Nat} (h : own_lg x k) (hs : s ≤ k) : own_lg (x / 2 ^ s) (k - s) := by
  have p := own_pow_pos s
  constructor
  · rw [Int.le_ediv_iff_mul_le p, ← Int.pow_add, Nat.sub_add_cancel hs]; exact h.1
  · rw [Int.ediv_lt_iff_lt_mul p, ← Int.pow_add, show k - s + 1 + s = k + 1 by omega]; exact h.2
theorem own_lg_ex {x : Int} (h : 0 < x) : ∃ k, own_lg x k := by
  refine ⟨x.toNat.log2, ?_, ?_⟩
  · have := Nat.log2_self_le (show x.toNat ≠ 0 by omega)
    have : (2 : Int) ^ x.toNat.log2 ≤ (x.toNat : Int) := by exact_mod_cast this
    omega
  · have := Nat.lt_log2_self (n := x.toNat)
    have : (x.toNat : Int) < (2 : Int) ^ (x.toNat.log2 + 1) := by exact_mod_cast this
    omega
def own_sI (lim : Int32) (u : UInt32) (i : Int32) : Int32 := if i < lim then i else (i.toUInt32 >>> u).toInt32
def own_sN (lim dn : Int32) (i n : Int32) : Int32 := if i < lim then n else n + dn
/-- one step of the search: from (i, n) to (i / 2^s, n - s) where i is not below 2^s -/
theorem own_stage {i n : Int32} {k s : Nat} {lim dn : Int32} {u : UInt32} (hlim : lim.toInt = 2 ^ s) (hu : u.toNat = s) (hs : s < 32) (hdn : dn.toInt = -(s : Int)) (hi : own_lg i.toInt k) (hn : 0 ≤ n.toInt - s ∧ n.toInt < 100) :
    ∃ k' : Nat, own_lg (own_sI lim u i).toInt k' ∧ (own_sN lim dn i n).toInt - k' = n.toInt - k ∧ (k < s + s → k' < s) ∧ n.toInt - s ≤ (own_sN lim dn i n).toInt ∧ (own_sN lim dn i n).toInt ≤ n.toInt := by
  have p := own_pow_pos k
  unfold own_sI own_sN
  by_cases q : i < lim
  · rw [if_pos q, if_pos q]
    rw [Int32.lt_iff_toInt_lt, hlim] at q
    have := own_lg_lt hi q
    exact ⟨k, hi, rfl, fun _ => this, by omega, by omega⟩
  · rw [if_neg q, if_neg q]
    rw [Int32.lt_iff_toInt_lt, hlim] at q
    have hk := own_lg_ge (s := s) hi (by omega)
    have e : ((i.toUInt32 >>> u).toInt32).toInt = i.toInt / 2 ^ s := Jvm.Kit.i32_iushr (by rw [Int32.le_iff_toInt_le, show (0 : Int32).toInt = 0 by decide]; have := hi.1; omega) hu hs
    have e2 : (n + dn).toInt = n.toInt - s := by rw [Jvm.Kit.i32_add (by omega) (by omega), hdn]; omega
    rw [e, e2]
    exact ⟨k - s, own_lg_div hi hk, by omega, fun _ => by omega, by omega, by omega⟩
theorem own_nlzI {x : Int32} {k : Nat} (h : own_lg x.toInt k) (hk : k ≤ 30) : (fnlzI x).toInt = 31 - (k : Int) := by
  have p := own_pow_pos k
  have hx : (0 : Int32) < x := by rw [Int32.lt_iff_toInt_lt, show (0 : Int32).toInt = 0 by decide]; have := h.1; omega
  obtain ⟨i1, hi1⟩ : ∃ i, i = own_sI 65536 (((16 : Int32) &&& 31).toUInt32) x := ⟨_, rfl⟩
  obtain ⟨n1, hn1⟩ : ∃ n, n = own_sN 65536 (-16) x 31 := ⟨_, rfl⟩
  obtain ⟨i2, hi2⟩ : ∃ i, i = own_sI 256 (((8 : Int32) &&& 31).toUInt32) i1 := ⟨_, rfl⟩
  obtain ⟨n2, hn2⟩ : ∃ n, n = own_sN 256 (-8) i1 n1 := ⟨_, rfl⟩
  obtain ⟨i3, hi3⟩ : ∃ i, i = own_sI 16 (((4 : Int32) &&& 31).toUInt32) i2 := ⟨_, rfl⟩
  obtain ⟨n3, hn3⟩ : ∃ n, n = own_sN 16 (-4) i2 n2 := ⟨_, rfl⟩
  obtain ⟨i4, hi4⟩ : ∃ i, i = own_sI 4 (((2 : Int32) &&& 31).toUInt32) i3 := ⟨_, rfl⟩
  obtain ⟨n4, hn4⟩ : ∃ n, n = own_sN 4 (-2) i3 n3 := ⟨_, rfl⟩
  have e : fnlzI x = n4 - (i4.toUInt32 >>> ((1 : Int32) &&& 31).toUInt32).toInt32 := by
    rw [fnlzI, if_pos hx]; subst hn4 hi4 hn3 hi3 hn2 hi2 hn1 hi1; rfl
  have e31 : (31 : Int32).toInt = 31 := by decide
  obtain ⟨k1, a1, b1, c1, d1, g1⟩ := own_stage (n := 31) (s := 16) (lim := 65536) (dn := -16) (u := ((16 : Int32) &&& 31).toUInt32) (by decide) (by decide) (by decide) (by decide) h (by decide)
  rw [← hi1] at a1; rw [← hn1, e31] at b1 d1 g1
  have c1' := c1 (by omega)
  obtain ⟨k2, a2, b2, c2, d2, g2⟩ := own_stage (n := n1) (s := 8) (lim := 256) (dn := -8) (u := ((8 : Int32) &&& 31).toUInt32) (by decide) (by decide) (by decide) (by decide) a1 (by omega)
  rw [← hi2] at a2; rw [← hn2] at b2 d2 g2
  have c2' := c2 (by omega)
  obtain ⟨k3, a3, b3, c3, d3, g3⟩ := own_stage (n := n2) (s := 4) (lim := 16) (dn := -4) (u := ((4 : Int32) &&& 31).toUInt32) (by decide) (by decide) (by decide) (by decide) a2 (by omega)
  rw [← hi3] at a3; rw [← hn3] at b3 d3 g3
  have c3' := c3 (by omega)
  obtain ⟨k4, a4, b4, c4, d4, g4⟩ := own_stage (n := n3) (s := 2) (lim := 4) (dn := -2) (u := ((2 : Int32) &&& 31).toUInt32) (by decide) (by decide) (by decide) (by decide) a3 (by omega)
  rw [← hi4] at a4; rw [← hn4] at b4 d4 g4
  have c4' := c4 (by omega)
  have e5 : ((i4.toUInt32 >>> ((1 : Int32) &&& 31).toUInt32).toInt32).toInt = i4.toInt / 2 ^ 1 := Jvm.Kit.i32_iushr (by rw [Int32.le_iff_toInt_le, show (0 : Int32).toInt = 0 by decide]; have := a4.1; have := own_pow_pos k4; omega) (by decide) (by decide)
  have e6 : i4.toInt / 2 ^ 1 = (k4 : Int) := by
    have k01 : k4 = 0 ∨ k4 = 1 := by omega
    obtain ⟨l1, l2⟩ := a4
    rcases k01 with rfl | rfl
    · simp at l1 l2 ⊢; omega
    · simp at l1 l2 ⊢; omega
  rw [e, Jvm.Kit.i32_sub (by omega) (by omega), e5, e6]
  omega
theorem own_nlzJ {x : Int64} {k : Nat} (h : own_lg x.toInt k) (hk : k ≤ 62) : (fnlzJ x).toInt = 63 - (k : Int) := by
  have p := own_pow_pos k
  have x0 : 0 < x.toInt := by have := h.1; omega
  have hh : (((x.toUInt64 >>> ((32 : Int32) &&& 0x3f).toInt64.toUInt64).toInt64)).toInt = x.toInt / 2 ^ 32 := Jvm.Kit.i64_lushr (by rw [Int64.le_iff_toInt_le, show (0 : Int64).toInt = 0 by decide]; omega) (by decide) (by decide)
  have x1 := Int64.toInt_lt x
  have hh2 : ((((x.toUInt64 >>> ((32 : Int32) &&& 0x3f).toInt64.toUInt64).toInt64)).toInt32).toInt = x.toInt / 2 ^ 32 := by
    rw [Jvm.Kit.i32_of_i64 (by rw [hh]; omega) (by rw [hh]; omega), hh]
  rw [fnlzJ]
  by_cases q : ((((x.toUInt64 >>> ((32 : Int32) &&& 0x3f).toInt64.toUInt64).toInt64)).toInt32) = (0 : Int32)
  · rw [if_pos q]
    rw [q, show (0 : Int32).toInt = 0 by decide] at hh2
    have xs : x.toInt < 2 ^ 32 := by omega
    have k32 := own_lg_lt h xs
    by_cases q2 : x.toInt < 2 ^ 31
    · have e : (x.toInt32).toInt = x.toInt := Jvm.Kit.i32_of_i64 (by omega) (by omega)
      have k31 := own_lg_lt h q2
      have := own_nlzI (x := x.toInt32) (k := k) (by rw [e]; exact h) (by omega)
      rw [Jvm.Kit.i32_add (by rw [this, show (32 : Int32).toInt = 32 by decide]; omega) (by rw [this, show (32 : Int32).toInt = 32 by decide]; omega), this, show (32 : Int32).toInt = 32 by decide]; omega
    · have k31 := own_lg_ge h (s := 31) (by omega)
      have e : (x.toInt32).toInt = x.toInt - 2 ^ 32 := by
        rw [Int64.toInt_toInt32, Int.bmod_def, Int.emod_eq_of_lt (by omega) (by omega), if_neg (by omega)]; rfl
      have n1 : ¬ (0 : Int32) < x.toInt32 := by rw [Int32.lt_iff_toInt_lt, e, show (0 : Int32).toInt = 0 by decide]; omega
      have n2 : ¬ x.toInt32 = (0 : Int32) := fun z => by rw [z, show (0 : Int32).toInt = 0 by decide] at e; omega
      rw [fnlzI, if_neg n1, if_neg n2, show ((32 : Int32) + (0 : Int32)).toInt = 32 by decide]; omega
  · rw [if_neg q]
    have hp : 1 ≤ x.toInt / 2 ^ 32 := by
      rcases Int.lt_or_le (x.toInt / 2 ^ 32) 1 with z | z
      · exact absurd (Int32.toInt_inj.mp (by rw [hh2, show (0 : Int32).toInt = 0 by decide]; omega)) q
      · exact z
    have k32 := own_lg_ge h (s := 32) (by omega)
    have := own_nlzI (k := k - 32) (by rw [hh2]; exact own_lg_div h k32) (by omega)
    rw [this]; omega
theorem own_shamt : ∀ s : Fin 44, (((Int32.ofNat s.val &&& 0x3f).toInt64).toBitVec.smod 64).toNat = s.val := by decide +kernel
/-- the bucket of x: her digits from the leading one on, eleven at the most -/
def own_at (x : Int) (s : Nat) : Prop := s ≤ 43 ∧ (s = 0 ∨ 1024 ≤ x / 2 ^ s) ∧ x / 2 ^ s < 2048
theorem own_index {x : Int64} (h0 : 0 ≤ x.toInt) (h1 : x.toInt < 2 ^ 54) : ∃ s : Nat, own_at x.toInt s ∧ (findex x).toInt = s * 1024 + x.toInt / 2 ^ s := by
  rcases Int.lt_or_le 0 x.toInt with xp | xp
  · obtain ⟨k, hk⟩ := own_lg_ex xp
    have k54 := own_lg_lt hk h1
    have n := own_nlzJ hk (by omega)
    have e1 : ((63 : Int32) - fnlzJ x).toInt = k := by
      rw [Jvm.Kit.i32_sub (by rw [n, show (63 : Int32).toInt = 63 by decide]; omega) (by rw [n, show (63 : Int32).toInt = 63 by decide]; omega), n, show (63 : Int32).toInt = 63 by decide]; omega
    have e2 : (((63 : Int32) - fnlzJ x) - (10 : Int32)).toInt = (k : Int) - 10 := by
      rw [Jvm.Kit.i32_sub (by rw [e1, show (10 : Int32).toInt = 10 by decide]; omega) (by rw [e1, show (10 : Int32).toInt = 10 by decide]; omega), e1, show (10 : Int32).toInt = 10 by decide]
    obtain ⟨s, hs⟩ : ∃ s : Nat, s = k - 10 := ⟨_, rfl⟩
    have e3 : fmaxI (0 : Int32) (((63 : Int32) - fnlzJ x) - (10 : Int32)) = Int32.ofNat s := by
      apply Int32.toInt_inj.mp
      rw [own_c32 (by omega), fmaxI]
      split
      · rename_i z; rw [Int32.lt_iff_toInt_lt, e2, show (0 : Int32).toInt = 0 by decide] at z; rw [e2]; omega
      · rename_i z; rw [Int32.lt_iff_toInt_lt, e2, show (0 : Int32).toInt = 0 by decide] at z; rw [show (0 : Int32).toInt = 0 by decide]; omega
    have hat : own_at x.toInt s := by
      refine ⟨by omega, ?_, ?_⟩
      · rcases Nat.eq_zero_or_pos s with z | z
        · exact Or.inl z
        · right
          have := (own_lg_div hk (show s ≤ k by omega)).1
          rw [show k - s = 10 by omega] at this; exact this
      · rcases Nat.eq_zero_or_pos s with z | z
        · have := Int.lt_of_lt_of_le hk.2 (own_pow_le (show k + 1 ≤ 11 by omega))
          rw [z, Int.pow_zero, Int.ediv_one]; omega
        · have := (own_lg_div hk (show s ≤ k by omega)).2
          rw [show k - s = 10 by omega] at this; exact this
    refine ⟨s, hat, ?_⟩
    have y0 : 0 ≤ x.toInt / 2 ^ s := Int.ediv_nonneg (by omega) (by have := own_pow_pos s; omega)
    have y1 := hat.2.2
    have e4 : (x >>> (Int32.ofNat s &&& 0x3f).toInt64).toInt = x.toInt / 2 ^ s := Jvm.Kit.i64_shr _ _ (own_shamt ⟨s, by omega⟩)
    have e5 : ((Int32.ofNat s).toInt64 * (1024 : Int64)).toInt = s * 1024 := by
      rw [Jvm.Kit.i64_mul (by rw [Int32.toInt_toInt64, own_c32 (by omega), show (1024 : Int64).toInt = 1024 by decide]; omega) (by rw [Int32.toInt_toInt64, own_c32 (by omega), show (1024 : Int64).toInt = 1024 by decide]; omega), Int32.toInt_toInt64, own_c32 (by omega), show (1024 : Int64).toInt = 1024 by decide]
    rw [findex, e3, Jvm.Kit.i32_of_i64 (by rw [Jvm.Kit.i64_add (by omega) (by omega), e4, e5]; omega) (by rw [Jvm.Kit.i64_add (by omega) (by omega), e4, e5]; omega), Jvm.Kit.i64_add (by omega) (by omega), e4, e5]
  · have : x = 0 := Int64.toInt_inj.mp (by rw [show (0 : Int64).toInt = 0 by decide]; omega)
    subst this
    exact ⟨0, ⟨by decide, Or.inl rfl, by decide⟩, by decide⟩
theorem own_td {x : Int} (h1 : -2 ^ 63 ≤ x) (h2 : x < 2 ^ 63) : x.tdiv 1000 < 2 ^ 54 := by
  rcases Int.lt_or_le x 0 with z | z
  · have : x.tdiv 1000 = -((-x).tdiv 1000) := by rw [Int.neg_tdiv, Int.neg_neg]
    rw [this, Int.tdiv_eq_ediv_of_nonneg (by omega)]; omega
  · rw [Int.tdiv_eq_ediv_of_nonneg z]; omega
theorem own_mi {q mi : Int64} (h : mi = fmaxJ (0 : Int64) ((q + (500 : Int64)) / (1000 : Int64))) : 0 ≤ mi.toInt ∧ mi.toInt < 2 ^ 54 := by
  have d : ((q + (500 : Int64)) / (1000 : Int64)).toInt = (q + (500 : Int64)).toInt.tdiv 1000 := Jvm.Kit.i64_div (fun h => absurd h.2 (by decide))
  rw [h, fmaxJ]
  have l := Int64.toInt_lt (q + (500 : Int64))
  have l2 := Int64.le_toInt (q + (500 : Int64))
  by_cases z : lcmpW (0 : Int64) ((q + (500 : Int64)) / (1000 : Int64)) < (0 : Int32)
  · rw [if_pos z]
    rw [lcW, lc_lt, Int64.lt_iff_toInt_lt, show (0 : Int64).toInt = 0 by decide] at z
    refine ⟨by omega, ?_⟩
    rw [d] at z ⊢
    exact own_td l2 l
  · rw [if_neg z]; decide
theorem own_ixb {mi : Int64} {ix : Int32} (P : 0 ≤ mi.toInt ∧ mi.toInt < 2 ^ 54) (h : ix = findex mi) : ¬ ix < 0 ∧ ix.toNatClampNeg < 55296 := by
  obtain ⟨s, ⟨a1, a2, a3⟩, e⟩ := own_index P.1 P.2
  have y0 : 0 ≤ mi.toInt / 2 ^ s := Int.ediv_nonneg P.1 (by have := own_pow_pos s; omega)
  rw [h, Int32.lt_iff_toInt_lt, own_tn, e, show (0 : Int32).toInt = 0 by decide]
  omega
def own_ixo (q : Int64) : Nat := (findex (fmaxJ (0 : Int64) ((q + (500 : Int64)) / (1000 : Int64)))).toNatClampNeg
def own_add (q : Int64) (G : Nat → Int64) : Nat → Int64 := fun i => if i = (findex (fmaxJ (0 : Int64) ((q + (500 : Int64)) / (1000 : Int64)))).toNatClampNeg then (G (findex (fmaxJ (0 : Int64) ((q + (500 : Int64)) / (1000 : Int64)))).toNatClampNeg) + (1 : Int64) else G i
theorem own_sum0n (n : Nat) : own_sum (fun _ => (0 : Int64)) n = 0 := by
  induction n with
  | zero => rfl
  | succ n ih => show own_sum _ n + 0 = 0; rw [ih]; rfl
theorem own_sum0 : own_sum (fun _ => (0 : Int64)) 55296 = 0 := own_sum0n _
theorem own_sum_upd (G : Nat → Int64) (j n : Nat) (d : Int64) : own_sum (fun i => if i = j then G j + d else G i) n = own_sum G n + (if j < n then d else 0) := by
  induction n with
  | zero => simp [own_sum]
  | succ n ih =>
    show own_sum _ n + (if n = j then G j + d else G n) = own_sum G n + G n + _
    rw [ih]
    by_cases h : n = j
    · subst h
      rw [if_neg (Nat.lt_irrefl _), if_pos rfl, if_pos (Nat.lt_succ_self _), Int64.add_zero, Int64.add_assoc]
    · by_cases h2 : j < n
      · rw [if_neg h, if_pos h2, if_pos (by omega), Int64.add_assoc, Int64.add_comm d, ← Int64.add_assoc]
      · rw [if_neg h, if_neg h2, if_neg (by omega), Int64.add_zero, Int64.add_zero]
theorem own_ixo_lt (q : Int64) : own_ixo q < 55296 := (own_ixb (own_mi rfl) rfl).2
theorem own_sum_add (q : Int64) (G : Nat → Int64) : own_sum (own_add q G) 55296 = own_sum G 55296 + 1 := by
  have := own_sum_upd G (own_ixo q) 55296 1
  rw [if_pos (own_ixo_lt q)] at this
  exact this
theorem dinit_0 : decode prog_10_method_1_code 0 = .ok (.aload_n 0, 1) := by decide +kernel
theorem dinit_1 : decode prog_10_method_1_code 1 = .ok (.invokespecial 3, 3) := by decide +kernel
theorem dinit_4 : decode prog_10_method_1_code 4 = .ok (.aload_n 0, 1) := by decide +kernel
theorem dinit_5 : decode prog_10_method_1_code 5 = .ok (.ldc 11, 2) := by decide +kernel
theorem dinit_7 : decode prog_10_method_1_code 7 = .ok (.newarray .long, 2) := by decide +kernel
theorem dinit_9 : decode prog_10_method_1_code 9 = .ok (.putfield 12, 3) := by decide +kernel
theorem dinit_12 : decode prog_10_method_1_code 12 = .ok (.return_, 1) := by decide +kernel
theorem pninit : plainName "com/example/rate_keeper/ratekeeper/server/bench/LatencyHistogram" = true := by first | (simp [plainName, overriddenIn]; done) | decide +kernel
theorem efinit (m : MethodId) (a0 : Addr) : entryFrame m #[(.ref a0)] 1 = mkF m 0 #[.val (.ref a0)] [] := by first | (simp [entryFrame, mkF, argsToLocals, Value.category]; done) | rfl
def Qinit (Z : State) (a0 : Addr) (u_counts_a0 : Value) (h0 : Heap) (n0 : Nat) (v : Option Value) (h : Heap) (L : List Loc) : Prop := v = none ∧ Fr n0 L ∧ Keep h0 h [a0] ∧ Exa Z h a0 "com/example/rate_keeper/ratekeeper/server/bench/LatencyHistogram" ∧ ∃ bb, n0 ≤ bb ∧ a0 ≠ bb ∧ Fld Z h a0 "com/example/rate_keeper/ratekeeper/server/bench/LatencyHistogram" "counts" "[J" (.ref bb) ∧ own_Ar Z h bb .long 55296 (fun i => .long ((fun _ => (0 : Int64)) i))
set_option maxRecDepth 65536 in
set_option maxHeartbeats 40000000 in
theorem rminit (l : Launch) (Z : State) (ar : Array Value) (hw : ∀ d ∈ tables_1, d.before ar Z = true) (ws : List Jvm.Cond) (a0 : Addr) (u_counts_a0 : Value) (h0 : Heap) (n0 : Nat) (O0 : Old Z n0 h0) (E_a0 : Exa Z h0 a0 "com/example/rate_keeper/ratekeeper/server/bench/LatencyHistogram") (g_a0 : n0 ≤ a0) (F_counts_a0 : Fld Z h0 a0 "com/example/rate_keeper/ratekeeper/server/bench/LatencyHistogram" "counts" "[J" u_counts_a0) :
    MetFree l (⟨"com/example/rate_keeper/ratekeeper/server/bench/LatencyHistogram", "<init>", "()V"⟩ : MethodName) (head1 (Jvm.Cond.code (⟨"com/example/rate_keeper/ratekeeper/server/bench/LatencyHistogram", "<init>", "()V"⟩ : MethodName) prog_10_method_1_code 1 none :: ws) ({ frames := 1, cells := 1, slots := 55296, locals := 12 } : Room)) (fun a U => a = #[(.ref a0)] ∧ Z.Warmed39 U.vm ∧ U.heap = h0) (fun _ _ _ _ _ => True) (fun _ U o U' => ∃ v L, o = .returned v ∧ Qinit Z a0 u_counts_a0 h0 n0 v U'.heap L ∧ FrameEnd U o U' L ({ frames := 1, cells := 1, slots := 55296, locals := 12 } : Room).cells ({ frames := 1, cells := 1, slots := 55296, locals := 12 } : Room).slots) := by
  refine MetFree.of_bodySF (plainFor_of_name pninit) hisR ?_
  intro p e s m args below meth c s₁ Bd hml0 hP hK
  obtain ⟨rfl, hZ, hh⟩ := hP
  have hx := Bd.exec
  have hby := Bd.bytes
  have hml : c.maxLocals = 1 := hml0
  have hown : s.vm.findClass "com/example/rate_keeper/ratekeeper/server/bench/LatencyHistogram" = some m.cls := findClass_of_methodNamed Bd.named
  have hnm := (name_of_methodNamed Bd.named Bd.method).1
  have hlk : meth.locks = false := BodyLoose.notSynchronized Bd
  have X0 : Stand p l e ({ frames := 1, cells := 1, slots := 55296, locals := 12 } : Room) s m #[(.ref a0)] below meth c s₁ [] 0 0 := Stand.of_body Bd
  have e0 : s₁.heap = h0 := by rw [← hh, Bd.state]; rfl
  have N0 := Fr.nil n0
  suffices hmain : own_Ends p e below s (Qinit Z a0 u_counts_a0 h0 n0) 1 55296 (s₁.setTop (mkF m 0 #[.val (.ref a0)] [])) by
    obtain ⟨U, o, h1, r⟩ := hmain
    exact ⟨U, o, castTop (efinit m a0) h1, r⟩
  show own_Ends _ _ _ _ _ _ _ (s₁.setTop (mkF m 0 #[.val (.ref a0)] []))
  refine own_go (fun _ k => XS.aloadN X0.here hx rfl (hb hby dinit_0) rfl rfl k) ?_
  show own_Ends _ _ _ _ _ _ _ (s₁.setTop (mkF m 1 #[.val (.ref a0)] [(.ref a0)]))
  obtain ⟨T1, X1, e1, st1⟩ := initO X0 hx hZ hown (hw _ (List.mem_of_getElem? (i := 12) rfl)) (hw _ (List.mem_of_getElem? (i := 13) rfl)) (hw _ (List.mem_of_getElem? (i := 14) rfl)) e0 (g := (mkF m 1 #[.val (.ref a0)] [(.ref a0)])) rfl (by rw [hml]; rfl) rfl (hb hby dinit_1) (by decide) (W := 0) (by show 2 * 0 + _ ≤ _; exact Nat.le_of_eq rfl) (by decide)
  refine own_go (fun _ k => st1 _ k) ?_
  show own_Ends _ _ _ _ _ _ _ (T1.setTop (mkF m 4 #[.val (.ref a0)] []))
  refine own_go (fun _ k => XS.aloadN X1.here hx rfl (hb hby dinit_4) rfl rfl k) ?_
  show own_Ends _ _ _ _ _ _ _ (T1.setTop (mkF m 5 #[.val (.ref a0)] [(.ref a0)]))
  refine own_go (fun _ k => X1.ldcInt hx hown (mvT hZ (hw _ (List.mem_of_getElem? (i := 15) rfl))) (g := (mkF m 5 #[.val (.ref a0)] [(.ref a0)])) rfl (hb hby dinit_5) _ k) ?_
  show own_Ends _ _ _ _ _ _ _ (T1.setTop (mkF m 7 #[.val (.ref a0)] [(.int (55296 : Int32)), (.ref a0)]))
  obtain ⟨T2, h2, k2, X2, e2, E2, A2, st2⟩ := newP X1 hx hZ (hw _ (List.mem_of_getElem? (i := 16) rfl)) e1 (g := (mkF m 7 #[.val (.ref a0)] [(.int (55296 : Int32)), (.ref a0)])) rfl (hb hby dinit_7) rfl (by decide) (cap := 55296) (by decide) (by decide) (by decide) (by decide)
  obtain ⟨b2, q_b2⟩ : ∃ z, z = h0.size := ⟨_, rfl⟩
  rw [← q_b2] at A2 st2
  have g_b2 : n0 ≤ b2 := Nat.le_trans (own_sz O0) (Nat.le_of_eq q_b2.symm)
  have ne_a0_b2 : a0 ≠ b2 := Nat.ne_of_lt (Nat.lt_of_lt_of_le E_a0.lt (Nat.le_of_eq q_b2.symm))
  refine own_go (fun _ k => st2 _ k) ?_
  have F3 : Exa Z h2 a0 "com/example/rate_keeper/ratekeeper/server/bench/LatencyHistogram" := (Exa.ext E2 E_a0)
  have F4 : Fld Z h2 a0 "com/example/rate_keeper/ratekeeper/server/bench/LatencyHistogram" "counts" "[J" u_counts_a0 := (Fld.ext E2 F_counts_a0)
  have F5 : Old Z n0 h2 := (O0.ext E2)
  have K6 : Keep h0 h2 [a0] := (Keep.refl h0 [a0]).ext E2
  have F7 : own_Ar Z h2 b2 .long 55296 (fun i => .long ((fun _ => (0 : Int64)) i)) := own_Ar.newJ A2 (by decide)
  show own_Ends _ _ _ _ _ _ _ (T2.setTop (mkF m 9 #[.val (.ref a0)] [(.ref b2), (.ref a0)]))
  obtain ⟨T8, h8, X8, e8, W8, st8⟩ := putF X2 hx hZ hown (host := "") (Or.inl (hw _ (List.mem_of_getElem? (i := 17) rfl))) Via.refl e2 F4 F3 (Or.inr ⟨(hw _ (List.mem_of_getElem? (i := 18) rfl)), rfl, hnm⟩) (hw _ (List.mem_of_getElem? (i := 7) rfl)) (ty := (.array .long)) (by decide) rfl rfl (g := (mkF m 9 #[.val (.ref a0)] [(.ref b2), (.ref a0)])) rfl rfl (hb hby dinit_9)
  refine own_go (fun _ k => st8 _ k) ?_
  have N8 := Fr.snoc X8 N0 g_a0
  have F9 : Exa Z h8 a0 "com/example/rate_keeper/ratekeeper/server/bench/LatencyHistogram" := (Exa.wr W8 F3)
  have F10 : Old Z n0 h8 := (F5.wr W8 g_a0)
  have F11 : own_Ar Z h8 b2 .long 55296 (fun i => .long ((fun _ => (0 : Int64)) i)) := (F7.other W8 (Ne.symm ne_a0_b2))
  have F12 : Fld Z h8 a0 "com/example/rate_keeper/ratekeeper/server/bench/LatencyHistogram" "counts" "[J" (.ref b2) := Fld.same W8 F4
  have K13 : Keep h0 h8 [a0] := K6.wr W8 (Or.inl (List.mem_of_getElem? (i := 0) rfl))
  show own_Ends _ _ _ _ _ _ _ (T8.setTop (mkF m 12 #[.val (.ref a0)] []))
  exact own_retV X8 hx hlk Bd.returns (hb hby dinit_12) (by decide) (by decide) (by rw [e8]; exact ⟨rfl, N8, K13, F9, b2, g_b2, ne_a0_b2, F12, F11⟩)
theorem drec_0 : decode prog_10_method_2_code 0 = .ok (.lconst 0, 1) := by decide +kernel
theorem drec_1 : decode prog_10_method_2_code 1 = .ok (.lload_n 1, 1) := by decide +kernel
theorem drec_2 : decode prog_10_method_2_code 2 = .ok (.ldc2_w 16, 3) := by decide +kernel
theorem drec_5 : decode prog_10_method_2_code 5 = .ok (.ladd, 1) := by decide +kernel
theorem drec_6 : decode prog_10_method_2_code 6 = .ok (.ldc2_w 18, 3) := by decide +kernel
theorem drec_9 : decode prog_10_method_2_code 9 = .ok (.ldiv, 1) := by decide +kernel
theorem drec_10 : decode prog_10_method_2_code 10 = .ok (.invokestatic 20, 3) := by decide +kernel
theorem drec_13 : decode prog_10_method_2_code 13 = .ok (.lstore_n 3, 1) := by decide +kernel
theorem drec_14 : decode prog_10_method_2_code 14 = .ok (.aload_n 0, 1) := by decide +kernel
theorem drec_15 : decode prog_10_method_2_code 15 = .ok (.getfield 12, 3) := by decide +kernel
theorem drec_18 : decode prog_10_method_2_code 18 = .ok (.lload_n 3, 1) := by decide +kernel
theorem drec_19 : decode prog_10_method_2_code 19 = .ok (.invokestatic 26, 3) := by decide +kernel
theorem drec_22 : decode prog_10_method_2_code 22 = .ok (.dup2, 1) := by decide +kernel
theorem drec_23 : decode prog_10_method_2_code 23 = .ok (.laload, 1) := by decide +kernel
theorem drec_24 : decode prog_10_method_2_code 24 = .ok (.lconst 1, 1) := by decide +kernel
theorem drec_25 : decode prog_10_method_2_code 25 = .ok (.ladd, 1) := by decide +kernel
theorem drec_26 : decode prog_10_method_2_code 26 = .ok (.lastore, 1) := by decide +kernel
theorem drec_27 : decode prog_10_method_2_code 27 = .ok (.return_, 1) := by decide +kernel
theorem pnrec : plainName "com/example/rate_keeper/ratekeeper/server/bench/LatencyHistogram" = true := by first | (simp [plainName, overriddenIn]; done) | decide +kernel
theorem pdrec_0 : parseMethodDescriptor "(JJ)J" = some ⟨[.long, .long], some .long⟩ := by decide +kernel
theorem pdrec_1 : parseMethodDescriptor "(J)I" = some ⟨[.long], some .int⟩ := by decide +kernel
theorem efrec (m : MethodId) (a0 : Addr) (q1 : Int64) : entryFrame m #[(.ref a0), (.long q1)] 5 = mkF m 0 #[.val (.ref a0), .val (.long q1), .second, .unset, .unset] [] := by first | (simp [entryFrame, mkF, argsToLocals, Value.category]; done) | rfl
def Qrec (Z : State) (a0 : Addr) (q1 : Int64) (bb : Addr) (GG : Nat → Int64) (h0 : Heap) (n0 : Nat) (v : Option Value) (h : Heap) (L : List Loc) : Prop := v = none ∧ Fr n0 L ∧ Keep h0 h [bb] ∧ Exa Z h a0 "com/example/rate_keeper/ratekeeper/server/bench/LatencyHistogram" ∧ Fld Z h a0 "com/example/rate_keeper/ratekeeper/server/bench/LatencyHistogram" "counts" "[J" (.ref bb) ∧ own_Ar Z h bb .long 55296 (fun i => .long ((own_add q1 GG) i))
set_option maxRecDepth 65536 in
set_option maxHeartbeats 40000000 in
theorem rmrec (l : Launch) (Z : State) (ar : Array Value) (hw : ∀ d ∈ tables_1, d.before ar Z = true) (ws : List Jvm.Cond) (a0 : Addr) (q1 : Int64) (bb : Addr) (GG : Nat → Int64) (h0 : Heap) (n0 : Nat) (O0 : Old Z n0 h0) (E_a0 : Exa Z h0 a0 "com/example/rate_keeper/ratekeeper/server/bench/LatencyHistogram") (F_counts_a0 : Fld Z h0 a0 "com/example/rate_keeper/ratekeeper/server/bench/LatencyHistogram" "counts" "[J" (.ref bb)) (A_bb : own_Ar Z h0 bb .long 55296 (fun i => .long (GG i))) (g_bb : n0 ≤ bb) (ne_bb : a0 ≠ bb) :
    MetFree l (⟨"com/example/rate_keeper/ratekeeper/server/bench/LatencyHistogram", "record", "(J)V"⟩ : MethodName) (head1 (Jvm.Cond.code (⟨"com/example/rate_keeper/ratekeeper/server/bench/LatencyHistogram", "record", "(J)V"⟩ : MethodName) prog_10_method_2_code 5 none :: ws) ({ frames := 3, cells := 0, slots := 0, locals := 45 } : Room)) (fun a U => a = #[(.ref a0), (.long q1)] ∧ Z.Warmed39 U.vm ∧ U.heap = h0) (fun _ _ _ _ _ => True) (fun _ U o U' => ∃ v L, o = .returned v ∧ Qrec Z a0 q1 bb GG h0 n0 v U'.heap L ∧ FrameEnd U o U' L ({ frames := 3, cells := 0, slots := 0, locals := 45 } : Room).cells ({ frames := 3, cells := 0, slots := 0, locals := 45 } : Room).slots) := by
  refine MetFree.of_bodySF (plainFor_of_name pnrec) hisR ?_
  intro p e s m args below meth c s₁ Bd hml0 hP hK
  obtain ⟨rfl, hZ, hh⟩ := hP
  have hx := Bd.exec
  have hby := Bd.bytes
  have hml : c.maxLocals = 5 := hml0
  have hown : s.vm.findClass "com/example/rate_keeper/ratekeeper/server/bench/LatencyHistogram" = some m.cls := findClass_of_methodNamed Bd.named
  have hnm := (name_of_methodNamed Bd.named Bd.method).1
  have hlk : meth.locks = false := BodyLoose.notSynchronized Bd
  have X0 : Stand p l e ({ frames := 3, cells := 0, slots := 0, locals := 45 } : Room) s m #[(.ref a0), (.long q1)] below meth c s₁ [] 0 0 := Stand.of_body Bd
  have e0 : s₁.heap = h0 := by rw [← hh, Bd.state]; rfl
  have N0 := Fr.nil n0
  suffices hmain : own_Ends p e below s (Qrec Z a0 q1 bb GG h0 n0) 0 0 (s₁.setTop (mkF m 0 #[.val (.ref a0), .val (.long q1), .second, .unset, .unset] [])) by
    obtain ⟨U, o, h1, r⟩ := hmain
    exact ⟨U, o, castTop (efrec m a0 q1) h1, r⟩
  show own_Ends _ _ _ _ _ _ _ (s₁.setTop (mkF m 0 #[.val (.ref a0), .val (.long q1), .second, .unset, .unset] []))
  refine own_go (fun _ k => XS.lconst X0.here hx rfl (hb hby drec_0) k) ?_
  show own_Ends _ _ _ _ _ _ _ (s₁.setTop (mkF m 1 #[.val (.ref a0), .val (.long q1), .second, .unset, .unset] [(.long (0 : Int64))]))
  refine own_go (fun _ k => XS.lloadN X0.here hx rfl (hb hby drec_1) rfl k) ?_
  show own_Ends _ _ _ _ _ _ _ (s₁.setTop (mkF m 2 #[.val (.ref a0), .val (.long q1), .second, .unset, .unset] [(.long q1), (.long (0 : Int64))]))
  refine own_go (fun _ k => X0.ldc2Long hx hown (mvT hZ (hw _ (List.mem_of_getElem? (i := 24) rfl))) (g := (mkF m 2 #[.val (.ref a0), .val (.long q1), .second, .unset, .unset] [(.long q1), (.long (0 : Int64))])) rfl (hb hby drec_2) _ k) ?_
  show own_Ends _ _ _ _ _ _ _ (s₁.setTop (mkF m 5 #[.val (.ref a0), .val (.long q1), .second, .unset, .unset] [(.long (500 : Int64)), (.long q1), (.long (0 : Int64))]))
  refine own_go (fun _ k => XS.ladd X0.here hx rfl (hb hby drec_5) rfl k) ?_
  show own_Ends _ _ _ _ _ _ _ (s₁.setTop (mkF m 6 #[.val (.ref a0), .val (.long q1), .second, .unset, .unset] [(.long (q1 + (500 : Int64))), (.long (0 : Int64))]))
  refine own_go (fun _ k => X0.ldc2Long hx hown (mvT hZ (hw _ (List.mem_of_getElem? (i := 25) rfl))) (g := (mkF m 6 #[.val (.ref a0), .val (.long q1), .second, .unset, .unset] [(.long (q1 + (500 : Int64))), (.long (0 : Int64))])) rfl (hb hby drec_6) _ k) ?_
  show own_Ends _ _ _ _ _ _ _ (s₁.setTop (mkF m 9 #[.val (.ref a0), .val (.long q1), .second, .unset, .unset] [(.long (1000 : Int64)), (.long (q1 + (500 : Int64))), (.long (0 : Int64))]))
  refine own_go (fun _ k => XS.ldiv X0.here hx rfl (hb hby drec_9) rfl (by decide) k) ?_
  show own_Ends _ _ _ _ _ _ _ (s₁.setTop (mkF m 10 #[.val (.ref a0), .val (.long q1), .second, .unset, .unset] [(.long ((q1 + (500 : Int64)) / (1000 : Int64))), (.long (0 : Int64))]))
  obtain ⟨_, _, ⟨T1, L1, k1, n1⟩, -, X1, ⟨Lc1, hQ1, l1, y1, z1⟩, st1⟩ := Jvm.LawKit.callS X0 hx (y := (⟨"java/lang/Math", "max", "(JJ)J"⟩ : MethodName)) hown (mvT hZ (hw _ (List.mem_of_getElem? (i := 26) rfl))) (mvT hZ (hw _ (List.mem_of_getElem? (i := 27) rfl))) (mvT hZ (hw _ (List.mem_of_getElem? (i := 28) rfl))) (mvT hZ (hw _ (List.mem_of_getElem? (i := 29) rfl))) (by decide) (backOf (W := 0) (rmmaxJ l Z ar hw [] (0 : Int64) ((q1 + (500 : Int64)) / (1000 : Int64)) h0 n0 O0) hZ (hw _ (List.mem_of_getElem? (i := 29) rfl)) (hw _ (List.mem_of_getElem? (i := 28) rfl)) (by decide) (by decide)) (g := (mkF m 10 #[.val (.ref a0), .val (.long q1), .second, .unset, .unset] [(.long ((q1 + (500 : Int64)) / (1000 : Int64))), (.long (0 : Int64))])) rfl (by rw [hml]; rfl) (argsL := [(.long (0 : Int64)), (.long ((q1 + (500 : Int64)) / (1000 : Int64)))]) (rest := []) (lenOf pdrec_0 rfl) rfl (by show 2 * 0 + _ ≤ _; exact Nat.le_of_eq rfl) (hb hby drec_10) (fun _ _ => ⟨rfl, e0, (by decide : 0 + 0 ≤ _), (by decide : 0 + 0 ≤ _)⟩)
  dsimp only [Pt.U, Pt.locs, Pt.cells, Pt.slots] at X1 l1 y1 z1 st1 hQ1
  subst l1 y1 z1
  obtain ⟨rfl, N1q, eq1⟩ := hQ1
  have e1 : T1.heap = h0 := eq1
  have N1 := Fr.app N0 N1q
  refine own_go (fun _ k => st1 _ k) ?_
  show own_Ends _ _ _ _ _ _ _ (T1.setTop (mkF m 13 #[.val (.ref a0), .val (.long q1), .second, .unset, .unset] [(.long (fmaxJ (0 : Int64) ((q1 + (500 : Int64)) / (1000 : Int64))))]))
  refine own_go (fun _ k => XS.lstoreN X1.here hx rfl (hb hby drec_13) rfl (l' := #[.val (.ref a0), .val (.long q1), .second, .val (.long (fmaxJ (0 : Int64) ((q1 + (500 : Int64)) / (1000 : Int64)))), .second]) rfl k) ?_
  suffices hjmi : ∀ mi : Int64, mi = (fmaxJ (0 : Int64) ((q1 + (500 : Int64)) / (1000 : Int64))) → own_Ends p e below s (Qrec Z a0 q1 bb GG h0 n0) 0 0 (T1.setTop (mkF m 14 #[.val (.ref a0), .val (.long q1), .second, .val (.long mi), .second] [])) by exact hjmi _ rfl
  intro mi hmi
  have Pmi := own_mi hmi
  show own_Ends _ _ _ _ _ _ _ (T1.setTop (mkF m 14 #[.val (.ref a0), .val (.long q1), .second, .val (.long mi), .second] []))
  refine own_go (fun _ k => XS.aloadN X1.here hx rfl (hb hby drec_14) rfl rfl k) ?_
  show own_Ends _ _ _ _ _ _ _ (T1.setTop (mkF m 15 #[.val (.ref a0), .val (.long q1), .second, .val (.long mi), .second] [(.ref a0)]))
  obtain ⟨T2, X2, e2, st2⟩ := getF X1 hx hZ hown (host := "") (Or.inl (hw _ (List.mem_of_getElem? (i := 17) rfl))) Via.refl e1 F_counts_a0 (g := (mkF m 15 #[.val (.ref a0), .val (.long q1), .second, .val (.long mi), .second] [(.ref a0)])) rfl rfl (hb hby drec_15)
  refine own_go (fun _ k => st2 _ k) ?_
  show own_Ends _ _ _ _ _ _ _ (T2.setTop (mkF m 18 #[.val (.ref a0), .val (.long q1), .second, .val (.long mi), .second] [(.ref bb)]))
  refine own_go (fun _ k => XS.lloadN X2.here hx rfl (hb hby drec_18) rfl k) ?_
  show own_Ends _ _ _ _ _ _ _ (T2.setTop (mkF m 19 #[.val (.ref a0), .val (.long q1), .second, .val (.long mi), .second] [(.long mi), (.ref bb)]))
  obtain ⟨_, _, ⟨T3, L3, k3, n3⟩, -, X3, ⟨Lc3, hQ3, l3, y3, z3⟩, st3⟩ := Jvm.LawKit.callS X2 hx (y := (⟨"com/example/rate_keeper/ratekeeper/server/bench/LatencyHistogram", "index", "(J)I"⟩ : MethodName)) hown (mvT hZ (hw _ (List.mem_of_getElem? (i := 30) rfl))) (mvT hZ (hw _ (List.mem_of_getElem? (i := 31) rfl))) (mvT hZ (hw _ (List.mem_of_getElem? (i := 8) rfl))) (mvT hZ (hw _ (List.mem_of_getElem? (i := 32) rfl))) (by decide) (backOf (W := 1) (rmindex l Z ar hw [] mi h0 n0 O0) hZ (hw _ (List.mem_of_getElem? (i := 32) rfl)) (hw _ (List.mem_of_getElem? (i := 8) rfl)) (by decide) (by decide)) (g := (mkF m 19 #[.val (.ref a0), .val (.long q1), .second, .val (.long mi), .second] [(.long mi), (.ref bb)])) rfl (by rw [hml]; rfl) (argsL := [(.long mi)]) (rest := [(.ref bb)]) (lenOf pdrec_1 rfl) rfl (by show 2 * 0 + _ ≤ _; exact Nat.le_of_eq rfl) (hb hby drec_19) (fun _ _ => ⟨rfl, e2, (by decide : 0 + 0 ≤ _), (by decide : 0 + 0 ≤ _)⟩)
  dsimp only [Pt.U, Pt.locs, Pt.cells, Pt.slots] at X3 l3 y3 z3 st3 hQ3
  subst l3 y3 z3
  obtain ⟨rfl, N3q, eq3⟩ := hQ3
  have e3 : T3.heap = h0 := eq3
  have N3 := Fr.app N1 N3q
  refine own_go (fun _ k => st3 _ k) ?_
  suffices hjix : ∀ ix : Int32, ix = (findex mi) → own_Ends p e below s (Qrec Z a0 q1 bb GG h0 n0) 0 0 (T3.setTop (mkF m 22 #[.val (.ref a0), .val (.long q1), .second, .val (.long mi), .second] [(.int ix), (.ref bb)])) by exact hjix _ rfl
  intro ix hix
  have Pix := own_ixb Pmi hix
  show own_Ends _ _ _ _ _ _ _ (T3.setTop (mkF m 22 #[.val (.ref a0), .val (.long q1), .second, .val (.long mi), .second] [(.int ix), (.ref bb)]))
  refine own_go (fun _ k => XT.dup2 X3.here hx rfl (hb hby drec_22) rfl rfl rfl k) ?_
  show own_Ends _ _ _ _ _ _ _ (T3.setTop (mkF m 23 #[.val (.ref a0), .val (.long q1), .second, .val (.long mi), .second] [(.int ix), (.ref bb), (.int ix), (.ref bb)]))
  obtain ⟨c4, A4, i4, v4⟩ := own_Ar.at A_bb ix Pix.1 Pix.2
  refine own_go (fun _ k => X3.laload hx (by rw [e3]; exact A4.1) (State.isArrayOf_alike hZ.alike A4.2.1) A4.2.2 i4 v4 (g := (mkF m 23 #[.val (.ref a0), .val (.long q1), .second, .val (.long mi), .second] [(.int ix), (.ref bb), (.int ix), (.ref bb)])) rfl rfl (hb hby drec_23) _ k) ?_
  show own_Ends _ _ _ _ _ _ _ (T3.setTop (mkF m 24 #[.val (.ref a0), .val (.long q1), .second, .val (.long mi), .second] [(.long (GG (ix).toNatClampNeg)), (.int ix), (.ref bb)]))
  refine own_go (fun _ k => XS.lconst X3.here hx rfl (hb hby drec_24) k) ?_
  show own_Ends _ _ _ _ _ _ _ (T3.setTop (mkF m 25 #[.val (.ref a0), .val (.long q1), .second, .val (.long mi), .second] [(.long (1 : Int64)), (.long (GG (ix).toNatClampNeg)), (.int ix), (.ref bb)]))
  refine own_go (fun _ k => XS.ladd X3.here hx rfl (hb hby drec_25) rfl k) ?_
  show own_Ends _ _ _ _ _ _ _ (T3.setTop (mkF m 26 #[.val (.ref a0), .val (.long q1), .second, .val (.long mi), .second] [(.long ((GG (ix).toNatClampNeg) + (1 : Int64))), (.int ix), (.ref bb)]))
  obtain ⟨c5, A5, i5, -⟩ := own_Ar.at A_bb ix Pix.1 Pix.2
  obtain ⟨T5, h5, X5, e5, W5, st5⟩ := stJ X3 hx hZ e3 A5 (j := ix) i5 (g := (mkF m 26 #[.val (.ref a0), .val (.long q1), .second, .val (.long mi), .second] [(.long ((GG (ix).toNatClampNeg) + (1 : Int64))), (.int ix), (.ref bb)])) rfl rfl (hb hby drec_26)
  refine own_go (fun _ k => st5 _ k) ?_
  have N5 := Fr.snoc X5 N3 g_bb
  have F6 : Exa Z h5 a0 "com/example/rate_keeper/ratekeeper/server/bench/LatencyHistogram" := (Exa.wr W5 E_a0)
  have F7 : Fld Z h5 a0 "com/example/rate_keeper/ratekeeper/server/bench/LatencyHistogram" "counts" "[J" (.ref bb) := (Fld.other W5 F_counts_a0 (Or.inl ne_bb))
  have F8 : Old Z n0 h5 := (O0.wr W5 g_bb)
  have F9 : own_Ar Z h5 bb .long 55296 (fun i => .long ((fun i => if i = (ix).toNatClampNeg then ((GG (ix).toNatClampNeg) + (1 : Int64)) else GG i) i)) := own_Ar.setJ A_bb W5
  show own_Ends _ _ _ _ _ _ _ (T5.setTop (mkF m 27 #[.val (.ref a0), .val (.long q1), .second, .val (.long mi), .second] []))
  exact own_retV X5 hx hlk Bd.returns (hb hby drec_27) (by decide) (by decide) (by rw [e5]; subst hix hmi; exact ⟨rfl, N5, (Keep.of_wr W5), F6, F7, F9⟩)
def fcount (a0 : Addr) (bb : Addr) (GG : Nat → Int64) : Int64 := own_sum GG 55296
theorem dcount_0 : decode prog_10_method_3_code 0 = .ok (.lconst 0, 1) := by decide +kernel
theorem dcount_1 : decode prog_10_method_3_code 1 = .ok (.lstore_n 1, 1) := by decide +kernel
theorem dcount_2 : decode prog_10_method_3_code 2 = .ok (.aload_n 0, 1) := by decide +kernel
theorem dcount_3 : decode prog_10_method_3_code 3 = .ok (.getfield 12, 3) := by decide +kernel
theorem dcount_6 : decode prog_10_method_3_code 6 = .ok (.astore_n 3, 1) := by decide +kernel
theorem dcount_7 : decode prog_10_method_3_code 7 = .ok (.aload_n 3, 1) := by decide +kernel
theorem dcount_8 : decode prog_10_method_3_code 8 = .ok (.arraylength, 1) := by decide +kernel
theorem dcount_9 : decode prog_10_method_3_code 9 = .ok (.istore 4, 2) := by decide +kernel
theorem dcount_11 : decode prog_10_method_3_code 11 = .ok (.iconst 0, 1) := by decide +kernel
theorem dcount_12 : decode prog_10_method_3_code 12 = .ok (.istore 5, 2) := by decide +kernel
theorem dcount_14 : decode prog_10_method_3_code 14 = .ok (.iload 5, 2) := by decide +kernel
theorem dcount_16 : decode prog_10_method_3_code 16 = .ok (.iload 4, 2) := by decide +kernel
theorem dcount_18 : decode prog_10_method_3_code 18 = .ok (.if_icmp .ge 20, 3) := by decide +kernel
theorem dcount_21 : decode prog_10_method_3_code 21 = .ok (.aload_n 3, 1) := by decide +kernel
theorem dcount_22 : decode prog_10_method_3_code 22 = .ok (.iload 5, 2) := by decide +kernel
theorem dcount_24 : decode prog_10_method_3_code 24 = .ok (.laload, 1) := by decide +kernel
theorem dcount_25 : decode prog_10_method_3_code 25 = .ok (.lstore 6, 2) := by decide +kernel
theorem dcount_27 : decode prog_10_method_3_code 27 = .ok (.lload_n 1, 1) := by decide +kernel
theorem dcount_28 : decode prog_10_method_3_code 28 = .ok (.lload 6, 2) := by decide +kernel
theorem dcount_30 : decode prog_10_method_3_code 30 = .ok (.ladd, 1) := by decide +kernel
theorem dcount_31 : decode prog_10_method_3_code 31 = .ok (.lstore_n 1, 1) := by decide +kernel
theorem dcount_32 : decode prog_10_method_3_code 32 = .ok (.iinc 5 1, 3) := by decide +kernel
theorem dcount_35 : decode prog_10_method_3_code 35 = .ok (.goto (-21), 3) := by decide +kernel
theorem dcount_38 : decode prog_10_method_3_code 38 = .ok (.lload_n 1, 1) := by decide +kernel
theorem dcount_39 : decode prog_10_method_3_code 39 = .ok (.lreturn, 1) := by decide +kernel
theorem pncount : plainName "com/example/rate_keeper/ratekeeper/server/bench/LatencyHistogram" = true := by first | (simp [plainName, overriddenIn]; done) | decide +kernel
theorem efcount (m : MethodId) (a0 : Addr) : entryFrame m #[(.ref a0)] 8 = mkF m 0 #[.val (.ref a0), .unset, .unset, .unset, .unset, .unset, .unset, .unset] [] := by first | (simp [entryFrame, mkF, argsToLocals, Value.category]; done) | rfl
def Qcount (Z : State) (a0 : Addr) (bb : Addr) (GG : Nat → Int64) (h0 : Heap) (n0 : Nat) (v : Option Value) (h : Heap) (L : List Loc) : Prop := v = some (.long (own_sum GG 55296)) ∧ Fr n0 L ∧ h = h0
set_option maxRecDepth 65536 in
set_option maxHeartbeats 40000000 in
theorem rmcount (l : Launch) (Z : State) (ar : Array Value) (hw : ∀ d ∈ tables_1, d.before ar Z = true) (ws : List Jvm.Cond) (a0 : Addr) (bb : Addr) (GG : Nat → Int64) (h0 : Heap) (n0 : Nat) (O0 : Old Z n0 h0) (E_a0 : Exa Z h0 a0 "com/example/rate_keeper/ratekeeper/server/bench/LatencyHistogram") (F_counts_a0 : Fld Z h0 a0 "com/example/rate_keeper/ratekeeper/server/bench/LatencyHistogram" "counts" "[J" (.ref bb)) (A_bb : own_Ar Z h0 bb .long 55296 (fun i => .long (GG i))) :
    MetFree l (⟨"com/example/rate_keeper/ratekeeper/server/bench/LatencyHistogram", "count", "()J"⟩ : MethodName) (head1 (Jvm.Cond.code (⟨"com/example/rate_keeper/ratekeeper/server/bench/LatencyHistogram", "count", "()J"⟩ : MethodName) prog_10_method_3_code 8 (some .long) :: ws) ({ frames := 0, cells := 0, slots := 0, locals := 0 } : Room)) (fun a U => a = #[(.ref a0)] ∧ Z.Warmed39 U.vm ∧ U.heap = h0) (fun _ _ _ _ _ => True) (fun _ U o U' => ∃ v L, o = .returned v ∧ Qcount Z a0 bb GG h0 n0 v U'.heap L ∧ FrameEnd U o U' L ({ frames := 0, cells := 0, slots := 0, locals := 0 } : Room).cells ({ frames := 0, cells := 0, slots := 0, locals := 0 } : Room).slots) := by
  refine MetFree.of_bodySF (plainFor_of_name pncount) hisR ?_
  intro p e s m args below meth c s₁ Bd hml0 hP hK
  obtain ⟨rfl, hZ, hh⟩ := hP
  have hx := Bd.exec
  have hby := Bd.bytes
  have hml : c.maxLocals = 8 := hml0
  have hown : s.vm.findClass "com/example/rate_keeper/ratekeeper/server/bench/LatencyHistogram" = some m.cls := findClass_of_methodNamed Bd.named
  have hnm := (name_of_methodNamed Bd.named Bd.method).1
  have hlk : meth.locks = false := BodyLoose.notSynchronized Bd
  have X0 : Stand p l e ({ frames := 0, cells := 0, slots := 0, locals := 0 } : Room) s m #[(.ref a0)] below meth c s₁ [] 0 0 := Stand.of_body Bd
  have e0 : s₁.heap = h0 := by rw [← hh, Bd.state]; rfl
  have N0 := Fr.nil n0
  suffices hmain : own_Ends p e below s (Qcount Z a0 bb GG h0 n0) 0 0 (s₁.setTop (mkF m 0 #[.val (.ref a0), .unset, .unset, .unset, .unset, .unset, .unset, .unset] [])) by
    obtain ⟨U, o, h1, r⟩ := hmain
    exact ⟨U, o, castTop (efcount m a0) h1, r⟩
  show own_Ends _ _ _ _ _ _ _ (s₁.setTop (mkF m 0 #[.val (.ref a0), .unset, .unset, .unset, .unset, .unset, .unset, .unset] []))
  refine own_go (fun _ k => XS.lconst X0.here hx rfl (hb hby dcount_0) k) ?_
  show own_Ends _ _ _ _ _ _ _ (s₁.setTop (mkF m 1 #[.val (.ref a0), .unset, .unset, .unset, .unset, .unset, .unset, .unset] [(.long (0 : Int64))]))
  refine own_go (fun _ k => XS.lstoreN X0.here hx rfl (hb hby dcount_1) rfl (l' := #[.val (.ref a0), .val (.long (0 : Int64)), .second, .unset, .unset, .unset, .unset, .unset]) rfl k) ?_
  show own_Ends _ _ _ _ _ _ _ (s₁.setTop (mkF m 2 #[.val (.ref a0), .val (.long (0 : Int64)), .second, .unset, .unset, .unset, .unset, .unset] []))
  refine own_go (fun _ k => XS.aloadN X0.here hx rfl (hb hby dcount_2) rfl rfl k) ?_
  show own_Ends _ _ _ _ _ _ _ (s₁.setTop (mkF m 3 #[.val (.ref a0), .val (.long (0 : Int64)), .second, .unset, .unset, .unset, .unset, .unset] [(.ref a0)]))
  obtain ⟨T1, X1, e1, st1⟩ := getF X0 hx hZ hown (host := "") (Or.inl (hw _ (List.mem_of_getElem? (i := 17) rfl))) Via.refl e0 F_counts_a0 (g := (mkF m 3 #[.val (.ref a0), .val (.long (0 : Int64)), .second, .unset, .unset, .unset, .unset, .unset] [(.ref a0)])) rfl rfl (hb hby dcount_3)
  refine own_go (fun _ k => st1 _ k) ?_
  show own_Ends _ _ _ _ _ _ _ (T1.setTop (mkF m 6 #[.val (.ref a0), .val (.long (0 : Int64)), .second, .unset, .unset, .unset, .unset, .unset] [(.ref bb)]))
  refine own_go (fun _ k => XS.astoreN X1.here hx rfl (hb hby dcount_6) rfl rfl (l' := #[.val (.ref a0), .val (.long (0 : Int64)), .second, .val (.ref bb), .unset, .unset, .unset, .unset]) rfl k) ?_
  show own_Ends _ _ _ _ _ _ _ (T1.setTop (mkF m 7 #[.val (.ref a0), .val (.long (0 : Int64)), .second, .val (.ref bb), .unset, .unset, .unset, .unset] []))
  refine own_go (fun _ k => XS.aloadN X1.here hx rfl (hb hby dcount_7) rfl rfl k) ?_
  show own_Ends _ _ _ _ _ _ _ (T1.setTop (mkF m 8 #[.val (.ref a0), .val (.long (0 : Int64)), .second, .val (.ref bb), .unset, .unset, .unset, .unset] [(.ref bb)]))
  obtain ⟨c2, A2, l2⟩ := own_Ar.len A_bb
  refine own_go (fun _ k => X1.arraylength hx (by rw [e1]; exact A2.1) (State.isArrayOf_alike hZ.alike A2.2.1) (g := (mkF m 8 #[.val (.ref a0), .val (.long (0 : Int64)), .second, .val (.ref bb), .unset, .unset, .unset, .unset] [(.ref bb)])) rfl rfl (hb hby dcount_8) _ k) ?_
  rw [l2]
  show own_Ends _ _ _ _ _ _ _ (T1.setTop (mkF m 9 #[.val (.ref a0), .val (.long (0 : Int64)), .second, .val (.ref bb), .unset, .unset, .unset, .unset] [(.int (Int32.ofNat 55296))]))
  refine own_go (fun _ k => XS.istore X1.here hx rfl (hb hby dcount_9) rfl (l' := #[.val (.ref a0), .val (.long (0 : Int64)), .second, .val (.ref bb), .val (.int (Int32.ofNat 55296)), .unset, .unset, .unset]) rfl k) ?_
  show own_Ends _ _ _ _ _ _ _ (T1.setTop (mkF m 11 #[.val (.ref a0), .val (.long (0 : Int64)), .second, .val (.ref bb), .val (.int (Int32.ofNat 55296)), .unset, .unset, .unset] []))
  refine own_go (fun _ k => XS.iconst X1.here hx rfl (hb hby dcount_11) k) ?_
  show own_Ends _ _ _ _ _ _ _ (T1.setTop (mkF m 12 #[.val (.ref a0), .val (.long (0 : Int64)), .second, .val (.ref bb), .val (.int (Int32.ofNat 55296)), .unset, .unset, .unset] [(.int (0 : Int32))]))
  refine own_go (fun _ k => XS.istore X1.here hx rfl (hb hby dcount_12) rfl (l' := #[.val (.ref a0), .val (.long (0 : Int64)), .second, .val (.ref bb), .val (.int (Int32.ofNat 55296)), .val (.int (0 : Int32)), .unset, .unset]) rfl k) ?_
  suffices hin : ∀ (kk i : Nat) (s6 s7 : Slot), i + kk = 55296 → ((s6 = .unset ∧ s7 = .unset) ∨ ∃ w, s6 = .val (.long w) ∧ s7 = .second) → own_Ends p e below s (Qcount Z a0 bb GG h0 n0) 0 0 (T1.setTop (mkF m 14 #[.val (.ref a0), .val (.long (own_sum GG i)), .second, .val (.ref bb), .val (.int (Int32.ofNat 55296)), .val (.int (Int32.ofNat i)), s6, s7] [])) by
    exact hin 55296 0 .unset .unset (by decide) (Or.inl ⟨rfl, rfl⟩)
  intro kk
  induction kk with
  | zero =>
    intro i s6 s7 hi hs
    show own_Ends _ _ _ _ _ _ _ (T1.setTop (mkF m 14 #[.val (.ref a0), .val (.long (own_sum GG i)), .second, .val (.ref bb), .val (.int (Int32.ofNat 55296)), .val (.int (Int32.ofNat i)), s6, s7] []))
    refine own_go (fun _ k => XS.iload X1.here hx rfl (hb hby dcount_14) rfl k) ?_
    show own_Ends _ _ _ _ _ _ _ (T1.setTop (mkF m 16 #[.val (.ref a0), .val (.long (own_sum GG i)), .second, .val (.ref bb), .val (.int (Int32.ofNat 55296)), .val (.int (Int32.ofNat i)), s6, s7] [(.int (Int32.ofNat i))]))
    refine own_go (fun _ k => XS.iload X1.here hx rfl (hb hby dcount_16) rfl k) ?_
    show own_Ends _ _ _ _ _ _ _ (T1.setTop (mkF m 18 #[.val (.ref a0), .val (.long (own_sum GG i)), .second, .val (.ref bb), .val (.int (Int32.ofNat 55296)), .val (.int (Int32.ofNat i)), s6, s7] [(.int (Int32.ofNat 55296)), (.int (Int32.ofNat i))]))
    refine own_go (fun _ k => XS.icmpYes X1.here hx rfl (pc0 := 18) (pc' := 38) rfl (hb hby dcount_18) rfl (flt (own_18z (by omega))).2.1 (by decide) (by decide) k) ?_
    show own_Ends _ _ _ _ _ _ _ (T1.setTop (mkF m 38 #[.val (.ref a0), .val (.long (own_sum GG i)), .second, .val (.ref bb), .val (.int (Int32.ofNat 55296)), .val (.int (Int32.ofNat i)), s6, s7] []))
    refine own_go (fun _ k => XS.lloadN X1.here hx rfl (hb hby dcount_38) rfl k) ?_
    show own_Ends _ _ _ _ _ _ _ (T1.setTop (mkF m 39 #[.val (.ref a0), .val (.long (own_sum GG i)), .second, .val (.ref bb), .val (.int (Int32.ofNat 55296)), .val (.int (Int32.ofNat i)), s6, s7] [(.long (own_sum GG i))]))
    exact own_retJ X1 hx hlk Bd.returns (hb hby dcount_39) (by decide) (by decide) ⟨by rw [show i = 55296 by omega], N0, e1⟩
  | succ kk ihk =>
    intro i s6 s7 hi hs
    show own_Ends _ _ _ _ _ _ _ (T1.setTop (mkF m 14 #[.val (.ref a0), .val (.long (own_sum GG i)), .second, .val (.ref bb), .val (.int (Int32.ofNat 55296)), .val (.int (Int32.ofNat i)), s6, s7] []))
    refine own_go (fun _ k => XS.iload X1.here hx rfl (hb hby dcount_14) rfl k) ?_
    show own_Ends _ _ _ _ _ _ _ (T1.setTop (mkF m 16 #[.val (.ref a0), .val (.long (own_sum GG i)), .second, .val (.ref bb), .val (.int (Int32.ofNat 55296)), .val (.int (Int32.ofNat i)), s6, s7] [(.int (Int32.ofNat i))]))
    refine own_go (fun _ k => XS.iload X1.here hx rfl (hb hby dcount_16) rfl k) ?_
    show own_Ends _ _ _ _ _ _ _ (T1.setTop (mkF m 18 #[.val (.ref a0), .val (.long (own_sum GG i)), .second, .val (.ref bb), .val (.int (Int32.ofNat 55296)), .val (.int (Int32.ofNat i)), s6, s7] [(.int (Int32.ofNat 55296)), (.int (Int32.ofNat i))]))
    refine own_go (fun _ k => XS.icmpNo X1.here hx rfl (hb hby dcount_18) rfl (tlt (own_18s (by omega))).2.1 k) ?_
    show own_Ends _ _ _ _ _ _ _ (T1.setTop (mkF m 21 #[.val (.ref a0), .val (.long (own_sum GG i)), .second, .val (.ref bb), .val (.int (Int32.ofNat 55296)), .val (.int (Int32.ofNat i)), s6, s7] []))
    refine own_go (fun _ k => XS.aloadN X1.here hx rfl (hb hby dcount_21) rfl rfl k) ?_
    show own_Ends _ _ _ _ _ _ _ (T1.setTop (mkF m 22 #[.val (.ref a0), .val (.long (own_sum GG i)), .second, .val (.ref bb), .val (.int (Int32.ofNat 55296)), .val (.int (Int32.ofNat i)), s6, s7] [(.ref bb)]))
    refine own_go (fun _ k => XS.iload X1.here hx rfl (hb hby dcount_22) rfl k) ?_
    show own_Ends _ _ _ _ _ _ _ (T1.setTop (mkF m 24 #[.val (.ref a0), .val (.long (own_sum GG i)), .second, .val (.ref bb), .val (.int (Int32.ofNat 55296)), .val (.int (Int32.ofNat i)), s6, s7] [(.int (Int32.ofNat i)), (.ref bb)]))
    obtain ⟨c3, A3, i3, v3⟩ := own_Ar.at A_bb (Int32.ofNat i) (own_nn0 (by omega)) (own_lt0 (by omega))
    refine own_go (fun _ k => X1.laload hx (by rw [e1]; exact A3.1) (State.isArrayOf_alike hZ.alike A3.2.1) A3.2.2 i3 v3 (g := (mkF m 24 #[.val (.ref a0), .val (.long (own_sum GG i)), .second, .val (.ref bb), .val (.int (Int32.ofNat 55296)), .val (.int (Int32.ofNat i)), s6, s7] [(.int (Int32.ofNat i)), (.ref bb)])) rfl rfl (hb hby dcount_24) _ k) ?_
    show own_Ends _ _ _ _ _ _ _ (T1.setTop (mkF m 25 #[.val (.ref a0), .val (.long (own_sum GG i)), .second, .val (.ref bb), .val (.int (Int32.ofNat 55296)), .val (.int (Int32.ofNat i)), s6, s7] [(.long (GG ((Int32.ofNat i)).toNatClampNeg))]))
    refine own_go (fun _ k => XS.lstore X1.here hx rfl (hb hby dcount_25) rfl (l' := #[.val (.ref a0), .val (.long (own_sum GG i)), .second, .val (.ref bb), .val (.int (Int32.ofNat 55296)), .val (.int (Int32.ofNat i)), .val (.long (GG ((Int32.ofNat i)).toNatClampNeg)), .second]) (own_st6 hs) k) ?_
    show own_Ends _ _ _ _ _ _ _ (T1.setTop (mkF m 27 #[.val (.ref a0), .val (.long (own_sum GG i)), .second, .val (.ref bb), .val (.int (Int32.ofNat 55296)), .val (.int (Int32.ofNat i)), .val (.long (GG ((Int32.ofNat i)).toNatClampNeg)), .second] []))
    refine own_go (fun _ k => XS.lloadN X1.here hx rfl (hb hby dcount_27) rfl k) ?_
    show own_Ends _ _ _ _ _ _ _ (T1.setTop (mkF m 28 #[.val (.ref a0), .val (.long (own_sum GG i)), .second, .val (.ref bb), .val (.int (Int32.ofNat 55296)), .val (.int (Int32.ofNat i)), .val (.long (GG ((Int32.ofNat i)).toNatClampNeg)), .second] [(.long (own_sum GG i))]))
    refine own_go (fun _ k => XS.lload X1.here hx rfl (hb hby dcount_28) rfl k) ?_
    show own_Ends _ _ _ _ _ _ _ (T1.setTop (mkF m 30 #[.val (.ref a0), .val (.long (own_sum GG i)), .second, .val (.ref bb), .val (.int (Int32.ofNat 55296)), .val (.int (Int32.ofNat i)), .val (.long (GG ((Int32.ofNat i)).toNatClampNeg)), .second] [(.long (GG ((Int32.ofNat i)).toNatClampNeg)), (.long (own_sum GG i))]))
    refine own_go (fun _ k => XS.ladd X1.here hx rfl (hb hby dcount_30) rfl k) ?_
    show own_Ends _ _ _ _ _ _ _ (T1.setTop (mkF m 31 #[.val (.ref a0), .val (.long (own_sum GG i)), .second, .val (.ref bb), .val (.int (Int32.ofNat 55296)), .val (.int (Int32.ofNat i)), .val (.long (GG ((Int32.ofNat i)).toNatClampNeg)), .second] [(.long ((own_sum GG i) + (GG ((Int32.ofNat i)).toNatClampNeg)))]))
    refine own_go (fun _ k => XS.lstoreN X1.here hx rfl (hb hby dcount_31) rfl (l' := #[.val (.ref a0), .val (.long ((own_sum GG i) + (GG ((Int32.ofNat i)).toNatClampNeg))), .second, .val (.ref bb), .val (.int (Int32.ofNat 55296)), .val (.int (Int32.ofNat i)), .val (.long (GG ((Int32.ofNat i)).toNatClampNeg)), .second]) rfl k) ?_
    show own_Ends _ _ _ _ _ _ _ (T1.setTop (mkF m 32 #[.val (.ref a0), .val (.long ((own_sum GG i) + (GG ((Int32.ofNat i)).toNatClampNeg))), .second, .val (.ref bb), .val (.int (Int32.ofNat 55296)), .val (.int (Int32.ofNat i)), .val (.long (GG ((Int32.ofNat i)).toNatClampNeg)), .second] []))
    refine own_go (fun _ k => XS.iinc X1.here hx rfl (hb hby dcount_32) rfl (l' := #[.val (.ref a0), .val (.long ((own_sum GG i) + (GG ((Int32.ofNat i)).toNatClampNeg))), .second, .val (.ref bb), .val (.int (Int32.ofNat 55296)), .val (.int ((Int32.ofNat i) + (1 : Int32))), .val (.long (GG ((Int32.ofNat i)).toNatClampNeg)), .second]) rfl k) ?_
    show own_Ends _ _ _ _ _ _ _ (T1.setTop (mkF m 35 #[.val (.ref a0), .val (.long ((own_sum GG i) + (GG ((Int32.ofNat i)).toNatClampNeg))), .second, .val (.ref bb), .val (.int (Int32.ofNat 55296)), .val (.int ((Int32.ofNat i) + (1 : Int32))), .val (.long (GG ((Int32.ofNat i)).toNatClampNeg)), .second] []))
    refine own_go (fun _ k => XS.goto X1.here hx rfl (pc0 := 35) (pc' := 14) rfl (hb hby dcount_35) (by decide) (by decide) k) ?_
    rw [own_sum_step (i := i) (by omega), own_succ]
    exact ihk (i + 1) _ _ (by omega) (Or.inr ⟨_, rfl, rfl⟩)
theorem own_two_fin : Jvm.Free.Fl.Fin64 (4611686018427387904 : UInt64) := by unfold Jvm.Free.Fl.Fin64; decide
theorem own_two_nz : Jvm.Free.Fl.Nz64 (4611686018427387904 : UInt64) := by unfold Jvm.Free.Fl.Nz64; decide
theorem own_nnh (x : Int64) : Jvm.Free.Fl.NoNaN64 (FP.ddiv (FP.l2d x) (4611686018427387904 : UInt64)) := Jvm.Free.Fl.ddiv_out (Jvm.Free.Fl.l2d_fin x).noNaN own_two_fin own_two_nz
theorem own_nnm (a b : Int64) : Jvm.Free.Fl.NoNaN64 (FP.dadd (FP.l2d a) (FP.ddiv (FP.l2d b) (4611686018427387904 : UInt64))) := Jvm.Free.Fl.dadd_out' (Jvm.Free.Fl.l2d_fin a) (own_nnh b)
theorem dmid_0 : decode prog_10_method_6_code 0 = .ok (.iconst 0, 1) := by decide +kernel
theorem dmid_1 : decode prog_10_method_6_code 1 = .ok (.iload_n 0, 1) := by decide +kernel
theorem dmid_2 : decode prog_10_method_6_code 2 = .ok (.sipush 1024, 3) := by decide +kernel
theorem dmid_5 : decode prog_10_method_6_code 5 = .ok (.idiv, 1) := by decide +kernel
theorem dmid_6 : decode prog_10_method_6_code 6 = .ok (.iconst 1, 1) := by decide +kernel
theorem dmid_7 : decode prog_10_method_6_code 7 = .ok (.isub, 1) := by decide +kernel
theorem dmid_8 : decode prog_10_method_6_code 8 = .ok (.invokestatic 52, 3) := by decide +kernel
theorem dmid_11 : decode prog_10_method_6_code 11 = .ok (.istore_n 1, 1) := by decide +kernel
theorem dmid_12 : decode prog_10_method_6_code 12 = .ok (.iload_n 0, 1) := by decide +kernel
theorem dmid_13 : decode prog_10_method_6_code 13 = .ok (.iload_n 1, 1) := by decide +kernel
theorem dmid_14 : decode prog_10_method_6_code 14 = .ok (.sipush 1024, 3) := by decide +kernel
theorem dmid_17 : decode prog_10_method_6_code 17 = .ok (.imul, 1) := by decide +kernel
theorem dmid_18 : decode prog_10_method_6_code 18 = .ok (.isub, 1) := by decide +kernel
theorem dmid_19 : decode prog_10_method_6_code 19 = .ok (.i2l, 1) := by decide +kernel
theorem dmid_20 : decode prog_10_method_6_code 20 = .ok (.iload_n 1, 1) := by decide +kernel
theorem dmid_21 : decode prog_10_method_6_code 21 = .ok (.lshl, 1) := by decide +kernel
theorem dmid_22 : decode prog_10_method_6_code 22 = .ok (.lstore_n 2, 1) := by decide +kernel
theorem dmid_23 : decode prog_10_method_6_code 23 = .ok (.lload_n 2, 1) := by decide +kernel
theorem dmid_24 : decode prog_10_method_6_code 24 = .ok (.l2d, 1) := by decide +kernel
theorem dmid_25 : decode prog_10_method_6_code 25 = .ok (.lconst 1, 1) := by decide +kernel
theorem dmid_26 : decode prog_10_method_6_code 26 = .ok (.iload_n 1, 1) := by decide +kernel
theorem dmid_27 : decode prog_10_method_6_code 27 = .ok (.lshl, 1) := by decide +kernel
theorem dmid_28 : decode prog_10_method_6_code 28 = .ok (.lconst 1, 1) := by decide +kernel
theorem dmid_29 : decode prog_10_method_6_code 29 = .ok (.lsub, 1) := by decide +kernel
theorem dmid_30 : decode prog_10_method_6_code 30 = .ok (.l2d, 1) := by decide +kernel
theorem dmid_31 : decode prog_10_method_6_code 31 = .ok (.ldc2_w 57, 3) := by decide +kernel
theorem dmid_34 : decode prog_10_method_6_code 34 = .ok (.ddiv, 1) := by decide +kernel
theorem dmid_35 : decode prog_10_method_6_code 35 = .ok (.dadd, 1) := by decide +kernel
theorem dmid_36 : decode prog_10_method_6_code 36 = .ok (.dreturn, 1) := by decide +kernel
theorem pnmid : plainName "com/example/rate_keeper/ratekeeper/server/bench/LatencyHistogram" = true := by first | (simp [plainName, overriddenIn]; done) | decide +kernel
theorem pdmid_0 : parseMethodDescriptor "(II)I" = some ⟨[.int, .int], some .int⟩ := by decide +kernel
theorem efmid (m : MethodId) (p0 : Int32) : entryFrame m #[(.int p0)] 4 = mkF m 0 #[.val (.int p0), .unset, .unset, .unset] [] := by first | (simp [entryFrame, mkF, argsToLocals, Value.category]; done) | rfl
def fmid (p0 : Int32) : UInt64 := (let sh : Int32 := (fmaxI (0 : Int32) ((p0 / (1024 : Int32)) - (1 : Int32))); (let lo : Int64 := (((p0 - (sh * (1024 : Int32))).toInt64) <<< (sh &&& 0x3f).toInt64); (FP.dadd (FP.l2d lo) (FP.ddiv (FP.l2d (((1 : Int64) <<< (sh &&& 0x3f).toInt64) - (1 : Int64))) (4611686018427387904 : UInt64)))))
def Qmid (Z : State) (p0 : Int32) (h0 : Heap) (n0 : Nat) (v : Option Value) (h : Heap) (L : List Loc) : Prop := v = some (.double (fmid p0)) ∧ Fr n0 L ∧ h = h0
set_option maxRecDepth 65536 in
set_option maxHeartbeats 40000000 in
theorem rmmid (l : Launch) (Z : State) (ar : Array Value) (hw : ∀ d ∈ tables_1, d.before ar Z = true) (ws : List Jvm.Cond) (p0 : Int32) (h0 : Heap) (n0 : Nat) (O0 : Old Z n0 h0) :
    MetFree l (⟨"com/example/rate_keeper/ratekeeper/server/bench/LatencyHistogram", "middle", "(I)D"⟩ : MethodName) (head1 (Jvm.Cond.code (⟨"com/example/rate_keeper/ratekeeper/server/bench/LatencyHistogram", "middle", "(I)D"⟩ : MethodName) prog_10_method_6_code 4 (some .double) :: ws) ({ frames := 1, cells := 0, slots := 0, locals := 13 } : Room)) (fun a U => a = #[(.int p0)] ∧ Z.Warmed39 U.vm ∧ U.heap = h0) (fun _ _ _ _ _ => True) (fun _ U o U' => ∃ v L, o = .returned v ∧ Qmid Z p0 h0 n0 v U'.heap L ∧ FrameEnd U o U' L ({ frames := 1, cells := 0, slots := 0, locals := 13 } : Room).cells ({ frames := 1, cells := 0, slots := 0, locals := 13 } : Room).slots) := by
  refine MetFree.of_bodySF (plainFor_of_name pnmid) hisR ?_
  intro p e s m args below meth c s₁ Bd hml0 hP hK
  obtain ⟨rfl, hZ, hh⟩ := hP
  have hx := Bd.exec
  have hby := Bd.bytes
  have hml : c.maxLocals = 4 := hml0
  have hown : s.vm.findClass "com/example/rate_keeper/ratekeeper/server/bench/LatencyHistogram" = some m.cls := findClass_of_methodNamed Bd.named
  have hnm := (name_of_methodNamed Bd.named Bd.method).1
  have hlk : meth.locks = false := BodyLoose.notSynchronized Bd
  have X0 : Stand p l e ({ frames := 1, cells := 0, slots := 0, locals := 13 } : Room) s m #[(.int p0)] below meth c s₁ [] 0 0 := Stand.of_body Bd
  have e0 : s₁.heap = h0 := by rw [← hh, Bd.state]; rfl
  have N0 := Fr.nil n0
  suffices hmain : own_Ends p e below s (Qmid Z p0 h0 n0) 0 0 (s₁.setTop (mkF m 0 #[.val (.int p0), .unset, .unset, .unset] [])) by
    obtain ⟨U, o, h1, r⟩ := hmain
    exact ⟨U, o, castTop (efmid m p0) h1, r⟩
  show own_Ends _ _ _ _ _ _ _ (s₁.setTop (mkF m 0 #[.val (.int p0), .unset, .unset, .unset] []))
  refine own_go (fun _ k => XS.iconst X0.here hx rfl (hb hby dmid_0) k) ?_
  show own_Ends _ _ _ _ _ _ _ (s₁.setTop (mkF m 1 #[.val (.int p0), .unset, .unset, .unset] [(.int (0 : Int32))]))
  refine own_go (fun _ k => XS.iloadN X0.here hx rfl (hb hby dmid_1) rfl k) ?_
  show own_Ends _ _ _ _ _ _ _ (s₁.setTop (mkF m 2 #[.val (.int p0), .unset, .unset, .unset] [(.int p0), (.int (0 : Int32))]))
  refine own_go (fun _ k => XS.sipush X0.here hx rfl (hb hby dmid_2) k) ?_
  show own_Ends _ _ _ _ _ _ _ (s₁.setTop (mkF m 5 #[.val (.int p0), .unset, .unset, .unset] [(.int (1024 : Int32)), (.int p0), (.int (0 : Int32))]))
  refine own_go (fun _ k => XS.idiv X0.here hx rfl (hb hby dmid_5) rfl (by decide) k) ?_
  show own_Ends _ _ _ _ _ _ _ (s₁.setTop (mkF m 6 #[.val (.int p0), .unset, .unset, .unset] [(.int (p0 / (1024 : Int32))), (.int (0 : Int32))]))
  refine own_go (fun _ k => XS.iconst X0.here hx rfl (hb hby dmid_6) k) ?_
  show own_Ends _ _ _ _ _ _ _ (s₁.setTop (mkF m 7 #[.val (.int p0), .unset, .unset, .unset] [(.int (1 : Int32)), (.int (p0 / (1024 : Int32))), (.int (0 : Int32))]))
  refine own_go (fun _ k => XS.isub X0.here hx rfl (hb hby dmid_7) rfl k) ?_
  show own_Ends _ _ _ _ _ _ _ (s₁.setTop (mkF m 8 #[.val (.int p0), .unset, .unset, .unset] [(.int ((p0 / (1024 : Int32)) - (1 : Int32))), (.int (0 : Int32))]))
  obtain ⟨_, _, ⟨T1, L1, k1, n1⟩, -, X1, ⟨Lc1, hQ1, l1, y1, z1⟩, st1⟩ := Jvm.LawKit.callS X0 hx (y := (⟨"java/lang/Math", "max", "(II)I"⟩ : MethodName)) hown (mvT hZ (hw _ (List.mem_of_getElem? (i := 42) rfl))) (mvT hZ (hw _ (List.mem_of_getElem? (i := 43) rfl))) (mvT hZ (hw _ (List.mem_of_getElem? (i := 28) rfl))) (mvT hZ (hw _ (List.mem_of_getElem? (i := 44) rfl))) (by decide) (backOf (W := 0) (rmmaxI l Z ar hw [] (0 : Int32) ((p0 / (1024 : Int32)) - (1 : Int32)) h0 n0 O0) hZ (hw _ (List.mem_of_getElem? (i := 44) rfl)) (hw _ (List.mem_of_getElem? (i := 28) rfl)) (by decide) (by decide)) (g := (mkF m 8 #[.val (.int p0), .unset, .unset, .unset] [(.int ((p0 / (1024 : Int32)) - (1 : Int32))), (.int (0 : Int32))])) rfl (by rw [hml]; rfl) (argsL := [(.int (0 : Int32)), (.int ((p0 / (1024 : Int32)) - (1 : Int32)))]) (rest := []) (lenOf pdmid_0 rfl) rfl (by show 2 * 0 + _ ≤ _; exact Nat.le_of_eq rfl) (hb hby dmid_8) (fun _ _ => ⟨rfl, e0, (by decide : 0 + 0 ≤ _), (by decide : 0 + 0 ≤ _)⟩)
  dsimp only [Pt.U, Pt.locs, Pt.cells, Pt.slots] at X1 l1 y1 z1 st1 hQ1
  subst l1 y1 z1
  obtain ⟨rfl, N1q, eq1⟩ := hQ1
  have e1 : T1.heap = h0 := eq1
  have N1 := Fr.app N0 N1q
  refine own_go (fun _ k => st1 _ k) ?_
  show own_Ends _ _ _ _ _ _ _ (T1.setTop (mkF m 11 #[.val (.int p0), .unset, .unset, .unset] [(.int (fmaxI (0 : Int32) ((p0 / (1024 : Int32)) - (1 : Int32))))]))
  refine own_go (fun _ k => XS.istoreN X1.here hx rfl (hb hby dmid_11) rfl (l' := #[.val (.int p0), .val (.int (fmaxI (0 : Int32) ((p0 / (1024 : Int32)) - (1 : Int32)))), .unset, .unset]) rfl k) ?_
  suffices hjsh : ∀ sh : Int32, sh = (fmaxI (0 : Int32) ((p0 / (1024 : Int32)) - (1 : Int32))) → own_Ends p e below s (Qmid Z p0 h0 n0) 0 0 (T1.setTop (mkF m 12 #[.val (.int p0), .val (.int sh), .unset, .unset] [])) by exact hjsh _ rfl
  intro sh hsh
  show own_Ends _ _ _ _ _ _ _ (T1.setTop (mkF m 12 #[.val (.int p0), .val (.int sh), .unset, .unset] []))
  refine own_go (fun _ k => XS.iloadN X1.here hx rfl (hb hby dmid_12) rfl k) ?_
  show own_Ends _ _ _ _ _ _ _ (T1.setTop (mkF m 13 #[.val (.int p0), .val (.int sh), .unset, .unset] [(.int p0)]))
  refine own_go (fun _ k => XS.iloadN X1.here hx rfl (hb hby dmid_13) rfl k) ?_
  show own_Ends _ _ _ _ _ _ _ (T1.setTop (mkF m 14 #[.val (.int p0), .val (.int sh), .unset, .unset] [(.int sh), (.int p0)]))
  refine own_go (fun _ k => XS.sipush X1.here hx rfl (hb hby dmid_14) k) ?_
  show own_Ends _ _ _ _ _ _ _ (T1.setTop (mkF m 17 #[.val (.int p0), .val (.int sh), .unset, .unset] [(.int (1024 : Int32)), (.int sh), (.int p0)]))
  refine own_go (fun _ k => XS.imul X1.here hx rfl (hb hby dmid_17) rfl k) ?_
  show own_Ends _ _ _ _ _ _ _ (T1.setTop (mkF m 18 #[.val (.int p0), .val (.int sh), .unset, .unset] [(.int (sh * (1024 : Int32))), (.int p0)]))
  refine own_go (fun _ k => XS.isub X1.here hx rfl (hb hby dmid_18) rfl k) ?_
  show own_Ends _ _ _ _ _ _ _ (T1.setTop (mkF m 19 #[.val (.int p0), .val (.int sh), .unset, .unset] [(.int (p0 - (sh * (1024 : Int32))))]))
  refine own_go (fun _ k => XS.i2l X1.here hx rfl (hb hby dmid_19) rfl k) ?_
  show own_Ends _ _ _ _ _ _ _ (T1.setTop (mkF m 20 #[.val (.int p0), .val (.int sh), .unset, .unset] [(.long ((p0 - (sh * (1024 : Int32))).toInt64))]))
  refine own_go (fun _ k => XS.iloadN X1.here hx rfl (hb hby dmid_20) rfl k) ?_
  show own_Ends _ _ _ _ _ _ _ (T1.setTop (mkF m 21 #[.val (.int p0), .val (.int sh), .unset, .unset] [(.int sh), (.long ((p0 - (sh * (1024 : Int32))).toInt64))]))
  refine own_go (fun _ k => XS.lshl X1.here hx rfl (hb hby dmid_21) rfl k) ?_
  show own_Ends _ _ _ _ _ _ _ (T1.setTop (mkF m 22 #[.val (.int p0), .val (.int sh), .unset, .unset] [(.long (((p0 - (sh * (1024 : Int32))).toInt64) <<< (sh &&& 0x3f).toInt64))]))
  refine own_go (fun _ k => XS.lstoreN X1.here hx rfl (hb hby dmid_22) rfl (l' := #[.val (.int p0), .val (.int sh), .val (.long (((p0 - (sh * (1024 : Int32))).toInt64) <<< (sh &&& 0x3f).toInt64)), .second]) rfl k) ?_
  suffices hjlo : ∀ lo : Int64, lo = (((p0 - (sh * (1024 : Int32))).toInt64) <<< (sh &&& 0x3f).toInt64) → own_Ends p e below s (Qmid Z p0 h0 n0) 0 0 (T1.setTop (mkF m 23 #[.val (.int p0), .val (.int sh), .val (.long lo), .second] [])) by exact hjlo _ rfl
  intro lo hlo
  show own_Ends _ _ _ _ _ _ _ (T1.setTop (mkF m 23 #[.val (.int p0), .val (.int sh), .val (.long lo), .second] []))
  refine own_go (fun _ k => XS.lloadN X1.here hx rfl (hb hby dmid_23) rfl k) ?_
  show own_Ends _ _ _ _ _ _ _ (T1.setTop (mkF m 24 #[.val (.int p0), .val (.int sh), .val (.long lo), .second] [(.long lo)]))
  refine own_go (fun _ k => XS.l2dS X1.here hx rfl (hb hby dmid_24) rfl rfl k) ?_
  show own_Ends _ _ _ _ _ _ _ (T1.setTop (mkF m 25 #[.val (.int p0), .val (.int sh), .val (.long lo), .second] [(.double (FP.l2d lo))]))
  refine own_go (fun _ k => XS.lconst X1.here hx rfl (hb hby dmid_25) k) ?_
  show own_Ends _ _ _ _ _ _ _ (T1.setTop (mkF m 26 #[.val (.int p0), .val (.int sh), .val (.long lo), .second] [(.long (1 : Int64)), (.double (FP.l2d lo))]))
  refine own_go (fun _ k => XS.iloadN X1.here hx rfl (hb hby dmid_26) rfl k) ?_
  show own_Ends _ _ _ _ _ _ _ (T1.setTop (mkF m 27 #[.val (.int p0), .val (.int sh), .val (.long lo), .second] [(.int sh), (.long (1 : Int64)), (.double (FP.l2d lo))]))
  refine own_go (fun _ k => XS.lshl X1.here hx rfl (hb hby dmid_27) rfl k) ?_
  show own_Ends _ _ _ _ _ _ _ (T1.setTop (mkF m 28 #[.val (.int p0), .val (.int sh), .val (.long lo), .second] [(.long ((1 : Int64) <<< (sh &&& 0x3f).toInt64)), (.double (FP.l2d lo))]))
  refine own_go (fun _ k => XS.lconst X1.here hx rfl (hb hby dmid_28) k) ?_
  show own_Ends _ _ _ _ _ _ _ (T1.setTop (mkF m 29 #[.val (.int p0), .val (.int sh), .val (.long lo), .second] [(.long (1 : Int64)), (.long ((1 : Int64) <<< (sh &&& 0x3f).toInt64)), (.double (FP.l2d lo))]))
  refine own_go (fun _ k => XS.lsub X1.here hx rfl (hb hby dmid_29) rfl k) ?_
  show own_Ends _ _ _ _ _ _ _ (T1.setTop (mkF m 30 #[.val (.int p0), .val (.int sh), .val (.long lo), .second] [(.long (((1 : Int64) <<< (sh &&& 0x3f).toInt64) - (1 : Int64))), (.double (FP.l2d lo))]))
  refine own_go (fun _ k => XS.l2dS X1.here hx rfl (hb hby dmid_30) rfl rfl k) ?_
  show own_Ends _ _ _ _ _ _ _ (T1.setTop (mkF m 31 #[.val (.int p0), .val (.int sh), .val (.long lo), .second] [(.double (FP.l2d (((1 : Int64) <<< (sh &&& 0x3f).toInt64) - (1 : Int64)))), (.double (FP.l2d lo))]))
  refine own_go (fun _ k => X1.ldc2DoubleC hx hown (mvT hZ (hw _ (List.mem_of_getElem? (i := 63) rfl))) (g := (mkF m 31 #[.val (.int p0), .val (.int sh), .val (.long lo), .second] [(.double (FP.l2d (((1 : Int64) <<< (sh &&& 0x3f).toInt64) - (1 : Int64)))), (.double (FP.l2d lo))])) rfl (hb hby dmid_31) _ k) ?_
  show own_Ends _ _ _ _ _ _ _ (T1.setTop (mkF m 34 #[.val (.int p0), .val (.int sh), .val (.long lo), .second] [(.double (4611686018427387904 : UInt64)), (.double (FP.l2d (((1 : Int64) <<< (sh &&& 0x3f).toInt64) - (1 : Int64)))), (.double (FP.l2d lo))]))
  refine own_go (fun _ k => XS.ddivS X1.here hx rfl (hb hby dmid_34) rfl (own_nnh _) rfl k) ?_
  show own_Ends _ _ _ _ _ _ _ (T1.setTop (mkF m 35 #[.val (.int p0), .val (.int sh), .val (.long lo), .second] [(.double (FP.ddiv (FP.l2d (((1 : Int64) <<< (sh &&& 0x3f).toInt64) - (1 : Int64))) (4611686018427387904 : UInt64))), (.double (FP.l2d lo))]))
  refine own_go (fun _ k => XS.daddS X1.here hx rfl (hb hby dmid_35) rfl (own_nnm _ _) rfl k) ?_
  show own_Ends _ _ _ _ _ _ _ (T1.setTop (mkF m 36 #[.val (.int p0), .val (.int sh), .val (.long lo), .second] [(.double (FP.dadd (FP.l2d lo) (FP.ddiv (FP.l2d (((1 : Int64) <<< (sh &&& 0x3f).toInt64) - (1 : Int64))) (4611686018427387904 : UInt64))))]))
  exact own_retD X1 hx hlk Bd.returns (hb hby dmid_36) (by decide) (by decide) ⟨congrArg (fun z => some (Value.double z)) (by subst hlo hsh; exact rfl), N1, e1⟩
def own_rk (G : Nat → Int64) (p : Int32) : Int64 := ((p.toInt64 * own_sum G 55296) + (99 : Int64)) / (100 : Int64)
def own_rank (G : Nat → Int64) (p : Int32) (ix : Nat) : Prop := ix < 55296 ∧ own_rk G p ≤ own_sum G (ix + 1) ∧ ∀ j, j < ix → own_sum G (j + 1) < own_rk G p
theorem own_nz8 {a b : Addr} {G : Nat → Int64} (h : ¬ own_sum G 55296 = (0 : Int64)) : ¬ lcmpW (fcount a b G) (0 : Int64) = (0 : Int32) := by
  rw [lcW, lc_eq]; exact h
theorem own_first {G : Nat → Int64} : G ((0 : Int32)).toNatClampNeg = own_sum G (0 + 1) := by
  show G 0 = 0 + G 0
  rw [Int64.zero_add]
theorem own_nxt {G : Nat → Int64} {rk : Int64} {ix : Nat} (hno : ∀ j, j < ix → own_sum G (j + 1) < rk) (h : lcmpW (own_sum G (ix + 1)) rk < (0 : Int32)) : ∀ j, j < ix + 1 → own_sum G (j + 1) < rk := fun j hj => by
  rcases Nat.lt_or_ge j ix with z | z
  · exact hno j z
  · have : j = ix := by omega
    subst this; rwa [lcW, lc_lt] at h
theorem own_52z {G : Nat → Int64} {rk : Int64} {p : Int32} {ix : Nat} {a b : Addr} (hle : own_rk G p ≤ own_sum G 55296) (hrk : rk = ((p.toInt64 * (fcount a b G)) + (99 : Int64)) / (100 : Int64)) (hix : ix + 0 = 55295) : ¬ lcmpW (own_sum G (ix + 1)) rk < (0 : Int32) := by
  have : ix = 55295 := by omega
  subst this
  rw [lcW, lc_lt, Int64.not_lt, hrk]
  exact hle
theorem own_nns {ix : Nat} (h : ix < 55295) : ¬ (Int32.ofNat ix + (1 : Int32)) < 0 := by rw [own_succ]; exact own_nn0 (by omega)
theorem own_lts {ix : Nat} (h : ix < 55295) : (Int32.ofNat ix + (1 : Int32)).toNatClampNeg < 55296 := by rw [own_succ]; exact own_lt0 (by omega)
theorem own_rank_i {G : Nat → Int64} {rk : Int64} {p : Int32} {ix : Nat} {a b : Addr} (hrk : rk = ((p.toInt64 * (fcount a b G)) + (99 : Int64)) / (100 : Int64)) (hix : ix < 55296) (hge : ¬ lcmpW (own_sum G (ix + 1)) rk < (0 : Int32)) (hno : ∀ j, j < ix → own_sum G (j + 1) < rk) : own_rank G p ix := by
  rw [lcW, lc_lt, Int64.not_lt] at hge
  subst hrk
  exact ⟨hix, hge, hno⟩
theorem dpct_0 : decode prog_10_method_4_code 0 = .ok (.aload_n 0, 1) := by decide +kernel
theorem dpct_1 : decode prog_10_method_4_code 1 = .ok (.invokevirtual 30, 3) := by decide +kernel
theorem dpct_4 : decode prog_10_method_4_code 4 = .ok (.lstore_n 2, 1) := by decide +kernel
theorem dpct_5 : decode prog_10_method_4_code 5 = .ok (.lload_n 2, 1) := by decide +kernel
theorem dpct_6 : decode prog_10_method_4_code 6 = .ok (.lconst 0, 1) := by decide +kernel
theorem dpct_7 : decode prog_10_method_4_code 7 = .ok (.lcmp, 1) := by decide +kernel
theorem dpct_8 : decode prog_10_method_4_code 8 = .ok (.ifCond .ne 13, 3) := by decide +kernel
theorem dpct_21 : decode prog_10_method_4_code 21 = .ok (.iload_n 1, 1) := by decide +kernel
theorem dpct_22 : decode prog_10_method_4_code 22 = .ok (.i2l, 1) := by decide +kernel
theorem dpct_23 : decode prog_10_method_4_code 23 = .ok (.lload_n 2, 1) := by decide +kernel
theorem dpct_24 : decode prog_10_method_4_code 24 = .ok (.lmul, 1) := by decide +kernel
theorem dpct_25 : decode prog_10_method_4_code 25 = .ok (.ldc2_w 41, 3) := by decide +kernel
theorem dpct_28 : decode prog_10_method_4_code 28 = .ok (.ladd, 1) := by decide +kernel
theorem dpct_29 : decode prog_10_method_4_code 29 = .ok (.ldc2_w 43, 3) := by decide +kernel
theorem dpct_32 : decode prog_10_method_4_code 32 = .ok (.ldiv, 1) := by decide +kernel
theorem dpct_33 : decode prog_10_method_4_code 33 = .ok (.lstore 4, 2) := by decide +kernel
theorem dpct_35 : decode prog_10_method_4_code 35 = .ok (.iconst 0, 1) := by decide +kernel
theorem dpct_36 : decode prog_10_method_4_code 36 = .ok (.istore 6, 2) := by decide +kernel
theorem dpct_38 : decode prog_10_method_4_code 38 = .ok (.aload_n 0, 1) := by decide +kernel
theorem dpct_39 : decode prog_10_method_4_code 39 = .ok (.getfield 12, 3) := by decide +kernel
theorem dpct_42 : decode prog_10_method_4_code 42 = .ok (.iload 6, 2) := by decide +kernel
theorem dpct_44 : decode prog_10_method_4_code 44 = .ok (.laload, 1) := by decide +kernel
theorem dpct_45 : decode prog_10_method_4_code 45 = .ok (.lstore 7, 2) := by decide +kernel
theorem dpct_47 : decode prog_10_method_4_code 47 = .ok (.lload 7, 2) := by decide +kernel
theorem dpct_49 : decode prog_10_method_4_code 49 = .ok (.lload 4, 2) := by decide +kernel
theorem dpct_51 : decode prog_10_method_4_code 51 = .ok (.lcmp, 1) := by decide +kernel
theorem dpct_52 : decode prog_10_method_4_code 52 = .ok (.ifCond .ge 21, 3) := by decide +kernel
theorem dpct_55 : decode prog_10_method_4_code 55 = .ok (.iinc 6 1, 3) := by decide +kernel
theorem dpct_58 : decode prog_10_method_4_code 58 = .ok (.lload 7, 2) := by decide +kernel
theorem dpct_60 : decode prog_10_method_4_code 60 = .ok (.aload_n 0, 1) := by decide +kernel
theorem dpct_61 : decode prog_10_method_4_code 61 = .ok (.getfield 12, 3) := by decide +kernel
theorem dpct_64 : decode prog_10_method_4_code 64 = .ok (.iload 6, 2) := by decide +kernel
theorem dpct_66 : decode prog_10_method_4_code 66 = .ok (.laload, 1) := by decide +kernel
theorem dpct_67 : decode prog_10_method_4_code 67 = .ok (.ladd, 1) := by decide +kernel
theorem dpct_68 : decode prog_10_method_4_code 68 = .ok (.lstore 7, 2) := by decide +kernel
theorem dpct_70 : decode prog_10_method_4_code 70 = .ok (.goto (-23), 3) := by decide +kernel
theorem dpct_73 : decode prog_10_method_4_code 73 = .ok (.iload 6, 2) := by decide +kernel
theorem dpct_75 : decode prog_10_method_4_code 75 = .ok (.invokestatic 45, 3) := by decide +kernel
theorem dpct_78 : decode prog_10_method_4_code 78 = .ok (.dreturn, 1) := by decide +kernel
theorem pnpct : plainName "com/example/rate_keeper/ratekeeper/server/bench/LatencyHistogram" = true := by first | (simp [plainName, overriddenIn]; done) | decide +kernel
theorem pdpct_0 : parseMethodDescriptor "()J" = some ⟨[], some .long⟩ := by decide +kernel
theorem pdpct_1 : parseMethodDescriptor "(I)D" = some ⟨[.int], some .double⟩ := by decide +kernel
theorem efpct (m : MethodId) (a0 : Addr) (p1 : Int32) : entryFrame m #[(.ref a0), (.int p1)] 9 = mkF m 0 #[.val (.ref a0), .val (.int p1), .unset, .unset, .unset, .unset, .unset, .unset, .unset] [] := by first | (simp [entryFrame, mkF, argsToLocals, Value.category]; done) | rfl
def Qpct (Z : State) (a0 : Addr) (p1 : Int32) (bb : Addr) (GG : Nat → Int64) (h0 : Heap) (n0 : Nat) (v : Option Value) (h : Heap) (L : List Loc) : Prop := ∃ ix : Nat, v = some (.double (fmid (Int32.ofNat ix))) ∧ own_rank GG p1 ix ∧ Fr n0 L ∧ h = h0
set_option maxRecDepth 65536 in
set_option maxHeartbeats 40000000 in
theorem rmpct (l : Launch) (Z : State) (ar : Array Value) (hw : ∀ d ∈ tables_1, d.before ar Z = true) (ws : List Jvm.Cond) (a0 : Addr) (p1 : Int32) (bb : Addr) (GG : Nat → Int64) (h0 : Heap) (n0 : Nat) (O0 : Old Z n0 h0) (E_a0 : Exa Z h0 a0 "com/example/rate_keeper/ratekeeper/server/bench/LatencyHistogram") (F_counts_a0 : Fld Z h0 a0 "com/example/rate_keeper/ratekeeper/server/bench/LatencyHistogram" "counts" "[J" (.ref bb)) (A_bb : own_Ar Z h0 bb .long 55296 (fun i => .long (GG i))) (htot : ¬ own_sum GG 55296 = (0 : Int64)) (hle : own_rk GG p1 ≤ own_sum GG 55296) :
    MetFree l (⟨"com/example/rate_keeper/ratekeeper/server/bench/LatencyHistogram", "percentileMicros", "(I)D"⟩ : MethodName) (head1 (Jvm.Cond.code (⟨"com/example/rate_keeper/ratekeeper/server/bench/LatencyHistogram", "percentileMicros", "(I)D"⟩ : MethodName) prog_10_method_4_code 9 (some .double) :: ws) ({ frames := 2, cells := 0, slots := 0, locals := 28 } : Room)) (fun a U => a = #[(.ref a0), (.int p1)] ∧ Z.Warmed39 U.vm ∧ U.heap = h0) (fun _ _ _ _ _ => True) (fun _ U o U' => ∃ v L, o = .returned v ∧ Qpct Z a0 p1 bb GG h0 n0 v U'.heap L ∧ FrameEnd U o U' L ({ frames := 2, cells := 0, slots := 0, locals := 28 } : Room).cells ({ frames := 2, cells := 0, slots := 0, locals := 28 } : Room).slots) := by
  refine MetFree.of_bodySF (plainFor_of_name pnpct) hisR ?_
  intro p e s m args below meth c s₁ Bd hml0 hP hK
  obtain ⟨rfl, hZ, hh⟩ := hP
  have hx := Bd.exec
  have hby := Bd.bytes
  have hml : c.maxLocals = 9 := hml0
  have hown : s.vm.findClass "com/example/rate_keeper/ratekeeper/server/bench/LatencyHistogram" = some m.cls := findClass_of_methodNamed Bd.named
  have hnm := (name_of_methodNamed Bd.named Bd.method).1
  have hlk : meth.locks = false := BodyLoose.notSynchronized Bd
  have X0 : Stand p l e ({ frames := 2, cells := 0, slots := 0, locals := 28 } : Room) s m #[(.ref a0), (.int p1)] below meth c s₁ [] 0 0 := Stand.of_body Bd
  have e0 : s₁.heap = h0 := by rw [← hh, Bd.state]; rfl
  have N0 := Fr.nil n0
  suffices hmain : own_Ends p e below s (Qpct Z a0 p1 bb GG h0 n0) 0 0 (s₁.setTop (mkF m 0 #[.val (.ref a0), .val (.int p1), .unset, .unset, .unset, .unset, .unset, .unset, .unset] [])) by
    obtain ⟨U, o, h1, r⟩ := hmain
    exact ⟨U, o, castTop (efpct m a0 p1) h1, r⟩
  show own_Ends _ _ _ _ _ _ _ (s₁.setTop (mkF m 0 #[.val (.ref a0), .val (.int p1), .unset, .unset, .unset, .unset, .unset, .unset, .unset] []))
  refine own_go (fun _ k => XS.aloadN X0.here hx rfl (hb hby dpct_0) rfl rfl k) ?_
  show own_Ends _ _ _ _ _ _ _ (s₁.setTop (mkF m 1 #[.val (.ref a0), .val (.int p1), .unset, .unset, .unset, .unset, .unset, .unset, .unset] [(.ref a0)]))
  obtain ⟨cq1, kq1, q1a, q1b, q1c⟩ := isOf hZ e0 E_a0
  obtain ⟨_, _, ⟨T1, L1, k1, n1⟩, -, X1, ⟨Lc1, hQ1, l1, y1, z1⟩, st1⟩ := X0.virtualBack hx (y := (⟨"com/example/rate_keeper/ratekeeper/server/bench/LatencyHistogram", "count", "()J"⟩ : MethodName)) (z := (⟨"com/example/rate_keeper/ratekeeper/server/bench/LatencyHistogram", "count", "()J"⟩ : MethodName)) hown (mvT hZ (hw _ (List.mem_of_getElem? (i := 57) rfl))) (mvT hZ (hw _ (List.mem_of_getElem? (i := 47) rfl))) (notFace_of_selects (args := #[]) (mvT hZ (hw _ (List.mem_of_getElem? (i := 49) rfl)))) (mvT hZ (hw _ (List.mem_of_getElem? (i := 49) rfl))) (mvT hZ (hw _ (List.mem_of_getElem? (i := 48) rfl))) (by decide) (backOf (W := 0) (rmcount l Z ar hw [] a0 bb GG h0 n0 O0 E_a0 F_counts_a0 A_bb) hZ (hw _ (List.mem_of_getElem? (i := 50) rfl)) (hw _ (List.mem_of_getElem? (i := 8) rfl)) (by decide) (by decide)) q1a q1c (g := (mkF m 1 #[.val (.ref a0), .val (.int p1), .unset, .unset, .unset, .unset, .unset, .unset, .unset] [(.ref a0)])) rfl (by rw [hml]; rfl) (Steps.refl _) (argsL := []) (rest := []) (lenOf pdpct_0 rfl) rfl (by show 2 * 0 + _ ≤ _; exact Nat.le_of_eq rfl) (hb hby dpct_1) (fun _ _ => ⟨rfl, e0, (by decide : 0 + 0 ≤ _), (by decide : 0 + 0 ≤ _)⟩)
  dsimp only [Pt.U, Pt.locs, Pt.cells, Pt.slots] at X1 l1 y1 z1 st1 hQ1
  subst l1 y1 z1
  obtain ⟨rfl, N1q, eq1⟩ := hQ1
  have e1 : T1.heap = h0 := eq1
  have N1 := Fr.app N0 N1q
  refine own_go (fun _ k => st1.trans k) ?_
  show own_Ends _ _ _ _ _ _ _ (T1.setTop (mkF m 4 #[.val (.ref a0), .val (.int p1), .unset, .unset, .unset, .unset, .unset, .unset, .unset] [(.long (fcount a0 bb GG))]))
  refine own_go (fun _ k => XS.lstoreN X1.here hx rfl (hb hby dpct_4) rfl (l' := #[.val (.ref a0), .val (.int p1), .val (.long (fcount a0 bb GG)), .second, .unset, .unset, .unset, .unset, .unset]) rfl k) ?_
  show own_Ends _ _ _ _ _ _ _ (T1.setTop (mkF m 5 #[.val (.ref a0), .val (.int p1), .val (.long (fcount a0 bb GG)), .second, .unset, .unset, .unset, .unset, .unset] []))
  refine own_go (fun _ k => XS.lloadN X1.here hx rfl (hb hby dpct_5) rfl k) ?_
  show own_Ends _ _ _ _ _ _ _ (T1.setTop (mkF m 6 #[.val (.ref a0), .val (.int p1), .val (.long (fcount a0 bb GG)), .second, .unset, .unset, .unset, .unset, .unset] [(.long (fcount a0 bb GG))]))
  refine own_go (fun _ k => XS.lconst X1.here hx rfl (hb hby dpct_6) k) ?_
  show own_Ends _ _ _ _ _ _ _ (T1.setTop (mkF m 7 #[.val (.ref a0), .val (.int p1), .val (.long (fcount a0 bb GG)), .second, .unset, .unset, .unset, .unset, .unset] [(.long (0 : Int64)), (.long (fcount a0 bb GG))]))
  refine own_go (fun _ k => XS.lcmp X1.here hx rfl (hb hby dpct_7) rfl k) ?_
  show own_Ends _ _ _ _ _ _ _ (T1.setTop (mkF m 8 #[.val (.ref a0), .val (.int p1), .val (.long (fcount a0 bb GG)), .second, .unset, .unset, .unset, .unset, .unset] [(.int (lcmpW (fcount a0 bb GG) (0 : Int64)))]))
  refine own_go (fun _ k => XS.ifYes X1.here hx rfl (pc0 := 8) (pc' := 21) rfl (hb hby dpct_8) rfl ((if0 _ _).trans (feq (own_nz8 htot)).2) (by decide) (by decide) k) ?_
  show own_Ends _ _ _ _ _ _ _ (T1.setTop (mkF m 21 #[.val (.ref a0), .val (.int p1), .val (.long (fcount a0 bb GG)), .second, .unset, .unset, .unset, .unset, .unset] []))
  refine own_go (fun _ k => XS.iloadN X1.here hx rfl (hb hby dpct_21) rfl k) ?_
  show own_Ends _ _ _ _ _ _ _ (T1.setTop (mkF m 22 #[.val (.ref a0), .val (.int p1), .val (.long (fcount a0 bb GG)), .second, .unset, .unset, .unset, .unset, .unset] [(.int p1)]))
  refine own_go (fun _ k => XS.i2l X1.here hx rfl (hb hby dpct_22) rfl k) ?_
  show own_Ends _ _ _ _ _ _ _ (T1.setTop (mkF m 23 #[.val (.ref a0), .val (.int p1), .val (.long (fcount a0 bb GG)), .second, .unset, .unset, .unset, .unset, .unset] [(.long (p1.toInt64))]))
  refine own_go (fun _ k => XS.lloadN X1.here hx rfl (hb hby dpct_23) rfl k) ?_
  show own_Ends _ _ _ _ _ _ _ (T1.setTop (mkF m 24 #[.val (.ref a0), .val (.int p1), .val (.long (fcount a0 bb GG)), .second, .unset, .unset, .unset, .unset, .unset] [(.long (fcount a0 bb GG)), (.long (p1.toInt64))]))
  refine own_go (fun _ k => XS.lmul X1.here hx rfl (hb hby dpct_24) rfl k) ?_
  show own_Ends _ _ _ _ _ _ _ (T1.setTop (mkF m 25 #[.val (.ref a0), .val (.int p1), .val (.long (fcount a0 bb GG)), .second, .unset, .unset, .unset, .unset, .unset] [(.long ((p1.toInt64) * (fcount a0 bb GG)))]))
  refine own_go (fun _ k => X1.ldc2Long hx hown (mvT hZ (hw _ (List.mem_of_getElem? (i := 58) rfl))) (g := (mkF m 25 #[.val (.ref a0), .val (.int p1), .val (.long (fcount a0 bb GG)), .second, .unset, .unset, .unset, .unset, .unset] [(.long ((p1.toInt64) * (fcount a0 bb GG)))])) rfl (hb hby dpct_25) _ k) ?_
  show own_Ends _ _ _ _ _ _ _ (T1.setTop (mkF m 28 #[.val (.ref a0), .val (.int p1), .val (.long (fcount a0 bb GG)), .second, .unset, .unset, .unset, .unset, .unset] [(.long (99 : Int64)), (.long ((p1.toInt64) * (fcount a0 bb GG)))]))
  refine own_go (fun _ k => XS.ladd X1.here hx rfl (hb hby dpct_28) rfl k) ?_
  show own_Ends _ _ _ _ _ _ _ (T1.setTop (mkF m 29 #[.val (.ref a0), .val (.int p1), .val (.long (fcount a0 bb GG)), .second, .unset, .unset, .unset, .unset, .unset] [(.long (((p1.toInt64) * (fcount a0 bb GG)) + (99 : Int64)))]))
  refine own_go (fun _ k => X1.ldc2Long hx hown (mvT hZ (hw _ (List.mem_of_getElem? (i := 59) rfl))) (g := (mkF m 29 #[.val (.ref a0), .val (.int p1), .val (.long (fcount a0 bb GG)), .second, .unset, .unset, .unset, .unset, .unset] [(.long (((p1.toInt64) * (fcount a0 bb GG)) + (99 : Int64)))])) rfl (hb hby dpct_29) _ k) ?_
  show own_Ends _ _ _ _ _ _ _ (T1.setTop (mkF m 32 #[.val (.ref a0), .val (.int p1), .val (.long (fcount a0 bb GG)), .second, .unset, .unset, .unset, .unset, .unset] [(.long (100 : Int64)), (.long (((p1.toInt64) * (fcount a0 bb GG)) + (99 : Int64)))]))
  refine own_go (fun _ k => XS.ldiv X1.here hx rfl (hb hby dpct_32) rfl (by decide) k) ?_
  show own_Ends _ _ _ _ _ _ _ (T1.setTop (mkF m 33 #[.val (.ref a0), .val (.int p1), .val (.long (fcount a0 bb GG)), .second, .unset, .unset, .unset, .unset, .unset] [(.long ((((p1.toInt64) * (fcount a0 bb GG)) + (99 : Int64)) / (100 : Int64)))]))
  refine own_go (fun _ k => XS.lstore X1.here hx rfl (hb hby dpct_33) rfl (l' := #[.val (.ref a0), .val (.int p1), .val (.long (fcount a0 bb GG)), .second, .val (.long ((((p1.toInt64) * (fcount a0 bb GG)) + (99 : Int64)) / (100 : Int64))), .second, .unset, .unset, .unset]) rfl k) ?_
  suffices hjrk : ∀ rk : Int64, rk = ((((p1.toInt64) * (fcount a0 bb GG)) + (99 : Int64)) / (100 : Int64)) → own_Ends p e below s (Qpct Z a0 p1 bb GG h0 n0) 0 0 (T1.setTop (mkF m 35 #[.val (.ref a0), .val (.int p1), .val (.long (fcount a0 bb GG)), .second, .val (.long rk), .second, .unset, .unset, .unset] [])) by exact hjrk _ rfl
  intro rk hrk
  show own_Ends _ _ _ _ _ _ _ (T1.setTop (mkF m 35 #[.val (.ref a0), .val (.int p1), .val (.long (fcount a0 bb GG)), .second, .val (.long rk), .second, .unset, .unset, .unset] []))
  refine own_go (fun _ k => XS.iconst X1.here hx rfl (hb hby dpct_35) k) ?_
  show own_Ends _ _ _ _ _ _ _ (T1.setTop (mkF m 36 #[.val (.ref a0), .val (.int p1), .val (.long (fcount a0 bb GG)), .second, .val (.long rk), .second, .unset, .unset, .unset] [(.int (0 : Int32))]))
  refine own_go (fun _ k => XS.istore X1.here hx rfl (hb hby dpct_36) rfl (l' := #[.val (.ref a0), .val (.int p1), .val (.long (fcount a0 bb GG)), .second, .val (.long rk), .second, .val (.int (0 : Int32)), .unset, .unset]) rfl k) ?_
  show own_Ends _ _ _ _ _ _ _ (T1.setTop (mkF m 38 #[.val (.ref a0), .val (.int p1), .val (.long (fcount a0 bb GG)), .second, .val (.long rk), .second, .val (.int (0 : Int32)), .unset, .unset] []))
  refine own_go (fun _ k => XS.aloadN X1.here hx rfl (hb hby dpct_38) rfl rfl k) ?_
  show own_Ends _ _ _ _ _ _ _ (T1.setTop (mkF m 39 #[.val (.ref a0), .val (.int p1), .val (.long (fcount a0 bb GG)), .second, .val (.long rk), .second, .val (.int (0 : Int32)), .unset, .unset] [(.ref a0)]))
  obtain ⟨T2, X2, e2, st2⟩ := getF X1 hx hZ hown (host := "") (Or.inl (hw _ (List.mem_of_getElem? (i := 17) rfl))) Via.refl e1 F_counts_a0 (g := (mkF m 39 #[.val (.ref a0), .val (.int p1), .val (.long (fcount a0 bb GG)), .second, .val (.long rk), .second, .val (.int (0 : Int32)), .unset, .unset] [(.ref a0)])) rfl rfl (hb hby dpct_39)
  refine own_go (fun _ k => st2 _ k) ?_
  show own_Ends _ _ _ _ _ _ _ (T2.setTop (mkF m 42 #[.val (.ref a0), .val (.int p1), .val (.long (fcount a0 bb GG)), .second, .val (.long rk), .second, .val (.int (0 : Int32)), .unset, .unset] [(.ref bb)]))
  refine own_go (fun _ k => XS.iload X2.here hx rfl (hb hby dpct_42) rfl k) ?_
  show own_Ends _ _ _ _ _ _ _ (T2.setTop (mkF m 44 #[.val (.ref a0), .val (.int p1), .val (.long (fcount a0 bb GG)), .second, .val (.long rk), .second, .val (.int (0 : Int32)), .unset, .unset] [(.int (0 : Int32)), (.ref bb)]))
  obtain ⟨c3, A3, i3, v3⟩ := own_Ar.at A_bb (0 : Int32) (by decide) (by decide)
  refine own_go (fun _ k => X2.laload hx (by rw [e2]; exact A3.1) (State.isArrayOf_alike hZ.alike A3.2.1) A3.2.2 i3 v3 (g := (mkF m 44 #[.val (.ref a0), .val (.int p1), .val (.long (fcount a0 bb GG)), .second, .val (.long rk), .second, .val (.int (0 : Int32)), .unset, .unset] [(.int (0 : Int32)), (.ref bb)])) rfl rfl (hb hby dpct_44) _ k) ?_
  show own_Ends _ _ _ _ _ _ _ (T2.setTop (mkF m 45 #[.val (.ref a0), .val (.int p1), .val (.long (fcount a0 bb GG)), .second, .val (.long rk), .second, .val (.int (0 : Int32)), .unset, .unset] [(.long (GG ((0 : Int32)).toNatClampNeg))]))
  refine own_go (fun _ k => XS.lstore X2.here hx rfl (hb hby dpct_45) rfl (l' := #[.val (.ref a0), .val (.int p1), .val (.long (fcount a0 bb GG)), .second, .val (.long rk), .second, .val (.int (0 : Int32)), .val (.long (GG ((0 : Int32)).toNatClampNeg)), .second]) rfl k) ?_
  suffices hin : ∀ (kk ix : Nat) (T : State) (locs : List Loc), Stand p l e ({ frames := 2, cells := 0, slots := 0, locals := 28 } : Room) s m #[(.ref a0), (.int p1)] below meth c T locs 0 0 → Fr n0 locs → T.heap = h0 → ix + kk = 55295 → (∀ j, j < ix → own_sum GG (j + 1) < rk) → own_Ends p e below s (Qpct Z a0 p1 bb GG h0 n0) 0 0 (T.setTop (mkF m 47 #[.val (.ref a0), .val (.int p1), .val (.long (fcount a0 bb GG)), .second, .val (.long rk), .second, .val (.int (Int32.ofNat ix)), .val (.long (own_sum GG (ix + 1))), .second] [])) by
    rw [own_first (G := GG)]
    exact hin 55295 0 _ _ X2 N1 e2 rfl (fun j h => absurd h (by omega))
  intro kk
  induction kk with
  | zero =>
    intro ix TT LL XX NN eTT hix hno
    show own_Ends _ _ _ _ _ _ _ (TT.setTop (mkF m 47 #[.val (.ref a0), .val (.int p1), .val (.long (fcount a0 bb GG)), .second, .val (.long rk), .second, .val (.int (Int32.ofNat ix)), .val (.long (own_sum GG (ix + 1))), .second] []))
    refine own_go (fun _ k => XS.lload XX.here hx rfl (hb hby dpct_47) rfl k) ?_
    show own_Ends _ _ _ _ _ _ _ (TT.setTop (mkF m 49 #[.val (.ref a0), .val (.int p1), .val (.long (fcount a0 bb GG)), .second, .val (.long rk), .second, .val (.int (Int32.ofNat ix)), .val (.long (own_sum GG (ix + 1))), .second] [(.long (own_sum GG (ix + 1)))]))
    refine own_go (fun _ k => XS.lload XX.here hx rfl (hb hby dpct_49) rfl k) ?_
    show own_Ends _ _ _ _ _ _ _ (TT.setTop (mkF m 51 #[.val (.ref a0), .val (.int p1), .val (.long (fcount a0 bb GG)), .second, .val (.long rk), .second, .val (.int (Int32.ofNat ix)), .val (.long (own_sum GG (ix + 1))), .second] [(.long rk), (.long (own_sum GG (ix + 1)))]))
    refine own_go (fun _ k => XS.lcmp XX.here hx rfl (hb hby dpct_51) rfl k) ?_
    show own_Ends _ _ _ _ _ _ _ (TT.setTop (mkF m 52 #[.val (.ref a0), .val (.int p1), .val (.long (fcount a0 bb GG)), .second, .val (.long rk), .second, .val (.int (Int32.ofNat ix)), .val (.long (own_sum GG (ix + 1))), .second] [(.int (lcmpW (own_sum GG (ix + 1)) rk))]))
    refine own_go (fun _ k => XS.ifYes XX.here hx rfl (pc0 := 52) (pc' := 73) rfl (hb hby dpct_52) rfl ((if0 _ _).trans (flt (own_52z hle hrk hix)).2.1) (by decide) (by decide) k) ?_
    show own_Ends _ _ _ _ _ _ _ (TT.setTop (mkF m 73 #[.val (.ref a0), .val (.int p1), .val (.long (fcount a0 bb GG)), .second, .val (.long rk), .second, .val (.int (Int32.ofNat ix)), .val (.long (own_sum GG (ix + 1))), .second] []))
    refine own_go (fun _ k => XS.iload XX.here hx rfl (hb hby dpct_73) rfl k) ?_
    show own_Ends _ _ _ _ _ _ _ (TT.setTop (mkF m 75 #[.val (.ref a0), .val (.int p1), .val (.long (fcount a0 bb GG)), .second, .val (.long rk), .second, .val (.int (Int32.ofNat ix)), .val (.long (own_sum GG (ix + 1))), .second] [(.int (Int32.ofNat ix))]))
    obtain ⟨_, _, ⟨T4, L4, k4, n4⟩, -, X4, ⟨Lc4, hQ4, l4, y4, z4⟩, st4⟩ := Jvm.LawKit.callS XX hx (y := (⟨"com/example/rate_keeper/ratekeeper/server/bench/LatencyHistogram", "middle", "(I)D"⟩ : MethodName)) hown (mvT hZ (hw _ (List.mem_of_getElem? (i := 60) rfl))) (mvT hZ (hw _ (List.mem_of_getElem? (i := 61) rfl))) (mvT hZ (hw _ (List.mem_of_getElem? (i := 8) rfl))) (mvT hZ (hw _ (List.mem_of_getElem? (i := 62) rfl))) (by decide) (backOf (W := 0) (rmmid l Z ar hw [] (Int32.ofNat ix) h0 n0 O0) hZ (hw _ (List.mem_of_getElem? (i := 62) rfl)) (hw _ (List.mem_of_getElem? (i := 8) rfl)) (by decide) (by decide)) (g := (mkF m 75 #[.val (.ref a0), .val (.int p1), .val (.long (fcount a0 bb GG)), .second, .val (.long rk), .second, .val (.int (Int32.ofNat ix)), .val (.long (own_sum GG (ix + 1))), .second] [(.int (Int32.ofNat ix))])) rfl (by rw [hml]; rfl) (argsL := [(.int (Int32.ofNat ix))]) (rest := []) (lenOf pdpct_1 rfl) rfl (by show 2 * 0 + _ ≤ _; exact Nat.le_of_eq rfl) (hb hby dpct_75) (fun _ _ => ⟨rfl, eTT, (by decide : 0 + 0 ≤ _), (by decide : 0 + 0 ≤ _)⟩)
    dsimp only [Pt.U, Pt.locs, Pt.cells, Pt.slots] at X4 l4 y4 z4 st4 hQ4
    subst l4 y4 z4
    obtain ⟨rfl, N4q, eq4⟩ := hQ4
    have e4 : T4.heap = h0 := eq4
    have N4 := Fr.app NN N4q
    refine own_go (fun _ k => st4 _ k) ?_
    show own_Ends _ _ _ _ _ _ _ (T4.setTop (mkF m 78 #[.val (.ref a0), .val (.int p1), .val (.long (fcount a0 bb GG)), .second, .val (.long rk), .second, .val (.int (Int32.ofNat ix)), .val (.long (own_sum GG (ix + 1))), .second] [(.double (fmid (Int32.ofNat ix)))]))
    exact own_retD X4 hx hlk Bd.returns (hb hby dpct_78) (by decide) (by decide) ⟨ix, rfl, own_rank_i hrk (by omega) (own_52z hle hrk hix) hno, N4, e4⟩
  | succ kk ihk =>
    intro ix TT LL XX NN eTT hix hno
    show own_Ends _ _ _ _ _ _ _ (TT.setTop (mkF m 47 #[.val (.ref a0), .val (.int p1), .val (.long (fcount a0 bb GG)), .second, .val (.long rk), .second, .val (.int (Int32.ofNat ix)), .val (.long (own_sum GG (ix + 1))), .second] []))
    refine own_go (fun _ k => XS.lload XX.here hx rfl (hb hby dpct_47) rfl k) ?_
    show own_Ends _ _ _ _ _ _ _ (TT.setTop (mkF m 49 #[.val (.ref a0), .val (.int p1), .val (.long (fcount a0 bb GG)), .second, .val (.long rk), .second, .val (.int (Int32.ofNat ix)), .val (.long (own_sum GG (ix + 1))), .second] [(.long (own_sum GG (ix + 1)))]))
    refine own_go (fun _ k => XS.lload XX.here hx rfl (hb hby dpct_49) rfl k) ?_
    show own_Ends _ _ _ _ _ _ _ (TT.setTop (mkF m 51 #[.val (.ref a0), .val (.int p1), .val (.long (fcount a0 bb GG)), .second, .val (.long rk), .second, .val (.int (Int32.ofNat ix)), .val (.long (own_sum GG (ix + 1))), .second] [(.long rk), (.long (own_sum GG (ix + 1)))]))
    refine own_go (fun _ k => XS.lcmp XX.here hx rfl (hb hby dpct_51) rfl k) ?_
    show own_Ends _ _ _ _ _ _ _ (TT.setTop (mkF m 52 #[.val (.ref a0), .val (.int p1), .val (.long (fcount a0 bb GG)), .second, .val (.long rk), .second, .val (.int (Int32.ofNat ix)), .val (.long (own_sum GG (ix + 1))), .second] [(.int (lcmpW (own_sum GG (ix + 1)) rk))]))
    by_cases hc5 : (lcmpW (own_sum GG (ix + 1)) rk) < (0 : Int32)
    · refine own_go (fun _ k => XS.ifNo XX.here hx rfl (hb hby dpct_52) rfl ((if0 _ _).trans (tlt hc5).2.1) k) ?_
      show own_Ends _ _ _ _ _ _ _ (TT.setTop (mkF m 55 #[.val (.ref a0), .val (.int p1), .val (.long (fcount a0 bb GG)), .second, .val (.long rk), .second, .val (.int (Int32.ofNat ix)), .val (.long (own_sum GG (ix + 1))), .second] []))
      refine own_go (fun _ k => XS.iinc XX.here hx rfl (hb hby dpct_55) rfl (l' := #[.val (.ref a0), .val (.int p1), .val (.long (fcount a0 bb GG)), .second, .val (.long rk), .second, .val (.int ((Int32.ofNat ix) + (1 : Int32))), .val (.long (own_sum GG (ix + 1))), .second]) rfl k) ?_
      show own_Ends _ _ _ _ _ _ _ (TT.setTop (mkF m 58 #[.val (.ref a0), .val (.int p1), .val (.long (fcount a0 bb GG)), .second, .val (.long rk), .second, .val (.int ((Int32.ofNat ix) + (1 : Int32))), .val (.long (own_sum GG (ix + 1))), .second] []))
      refine own_go (fun _ k => XS.lload XX.here hx rfl (hb hby dpct_58) rfl k) ?_
      show own_Ends _ _ _ _ _ _ _ (TT.setTop (mkF m 60 #[.val (.ref a0), .val (.int p1), .val (.long (fcount a0 bb GG)), .second, .val (.long rk), .second, .val (.int ((Int32.ofNat ix) + (1 : Int32))), .val (.long (own_sum GG (ix + 1))), .second] [(.long (own_sum GG (ix + 1)))]))
      refine own_go (fun _ k => XS.aloadN XX.here hx rfl (hb hby dpct_60) rfl rfl k) ?_
      show own_Ends _ _ _ _ _ _ _ (TT.setTop (mkF m 61 #[.val (.ref a0), .val (.int p1), .val (.long (fcount a0 bb GG)), .second, .val (.long rk), .second, .val (.int ((Int32.ofNat ix) + (1 : Int32))), .val (.long (own_sum GG (ix + 1))), .second] [(.ref a0), (.long (own_sum GG (ix + 1)))]))
      obtain ⟨T6, X6, e6, st6⟩ := getF XX hx hZ hown (host := "") (Or.inl (hw _ (List.mem_of_getElem? (i := 17) rfl))) Via.refl eTT F_counts_a0 (g := (mkF m 61 #[.val (.ref a0), .val (.int p1), .val (.long (fcount a0 bb GG)), .second, .val (.long rk), .second, .val (.int ((Int32.ofNat ix) + (1 : Int32))), .val (.long (own_sum GG (ix + 1))), .second] [(.ref a0), (.long (own_sum GG (ix + 1)))])) rfl rfl (hb hby dpct_61)
      refine own_go (fun _ k => st6 _ k) ?_
      show own_Ends _ _ _ _ _ _ _ (T6.setTop (mkF m 64 #[.val (.ref a0), .val (.int p1), .val (.long (fcount a0 bb GG)), .second, .val (.long rk), .second, .val (.int ((Int32.ofNat ix) + (1 : Int32))), .val (.long (own_sum GG (ix + 1))), .second] [(.ref bb), (.long (own_sum GG (ix + 1)))]))
      refine own_go (fun _ k => XS.iload X6.here hx rfl (hb hby dpct_64) rfl k) ?_
      show own_Ends _ _ _ _ _ _ _ (T6.setTop (mkF m 66 #[.val (.ref a0), .val (.int p1), .val (.long (fcount a0 bb GG)), .second, .val (.long rk), .second, .val (.int ((Int32.ofNat ix) + (1 : Int32))), .val (.long (own_sum GG (ix + 1))), .second] [(.int ((Int32.ofNat ix) + (1 : Int32))), (.ref bb), (.long (own_sum GG (ix + 1)))]))
      obtain ⟨c7, A7, i7, v7⟩ := own_Ar.at A_bb ((Int32.ofNat ix) + (1 : Int32)) (own_nns (by omega)) (own_lts (by omega))
      refine own_go (fun _ k => X6.laload hx (by rw [e6]; exact A7.1) (State.isArrayOf_alike hZ.alike A7.2.1) A7.2.2 i7 v7 (g := (mkF m 66 #[.val (.ref a0), .val (.int p1), .val (.long (fcount a0 bb GG)), .second, .val (.long rk), .second, .val (.int ((Int32.ofNat ix) + (1 : Int32))), .val (.long (own_sum GG (ix + 1))), .second] [(.int ((Int32.ofNat ix) + (1 : Int32))), (.ref bb), (.long (own_sum GG (ix + 1)))])) rfl rfl (hb hby dpct_66) _ k) ?_
      show own_Ends _ _ _ _ _ _ _ (T6.setTop (mkF m 67 #[.val (.ref a0), .val (.int p1), .val (.long (fcount a0 bb GG)), .second, .val (.long rk), .second, .val (.int ((Int32.ofNat ix) + (1 : Int32))), .val (.long (own_sum GG (ix + 1))), .second] [(.long (GG (((Int32.ofNat ix) + (1 : Int32))).toNatClampNeg)), (.long (own_sum GG (ix + 1)))]))
      refine own_go (fun _ k => XS.ladd X6.here hx rfl (hb hby dpct_67) rfl k) ?_
      show own_Ends _ _ _ _ _ _ _ (T6.setTop (mkF m 68 #[.val (.ref a0), .val (.int p1), .val (.long (fcount a0 bb GG)), .second, .val (.long rk), .second, .val (.int ((Int32.ofNat ix) + (1 : Int32))), .val (.long (own_sum GG (ix + 1))), .second] [(.long ((own_sum GG (ix + 1)) + (GG (((Int32.ofNat ix) + (1 : Int32))).toNatClampNeg)))]))
      refine own_go (fun _ k => XS.lstore X6.here hx rfl (hb hby dpct_68) rfl (l' := #[.val (.ref a0), .val (.int p1), .val (.long (fcount a0 bb GG)), .second, .val (.long rk), .second, .val (.int ((Int32.ofNat ix) + (1 : Int32))), .val (.long ((own_sum GG (ix + 1)) + (GG (((Int32.ofNat ix) + (1 : Int32))).toNatClampNeg))), .second]) rfl k) ?_
      show own_Ends _ _ _ _ _ _ _ (T6.setTop (mkF m 70 #[.val (.ref a0), .val (.int p1), .val (.long (fcount a0 bb GG)), .second, .val (.long rk), .second, .val (.int ((Int32.ofNat ix) + (1 : Int32))), .val (.long ((own_sum GG (ix + 1)) + (GG (((Int32.ofNat ix) + (1 : Int32))).toNatClampNeg))), .second] []))
      refine own_go (fun _ k => XS.goto X6.here hx rfl (pc0 := 70) (pc' := 47) rfl (hb hby dpct_70) (by decide) (by decide) k) ?_
      rw [own_succ, own_sum_step (i := ix + 1) (by omega)]
      exact ihk (ix + 1) _ _ X6 NN e6 (by omega) (own_nxt hno hc5)
    · refine own_go (fun _ k => XS.ifYes XX.here hx rfl (pc0 := 52) (pc' := 73) rfl (hb hby dpct_52) rfl ((if0 _ _).trans (flt hc5).2.1) (by decide) (by decide) k) ?_
      show own_Ends _ _ _ _ _ _ _ (TT.setTop (mkF m 73 #[.val (.ref a0), .val (.int p1), .val (.long (fcount a0 bb GG)), .second, .val (.long rk), .second, .val (.int (Int32.ofNat ix)), .val (.long (own_sum GG (ix + 1))), .second] []))
      refine own_go (fun _ k => XS.iload XX.here hx rfl (hb hby dpct_73) rfl k) ?_
      show own_Ends _ _ _ _ _ _ _ (TT.setTop (mkF m 75 #[.val (.ref a0), .val (.int p1), .val (.long (fcount a0 bb GG)), .second, .val (.long rk), .second, .val (.int (Int32.ofNat ix)), .val (.long (own_sum GG (ix + 1))), .second] [(.int (Int32.ofNat ix))]))
      obtain ⟨_, _, ⟨T8, L8, k8, n8⟩, -, X8, ⟨Lc8, hQ8, l8, y8, z8⟩, st8⟩ := Jvm.LawKit.callS XX hx (y := (⟨"com/example/rate_keeper/ratekeeper/server/bench/LatencyHistogram", "middle", "(I)D"⟩ : MethodName)) hown (mvT hZ (hw _ (List.mem_of_getElem? (i := 60) rfl))) (mvT hZ (hw _ (List.mem_of_getElem? (i := 61) rfl))) (mvT hZ (hw _ (List.mem_of_getElem? (i := 8) rfl))) (mvT hZ (hw _ (List.mem_of_getElem? (i := 62) rfl))) (by decide) (backOf (W := 0) (rmmid l Z ar hw [] (Int32.ofNat ix) h0 n0 O0) hZ (hw _ (List.mem_of_getElem? (i := 62) rfl)) (hw _ (List.mem_of_getElem? (i := 8) rfl)) (by decide) (by decide)) (g := (mkF m 75 #[.val (.ref a0), .val (.int p1), .val (.long (fcount a0 bb GG)), .second, .val (.long rk), .second, .val (.int (Int32.ofNat ix)), .val (.long (own_sum GG (ix + 1))), .second] [(.int (Int32.ofNat ix))])) rfl (by rw [hml]; rfl) (argsL := [(.int (Int32.ofNat ix))]) (rest := []) (lenOf pdpct_1 rfl) rfl (by show 2 * 0 + _ ≤ _; exact Nat.le_of_eq rfl) (hb hby dpct_75) (fun _ _ => ⟨rfl, eTT, (by decide : 0 + 0 ≤ _), (by decide : 0 + 0 ≤ _)⟩)
      dsimp only [Pt.U, Pt.locs, Pt.cells, Pt.slots] at X8 l8 y8 z8 st8 hQ8
      subst l8 y8 z8
      obtain ⟨rfl, N8q, eq8⟩ := hQ8
      have e8 : T8.heap = h0 := eq8
      have N8 := Fr.app NN N8q
      refine own_go (fun _ k => st8 _ k) ?_
      show own_Ends _ _ _ _ _ _ _ (T8.setTop (mkF m 78 #[.val (.ref a0), .val (.int p1), .val (.long (fcount a0 bb GG)), .second, .val (.long rk), .second, .val (.int (Int32.ofNat ix)), .val (.long (own_sum GG (ix + 1))), .second] [(.double (fmid (Int32.ofNat ix)))]))
      exact own_retD X8 hx hlk Bd.returns (hb hby dpct_78) (by decide) (by decide) ⟨ix, rfl, own_rank_i hrk (by omega) hc5 hno, N8, e8⟩
theorem own_lz {x y : Int64} (h : x = y) : lcmpW x y = (0 : Int32) := by rw [lcW]; exact (lc_eq _ _).mpr h
theorem own_cnt2 {a b : Addr} (q r : Int64) : lcmpW (fcount a b (own_add r (own_add q (fun _ => (0 : Int64))))) (2 : Int64) = (0 : Int32) := own_lz (by
  show own_sum _ _ = _
  rw [own_sum_add, own_sum_add, own_sum0]; rfl)
theorem own_sum2 (q r : Int64) : own_sum (own_add r (own_add q (fun _ => (0 : Int64)))) 55296 = 2 := by
  rw [own_sum_add, own_sum_add, own_sum0]; rfl
theorem own_tot2 (q r : Int64) : ¬ own_sum (own_add r (own_add q (fun _ => (0 : Int64)))) 55296 = (0 : Int64) := by rw [own_sum2]; decide
theorem own_rk100 (q r : Int64) : own_rk (own_add r (own_add q (fun _ => (0 : Int64)))) (100 : Int32) = 2 := by rw [own_rk, own_sum2]; decide
theorem own_rk50 (q r : Int64) : own_rk (own_add r (own_add q (fun _ => (0 : Int64)))) (50 : Int32) = 1 := by rw [own_rk, own_sum2]; decide
theorem own_le100 (q r : Int64) : own_rk (own_add r (own_add q (fun _ => (0 : Int64)))) (100 : Int32) ≤ own_sum (own_add r (own_add q (fun _ => (0 : Int64)))) 55296 := by rw [own_rk100, own_sum2]; decide
theorem own_le50 (q r : Int64) : own_rk (own_add r (own_add q (fun _ => (0 : Int64)))) (50 : Int32) ≤ own_sum (own_add r (own_add q (fun _ => (0 : Int64)))) 55296 := by rw [own_rk50, own_sum2]; decide
theorem own_part (q r : Int64) (n : Nat) : own_sum (own_add r (own_add q (fun _ => (0 : Int64)))) n = (if own_ixo q < n then 1 else 0) + (if own_ixo r < n then 1 else 0) := by
  have h1 := own_sum_upd (own_add q (fun _ => (0 : Int64))) (own_ixo r) n 1
  have h2 : own_sum (own_add q (fun _ => (0 : Int64))) n = (if own_ixo q < n then 1 else 0) := (own_sum_upd (fun _ => (0 : Int64)) (own_ixo q) n 1).trans (by rw [own_sum0n, Int64.zero_add])
  exact h1.trans (congrArg (· + _) h2)
theorem own_max (q r : Int64) (ix : Nat) (h : own_rank (own_add r (own_add q (fun _ => (0 : Int64)))) (100 : Int32) ix) : ix = max (own_ixo q) (own_ixo r) := by
  obtain ⟨h1, h2, h3⟩ := h
  rw [own_rk100, own_part] at h2
  have a1 : own_ixo q < ix + 1 ∧ own_ixo r < ix + 1 := by
    by_cases z1 : own_ixo q < ix + 1 <;> by_cases z2 : own_ixo r < ix + 1 <;> simp [z1, z2] at h2 ⊢ <;> revert h2 <;> decide
  rcases Nat.lt_or_ge (max (own_ixo q) (own_ixo r)) ix with z | z
  · have := h3 _ z
    rw [own_rk100, own_part, if_pos (by omega), if_pos (by omega)] at this
    exact absurd this (by decide)
  · omega
theorem own_min (q r : Int64) (ix : Nat) (h : own_rank (own_add r (own_add q (fun _ => (0 : Int64)))) (50 : Int32) ix) : ix = min (own_ixo q) (own_ixo r) := by
  obtain ⟨h1, h2, h3⟩ := h
  rw [own_rk50, own_part] at h2
  have a1 : own_ixo q < ix + 1 ∨ own_ixo r < ix + 1 := by
    by_cases z1 : own_ixo q < ix + 1 <;> by_cases z2 : own_ixo r < ix + 1 <;> simp [z1, z2] at h2 ⊢ <;> revert h2 <;> decide
  rcases Nat.lt_or_ge (min (own_ixo q) (own_ixo r)) ix with z | z
  · have := h3 _ z
    rw [own_rk50, own_part] at this
    by_cases z1 : own_ixo q < min (own_ixo q) (own_ixo r) + 1 <;> by_cases z2 : own_ixo r < min (own_ixo q) (own_ixo r) + 1
    · rw [if_pos z1, if_pos z2] at this; exact absurd this (by decide)
    · rw [if_pos z1, if_neg z2] at this; exact absurd this (by decide)
    · rw [if_neg z1, if_pos z2] at this; exact absurd this (by decide)
    · omega
  · omega
/-! the law's own numbers -/
theorem own_rem {p z k : Int32} {K : Int} (hK : k.toInt = K) (h0 : 0 < K) (h : z = (p &&& 2147483647) % k) : 0 ≤ z.toInt ∧ z.toInt < K := by
  have e : (p &&& 2147483647).toInt = p.toInt % 2 ^ 31 := Jvm.Kit.i32_mask p 2147483647 (k := 31) (by decide) (by decide)
  have e0 : 0 ≤ (p &&& 2147483647).toInt := by rw [e]; exact Int.emod_nonneg _ (by decide)
  rw [h, Jvm.Kit.i32_rem_nonneg e0, hK]
  exact ⟨Int.emod_nonneg _ (by omega), Int.emod_lt_of_pos _ h0⟩
theorem own_zs {p zs : Int32} (h : zs = ((p &&& (2147483647 : Int32)) % (44 : Int32))) : ∃ s : Nat, s ≤ 43 ∧ zs = Int32.ofNat s := by
  have := own_rem (K := 44) (by decide) (by decide) h
  exact ⟨zs.toInt.toNat, by omega, Int32.toInt_inj.mp (by rw [own_c32 (by omega)]; omega)⟩
theorem own_zw {zs : Int32} {zw : Int64} {s : Nat} (hs : s ≤ 43) (e : zs = Int32.ofNat s) (h : zw = ((1 : Int64) <<< (zs &&& 0x3f).toInt64)) : zw.toInt = 2 ^ s := by
  have p := own_pow_le (show s ≤ 43 from hs)
  have := own_pow_pos s
  rw [h, e, Jvm.Kit.i64_shl _ _ (k := s) (own_shamt ⟨s, by omega⟩) (by rw [show (1 : Int64).toInt = 1 by decide]; omega) (by rw [show (1 : Int64).toInt = 1 by decide]; omega), show (1 : Int64).toInt = 1 by decide, Int.one_mul]
theorem own_wnz {p zs : Int32} {zw : Int64} (hzs : zs = ((p &&& (2147483647 : Int32)) % (44 : Int32))) (hzw : zw = ((1 : Int64) <<< (zs &&& 0x3f).toInt64)) : zw ≠ 0 := by
  obtain ⟨s, hs, e⟩ := own_zs hzs
  have h := own_zw hs e hzw
  have := own_pow_pos s
  intro z; rw [z, show (0 : Int64).toInt = 0 by decide] at h; omega
theorem own_m {p1 zs : Int32} {z1 : Int64} {s : Nat} (hs : s ≤ 43) (e : zs = Int32.ofNat s) (h : z1 = (if zs = (0 : Int32) then (((p1 &&& (2147483647 : Int32)) % (2048 : Int32)).toInt64) else (((1024 : Int32) + ((p1 &&& (2147483647 : Int32)) % (1024 : Int32))).toInt64))) : 0 ≤ z1.toInt ∧ z1.toInt < 2048 ∧ (s = 0 ∨ 1024 ≤ z1.toInt) := by
  by_cases q : zs = (0 : Int32)
  · rw [h, if_pos q, Int32.toInt_toInt64]
    have := own_rem (K := 2048) (by decide) (by decide) (rfl : ((p1 &&& (2147483647 : Int32)) % (2048 : Int32)) = _)
    refine ⟨this.1, this.2, Or.inl ?_⟩
    have z : (Int32.ofNat s).toInt = 0 := by rw [← e, q]; decide
    rw [own_c32 (by omega)] at z; omega
  · rw [h, if_neg q, Int32.toInt_toInt64]
    have := own_rem (K := 1024) (by decide) (by decide) (rfl : ((p1 &&& (2147483647 : Int32)) % (1024 : Int32)) = _)
    rw [Jvm.Kit.i32_add (by rw [show (1024 : Int32).toInt = 1024 by decide]; omega) (by rw [show (1024 : Int32).toInt = 1024 by decide]; omega), show (1024 : Int32).toInt = 1024 by decide]
    omega
theorem own_micros {zs : Int32} {z1 zw zo zu : Int64} {q2 : Int64} {s : Nat} (hs : s ≤ 43) (e : zs = Int32.ofNat s) (hm : 0 ≤ z1.toInt ∧ z1.toInt < 2048 ∧ (s = 0 ∨ 1024 ≤ z1.toInt)) (hw : zw.toInt = 2 ^ s) (hzo : zo = ((q2 &&& (9223372036854775807 : Int64)) - ((q2 &&& (9223372036854775807 : Int64)) / zw) * zw)) (hzu : zu = ((z1 <<< (zs &&& 0x3f).toInt64) + zo)) :
    (z1 <<< (zs &&& 0x3f).toInt64).toInt = z1.toInt * 2 ^ s ∧ 0 ≤ zu.toInt ∧ zu.toInt < 2 ^ 54 ∧ zu.toInt / 2 ^ s = z1.toInt := by
  have pp := own_pow_pos s
  have p43 := own_pow_le (show s ≤ 43 from hs)
  have em : (q2 &&& (9223372036854775807 : Int64)).toInt = q2.toInt % 2 ^ 63 := Jvm.Kit.i64_mask q2 _ (k := 63) (by decide) (by decide)
  have e0 : 0 ≤ (q2 &&& (9223372036854775807 : Int64)).toInt := by rw [em]; exact Int.emod_nonneg _ (by decide)
  have eo : zo.toInt = (q2 &&& (9223372036854775807 : Int64)).toInt % 2 ^ s := by rw [hzo, Jvm.Kit.i64_rem_nonneg e0, hw]
  have o0 : 0 ≤ zo.toInt := by rw [eo]; exact Int.emod_nonneg _ (by omega)
  have o1 : zo.toInt < 2 ^ s := by rw [eo]; exact Int.emod_lt_of_pos _ pp
  have m1 : z1.toInt * 2 ^ s ≤ 2047 * 2 ^ s := Int.mul_le_mul_of_nonneg_right (by omega) (by omega)
  have m0 : 0 ≤ z1.toInt * 2 ^ s := Int.mul_nonneg hm.1 (by omega)
  have e1 : (z1 <<< (zs &&& 0x3f).toInt64).toInt = z1.toInt * 2 ^ s := by
    rw [e]; exact Jvm.Kit.i64_shl _ _ (k := s) (own_shamt ⟨s, by omega⟩) (by omega) (by omega)
  have e2 : zu.toInt = z1.toInt * 2 ^ s + zo.toInt := by rw [hzu, Jvm.Kit.i64_add (by omega) (by omega), e1]
  refine ⟨e1, by omega, by omega, ?_⟩
  rw [e2, Int.add_comm, Int.add_mul_ediv_right _ _ (by omega), Int.ediv_eq_zero_of_lt o0 o1, Int.zero_add]
theorem own_at_unique {x : Int} {s s' : Nat} (h : own_at x s) (h' : own_at x s') (hlt : s < s') : False := by
  obtain ⟨-, -, a⟩ := h
  obtain ⟨-, b, -⟩ := h'
  have b' : 1024 ≤ x / 2 ^ s' := b.resolve_left (by omega)
  have e : (2 : Int) ^ s' = 2 ^ s * 2 ^ (s' - s) := by rw [← Int.pow_add, Nat.add_sub_cancel' (by omega)]
  rw [e, ← Int.ediv_ediv_of_nonneg (by have := own_pow_pos s; omega)] at b'
  have p2 := own_pow_le (show 1 ≤ s' - s by omega)
  have pp := own_pow_pos (s' - s)
  rw [Int.le_ediv_iff_mul_le pp] at b'
  have : 1024 * (2 : Int) ^ 1 ≤ 1024 * 2 ^ (s' - s) := by omega
  omega
theorem own_index_at {x : Int64} {s : Nat} (h0 : 0 ≤ x.toInt) (h1 : x.toInt < 2 ^ 54) (h : own_at x.toInt s) : (findex x).toInt = s * 1024 + x.toInt / 2 ^ s := by
  obtain ⟨s', h', e⟩ := own_index h0 h1
  rcases Nat.lt_trichotomy s s' with z | z | z
  · exact (own_at_unique h h' z).elim
  · rw [z]; exact e
  · exact (own_at_unique h' h z).elim
theorem own_fmax {x : Int64} (h : 0 ≤ x.toInt) : fmaxJ (0 : Int64) x = x := by
  rw [fmaxJ]
  split
  · rfl
  · rename_i z
    rw [lcW, lc_lt, Int64.lt_iff_toInt_lt, show (0 : Int64).toInt = 0 by decide] at z
    exact Int64.toInt_inj.mp (by rw [show (0 : Int64).toInt = 0 by decide]; omega)
theorem own_ixn {p3 : Int32} {zu zd zn : Int64} {s : Nat} (hu0 : 0 ≤ zu.toInt) (hu1 : zu.toInt < 2 ^ 54) (hat : own_at zu.toInt s) (hzd : zd = ((((p3 &&& (2147483647 : Int32)) % (1000 : Int32)) - (500 : Int32)).toInt64)) (hzn : zn = ((zu * (1000 : Int64)) + zd)) (hlim : ¬ (0 : Int32) < lcmpW zu (9223372036854774 : Int64)) : own_ixo zn = s * 1024 + (zu.toInt / 2 ^ s).toNat := by
  have r := own_rem (K := 1000) (by decide) (by decide) (rfl : ((p3 &&& (2147483647 : Int32)) % (1000 : Int32)) = _)
  have ed : zd.toInt = ((p3 &&& (2147483647 : Int32)) % (1000 : Int32)).toInt - 500 := by
    rw [hzd, Int32.toInt_toInt64, Jvm.Kit.i32_sub (by rw [show (500 : Int32).toInt = 500 by decide]; omega) (by rw [show (500 : Int32).toInt = 500 by decide]; omega), show (500 : Int32).toInt = 500 by decide]
  rw [lcW, lc_gt, Int64.lt_iff_toInt_lt, show (9223372036854774 : Int64).toInt = 9223372036854774 by decide] at hlim
  have e1 : (zu * (1000 : Int64)).toInt = zu.toInt * 1000 := by
    rw [Jvm.Kit.i64_mul (by rw [show (1000 : Int64).toInt = 1000 by decide]; omega) (by rw [show (1000 : Int64).toInt = 1000 by decide]; omega), show (1000 : Int64).toInt = 1000 by decide]
  have e2 : zn.toInt = zu.toInt * 1000 + zd.toInt := by rw [hzn, Jvm.Kit.i64_add (by omega) (by omega), e1]
  have e3 : (zn + (500 : Int64)).toInt = zu.toInt * 1000 + zd.toInt + 500 := by
    rw [Jvm.Kit.i64_add (by rw [show (500 : Int64).toInt = 500 by decide]; omega) (by rw [show (500 : Int64).toInt = 500 by decide]; omega), e2, show (500 : Int64).toInt = 500 by decide]
  have e4 : (zn + (500 : Int64)) / (1000 : Int64) = zu := by
    apply Int64.toInt_inj.mp
    rw [Jvm.Kit.i64_div (by rw [show (1000 : Int64).toInt = 1000 by decide]; omega), e3, show (1000 : Int64).toInt = 1000 by decide, Int.tdiv_eq_ediv_of_nonneg (by omega)]
    omega
  rw [own_ixo, e4, own_fmax hu0, own_tn, own_index_at hu0 hu1 hat]
  have : 0 ≤ zu.toInt / 2 ^ s := Int.ediv_nonneg hu0 (by have := own_pow_pos s; omega)
  omega
theorem own_neg (q : Int64) : (q ||| (-9223372036854775808 : Int64)).toInt < 0 := by
  have h1 : (q ||| (-9223372036854775808 : Int64)).toBitVec.msb = true := by
    rw [Int64.toBitVec_or, BitVec.msb_or]
    have h2 : (-9223372036854775808 : Int64).toBitVec.msb = true := by decide
    rw [h2]; simp
  show (q ||| (-9223372036854775808 : Int64)).toBitVec.toInt < 0
  rw [BitVec.toInt_eq_msb_cond, if_pos h1]
  have := (q ||| (-9223372036854775808 : Int64)).toBitVec.isLt
  omega
theorem own_ix0 (q : Int64) : own_ixo (q ||| (-9223372036854775808 : Int64)) = 0 := by
  have h := own_neg q
  have h2 := Int64.le_toInt (q ||| (-9223372036854775808 : Int64))
  have e3 : ((q ||| (-9223372036854775808 : Int64)) + (500 : Int64)).toInt = (q ||| (-9223372036854775808 : Int64)).toInt + 500 := by
    rw [Jvm.Kit.i64_add (by rw [show (500 : Int64).toInt = 500 by decide]; omega) (by rw [show (500 : Int64).toInt = 500 by decide]; omega), show (500 : Int64).toInt = 500 by decide]
  have e4 : (((q ||| (-9223372036854775808 : Int64)) + (500 : Int64)) / (1000 : Int64)).toInt ≤ 0 := by
    rw [Jvm.Kit.i64_div (by rw [show (1000 : Int64).toInt = 1000 by decide]; omega), e3, show (1000 : Int64).toInt = 1000 by decide]
    generalize (q ||| (-9223372036854775808 : Int64)).toInt = x at *
    rcases Int.lt_or_le (x + 500) 0 with z | z
    · have : (x + 500).tdiv 1000 = -((-(x + 500)).tdiv 1000) := by rw [Int.neg_tdiv, Int.neg_neg]
      rw [this, Int.tdiv_eq_ediv_of_nonneg (by omega)]; omega
    · rw [Int.tdiv_eq_ediv_of_nonneg z]; omega
  have e5 : fmaxJ (0 : Int64) (((q ||| (-9223372036854775808 : Int64)) + (500 : Int64)) / (1000 : Int64)) = 0 := by
    rw [fmaxJ, if_neg]
    rw [lcW, lc_lt, Int64.lt_iff_toInt_lt, show (0 : Int64).toInt = 0 by decide]; omega
  rw [own_ixo, e5]; decide
/-- the middle of the bucket s * 1024 + m -/
theorem own_mid {m s : Nat} (hs : s ≤ 43) (hm : m < 2048) (h : s = 0 ∨ 1024 ≤ m) : fmid (Int32.ofNat (s * 1024 + m)) = FP.dadd (FP.l2d ((Int64.ofNat m) <<< (Int32.ofNat s &&& 0x3f).toInt64)) (FP.ddiv (FP.l2d (((1 : Int64) <<< (Int32.ofNat s &&& 0x3f).toInt64) - (1 : Int64))) (4611686018427387904 : UInt64)) := by
  have e1 : (Int32.ofNat (s * 1024 + m) / (1024 : Int32)).toInt = ((s * 1024 + m) / 1024 : Nat) := by
    rw [Jvm.Kit.i32_div (by rw [own_c32 (by omega)]; omega), own_c32 (by omega), show (1024 : Int32).toInt = 1024 by decide, Int.tdiv_eq_ediv_of_nonneg (by omega)]; omega
  have e2 : (Int32.ofNat (s * 1024 + m) / (1024 : Int32) - (1 : Int32)).toInt = ((s * 1024 + m) / 1024 : Nat) - 1 := by
    rw [Jvm.Kit.i32_sub (by rw [e1, show (1 : Int32).toInt = 1 by decide]; omega) (by rw [e1, show (1 : Int32).toInt = 1 by decide]; omega), e1, show (1 : Int32).toInt = 1 by decide]
  have e3 : fmaxI (0 : Int32) ((Int32.ofNat (s * 1024 + m) / (1024 : Int32)) - (1 : Int32)) = Int32.ofNat s := by
    apply Int32.toInt_inj.mp
    rw [own_c32 (by omega), fmaxI]
    split
    · rename_i z; rw [Int32.lt_iff_toInt_lt, e2, show (0 : Int32).toInt = 0 by decide] at z; rw [e2]; omega
    · rename_i z; rw [Int32.lt_iff_toInt_lt, e2, show (0 : Int32).toInt = 0 by decide] at z; rw [show (0 : Int32).toInt = 0 by decide]; omega
  have e4 : ((Int32.ofNat (s * 1024 + m)) - (Int32.ofNat s * (1024 : Int32))).toInt64 = Int64.ofNat m := by
    have a1 : (Int32.ofNat s * (1024 : Int32)).toInt = s * 1024 := by
      rw [Jvm.Kit.i32_mul (by rw [own_c32 (by omega), show (1024 : Int32).toInt = 1024 by decide]; omega) (by rw [own_c32 (by omega), show (1024 : Int32).toInt = 1024 by decide]; omega), own_c32 (by omega), show (1024 : Int32).toInt = 1024 by decide]
    apply Int64.toInt_inj.mp
    rw [Int32.toInt_toInt64, Jvm.Kit.i32_sub (by rw [own_c32 (by omega), a1]; omega) (by rw [own_c32 (by omega), a1]; omega), own_c32 (by omega), a1, Int64.toInt_ofNat_of_lt (by omega)]; omega
  rw [fmid, e3]
  show FP.dadd (FP.l2d ((((Int32.ofNat (s * 1024 + m)) - (Int32.ofNat s * (1024 : Int32))).toInt64) <<< (Int32.ofNat s &&& 0x3f).toInt64)) _ = _
  rw [e4]
theorem own_all {p0 p1 p3 zs : Int32} {z1 zw q2 zo zu zd zn : Int64} {ze : UInt64} (hzs : zs = ((p0 &&& (2147483647 : Int32)) % (44 : Int32))) (hz1 : z1 = (if zs = (0 : Int32) then (((p1 &&& (2147483647 : Int32)) % (2048 : Int32)).toInt64) else (((1024 : Int32) + ((p1 &&& (2147483647 : Int32)) % (1024 : Int32))).toInt64))) (hzw : zw = ((1 : Int64) <<< (zs &&& 0x3f).toInt64)) (hzo : zo = ((q2 &&& (9223372036854775807 : Int64)) - ((q2 &&& (9223372036854775807 : Int64)) / zw) * zw)) (hzu : zu = ((z1 <<< (zs &&& 0x3f).toInt64) + zo)) (hzd : zd = ((((p3 &&& (2147483647 : Int32)) % (1000 : Int32)) - (500 : Int32)).toInt64)) (hzn : zn = ((zu * (1000 : Int64)) + zd)) (hze : ze = (FP.dadd (FP.l2d (z1 <<< (zs &&& 0x3f).toInt64)) (FP.ddiv (FP.l2d (zw - (1 : Int64))) (4611686018427387904 : UInt64)))) (hlim : ¬ (0 : Int32) < lcmpW zu (9223372036854774 : Int64)) : fmid (Int32.ofNat (own_ixo zn)) = ze := by
  obtain ⟨s, hs, e⟩ := own_zs hzs
  have hm := own_m hs e hz1
  have hw := own_zw hs e hzw
  obtain ⟨u1, u2, u3, u4⟩ := own_micros hs e hm hw hzo hzu
  have hat : own_at zu.toInt s := ⟨hs, by rw [u4]; exact hm.2.2, by rw [u4]; exact hm.2.1⟩
  rw [own_ixn u2 u3 hat hzd hzn hlim, u4, own_mid hs (by omega) (by omega), hze, hzw, e]
  have : Int64.ofNat z1.toInt.toNat = z1 := Int64.toInt_inj.mp (by rw [Int64.toInt_ofNat_of_lt (by omega)]; omega)
  rw [this]
theorem own_cmp {x y : UInt64} (h : x = y) (n : Jvm.Free.Fl.NoNaN64 y) : cmpValue (FP.dcmp x y) .l = (0 : Int32) := dcmpV_eq h (h ▸ n) .l
theorem own_zero : fmid (Int32.ofNat 0) = 0 := by decide +kernel
theorem own_second {q4 zn z8 : Int64} {z5 : Int32} (hz8 : z8 = (if z5 = (0 : Int32) then (q4 ||| (-9223372036854775808 : Int64)) else zn)) : (z5 = 0 → own_ixo z8 = 0) ∧ (¬ z5 = 0 → own_ixo z8 = own_ixo zn) := by
  constructor
  · intro h; rw [hz8, if_pos h]; exact own_ix0 q4
  · intro h; rw [hz8, if_neg h]
section Fin
variable {p0 p1 p3 p5 zs z5 : Int32} {z1 zw q2 zo zu zd zn q4 z8 : Int64} {ze z11 : UInt64} {ix : Nat}
theorem own_p100 (hzs : zs = ((p0 &&& (2147483647 : Int32)) % (44 : Int32))) (hz1 : z1 = (if zs = (0 : Int32) then (((p1 &&& (2147483647 : Int32)) % (2048 : Int32)).toInt64) else (((1024 : Int32) + ((p1 &&& (2147483647 : Int32)) % (1024 : Int32))).toInt64))) (hzw : zw = ((1 : Int64) <<< (zs &&& 0x3f).toInt64)) (hzo : zo = ((q2 &&& (9223372036854775807 : Int64)) - ((q2 &&& (9223372036854775807 : Int64)) / zw) * zw)) (hzu : zu = ((z1 <<< (zs &&& 0x3f).toInt64) + zo)) (hzd : zd = ((((p3 &&& (2147483647 : Int32)) % (1000 : Int32)) - (500 : Int32)).toInt64)) (hzn : zn = ((zu * (1000 : Int64)) + zd)) (hz5 : z5 = (if (p5 &&& (1 : Int32)) = (0 : Int32) then (0 : Int32) else (1 : Int32))) (hz8 : z8 = (if z5 = (0 : Int32) then (q4 ||| (-9223372036854775808 : Int64)) else zn)) (hze : ze = (FP.dadd (FP.l2d (z1 <<< (zs &&& 0x3f).toInt64)) (FP.ddiv (FP.l2d (zw - (1 : Int64))) (4611686018427387904 : UInt64)))) (hz11 : z11 = (if z5 = (0 : Int32) then (0 : UInt64) else ze)) (hlim : ¬ (0 : Int32) < lcmpW zu (9223372036854774 : Int64))
    (hr : own_rank (own_add z8 (own_add zn (fun _ => (0 : Int64)))) (100 : Int32) ix) : cmpValue (FP.dcmp (fmid (Int32.ofNat ix)) ze) .l = (0 : Int32) := by
  have e := own_all hzs hz1 hzw hzo hzu hzd hzn hze hlim
  have m := own_max zn z8 ix hr
  have hix : ix = own_ixo zn := by
    rcases own_second hz8 with ⟨a, b⟩
    by_cases q : z5 = 0
    · rw [a q] at m; omega
    · rw [b q] at m; omega
  refine own_cmp ?_ (by rw [hze]; exact own_nnm _ _)
  rw [hix]; exact e
theorem own_p50 (hzs : zs = ((p0 &&& (2147483647 : Int32)) % (44 : Int32))) (hz1 : z1 = (if zs = (0 : Int32) then (((p1 &&& (2147483647 : Int32)) % (2048 : Int32)).toInt64) else (((1024 : Int32) + ((p1 &&& (2147483647 : Int32)) % (1024 : Int32))).toInt64))) (hzw : zw = ((1 : Int64) <<< (zs &&& 0x3f).toInt64)) (hzo : zo = ((q2 &&& (9223372036854775807 : Int64)) - ((q2 &&& (9223372036854775807 : Int64)) / zw) * zw)) (hzu : zu = ((z1 <<< (zs &&& 0x3f).toInt64) + zo)) (hzd : zd = ((((p3 &&& (2147483647 : Int32)) % (1000 : Int32)) - (500 : Int32)).toInt64)) (hzn : zn = ((zu * (1000 : Int64)) + zd)) (hz5 : z5 = (if (p5 &&& (1 : Int32)) = (0 : Int32) then (0 : Int32) else (1 : Int32))) (hz8 : z8 = (if z5 = (0 : Int32) then (q4 ||| (-9223372036854775808 : Int64)) else zn)) (hze : ze = (FP.dadd (FP.l2d (z1 <<< (zs &&& 0x3f).toInt64)) (FP.ddiv (FP.l2d (zw - (1 : Int64))) (4611686018427387904 : UInt64)))) (hz11 : z11 = (if z5 = (0 : Int32) then (0 : UInt64) else ze)) (hlim : ¬ (0 : Int32) < lcmpW zu (9223372036854774 : Int64))
    (hr : own_rank (own_add z8 (own_add zn (fun _ => (0 : Int64)))) (50 : Int32) ix) : cmpValue (FP.dcmp (fmid (Int32.ofNat ix)) z11) .l = (0 : Int32) := by
  have e := own_all hzs hz1 hzw hzo hzu hzd hzn hze hlim
  have m := own_min zn z8 ix hr
  rcases own_second hz8 with ⟨a, b⟩
  by_cases q : z5 = 0
  · rw [a q] at m
    have hix : ix = 0 := by omega
    rw [hz11, if_pos q, hix]
    exact own_cmp own_zero (by unfold Jvm.Free.Fl.NoNaN64; decide)
  · rw [b q] at m
    have hix : ix = own_ixo zn := by omega
    rw [hz11, if_neg q, hix]
    exact own_cmp e (by rw [hze]; exact own_nnm _ _)
end Fin
theorem pn0 : plainName "com/example/rate_keeper/ratekeeper/server/bench/LatencyHistogramRecordPinLaw" = true := by first | (simp [plainName, overriddenIn]; done) | decide +kernel
theorem pd0_0 : parseMethodDescriptor "()V" = some ⟨[], none⟩ := by decide +kernel
theorem pd0_1 : parseMethodDescriptor "(J)V" = some ⟨[.long], none⟩ := by decide +kernel
theorem pd0_2 : parseMethodDescriptor "()J" = some ⟨[], some .long⟩ := by decide +kernel
theorem pd0_3 : parseMethodDescriptor "(I)D" = some ⟨[.int], some .double⟩ := by decide +kernel
theorem ef0 (m : MethodId) (p0 : Int32) (p1 : Int32) (q2 : Int64) (p3 : Int32) (q4 : Int64) (p5 : Int32) : entryFrame m #[(.int p0), (.int p1), (.long q2), (.int p3), (.long q4), (.int p5)] maxLocals = mkF m 0 #[.val (.int p0), .val (.int p1), .val (.long q2), .second, .val (.int p3), .val (.long q4), .second, .val (.int p5), .unset, .unset, .unset, .unset, .unset, .unset, .unset, .unset, .unset, .unset, .unset, .unset, .unset, .unset, .unset, .unset, .unset, .unset, .unset, .unset, .unset] [] := by first | (simp [entryFrame, mkF, argsToLocals, Value.category, maxLocals]; done) | rfl
def Q0 (Z : State) (p0 : Int32) (p1 : Int32) (q2 : Int64) (p3 : Int32) (q4 : Int64) (p5 : Int32) (h0 : Heap) (n0 : Nat) (v : Option Value) (h : Heap) (L : List Loc) : Prop := v = some (.int 1) ∧ Fr n0 L
set_option maxRecDepth 65536 in
set_option maxHeartbeats 40000000 in
theorem rm0 (l : Launch) (Z : State) (ar : Array Value) (hw : ∀ d ∈ tables_1, d.before ar Z = true) (ws : List Jvm.Cond) (p0 : Int32) (p1 : Int32) (q2 : Int64) (p3 : Int32) (q4 : Int64) (p5 : Int32) (h0 : Heap) (n0 : Nat) (O0 : Old Z n0 h0) :
    MetFree l x (head1 (Jvm.Cond.code x code maxLocals ret :: ws) room_1) (fun a U => a = #[(.int p0), (.int p1), (.long q2), (.int p3), (.long q4), (.int p5)] ∧ Z.Warmed39 U.vm ∧ U.heap = h0) (fun _ _ _ _ _ => True) (fun _ U o U' => ∃ v L, o = .returned v ∧ Q0 Z p0 p1 q2 p3 q4 p5 h0 n0 v U'.heap L ∧ FrameEnd U o U' L room_1.cells room_1.slots) := by
  refine MetFree.of_bodySF (plainFor_of_name pn0) hisR ?_
  intro p e s m args below meth c s₁ Bd hml0 hP hK
  obtain ⟨rfl, hZ, hh⟩ := hP
  have hx := Bd.exec
  have hby := Bd.bytes
  have hml : c.maxLocals = 29 := hml0
  have hown : s.vm.findClass "com/example/rate_keeper/ratekeeper/server/bench/LatencyHistogramRecordPinLaw" = some m.cls := findClass_of_methodNamed Bd.named
  have hnm := (name_of_methodNamed Bd.named Bd.method).1
  have hlk : meth.locks = false := BodyLoose.notSynchronized Bd
  have X0 : Stand p l e room_1 s m #[(.int p0), (.int p1), (.long q2), (.int p3), (.long q4), (.int p5)] below meth c s₁ [] 0 0 := Stand.of_body Bd
  have e0 : s₁.heap = h0 := by rw [← hh, Bd.state]; rfl
  have N0 := Fr.nil n0
  suffices hmain : own_Ends p e below s (Q0 Z p0 p1 q2 p3 q4 p5 h0 n0) 16 110720 (s₁.setTop (mkF m 0 #[.val (.int p0), .val (.int p1), .val (.long q2), .second, .val (.int p3), .val (.long q4), .second, .val (.int p5), .unset, .unset, .unset, .unset, .unset, .unset, .unset, .unset, .unset, .unset, .unset, .unset, .unset, .unset, .unset, .unset, .unset, .unset, .unset, .unset, .unset] [])) by
    obtain ⟨U, o, h1, r⟩ := hmain
    exact ⟨U, o, castTop (ef0 m p0 p1 q2 p3 q4 p5) h1, r⟩
  show own_Ends _ _ _ _ _ _ _ (s₁.setTop (mkF m 0 #[.val (.int p0), .val (.int p1), .val (.long q2), .second, .val (.int p3), .val (.long q4), .second, .val (.int p5), .unset, .unset, .unset, .unset, .unset, .unset, .unset, .unset, .unset, .unset, .unset, .unset, .unset, .unset, .unset, .unset, .unset, .unset, .unset, .unset, .unset] []))
  refine own_go (fun _ k => XS.iloadN X0.here hx rfl (hb hby at_0) rfl k) ?_
  show own_Ends _ _ _ _ _ _ _ (s₁.setTop (mkF m 1 #[.val (.int p0), .val (.int p1), .val (.long q2), .second, .val (.int p3), .val (.long q4), .second, .val (.int p5), .unset, .unset, .unset, .unset, .unset, .unset, .unset, .unset, .unset, .unset, .unset, .unset, .unset, .unset, .unset, .unset, .unset, .unset, .unset, .unset, .unset] [(.int p0)]))
  refine own_go (fun _ k => X0.ldcInt hx hown (mvT hZ (hw _ (List.mem_of_getElem? (i := 0) rfl))) (g := (mkF m 1 #[.val (.int p0), .val (.int p1), .val (.long q2), .second, .val (.int p3), .val (.long q4), .second, .val (.int p5), .unset, .unset, .unset, .unset, .unset, .unset, .unset, .unset, .unset, .unset, .unset, .unset, .unset, .unset, .unset, .unset, .unset, .unset, .unset, .unset, .unset] [(.int p0)])) rfl (hb hby at_1) _ k) ?_
  show own_Ends _ _ _ _ _ _ _ (s₁.setTop (mkF m 3 #[.val (.int p0), .val (.int p1), .val (.long q2), .second, .val (.int p3), .val (.long q4), .second, .val (.int p5), .unset, .unset, .unset, .unset, .unset, .unset, .unset, .unset, .unset, .unset, .unset, .unset, .unset, .unset, .unset, .unset, .unset, .unset, .unset, .unset, .unset] [(.int (2147483647 : Int32)), (.int p0)]))
  refine own_go (fun _ k => XS.iand X0.here hx rfl (hb hby at_3) rfl k) ?_
  show own_Ends _ _ _ _ _ _ _ (s₁.setTop (mkF m 4 #[.val (.int p0), .val (.int p1), .val (.long q2), .second, .val (.int p3), .val (.long q4), .second, .val (.int p5), .unset, .unset, .unset, .unset, .unset, .unset, .unset, .unset, .unset, .unset, .unset, .unset, .unset, .unset, .unset, .unset, .unset, .unset, .unset, .unset, .unset] [(.int (p0 &&& (2147483647 : Int32)))]))
  refine own_go (fun _ k => XS.bipush X0.here hx rfl (hb hby at_4) k) ?_
  show own_Ends _ _ _ _ _ _ _ (s₁.setTop (mkF m 6 #[.val (.int p0), .val (.int p1), .val (.long q2), .second, .val (.int p3), .val (.long q4), .second, .val (.int p5), .unset, .unset, .unset, .unset, .unset, .unset, .unset, .unset, .unset, .unset, .unset, .unset, .unset, .unset, .unset, .unset, .unset, .unset, .unset, .unset, .unset] [(.int (44 : Int32)), (.int (p0 &&& (2147483647 : Int32)))]))
  refine own_go (fun _ k => iremM X0 hx rfl (hb hby at_6) rfl (by decide) k) ?_
  show own_Ends _ _ _ _ _ _ _ (s₁.setTop (mkF m 7 #[.val (.int p0), .val (.int p1), .val (.long q2), .second, .val (.int p3), .val (.long q4), .second, .val (.int p5), .unset, .unset, .unset, .unset, .unset, .unset, .unset, .unset, .unset, .unset, .unset, .unset, .unset, .unset, .unset, .unset, .unset, .unset, .unset, .unset, .unset] [(.int ((p0 &&& (2147483647 : Int32)) % (44 : Int32)))]))
  refine own_go (fun _ k => XS.istore X0.here hx rfl (hb hby at_7) rfl (l' := #[.val (.int p0), .val (.int p1), .val (.long q2), .second, .val (.int p3), .val (.long q4), .second, .val (.int p5), .val (.int ((p0 &&& (2147483647 : Int32)) % (44 : Int32))), .unset, .unset, .unset, .unset, .unset, .unset, .unset, .unset, .unset, .unset, .unset, .unset, .unset, .unset, .unset, .unset, .unset, .unset, .unset, .unset]) rfl k) ?_
  suffices hjzs : ∀ zs : Int32, zs = ((p0 &&& (2147483647 : Int32)) % (44 : Int32)) → own_Ends p e below s (Q0 Z p0 p1 q2 p3 q4 p5 h0 n0) 16 110720 (s₁.setTop (mkF m 9 #[.val (.int p0), .val (.int p1), .val (.long q2), .second, .val (.int p3), .val (.long q4), .second, .val (.int p5), .val (.int zs), .unset, .unset, .unset, .unset, .unset, .unset, .unset, .unset, .unset, .unset, .unset, .unset, .unset, .unset, .unset, .unset, .unset, .unset, .unset, .unset] [])) by exact hjzs _ rfl
  intro zs hzs
  show own_Ends _ _ _ _ _ _ _ (s₁.setTop (mkF m 9 #[.val (.int p0), .val (.int p1), .val (.long q2), .second, .val (.int p3), .val (.long q4), .second, .val (.int p5), .val (.int zs), .unset, .unset, .unset, .unset, .unset, .unset, .unset, .unset, .unset, .unset, .unset, .unset, .unset, .unset, .unset, .unset, .unset, .unset, .unset, .unset] []))
  refine own_go (fun _ k => XS.iload X0.here hx rfl (hb hby at_9) rfl k) ?_
  show own_Ends _ _ _ _ _ _ _ (s₁.setTop (mkF m 11 #[.val (.int p0), .val (.int p1), .val (.long q2), .second, .val (.int p3), .val (.long q4), .second, .val (.int p5), .val (.int zs), .unset, .unset, .unset, .unset, .unset, .unset, .unset, .unset, .unset, .unset, .unset, .unset, .unset, .unset, .unset, .unset, .unset, .unset, .unset, .unset] [(.int zs)]))
  suffices hj2 : ∀ z1 : Int64, z1 = (if zs = (0 : Int32) then (((p1 &&& (2147483647 : Int32)) % (2048 : Int32)).toInt64) else (((1024 : Int32) + ((p1 &&& (2147483647 : Int32)) % (1024 : Int32))).toInt64)) → own_Ends p e below s (Q0 Z p0 p1 q2 p3 q4 p5 h0 n0) 16 110720 (s₁.setTop (mkF m 43 #[.val (.int p0), .val (.int p1), .val (.long q2), .second, .val (.int p3), .val (.long q4), .second, .val (.int p5), .val (.int zs), .val (.long z1), .second, .unset, .unset, .unset, .unset, .unset, .unset, .unset, .unset, .unset, .unset, .unset, .unset, .unset, .unset, .unset, .unset, .unset, .unset] [])) by
    show own_Ends _ _ _ _ _ _ _ (s₁.setTop (mkF m 11 #[.val (.int p0), .val (.int p1), .val (.long q2), .second, .val (.int p3), .val (.long q4), .second, .val (.int p5), .val (.int zs), .unset, .unset, .unset, .unset, .unset, .unset, .unset, .unset, .unset, .unset, .unset, .unset, .unset, .unset, .unset, .unset, .unset, .unset, .unset, .unset] [(.int zs)]))
    by_cases hc3 : zs = (0 : Int32)
    · refine own_go (fun _ k => XS.ifNo X0.here hx rfl (hb hby at_11) rfl ((if0 _ _).trans (teq hc3).2) k) ?_
      show own_Ends _ _ _ _ _ _ _ (s₁.setTop (mkF m 14 #[.val (.int p0), .val (.int p1), .val (.long q2), .second, .val (.int p3), .val (.long q4), .second, .val (.int p5), .val (.int zs), .unset, .unset, .unset, .unset, .unset, .unset, .unset, .unset, .unset, .unset, .unset, .unset, .unset, .unset, .unset, .unset, .unset, .unset, .unset, .unset] []))
      refine own_go (fun _ k => XS.iloadN X0.here hx rfl (hb hby at_14) rfl k) ?_
      show own_Ends _ _ _ _ _ _ _ (s₁.setTop (mkF m 15 #[.val (.int p0), .val (.int p1), .val (.long q2), .second, .val (.int p3), .val (.long q4), .second, .val (.int p5), .val (.int zs), .unset, .unset, .unset, .unset, .unset, .unset, .unset, .unset, .unset, .unset, .unset, .unset, .unset, .unset, .unset, .unset, .unset, .unset, .unset, .unset] [(.int p1)]))
      refine own_go (fun _ k => X0.ldcInt hx hown (mvT hZ (hw _ (List.mem_of_getElem? (i := 0) rfl))) (g := (mkF m 15 #[.val (.int p0), .val (.int p1), .val (.long q2), .second, .val (.int p3), .val (.long q4), .second, .val (.int p5), .val (.int zs), .unset, .unset, .unset, .unset, .unset, .unset, .unset, .unset, .unset, .unset, .unset, .unset, .unset, .unset, .unset, .unset, .unset, .unset, .unset, .unset] [(.int p1)])) rfl (hb hby at_15) _ k) ?_
      show own_Ends _ _ _ _ _ _ _ (s₁.setTop (mkF m 17 #[.val (.int p0), .val (.int p1), .val (.long q2), .second, .val (.int p3), .val (.long q4), .second, .val (.int p5), .val (.int zs), .unset, .unset, .unset, .unset, .unset, .unset, .unset, .unset, .unset, .unset, .unset, .unset, .unset, .unset, .unset, .unset, .unset, .unset, .unset, .unset] [(.int (2147483647 : Int32)), (.int p1)]))
      refine own_go (fun _ k => XS.iand X0.here hx rfl (hb hby at_17) rfl k) ?_
      show own_Ends _ _ _ _ _ _ _ (s₁.setTop (mkF m 18 #[.val (.int p0), .val (.int p1), .val (.long q2), .second, .val (.int p3), .val (.long q4), .second, .val (.int p5), .val (.int zs), .unset, .unset, .unset, .unset, .unset, .unset, .unset, .unset, .unset, .unset, .unset, .unset, .unset, .unset, .unset, .unset, .unset, .unset, .unset, .unset] [(.int (p1 &&& (2147483647 : Int32)))]))
      refine own_go (fun _ k => XS.sipush X0.here hx rfl (hb hby at_18) k) ?_
      show own_Ends _ _ _ _ _ _ _ (s₁.setTop (mkF m 21 #[.val (.int p0), .val (.int p1), .val (.long q2), .second, .val (.int p3), .val (.long q4), .second, .val (.int p5), .val (.int zs), .unset, .unset, .unset, .unset, .unset, .unset, .unset, .unset, .unset, .unset, .unset, .unset, .unset, .unset, .unset, .unset, .unset, .unset, .unset, .unset] [(.int (2048 : Int32)), (.int (p1 &&& (2147483647 : Int32)))]))
      refine own_go (fun _ k => iremM X0 hx rfl (hb hby at_21) rfl (by decide) k) ?_
      show own_Ends _ _ _ _ _ _ _ (s₁.setTop (mkF m 22 #[.val (.int p0), .val (.int p1), .val (.long q2), .second, .val (.int p3), .val (.long q4), .second, .val (.int p5), .val (.int zs), .unset, .unset, .unset, .unset, .unset, .unset, .unset, .unset, .unset, .unset, .unset, .unset, .unset, .unset, .unset, .unset, .unset, .unset, .unset, .unset] [(.int ((p1 &&& (2147483647 : Int32)) % (2048 : Int32)))]))
      refine own_go (fun _ k => XS.i2l X0.here hx rfl (hb hby at_22) rfl k) ?_
      show own_Ends _ _ _ _ _ _ _ (s₁.setTop (mkF m 23 #[.val (.int p0), .val (.int p1), .val (.long q2), .second, .val (.int p3), .val (.long q4), .second, .val (.int p5), .val (.int zs), .unset, .unset, .unset, .unset, .unset, .unset, .unset, .unset, .unset, .unset, .unset, .unset, .unset, .unset, .unset, .unset, .unset, .unset, .unset, .unset] [(.long (((p1 &&& (2147483647 : Int32)) % (2048 : Int32)).toInt64))]))
      refine own_go (fun _ k => XS.lstore X0.here hx rfl (hb hby at_23) rfl (l' := #[.val (.int p0), .val (.int p1), .val (.long q2), .second, .val (.int p3), .val (.long q4), .second, .val (.int p5), .val (.int zs), .val (.long (((p1 &&& (2147483647 : Int32)) % (2048 : Int32)).toInt64)), .second, .unset, .unset, .unset, .unset, .unset, .unset, .unset, .unset, .unset, .unset, .unset, .unset, .unset, .unset, .unset, .unset, .unset, .unset]) rfl k) ?_
      show own_Ends _ _ _ _ _ _ _ (s₁.setTop (mkF m 25 #[.val (.int p0), .val (.int p1), .val (.long q2), .second, .val (.int p3), .val (.long q4), .second, .val (.int p5), .val (.int zs), .val (.long (((p1 &&& (2147483647 : Int32)) % (2048 : Int32)).toInt64)), .second, .unset, .unset, .unset, .unset, .unset, .unset, .unset, .unset, .unset, .unset, .unset, .unset, .unset, .unset, .unset, .unset, .unset, .unset] []))
      refine own_go (fun _ k => XS.goto X0.here hx rfl (pc0 := 25) (pc' := 43) rfl (hb hby at_25) (by decide) (by decide) k) ?_
      exact hj2 _ ((if_pos hc3)).symm
    · refine own_go (fun _ k => XS.ifYes X0.here hx rfl (pc0 := 11) (pc' := 28) rfl (hb hby at_11) rfl ((if0 _ _).trans (feq hc3).2) (by decide) (by decide) k) ?_
      show own_Ends _ _ _ _ _ _ _ (s₁.setTop (mkF m 28 #[.val (.int p0), .val (.int p1), .val (.long q2), .second, .val (.int p3), .val (.long q4), .second, .val (.int p5), .val (.int zs), .unset, .unset, .unset, .unset, .unset, .unset, .unset, .unset, .unset, .unset, .unset, .unset, .unset, .unset, .unset, .unset, .unset, .unset, .unset, .unset] []))
      refine own_go (fun _ k => XS.sipush X0.here hx rfl (hb hby at_28) k) ?_
      show own_Ends _ _ _ _ _ _ _ (s₁.setTop (mkF m 31 #[.val (.int p0), .val (.int p1), .val (.long q2), .second, .val (.int p3), .val (.long q4), .second, .val (.int p5), .val (.int zs), .unset, .unset, .unset, .unset, .unset, .unset, .unset, .unset, .unset, .unset, .unset, .unset, .unset, .unset, .unset, .unset, .unset, .unset, .unset, .unset] [(.int (1024 : Int32))]))
      refine own_go (fun _ k => XS.iloadN X0.here hx rfl (hb hby at_31) rfl k) ?_
      show own_Ends _ _ _ _ _ _ _ (s₁.setTop (mkF m 32 #[.val (.int p0), .val (.int p1), .val (.long q2), .second, .val (.int p3), .val (.long q4), .second, .val (.int p5), .val (.int zs), .unset, .unset, .unset, .unset, .unset, .unset, .unset, .unset, .unset, .unset, .unset, .unset, .unset, .unset, .unset, .unset, .unset, .unset, .unset, .unset] [(.int p1), (.int (1024 : Int32))]))
      refine own_go (fun _ k => X0.ldcInt hx hown (mvT hZ (hw _ (List.mem_of_getElem? (i := 0) rfl))) (g := (mkF m 32 #[.val (.int p0), .val (.int p1), .val (.long q2), .second, .val (.int p3), .val (.long q4), .second, .val (.int p5), .val (.int zs), .unset, .unset, .unset, .unset, .unset, .unset, .unset, .unset, .unset, .unset, .unset, .unset, .unset, .unset, .unset, .unset, .unset, .unset, .unset, .unset] [(.int p1), (.int (1024 : Int32))])) rfl (hb hby at_32) _ k) ?_
      show own_Ends _ _ _ _ _ _ _ (s₁.setTop (mkF m 34 #[.val (.int p0), .val (.int p1), .val (.long q2), .second, .val (.int p3), .val (.long q4), .second, .val (.int p5), .val (.int zs), .unset, .unset, .unset, .unset, .unset, .unset, .unset, .unset, .unset, .unset, .unset, .unset, .unset, .unset, .unset, .unset, .unset, .unset, .unset, .unset] [(.int (2147483647 : Int32)), (.int p1), (.int (1024 : Int32))]))
      refine own_go (fun _ k => XS.iand X0.here hx rfl (hb hby at_34) rfl k) ?_
      show own_Ends _ _ _ _ _ _ _ (s₁.setTop (mkF m 35 #[.val (.int p0), .val (.int p1), .val (.long q2), .second, .val (.int p3), .val (.long q4), .second, .val (.int p5), .val (.int zs), .unset, .unset, .unset, .unset, .unset, .unset, .unset, .unset, .unset, .unset, .unset, .unset, .unset, .unset, .unset, .unset, .unset, .unset, .unset, .unset] [(.int (p1 &&& (2147483647 : Int32))), (.int (1024 : Int32))]))
      refine own_go (fun _ k => XS.sipush X0.here hx rfl (hb hby at_35) k) ?_
      show own_Ends _ _ _ _ _ _ _ (s₁.setTop (mkF m 38 #[.val (.int p0), .val (.int p1), .val (.long q2), .second, .val (.int p3), .val (.long q4), .second, .val (.int p5), .val (.int zs), .unset, .unset, .unset, .unset, .unset, .unset, .unset, .unset, .unset, .unset, .unset, .unset, .unset, .unset, .unset, .unset, .unset, .unset, .unset, .unset] [(.int (1024 : Int32)), (.int (p1 &&& (2147483647 : Int32))), (.int (1024 : Int32))]))
      refine own_go (fun _ k => iremM X0 hx rfl (hb hby at_38) rfl (by decide) k) ?_
      show own_Ends _ _ _ _ _ _ _ (s₁.setTop (mkF m 39 #[.val (.int p0), .val (.int p1), .val (.long q2), .second, .val (.int p3), .val (.long q4), .second, .val (.int p5), .val (.int zs), .unset, .unset, .unset, .unset, .unset, .unset, .unset, .unset, .unset, .unset, .unset, .unset, .unset, .unset, .unset, .unset, .unset, .unset, .unset, .unset] [(.int ((p1 &&& (2147483647 : Int32)) % (1024 : Int32))), (.int (1024 : Int32))]))
      refine own_go (fun _ k => XS.iadd X0.here hx rfl (hb hby at_39) rfl k) ?_
      show own_Ends _ _ _ _ _ _ _ (s₁.setTop (mkF m 40 #[.val (.int p0), .val (.int p1), .val (.long q2), .second, .val (.int p3), .val (.long q4), .second, .val (.int p5), .val (.int zs), .unset, .unset, .unset, .unset, .unset, .unset, .unset, .unset, .unset, .unset, .unset, .unset, .unset, .unset, .unset, .unset, .unset, .unset, .unset, .unset] [(.int ((1024 : Int32) + ((p1 &&& (2147483647 : Int32)) % (1024 : Int32))))]))
      refine own_go (fun _ k => XS.i2l X0.here hx rfl (hb hby at_40) rfl k) ?_
      show own_Ends _ _ _ _ _ _ _ (s₁.setTop (mkF m 41 #[.val (.int p0), .val (.int p1), .val (.long q2), .second, .val (.int p3), .val (.long q4), .second, .val (.int p5), .val (.int zs), .unset, .unset, .unset, .unset, .unset, .unset, .unset, .unset, .unset, .unset, .unset, .unset, .unset, .unset, .unset, .unset, .unset, .unset, .unset, .unset] [(.long (((1024 : Int32) + ((p1 &&& (2147483647 : Int32)) % (1024 : Int32))).toInt64))]))
      refine own_go (fun _ k => XS.lstore X0.here hx rfl (hb hby at_41) rfl (l' := #[.val (.int p0), .val (.int p1), .val (.long q2), .second, .val (.int p3), .val (.long q4), .second, .val (.int p5), .val (.int zs), .val (.long (((1024 : Int32) + ((p1 &&& (2147483647 : Int32)) % (1024 : Int32))).toInt64)), .second, .unset, .unset, .unset, .unset, .unset, .unset, .unset, .unset, .unset, .unset, .unset, .unset, .unset, .unset, .unset, .unset, .unset, .unset]) rfl k) ?_
      exact hj2 _ ((if_neg hc3)).symm
  intro z1 hz1
  show own_Ends _ _ _ _ _ _ _ (s₁.setTop (mkF m 43 #[.val (.int p0), .val (.int p1), .val (.long q2), .second, .val (.int p3), .val (.long q4), .second, .val (.int p5), .val (.int zs), .val (.long z1), .second, .unset, .unset, .unset, .unset, .unset, .unset, .unset, .unset, .unset, .unset, .unset, .unset, .unset, .unset, .unset, .unset, .unset, .unset] []))
  refine own_go (fun _ k => XS.lconst X0.here hx rfl (hb hby at_43) k) ?_
  show own_Ends _ _ _ _ _ _ _ (s₁.setTop (mkF m 44 #[.val (.int p0), .val (.int p1), .val (.long q2), .second, .val (.int p3), .val (.long q4), .second, .val (.int p5), .val (.int zs), .val (.long z1), .second, .unset, .unset, .unset, .unset, .unset, .unset, .unset, .unset, .unset, .unset, .unset, .unset, .unset, .unset, .unset, .unset, .unset, .unset] [(.long (1 : Int64))]))
  refine own_go (fun _ k => XS.iload X0.here hx rfl (hb hby at_44) rfl k) ?_
  show own_Ends _ _ _ _ _ _ _ (s₁.setTop (mkF m 46 #[.val (.int p0), .val (.int p1), .val (.long q2), .second, .val (.int p3), .val (.long q4), .second, .val (.int p5), .val (.int zs), .val (.long z1), .second, .unset, .unset, .unset, .unset, .unset, .unset, .unset, .unset, .unset, .unset, .unset, .unset, .unset, .unset, .unset, .unset, .unset, .unset] [(.int zs), (.long (1 : Int64))]))
  refine own_go (fun _ k => XS.lshl X0.here hx rfl (hb hby at_46) rfl k) ?_
  show own_Ends _ _ _ _ _ _ _ (s₁.setTop (mkF m 47 #[.val (.int p0), .val (.int p1), .val (.long q2), .second, .val (.int p3), .val (.long q4), .second, .val (.int p5), .val (.int zs), .val (.long z1), .second, .unset, .unset, .unset, .unset, .unset, .unset, .unset, .unset, .unset, .unset, .unset, .unset, .unset, .unset, .unset, .unset, .unset, .unset] [(.long ((1 : Int64) <<< (zs &&& 0x3f).toInt64))]))
  refine own_go (fun _ k => XS.lstore X0.here hx rfl (hb hby at_47) rfl (l' := #[.val (.int p0), .val (.int p1), .val (.long q2), .second, .val (.int p3), .val (.long q4), .second, .val (.int p5), .val (.int zs), .val (.long z1), .second, .val (.long ((1 : Int64) <<< (zs &&& 0x3f).toInt64)), .second, .unset, .unset, .unset, .unset, .unset, .unset, .unset, .unset, .unset, .unset, .unset, .unset, .unset, .unset, .unset, .unset]) rfl k) ?_
  suffices hjzw : ∀ zw : Int64, zw = ((1 : Int64) <<< (zs &&& 0x3f).toInt64) → own_Ends p e below s (Q0 Z p0 p1 q2 p3 q4 p5 h0 n0) 16 110720 (s₁.setTop (mkF m 49 #[.val (.int p0), .val (.int p1), .val (.long q2), .second, .val (.int p3), .val (.long q4), .second, .val (.int p5), .val (.int zs), .val (.long z1), .second, .val (.long zw), .second, .unset, .unset, .unset, .unset, .unset, .unset, .unset, .unset, .unset, .unset, .unset, .unset, .unset, .unset, .unset, .unset] [])) by exact hjzw _ rfl
  intro zw hzw
  show own_Ends _ _ _ _ _ _ _ (s₁.setTop (mkF m 49 #[.val (.int p0), .val (.int p1), .val (.long q2), .second, .val (.int p3), .val (.long q4), .second, .val (.int p5), .val (.int zs), .val (.long z1), .second, .val (.long zw), .second, .unset, .unset, .unset, .unset, .unset, .unset, .unset, .unset, .unset, .unset, .unset, .unset, .unset, .unset, .unset, .unset] []))
  refine own_go (fun _ k => XS.lloadN X0.here hx rfl (hb hby at_49) rfl k) ?_
  show own_Ends _ _ _ _ _ _ _ (s₁.setTop (mkF m 50 #[.val (.int p0), .val (.int p1), .val (.long q2), .second, .val (.int p3), .val (.long q4), .second, .val (.int p5), .val (.int zs), .val (.long z1), .second, .val (.long zw), .second, .unset, .unset, .unset, .unset, .unset, .unset, .unset, .unset, .unset, .unset, .unset, .unset, .unset, .unset, .unset, .unset] [(.long q2)]))
  refine own_go (fun _ k => X0.ldc2Long hx hown (mvT hZ (hw _ (List.mem_of_getElem? (i := 1) rfl))) (g := (mkF m 50 #[.val (.int p0), .val (.int p1), .val (.long q2), .second, .val (.int p3), .val (.long q4), .second, .val (.int p5), .val (.int zs), .val (.long z1), .second, .val (.long zw), .second, .unset, .unset, .unset, .unset, .unset, .unset, .unset, .unset, .unset, .unset, .unset, .unset, .unset, .unset, .unset, .unset] [(.long q2)])) rfl (hb hby at_50) _ k) ?_
  show own_Ends _ _ _ _ _ _ _ (s₁.setTop (mkF m 53 #[.val (.int p0), .val (.int p1), .val (.long q2), .second, .val (.int p3), .val (.long q4), .second, .val (.int p5), .val (.int zs), .val (.long z1), .second, .val (.long zw), .second, .unset, .unset, .unset, .unset, .unset, .unset, .unset, .unset, .unset, .unset, .unset, .unset, .unset, .unset, .unset, .unset] [(.long (9223372036854775807 : Int64)), (.long q2)]))
  refine own_go (fun _ k => XS.land X0.here hx rfl (hb hby at_53) rfl k) ?_
  show own_Ends _ _ _ _ _ _ _ (s₁.setTop (mkF m 54 #[.val (.int p0), .val (.int p1), .val (.long q2), .second, .val (.int p3), .val (.long q4), .second, .val (.int p5), .val (.int zs), .val (.long z1), .second, .val (.long zw), .second, .unset, .unset, .unset, .unset, .unset, .unset, .unset, .unset, .unset, .unset, .unset, .unset, .unset, .unset, .unset, .unset] [(.long (q2 &&& (9223372036854775807 : Int64)))]))
  refine own_go (fun _ k => XS.lload X0.here hx rfl (hb hby at_54) rfl k) ?_
  show own_Ends _ _ _ _ _ _ _ (s₁.setTop (mkF m 56 #[.val (.int p0), .val (.int p1), .val (.long q2), .second, .val (.int p3), .val (.long q4), .second, .val (.int p5), .val (.int zs), .val (.long z1), .second, .val (.long zw), .second, .unset, .unset, .unset, .unset, .unset, .unset, .unset, .unset, .unset, .unset, .unset, .unset, .unset, .unset, .unset, .unset] [(.long zw), (.long (q2 &&& (9223372036854775807 : Int64)))]))
  refine own_go (fun _ k => XS.lrem X0.here hx rfl (hb hby at_56) rfl (own_wnz hzs hzw) k) ?_
  show own_Ends _ _ _ _ _ _ _ (s₁.setTop (mkF m 57 #[.val (.int p0), .val (.int p1), .val (.long q2), .second, .val (.int p3), .val (.long q4), .second, .val (.int p5), .val (.int zs), .val (.long z1), .second, .val (.long zw), .second, .unset, .unset, .unset, .unset, .unset, .unset, .unset, .unset, .unset, .unset, .unset, .unset, .unset, .unset, .unset, .unset] [(.long ((q2 &&& (9223372036854775807 : Int64)) - ((q2 &&& (9223372036854775807 : Int64)) / zw) * zw))]))
  refine own_go (fun _ k => XS.lstore X0.here hx rfl (hb hby at_57) rfl (l' := #[.val (.int p0), .val (.int p1), .val (.long q2), .second, .val (.int p3), .val (.long q4), .second, .val (.int p5), .val (.int zs), .val (.long z1), .second, .val (.long zw), .second, .val (.long ((q2 &&& (9223372036854775807 : Int64)) - ((q2 &&& (9223372036854775807 : Int64)) / zw) * zw)), .second, .unset, .unset, .unset, .unset, .unset, .unset, .unset, .unset, .unset, .unset, .unset, .unset, .unset, .unset]) rfl k) ?_
  suffices hjzo : ∀ zo : Int64, zo = ((q2 &&& (9223372036854775807 : Int64)) - ((q2 &&& (9223372036854775807 : Int64)) / zw) * zw) → own_Ends p e below s (Q0 Z p0 p1 q2 p3 q4 p5 h0 n0) 16 110720 (s₁.setTop (mkF m 59 #[.val (.int p0), .val (.int p1), .val (.long q2), .second, .val (.int p3), .val (.long q4), .second, .val (.int p5), .val (.int zs), .val (.long z1), .second, .val (.long zw), .second, .val (.long zo), .second, .unset, .unset, .unset, .unset, .unset, .unset, .unset, .unset, .unset, .unset, .unset, .unset, .unset, .unset] [])) by exact hjzo _ rfl
  intro zo hzo
  show own_Ends _ _ _ _ _ _ _ (s₁.setTop (mkF m 59 #[.val (.int p0), .val (.int p1), .val (.long q2), .second, .val (.int p3), .val (.long q4), .second, .val (.int p5), .val (.int zs), .val (.long z1), .second, .val (.long zw), .second, .val (.long zo), .second, .unset, .unset, .unset, .unset, .unset, .unset, .unset, .unset, .unset, .unset, .unset, .unset, .unset, .unset] []))
  refine own_go (fun _ k => XS.lload X0.here hx rfl (hb hby at_59) rfl k) ?_
  show own_Ends _ _ _ _ _ _ _ (s₁.setTop (mkF m 61 #[.val (.int p0), .val (.int p1), .val (.long q2), .second, .val (.int p3), .val (.long q4), .second, .val (.int p5), .val (.int zs), .val (.long z1), .second, .val (.long zw), .second, .val (.long zo), .second, .unset, .unset, .unset, .unset, .unset, .unset, .unset, .unset, .unset, .unset, .unset, .unset, .unset, .unset] [(.long z1)]))
  refine own_go (fun _ k => XS.iload X0.here hx rfl (hb hby at_61) rfl k) ?_
  show own_Ends _ _ _ _ _ _ _ (s₁.setTop (mkF m 63 #[.val (.int p0), .val (.int p1), .val (.long q2), .second, .val (.int p3), .val (.long q4), .second, .val (.int p5), .val (.int zs), .val (.long z1), .second, .val (.long zw), .second, .val (.long zo), .second, .unset, .unset, .unset, .unset, .unset, .unset, .unset, .unset, .unset, .unset, .unset, .unset, .unset, .unset] [(.int zs), (.long z1)]))
  refine own_go (fun _ k => XS.lshl X0.here hx rfl (hb hby at_63) rfl k) ?_
  show own_Ends _ _ _ _ _ _ _ (s₁.setTop (mkF m 64 #[.val (.int p0), .val (.int p1), .val (.long q2), .second, .val (.int p3), .val (.long q4), .second, .val (.int p5), .val (.int zs), .val (.long z1), .second, .val (.long zw), .second, .val (.long zo), .second, .unset, .unset, .unset, .unset, .unset, .unset, .unset, .unset, .unset, .unset, .unset, .unset, .unset, .unset] [(.long (z1 <<< (zs &&& 0x3f).toInt64))]))
  refine own_go (fun _ k => XS.lload X0.here hx rfl (hb hby at_64) rfl k) ?_
  show own_Ends _ _ _ _ _ _ _ (s₁.setTop (mkF m 66 #[.val (.int p0), .val (.int p1), .val (.long q2), .second, .val (.int p3), .val (.long q4), .second, .val (.int p5), .val (.int zs), .val (.long z1), .second, .val (.long zw), .second, .val (.long zo), .second, .unset, .unset, .unset, .unset, .unset, .unset, .unset, .unset, .unset, .unset, .unset, .unset, .unset, .unset] [(.long zo), (.long (z1 <<< (zs &&& 0x3f).toInt64))]))
  refine own_go (fun _ k => XS.ladd X0.here hx rfl (hb hby at_66) rfl k) ?_
  show own_Ends _ _ _ _ _ _ _ (s₁.setTop (mkF m 67 #[.val (.int p0), .val (.int p1), .val (.long q2), .second, .val (.int p3), .val (.long q4), .second, .val (.int p5), .val (.int zs), .val (.long z1), .second, .val (.long zw), .second, .val (.long zo), .second, .unset, .unset, .unset, .unset, .unset, .unset, .unset, .unset, .unset, .unset, .unset, .unset, .unset, .unset] [(.long ((z1 <<< (zs &&& 0x3f).toInt64) + zo))]))
  refine own_go (fun _ k => XS.lstore X0.here hx rfl (hb hby at_67) rfl (l' := #[.val (.int p0), .val (.int p1), .val (.long q2), .second, .val (.int p3), .val (.long q4), .second, .val (.int p5), .val (.int zs), .val (.long z1), .second, .val (.long zw), .second, .val (.long zo), .second, .val (.long ((z1 <<< (zs &&& 0x3f).toInt64) + zo)), .second, .unset, .unset, .unset, .unset, .unset, .unset, .unset, .unset, .unset, .unset, .unset, .unset]) rfl k) ?_
  suffices hjzu : ∀ zu : Int64, zu = ((z1 <<< (zs &&& 0x3f).toInt64) + zo) → own_Ends p e below s (Q0 Z p0 p1 q2 p3 q4 p5 h0 n0) 16 110720 (s₁.setTop (mkF m 69 #[.val (.int p0), .val (.int p1), .val (.long q2), .second, .val (.int p3), .val (.long q4), .second, .val (.int p5), .val (.int zs), .val (.long z1), .second, .val (.long zw), .second, .val (.long zo), .second, .val (.long zu), .second, .unset, .unset, .unset, .unset, .unset, .unset, .unset, .unset, .unset, .unset, .unset, .unset] [])) by exact hjzu _ rfl
  intro zu hzu
  show own_Ends _ _ _ _ _ _ _ (s₁.setTop (mkF m 69 #[.val (.int p0), .val (.int p1), .val (.long q2), .second, .val (.int p3), .val (.long q4), .second, .val (.int p5), .val (.int zs), .val (.long z1), .second, .val (.long zw), .second, .val (.long zo), .second, .val (.long zu), .second, .unset, .unset, .unset, .unset, .unset, .unset, .unset, .unset, .unset, .unset, .unset, .unset] []))
  refine own_go (fun _ k => XS.lload X0.here hx rfl (hb hby at_69) rfl k) ?_
  show own_Ends _ _ _ _ _ _ _ (s₁.setTop (mkF m 71 #[.val (.int p0), .val (.int p1), .val (.long q2), .second, .val (.int p3), .val (.long q4), .second, .val (.int p5), .val (.int zs), .val (.long z1), .second, .val (.long zw), .second, .val (.long zo), .second, .val (.long zu), .second, .unset, .unset, .unset, .unset, .unset, .unset, .unset, .unset, .unset, .unset, .unset, .unset] [(.long zu)]))
  refine own_go (fun _ k => X0.ldc2Long hx hown (mvT hZ (hw _ (List.mem_of_getElem? (i := 2) rfl))) (g := (mkF m 71 #[.val (.int p0), .val (.int p1), .val (.long q2), .second, .val (.int p3), .val (.long q4), .second, .val (.int p5), .val (.int zs), .val (.long z1), .second, .val (.long zw), .second, .val (.long zo), .second, .val (.long zu), .second, .unset, .unset, .unset, .unset, .unset, .unset, .unset, .unset, .unset, .unset, .unset, .unset] [(.long zu)])) rfl (hb hby at_71) _ k) ?_
  show own_Ends _ _ _ _ _ _ _ (s₁.setTop (mkF m 74 #[.val (.int p0), .val (.int p1), .val (.long q2), .second, .val (.int p3), .val (.long q4), .second, .val (.int p5), .val (.int zs), .val (.long z1), .second, .val (.long zw), .second, .val (.long zo), .second, .val (.long zu), .second, .unset, .unset, .unset, .unset, .unset, .unset, .unset, .unset, .unset, .unset, .unset, .unset] [(.long (9223372036854774 : Int64)), (.long zu)]))
  refine own_go (fun _ k => XS.lcmp X0.here hx rfl (hb hby at_74) rfl k) ?_
  show own_Ends _ _ _ _ _ _ _ (s₁.setTop (mkF m 75 #[.val (.int p0), .val (.int p1), .val (.long q2), .second, .val (.int p3), .val (.long q4), .second, .val (.int p5), .val (.int zs), .val (.long z1), .second, .val (.long zw), .second, .val (.long zo), .second, .val (.long zu), .second, .unset, .unset, .unset, .unset, .unset, .unset, .unset, .unset, .unset, .unset, .unset, .unset] [(.int (lcmpW zu (9223372036854774 : Int64)))]))
  by_cases hc4 : (0 : Int32) < (lcmpW zu (9223372036854774 : Int64))
  · refine own_go (fun _ k => XS.ifNo X0.here hx rfl (hb hby at_75) rfl ((if0 _ _).trans (tlt hc4).2.2.2) k) ?_
    show own_Ends _ _ _ _ _ _ _ (s₁.setTop (mkF m 78 #[.val (.int p0), .val (.int p1), .val (.long q2), .second, .val (.int p3), .val (.long q4), .second, .val (.int p5), .val (.int zs), .val (.long z1), .second, .val (.long zw), .second, .val (.long zo), .second, .val (.long zu), .second, .unset, .unset, .unset, .unset, .unset, .unset, .unset, .unset, .unset, .unset, .unset, .unset] []))
    refine own_go (fun _ k => XS.iconst X0.here hx rfl (hb hby at_78) k) ?_
    show own_Ends _ _ _ _ _ _ _ (s₁.setTop (mkF m 79 #[.val (.int p0), .val (.int p1), .val (.long q2), .second, .val (.int p3), .val (.long q4), .second, .val (.int p5), .val (.int zs), .val (.long z1), .second, .val (.long zw), .second, .val (.long zo), .second, .val (.long zu), .second, .unset, .unset, .unset, .unset, .unset, .unset, .unset, .unset, .unset, .unset, .unset, .unset] [(.int (1 : Int32))]))
    exact own_retN X0 hx hlk (t := .boolean) Bd.returns (by simp) (hb hby at_79) (by decide) (by decide) ⟨rfl, N0⟩
  · refine own_go (fun _ k => XS.ifYes X0.here hx rfl (pc0 := 75) (pc' := 80) rfl (hb hby at_75) rfl ((if0 _ _).trans (flt hc4).2.2.2) (by decide) (by decide) k) ?_
    show own_Ends _ _ _ _ _ _ _ (s₁.setTop (mkF m 80 #[.val (.int p0), .val (.int p1), .val (.long q2), .second, .val (.int p3), .val (.long q4), .second, .val (.int p5), .val (.int zs), .val (.long z1), .second, .val (.long zw), .second, .val (.long zo), .second, .val (.long zu), .second, .unset, .unset, .unset, .unset, .unset, .unset, .unset, .unset, .unset, .unset, .unset, .unset] []))
    refine own_go (fun _ k => XS.iload X0.here hx rfl (hb hby at_80) rfl k) ?_
    show own_Ends _ _ _ _ _ _ _ (s₁.setTop (mkF m 82 #[.val (.int p0), .val (.int p1), .val (.long q2), .second, .val (.int p3), .val (.long q4), .second, .val (.int p5), .val (.int zs), .val (.long z1), .second, .val (.long zw), .second, .val (.long zo), .second, .val (.long zu), .second, .unset, .unset, .unset, .unset, .unset, .unset, .unset, .unset, .unset, .unset, .unset, .unset] [(.int p3)]))
    refine own_go (fun _ k => X0.ldcInt hx hown (mvT hZ (hw _ (List.mem_of_getElem? (i := 0) rfl))) (g := (mkF m 82 #[.val (.int p0), .val (.int p1), .val (.long q2), .second, .val (.int p3), .val (.long q4), .second, .val (.int p5), .val (.int zs), .val (.long z1), .second, .val (.long zw), .second, .val (.long zo), .second, .val (.long zu), .second, .unset, .unset, .unset, .unset, .unset, .unset, .unset, .unset, .unset, .unset, .unset, .unset] [(.int p3)])) rfl (hb hby at_82) _ k) ?_
    show own_Ends _ _ _ _ _ _ _ (s₁.setTop (mkF m 84 #[.val (.int p0), .val (.int p1), .val (.long q2), .second, .val (.int p3), .val (.long q4), .second, .val (.int p5), .val (.int zs), .val (.long z1), .second, .val (.long zw), .second, .val (.long zo), .second, .val (.long zu), .second, .unset, .unset, .unset, .unset, .unset, .unset, .unset, .unset, .unset, .unset, .unset, .unset] [(.int (2147483647 : Int32)), (.int p3)]))
    refine own_go (fun _ k => XS.iand X0.here hx rfl (hb hby at_84) rfl k) ?_
    show own_Ends _ _ _ _ _ _ _ (s₁.setTop (mkF m 85 #[.val (.int p0), .val (.int p1), .val (.long q2), .second, .val (.int p3), .val (.long q4), .second, .val (.int p5), .val (.int zs), .val (.long z1), .second, .val (.long zw), .second, .val (.long zo), .second, .val (.long zu), .second, .unset, .unset, .unset, .unset, .unset, .unset, .unset, .unset, .unset, .unset, .unset, .unset] [(.int (p3 &&& (2147483647 : Int32)))]))
    refine own_go (fun _ k => XS.sipush X0.here hx rfl (hb hby at_85) k) ?_
    show own_Ends _ _ _ _ _ _ _ (s₁.setTop (mkF m 88 #[.val (.int p0), .val (.int p1), .val (.long q2), .second, .val (.int p3), .val (.long q4), .second, .val (.int p5), .val (.int zs), .val (.long z1), .second, .val (.long zw), .second, .val (.long zo), .second, .val (.long zu), .second, .unset, .unset, .unset, .unset, .unset, .unset, .unset, .unset, .unset, .unset, .unset, .unset] [(.int (1000 : Int32)), (.int (p3 &&& (2147483647 : Int32)))]))
    refine own_go (fun _ k => iremM X0 hx rfl (hb hby at_88) rfl (by decide) k) ?_
    show own_Ends _ _ _ _ _ _ _ (s₁.setTop (mkF m 89 #[.val (.int p0), .val (.int p1), .val (.long q2), .second, .val (.int p3), .val (.long q4), .second, .val (.int p5), .val (.int zs), .val (.long z1), .second, .val (.long zw), .second, .val (.long zo), .second, .val (.long zu), .second, .unset, .unset, .unset, .unset, .unset, .unset, .unset, .unset, .unset, .unset, .unset, .unset] [(.int ((p3 &&& (2147483647 : Int32)) % (1000 : Int32)))]))
    refine own_go (fun _ k => XS.sipush X0.here hx rfl (hb hby at_89) k) ?_
    show own_Ends _ _ _ _ _ _ _ (s₁.setTop (mkF m 92 #[.val (.int p0), .val (.int p1), .val (.long q2), .second, .val (.int p3), .val (.long q4), .second, .val (.int p5), .val (.int zs), .val (.long z1), .second, .val (.long zw), .second, .val (.long zo), .second, .val (.long zu), .second, .unset, .unset, .unset, .unset, .unset, .unset, .unset, .unset, .unset, .unset, .unset, .unset] [(.int (500 : Int32)), (.int ((p3 &&& (2147483647 : Int32)) % (1000 : Int32)))]))
    refine own_go (fun _ k => XS.isub X0.here hx rfl (hb hby at_92) rfl k) ?_
    show own_Ends _ _ _ _ _ _ _ (s₁.setTop (mkF m 93 #[.val (.int p0), .val (.int p1), .val (.long q2), .second, .val (.int p3), .val (.long q4), .second, .val (.int p5), .val (.int zs), .val (.long z1), .second, .val (.long zw), .second, .val (.long zo), .second, .val (.long zu), .second, .unset, .unset, .unset, .unset, .unset, .unset, .unset, .unset, .unset, .unset, .unset, .unset] [(.int (((p3 &&& (2147483647 : Int32)) % (1000 : Int32)) - (500 : Int32)))]))
    refine own_go (fun _ k => XS.i2l X0.here hx rfl (hb hby at_93) rfl k) ?_
    show own_Ends _ _ _ _ _ _ _ (s₁.setTop (mkF m 94 #[.val (.int p0), .val (.int p1), .val (.long q2), .second, .val (.int p3), .val (.long q4), .second, .val (.int p5), .val (.int zs), .val (.long z1), .second, .val (.long zw), .second, .val (.long zo), .second, .val (.long zu), .second, .unset, .unset, .unset, .unset, .unset, .unset, .unset, .unset, .unset, .unset, .unset, .unset] [(.long ((((p3 &&& (2147483647 : Int32)) % (1000 : Int32)) - (500 : Int32)).toInt64))]))
    refine own_go (fun _ k => XS.lstore X0.here hx rfl (hb hby at_94) rfl (l' := #[.val (.int p0), .val (.int p1), .val (.long q2), .second, .val (.int p3), .val (.long q4), .second, .val (.int p5), .val (.int zs), .val (.long z1), .second, .val (.long zw), .second, .val (.long zo), .second, .val (.long zu), .second, .val (.long ((((p3 &&& (2147483647 : Int32)) % (1000 : Int32)) - (500 : Int32)).toInt64)), .second, .unset, .unset, .unset, .unset, .unset, .unset, .unset, .unset, .unset, .unset]) rfl k) ?_
    suffices hjzd : ∀ zd : Int64, zd = ((((p3 &&& (2147483647 : Int32)) % (1000 : Int32)) - (500 : Int32)).toInt64) → own_Ends p e below s (Q0 Z p0 p1 q2 p3 q4 p5 h0 n0) 16 110720 (s₁.setTop (mkF m 96 #[.val (.int p0), .val (.int p1), .val (.long q2), .second, .val (.int p3), .val (.long q4), .second, .val (.int p5), .val (.int zs), .val (.long z1), .second, .val (.long zw), .second, .val (.long zo), .second, .val (.long zu), .second, .val (.long zd), .second, .unset, .unset, .unset, .unset, .unset, .unset, .unset, .unset, .unset, .unset] [])) by exact hjzd _ rfl
    intro zd hzd
    show own_Ends _ _ _ _ _ _ _ (s₁.setTop (mkF m 96 #[.val (.int p0), .val (.int p1), .val (.long q2), .second, .val (.int p3), .val (.long q4), .second, .val (.int p5), .val (.int zs), .val (.long z1), .second, .val (.long zw), .second, .val (.long zo), .second, .val (.long zu), .second, .val (.long zd), .second, .unset, .unset, .unset, .unset, .unset, .unset, .unset, .unset, .unset, .unset] []))
    refine own_go (fun _ k => XS.lload X0.here hx rfl (hb hby at_96) rfl k) ?_
    show own_Ends _ _ _ _ _ _ _ (s₁.setTop (mkF m 98 #[.val (.int p0), .val (.int p1), .val (.long q2), .second, .val (.int p3), .val (.long q4), .second, .val (.int p5), .val (.int zs), .val (.long z1), .second, .val (.long zw), .second, .val (.long zo), .second, .val (.long zu), .second, .val (.long zd), .second, .unset, .unset, .unset, .unset, .unset, .unset, .unset, .unset, .unset, .unset] [(.long zu)]))
    refine own_go (fun _ k => X0.ldc2Long hx hown (mvT hZ (hw _ (List.mem_of_getElem? (i := 3) rfl))) (g := (mkF m 98 #[.val (.int p0), .val (.int p1), .val (.long q2), .second, .val (.int p3), .val (.long q4), .second, .val (.int p5), .val (.int zs), .val (.long z1), .second, .val (.long zw), .second, .val (.long zo), .second, .val (.long zu), .second, .val (.long zd), .second, .unset, .unset, .unset, .unset, .unset, .unset, .unset, .unset, .unset, .unset] [(.long zu)])) rfl (hb hby at_98) _ k) ?_
    show own_Ends _ _ _ _ _ _ _ (s₁.setTop (mkF m 101 #[.val (.int p0), .val (.int p1), .val (.long q2), .second, .val (.int p3), .val (.long q4), .second, .val (.int p5), .val (.int zs), .val (.long z1), .second, .val (.long zw), .second, .val (.long zo), .second, .val (.long zu), .second, .val (.long zd), .second, .unset, .unset, .unset, .unset, .unset, .unset, .unset, .unset, .unset, .unset] [(.long (1000 : Int64)), (.long zu)]))
    refine own_go (fun _ k => XS.lmul X0.here hx rfl (hb hby at_101) rfl k) ?_
    show own_Ends _ _ _ _ _ _ _ (s₁.setTop (mkF m 102 #[.val (.int p0), .val (.int p1), .val (.long q2), .second, .val (.int p3), .val (.long q4), .second, .val (.int p5), .val (.int zs), .val (.long z1), .second, .val (.long zw), .second, .val (.long zo), .second, .val (.long zu), .second, .val (.long zd), .second, .unset, .unset, .unset, .unset, .unset, .unset, .unset, .unset, .unset, .unset] [(.long (zu * (1000 : Int64)))]))
    refine own_go (fun _ k => XS.lload X0.here hx rfl (hb hby at_102) rfl k) ?_
    show own_Ends _ _ _ _ _ _ _ (s₁.setTop (mkF m 104 #[.val (.int p0), .val (.int p1), .val (.long q2), .second, .val (.int p3), .val (.long q4), .second, .val (.int p5), .val (.int zs), .val (.long z1), .second, .val (.long zw), .second, .val (.long zo), .second, .val (.long zu), .second, .val (.long zd), .second, .unset, .unset, .unset, .unset, .unset, .unset, .unset, .unset, .unset, .unset] [(.long zd), (.long (zu * (1000 : Int64)))]))
    refine own_go (fun _ k => XS.ladd X0.here hx rfl (hb hby at_104) rfl k) ?_
    show own_Ends _ _ _ _ _ _ _ (s₁.setTop (mkF m 105 #[.val (.int p0), .val (.int p1), .val (.long q2), .second, .val (.int p3), .val (.long q4), .second, .val (.int p5), .val (.int zs), .val (.long z1), .second, .val (.long zw), .second, .val (.long zo), .second, .val (.long zu), .second, .val (.long zd), .second, .unset, .unset, .unset, .unset, .unset, .unset, .unset, .unset, .unset, .unset] [(.long ((zu * (1000 : Int64)) + zd))]))
    refine own_go (fun _ k => XS.lstore X0.here hx rfl (hb hby at_105) rfl (l' := #[.val (.int p0), .val (.int p1), .val (.long q2), .second, .val (.int p3), .val (.long q4), .second, .val (.int p5), .val (.int zs), .val (.long z1), .second, .val (.long zw), .second, .val (.long zo), .second, .val (.long zu), .second, .val (.long zd), .second, .val (.long ((zu * (1000 : Int64)) + zd)), .second, .unset, .unset, .unset, .unset, .unset, .unset, .unset, .unset]) rfl k) ?_
    suffices hjzn : ∀ zn : Int64, zn = ((zu * (1000 : Int64)) + zd) → own_Ends p e below s (Q0 Z p0 p1 q2 p3 q4 p5 h0 n0) 16 110720 (s₁.setTop (mkF m 107 #[.val (.int p0), .val (.int p1), .val (.long q2), .second, .val (.int p3), .val (.long q4), .second, .val (.int p5), .val (.int zs), .val (.long z1), .second, .val (.long zw), .second, .val (.long zo), .second, .val (.long zu), .second, .val (.long zd), .second, .val (.long zn), .second, .unset, .unset, .unset, .unset, .unset, .unset, .unset, .unset] [])) by exact hjzn _ rfl
    intro zn hzn
    show own_Ends _ _ _ _ _ _ _ (s₁.setTop (mkF m 107 #[.val (.int p0), .val (.int p1), .val (.long q2), .second, .val (.int p3), .val (.long q4), .second, .val (.int p5), .val (.int zs), .val (.long z1), .second, .val (.long zw), .second, .val (.long zo), .second, .val (.long zu), .second, .val (.long zd), .second, .val (.long zn), .second, .unset, .unset, .unset, .unset, .unset, .unset, .unset, .unset] []))
    refine own_go (fun _ k => XS.iload X0.here hx rfl (hb hby at_107) rfl k) ?_
    show own_Ends _ _ _ _ _ _ _ (s₁.setTop (mkF m 109 #[.val (.int p0), .val (.int p1), .val (.long q2), .second, .val (.int p3), .val (.long q4), .second, .val (.int p5), .val (.int zs), .val (.long z1), .second, .val (.long zw), .second, .val (.long zo), .second, .val (.long zu), .second, .val (.long zd), .second, .val (.long zn), .second, .unset, .unset, .unset, .unset, .unset, .unset, .unset, .unset] [(.int p5)]))
    refine own_go (fun _ k => XS.iconst X0.here hx rfl (hb hby at_109) k) ?_
    show own_Ends _ _ _ _ _ _ _ (s₁.setTop (mkF m 110 #[.val (.int p0), .val (.int p1), .val (.long q2), .second, .val (.int p3), .val (.long q4), .second, .val (.int p5), .val (.int zs), .val (.long z1), .second, .val (.long zw), .second, .val (.long zo), .second, .val (.long zu), .second, .val (.long zd), .second, .val (.long zn), .second, .unset, .unset, .unset, .unset, .unset, .unset, .unset, .unset] [(.int (1 : Int32)), (.int p5)]))
    refine own_go (fun _ k => XS.iand X0.here hx rfl (hb hby at_110) rfl k) ?_
    show own_Ends _ _ _ _ _ _ _ (s₁.setTop (mkF m 111 #[.val (.int p0), .val (.int p1), .val (.long q2), .second, .val (.int p3), .val (.long q4), .second, .val (.int p5), .val (.int zs), .val (.long z1), .second, .val (.long zw), .second, .val (.long zo), .second, .val (.long zu), .second, .val (.long zd), .second, .val (.long zn), .second, .unset, .unset, .unset, .unset, .unset, .unset, .unset, .unset] [(.int (p5 &&& (1 : Int32)))]))
    suffices hj6 : ∀ z5 : Int32, z5 = (if (p5 &&& (1 : Int32)) = (0 : Int32) then (0 : Int32) else (1 : Int32)) → own_Ends p e below s (Q0 Z p0 p1 q2 p3 q4 p5 h0 n0) 16 110720 (s₁.setTop (mkF m 119 #[.val (.int p0), .val (.int p1), .val (.long q2), .second, .val (.int p3), .val (.long q4), .second, .val (.int p5), .val (.int zs), .val (.long z1), .second, .val (.long zw), .second, .val (.long zo), .second, .val (.long zu), .second, .val (.long zd), .second, .val (.long zn), .second, .unset, .unset, .unset, .unset, .unset, .unset, .unset, .unset] [(.int z5)])) by
      show own_Ends _ _ _ _ _ _ _ (s₁.setTop (mkF m 111 #[.val (.int p0), .val (.int p1), .val (.long q2), .second, .val (.int p3), .val (.long q4), .second, .val (.int p5), .val (.int zs), .val (.long z1), .second, .val (.long zw), .second, .val (.long zo), .second, .val (.long zu), .second, .val (.long zd), .second, .val (.long zn), .second, .unset, .unset, .unset, .unset, .unset, .unset, .unset, .unset] [(.int (p5 &&& (1 : Int32)))]))
      by_cases hc7 : (p5 &&& (1 : Int32)) = (0 : Int32)
      · refine own_go (fun _ k => XS.ifYes X0.here hx rfl (pc0 := 111) (pc' := 118) rfl (hb hby at_111) rfl ((if0 _ _).trans (teq hc7).1) (by decide) (by decide) k) ?_
        show own_Ends _ _ _ _ _ _ _ (s₁.setTop (mkF m 118 #[.val (.int p0), .val (.int p1), .val (.long q2), .second, .val (.int p3), .val (.long q4), .second, .val (.int p5), .val (.int zs), .val (.long z1), .second, .val (.long zw), .second, .val (.long zo), .second, .val (.long zu), .second, .val (.long zd), .second, .val (.long zn), .second, .unset, .unset, .unset, .unset, .unset, .unset, .unset, .unset] []))
        refine own_go (fun _ k => XS.iconst X0.here hx rfl (hb hby at_118) k) ?_
        exact hj6 _ ((if_pos hc7)).symm
      · refine own_go (fun _ k => XS.ifNo X0.here hx rfl (hb hby at_111) rfl ((if0 _ _).trans (feq hc7).1) k) ?_
        show own_Ends _ _ _ _ _ _ _ (s₁.setTop (mkF m 114 #[.val (.int p0), .val (.int p1), .val (.long q2), .second, .val (.int p3), .val (.long q4), .second, .val (.int p5), .val (.int zs), .val (.long z1), .second, .val (.long zw), .second, .val (.long zo), .second, .val (.long zu), .second, .val (.long zd), .second, .val (.long zn), .second, .unset, .unset, .unset, .unset, .unset, .unset, .unset, .unset] []))
        refine own_go (fun _ k => XS.iconst X0.here hx rfl (hb hby at_114) k) ?_
        show own_Ends _ _ _ _ _ _ _ (s₁.setTop (mkF m 115 #[.val (.int p0), .val (.int p1), .val (.long q2), .second, .val (.int p3), .val (.long q4), .second, .val (.int p5), .val (.int zs), .val (.long z1), .second, .val (.long zw), .second, .val (.long zo), .second, .val (.long zu), .second, .val (.long zd), .second, .val (.long zn), .second, .unset, .unset, .unset, .unset, .unset, .unset, .unset, .unset] [(.int (1 : Int32))]))
        refine own_go (fun _ k => XS.goto X0.here hx rfl (pc0 := 115) (pc' := 119) rfl (hb hby at_115) (by decide) (by decide) k) ?_
        exact hj6 _ ((if_neg hc7)).symm
    intro z5 hz5
    show own_Ends _ _ _ _ _ _ _ (s₁.setTop (mkF m 119 #[.val (.int p0), .val (.int p1), .val (.long q2), .second, .val (.int p3), .val (.long q4), .second, .val (.int p5), .val (.int zs), .val (.long z1), .second, .val (.long zw), .second, .val (.long zo), .second, .val (.long zu), .second, .val (.long zd), .second, .val (.long zn), .second, .unset, .unset, .unset, .unset, .unset, .unset, .unset, .unset] [(.int z5)]))
    refine own_go (fun _ k => XS.istore X0.here hx rfl (hb hby at_119) rfl (l' := #[.val (.int p0), .val (.int p1), .val (.long q2), .second, .val (.int p3), .val (.long q4), .second, .val (.int p5), .val (.int zs), .val (.long z1), .second, .val (.long zw), .second, .val (.long zo), .second, .val (.long zu), .second, .val (.long zd), .second, .val (.long zn), .second, .val (.int z5), .unset, .unset, .unset, .unset, .unset, .unset, .unset]) rfl k) ?_
    show own_Ends _ _ _ _ _ _ _ (s₁.setTop (mkF m 121 #[.val (.int p0), .val (.int p1), .val (.long q2), .second, .val (.int p3), .val (.long q4), .second, .val (.int p5), .val (.int zs), .val (.long z1), .second, .val (.long zw), .second, .val (.long zo), .second, .val (.long zu), .second, .val (.long zd), .second, .val (.long zn), .second, .val (.int z5), .unset, .unset, .unset, .unset, .unset, .unset, .unset] []))
    refine own_go (fun _ k => XS.iload X0.here hx rfl (hb hby at_121) rfl k) ?_
    show own_Ends _ _ _ _ _ _ _ (s₁.setTop (mkF m 123 #[.val (.int p0), .val (.int p1), .val (.long q2), .second, .val (.int p3), .val (.long q4), .second, .val (.int p5), .val (.int zs), .val (.long z1), .second, .val (.long zw), .second, .val (.long zo), .second, .val (.long zu), .second, .val (.long zd), .second, .val (.long zn), .second, .val (.int z5), .unset, .unset, .unset, .unset, .unset, .unset, .unset] [(.int z5)]))
    suffices hj9 : ∀ z8 : Int64, z8 = (if z5 = (0 : Int32) then (q4 ||| (-9223372036854775808 : Int64)) else zn) → own_Ends p e below s (Q0 Z p0 p1 q2 p3 q4 p5 h0 n0) 16 110720 (s₁.setTop (mkF m 137 #[.val (.int p0), .val (.int p1), .val (.long q2), .second, .val (.int p3), .val (.long q4), .second, .val (.int p5), .val (.int zs), .val (.long z1), .second, .val (.long zw), .second, .val (.long zo), .second, .val (.long zu), .second, .val (.long zd), .second, .val (.long zn), .second, .val (.int z5), .unset, .unset, .unset, .unset, .unset, .unset, .unset] [(.long z8)])) by
      show own_Ends _ _ _ _ _ _ _ (s₁.setTop (mkF m 123 #[.val (.int p0), .val (.int p1), .val (.long q2), .second, .val (.int p3), .val (.long q4), .second, .val (.int p5), .val (.int zs), .val (.long z1), .second, .val (.long zw), .second, .val (.long zo), .second, .val (.long zu), .second, .val (.long zd), .second, .val (.long zn), .second, .val (.int z5), .unset, .unset, .unset, .unset, .unset, .unset, .unset] [(.int z5)]))
      by_cases hc10 : z5 = (0 : Int32)
      · refine own_go (fun _ k => XS.ifYes X0.here hx rfl (pc0 := 123) (pc' := 131) rfl (hb hby at_123) rfl ((if0 _ _).trans (teq hc10).1) (by decide) (by decide) k) ?_
        show own_Ends _ _ _ _ _ _ _ (s₁.setTop (mkF m 131 #[.val (.int p0), .val (.int p1), .val (.long q2), .second, .val (.int p3), .val (.long q4), .second, .val (.int p5), .val (.int zs), .val (.long z1), .second, .val (.long zw), .second, .val (.long zo), .second, .val (.long zu), .second, .val (.long zd), .second, .val (.long zn), .second, .val (.int z5), .unset, .unset, .unset, .unset, .unset, .unset, .unset] []))
        refine own_go (fun _ k => XS.lload X0.here hx rfl (hb hby at_131) rfl k) ?_
        show own_Ends _ _ _ _ _ _ _ (s₁.setTop (mkF m 133 #[.val (.int p0), .val (.int p1), .val (.long q2), .second, .val (.int p3), .val (.long q4), .second, .val (.int p5), .val (.int zs), .val (.long z1), .second, .val (.long zw), .second, .val (.long zo), .second, .val (.long zu), .second, .val (.long zd), .second, .val (.long zn), .second, .val (.int z5), .unset, .unset, .unset, .unset, .unset, .unset, .unset] [(.long q4)]))
        refine own_go (fun _ k => X0.ldc2Long hx hown (mvT hZ (hw _ (List.mem_of_getElem? (i := 4) rfl))) (g := (mkF m 133 #[.val (.int p0), .val (.int p1), .val (.long q2), .second, .val (.int p3), .val (.long q4), .second, .val (.int p5), .val (.int zs), .val (.long z1), .second, .val (.long zw), .second, .val (.long zo), .second, .val (.long zu), .second, .val (.long zd), .second, .val (.long zn), .second, .val (.int z5), .unset, .unset, .unset, .unset, .unset, .unset, .unset] [(.long q4)])) rfl (hb hby at_133) _ k) ?_
        show own_Ends _ _ _ _ _ _ _ (s₁.setTop (mkF m 136 #[.val (.int p0), .val (.int p1), .val (.long q2), .second, .val (.int p3), .val (.long q4), .second, .val (.int p5), .val (.int zs), .val (.long z1), .second, .val (.long zw), .second, .val (.long zo), .second, .val (.long zu), .second, .val (.long zd), .second, .val (.long zn), .second, .val (.int z5), .unset, .unset, .unset, .unset, .unset, .unset, .unset] [(.long (-9223372036854775808 : Int64)), (.long q4)]))
        refine own_go (fun _ k => XS.lor X0.here hx rfl (hb hby at_136) rfl k) ?_
        exact hj9 _ ((if_pos hc10)).symm
      · refine own_go (fun _ k => XS.ifNo X0.here hx rfl (hb hby at_123) rfl ((if0 _ _).trans (feq hc10).1) k) ?_
        show own_Ends _ _ _ _ _ _ _ (s₁.setTop (mkF m 126 #[.val (.int p0), .val (.int p1), .val (.long q2), .second, .val (.int p3), .val (.long q4), .second, .val (.int p5), .val (.int zs), .val (.long z1), .second, .val (.long zw), .second, .val (.long zo), .second, .val (.long zu), .second, .val (.long zd), .second, .val (.long zn), .second, .val (.int z5), .unset, .unset, .unset, .unset, .unset, .unset, .unset] []))
        refine own_go (fun _ k => XS.lload X0.here hx rfl (hb hby at_126) rfl k) ?_
        show own_Ends _ _ _ _ _ _ _ (s₁.setTop (mkF m 128 #[.val (.int p0), .val (.int p1), .val (.long q2), .second, .val (.int p3), .val (.long q4), .second, .val (.int p5), .val (.int zs), .val (.long z1), .second, .val (.long zw), .second, .val (.long zo), .second, .val (.long zu), .second, .val (.long zd), .second, .val (.long zn), .second, .val (.int z5), .unset, .unset, .unset, .unset, .unset, .unset, .unset] [(.long zn)]))
        refine own_go (fun _ k => XS.goto X0.here hx rfl (pc0 := 128) (pc' := 137) rfl (hb hby at_128) (by decide) (by decide) k) ?_
        exact hj9 _ ((if_neg hc10)).symm
    intro z8 hz8
    show own_Ends _ _ _ _ _ _ _ (s₁.setTop (mkF m 137 #[.val (.int p0), .val (.int p1), .val (.long q2), .second, .val (.int p3), .val (.long q4), .second, .val (.int p5), .val (.int zs), .val (.long z1), .second, .val (.long zw), .second, .val (.long zo), .second, .val (.long zu), .second, .val (.long zd), .second, .val (.long zn), .second, .val (.int z5), .unset, .unset, .unset, .unset, .unset, .unset, .unset] [(.long z8)]))
    refine own_go (fun _ k => XS.lstore X0.here hx rfl (hb hby at_137) rfl (l' := #[.val (.int p0), .val (.int p1), .val (.long q2), .second, .val (.int p3), .val (.long q4), .second, .val (.int p5), .val (.int zs), .val (.long z1), .second, .val (.long zw), .second, .val (.long zo), .second, .val (.long zu), .second, .val (.long zd), .second, .val (.long zn), .second, .val (.int z5), .val (.long z8), .second, .unset, .unset, .unset, .unset, .unset]) rfl k) ?_
    show own_Ends _ _ _ _ _ _ _ (s₁.setTop (mkF m 139 #[.val (.int p0), .val (.int p1), .val (.long q2), .second, .val (.int p3), .val (.long q4), .second, .val (.int p5), .val (.int zs), .val (.long z1), .second, .val (.long zw), .second, .val (.long zo), .second, .val (.long zu), .second, .val (.long zd), .second, .val (.long zn), .second, .val (.int z5), .val (.long z8), .second, .unset, .unset, .unset, .unset, .unset] []))
    refine own_go (fun _ k => XS.lload X0.here hx rfl (hb hby at_139) rfl k) ?_
    show own_Ends _ _ _ _ _ _ _ (s₁.setTop (mkF m 141 #[.val (.int p0), .val (.int p1), .val (.long q2), .second, .val (.int p3), .val (.long q4), .second, .val (.int p5), .val (.int zs), .val (.long z1), .second, .val (.long zw), .second, .val (.long zo), .second, .val (.long zu), .second, .val (.long zd), .second, .val (.long zn), .second, .val (.int z5), .val (.long z8), .second, .unset, .unset, .unset, .unset, .unset] [(.long z1)]))
    refine own_go (fun _ k => XS.iload X0.here hx rfl (hb hby at_141) rfl k) ?_
    show own_Ends _ _ _ _ _ _ _ (s₁.setTop (mkF m 143 #[.val (.int p0), .val (.int p1), .val (.long q2), .second, .val (.int p3), .val (.long q4), .second, .val (.int p5), .val (.int zs), .val (.long z1), .second, .val (.long zw), .second, .val (.long zo), .second, .val (.long zu), .second, .val (.long zd), .second, .val (.long zn), .second, .val (.int z5), .val (.long z8), .second, .unset, .unset, .unset, .unset, .unset] [(.int zs), (.long z1)]))
    refine own_go (fun _ k => XS.lshl X0.here hx rfl (hb hby at_143) rfl k) ?_
    show own_Ends _ _ _ _ _ _ _ (s₁.setTop (mkF m 144 #[.val (.int p0), .val (.int p1), .val (.long q2), .second, .val (.int p3), .val (.long q4), .second, .val (.int p5), .val (.int zs), .val (.long z1), .second, .val (.long zw), .second, .val (.long zo), .second, .val (.long zu), .second, .val (.long zd), .second, .val (.long zn), .second, .val (.int z5), .val (.long z8), .second, .unset, .unset, .unset, .unset, .unset] [(.long (z1 <<< (zs &&& 0x3f).toInt64))]))
    refine own_go (fun _ k => XS.l2dS X0.here hx rfl (hb hby at_144) rfl rfl k) ?_
    show own_Ends _ _ _ _ _ _ _ (s₁.setTop (mkF m 145 #[.val (.int p0), .val (.int p1), .val (.long q2), .second, .val (.int p3), .val (.long q4), .second, .val (.int p5), .val (.int zs), .val (.long z1), .second, .val (.long zw), .second, .val (.long zo), .second, .val (.long zu), .second, .val (.long zd), .second, .val (.long zn), .second, .val (.int z5), .val (.long z8), .second, .unset, .unset, .unset, .unset, .unset] [(.double (FP.l2d (z1 <<< (zs &&& 0x3f).toInt64)))]))
    refine own_go (fun _ k => XS.lload X0.here hx rfl (hb hby at_145) rfl k) ?_
    show own_Ends _ _ _ _ _ _ _ (s₁.setTop (mkF m 147 #[.val (.int p0), .val (.int p1), .val (.long q2), .second, .val (.int p3), .val (.long q4), .second, .val (.int p5), .val (.int zs), .val (.long z1), .second, .val (.long zw), .second, .val (.long zo), .second, .val (.long zu), .second, .val (.long zd), .second, .val (.long zn), .second, .val (.int z5), .val (.long z8), .second, .unset, .unset, .unset, .unset, .unset] [(.long zw), (.double (FP.l2d (z1 <<< (zs &&& 0x3f).toInt64)))]))
    refine own_go (fun _ k => XS.lconst X0.here hx rfl (hb hby at_147) k) ?_
    show own_Ends _ _ _ _ _ _ _ (s₁.setTop (mkF m 148 #[.val (.int p0), .val (.int p1), .val (.long q2), .second, .val (.int p3), .val (.long q4), .second, .val (.int p5), .val (.int zs), .val (.long z1), .second, .val (.long zw), .second, .val (.long zo), .second, .val (.long zu), .second, .val (.long zd), .second, .val (.long zn), .second, .val (.int z5), .val (.long z8), .second, .unset, .unset, .unset, .unset, .unset] [(.long (1 : Int64)), (.long zw), (.double (FP.l2d (z1 <<< (zs &&& 0x3f).toInt64)))]))
    refine own_go (fun _ k => XS.lsub X0.here hx rfl (hb hby at_148) rfl k) ?_
    show own_Ends _ _ _ _ _ _ _ (s₁.setTop (mkF m 149 #[.val (.int p0), .val (.int p1), .val (.long q2), .second, .val (.int p3), .val (.long q4), .second, .val (.int p5), .val (.int zs), .val (.long z1), .second, .val (.long zw), .second, .val (.long zo), .second, .val (.long zu), .second, .val (.long zd), .second, .val (.long zn), .second, .val (.int z5), .val (.long z8), .second, .unset, .unset, .unset, .unset, .unset] [(.long (zw - (1 : Int64))), (.double (FP.l2d (z1 <<< (zs &&& 0x3f).toInt64)))]))
    refine own_go (fun _ k => XS.l2dS X0.here hx rfl (hb hby at_149) rfl rfl k) ?_
    show own_Ends _ _ _ _ _ _ _ (s₁.setTop (mkF m 150 #[.val (.int p0), .val (.int p1), .val (.long q2), .second, .val (.int p3), .val (.long q4), .second, .val (.int p5), .val (.int zs), .val (.long z1), .second, .val (.long zw), .second, .val (.long zo), .second, .val (.long zu), .second, .val (.long zd), .second, .val (.long zn), .second, .val (.int z5), .val (.long z8), .second, .unset, .unset, .unset, .unset, .unset] [(.double (FP.l2d (zw - (1 : Int64)))), (.double (FP.l2d (z1 <<< (zs &&& 0x3f).toInt64)))]))
    refine own_go (fun _ k => X0.ldc2DoubleC hx hown (mvT hZ (hw _ (List.mem_of_getElem? (i := 5) rfl))) (g := (mkF m 150 #[.val (.int p0), .val (.int p1), .val (.long q2), .second, .val (.int p3), .val (.long q4), .second, .val (.int p5), .val (.int zs), .val (.long z1), .second, .val (.long zw), .second, .val (.long zo), .second, .val (.long zu), .second, .val (.long zd), .second, .val (.long zn), .second, .val (.int z5), .val (.long z8), .second, .unset, .unset, .unset, .unset, .unset] [(.double (FP.l2d (zw - (1 : Int64)))), (.double (FP.l2d (z1 <<< (zs &&& 0x3f).toInt64)))])) rfl (hb hby at_150) _ k) ?_
    show own_Ends _ _ _ _ _ _ _ (s₁.setTop (mkF m 153 #[.val (.int p0), .val (.int p1), .val (.long q2), .second, .val (.int p3), .val (.long q4), .second, .val (.int p5), .val (.int zs), .val (.long z1), .second, .val (.long zw), .second, .val (.long zo), .second, .val (.long zu), .second, .val (.long zd), .second, .val (.long zn), .second, .val (.int z5), .val (.long z8), .second, .unset, .unset, .unset, .unset, .unset] [(.double (4611686018427387904 : UInt64)), (.double (FP.l2d (zw - (1 : Int64)))), (.double (FP.l2d (z1 <<< (zs &&& 0x3f).toInt64)))]))
    refine own_go (fun _ k => XS.ddivS X0.here hx rfl (hb hby at_153) rfl (own_nnh _) rfl k) ?_
    show own_Ends _ _ _ _ _ _ _ (s₁.setTop (mkF m 154 #[.val (.int p0), .val (.int p1), .val (.long q2), .second, .val (.int p3), .val (.long q4), .second, .val (.int p5), .val (.int zs), .val (.long z1), .second, .val (.long zw), .second, .val (.long zo), .second, .val (.long zu), .second, .val (.long zd), .second, .val (.long zn), .second, .val (.int z5), .val (.long z8), .second, .unset, .unset, .unset, .unset, .unset] [(.double (FP.ddiv (FP.l2d (zw - (1 : Int64))) (4611686018427387904 : UInt64))), (.double (FP.l2d (z1 <<< (zs &&& 0x3f).toInt64)))]))
    refine own_go (fun _ k => XS.daddS X0.here hx rfl (hb hby at_154) rfl (own_nnm _ _) rfl k) ?_
    show own_Ends _ _ _ _ _ _ _ (s₁.setTop (mkF m 155 #[.val (.int p0), .val (.int p1), .val (.long q2), .second, .val (.int p3), .val (.long q4), .second, .val (.int p5), .val (.int zs), .val (.long z1), .second, .val (.long zw), .second, .val (.long zo), .second, .val (.long zu), .second, .val (.long zd), .second, .val (.long zn), .second, .val (.int z5), .val (.long z8), .second, .unset, .unset, .unset, .unset, .unset] [(.double (FP.dadd (FP.l2d (z1 <<< (zs &&& 0x3f).toInt64)) (FP.ddiv (FP.l2d (zw - (1 : Int64))) (4611686018427387904 : UInt64))))]))
    refine own_go (fun _ k => XS.dstore X0.here hx rfl (hb hby at_155) rfl (l' := #[.val (.int p0), .val (.int p1), .val (.long q2), .second, .val (.int p3), .val (.long q4), .second, .val (.int p5), .val (.int zs), .val (.long z1), .second, .val (.long zw), .second, .val (.long zo), .second, .val (.long zu), .second, .val (.long zd), .second, .val (.long zn), .second, .val (.int z5), .val (.long z8), .second, .val (.double (FP.dadd (FP.l2d (z1 <<< (zs &&& 0x3f).toInt64)) (FP.ddiv (FP.l2d (zw - (1 : Int64))) (4611686018427387904 : UInt64)))), .second, .unset, .unset, .unset]) rfl k) ?_
    suffices hjze : ∀ ze : UInt64, ze = (FP.dadd (FP.l2d (z1 <<< (zs &&& 0x3f).toInt64)) (FP.ddiv (FP.l2d (zw - (1 : Int64))) (4611686018427387904 : UInt64))) → own_Ends p e below s (Q0 Z p0 p1 q2 p3 q4 p5 h0 n0) 16 110720 (s₁.setTop (mkF m 157 #[.val (.int p0), .val (.int p1), .val (.long q2), .second, .val (.int p3), .val (.long q4), .second, .val (.int p5), .val (.int zs), .val (.long z1), .second, .val (.long zw), .second, .val (.long zo), .second, .val (.long zu), .second, .val (.long zd), .second, .val (.long zn), .second, .val (.int z5), .val (.long z8), .second, .val (.double ze), .second, .unset, .unset, .unset] [])) by exact hjze _ rfl
    intro ze hze
    show own_Ends _ _ _ _ _ _ _ (s₁.setTop (mkF m 157 #[.val (.int p0), .val (.int p1), .val (.long q2), .second, .val (.int p3), .val (.long q4), .second, .val (.int p5), .val (.int zs), .val (.long z1), .second, .val (.long zw), .second, .val (.long zo), .second, .val (.long zu), .second, .val (.long zd), .second, .val (.long zn), .second, .val (.int z5), .val (.long z8), .second, .val (.double ze), .second, .unset, .unset, .unset] []))
    refine own_go (fun _ k => XS.iload X0.here hx rfl (hb hby at_157) rfl k) ?_
    show own_Ends _ _ _ _ _ _ _ (s₁.setTop (mkF m 159 #[.val (.int p0), .val (.int p1), .val (.long q2), .second, .val (.int p3), .val (.long q4), .second, .val (.int p5), .val (.int zs), .val (.long z1), .second, .val (.long zw), .second, .val (.long zo), .second, .val (.long zu), .second, .val (.long zd), .second, .val (.long zn), .second, .val (.int z5), .val (.long z8), .second, .val (.double ze), .second, .unset, .unset, .unset] [(.int z5)]))
    suffices hj12 : ∀ z11 : UInt64, z11 = (if z5 = (0 : Int32) then (0 : UInt64) else ze) → own_Ends p e below s (Q0 Z p0 p1 q2 p3 q4 p5 h0 n0) 16 110720 (s₁.setTop (mkF m 168 #[.val (.int p0), .val (.int p1), .val (.long q2), .second, .val (.int p3), .val (.long q4), .second, .val (.int p5), .val (.int zs), .val (.long z1), .second, .val (.long zw), .second, .val (.long zo), .second, .val (.long zu), .second, .val (.long zd), .second, .val (.long zn), .second, .val (.int z5), .val (.long z8), .second, .val (.double ze), .second, .unset, .unset, .unset] [(.double z11)])) by
      show own_Ends _ _ _ _ _ _ _ (s₁.setTop (mkF m 159 #[.val (.int p0), .val (.int p1), .val (.long q2), .second, .val (.int p3), .val (.long q4), .second, .val (.int p5), .val (.int zs), .val (.long z1), .second, .val (.long zw), .second, .val (.long zo), .second, .val (.long zu), .second, .val (.long zd), .second, .val (.long zn), .second, .val (.int z5), .val (.long z8), .second, .val (.double ze), .second, .unset, .unset, .unset] [(.int z5)]))
      by_cases hc13 : z5 = (0 : Int32)
      · refine own_go (fun _ k => XS.ifYes X0.here hx rfl (pc0 := 159) (pc' := 167) rfl (hb hby at_159) rfl ((if0 _ _).trans (teq hc13).1) (by decide) (by decide) k) ?_
        show own_Ends _ _ _ _ _ _ _ (s₁.setTop (mkF m 167 #[.val (.int p0), .val (.int p1), .val (.long q2), .second, .val (.int p3), .val (.long q4), .second, .val (.int p5), .val (.int zs), .val (.long z1), .second, .val (.long zw), .second, .val (.long zo), .second, .val (.long zu), .second, .val (.long zd), .second, .val (.long zn), .second, .val (.int z5), .val (.long z8), .second, .val (.double ze), .second, .unset, .unset, .unset] []))
        refine own_go (fun _ k => XS.dconst0 X0.here hx rfl (hb hby at_167) (v := (0 : UInt64)) (by decide) k) ?_
        exact hj12 _ ((if_pos hc13)).symm
      · refine own_go (fun _ k => XS.ifNo X0.here hx rfl (hb hby at_159) rfl ((if0 _ _).trans (feq hc13).1) k) ?_
        show own_Ends _ _ _ _ _ _ _ (s₁.setTop (mkF m 162 #[.val (.int p0), .val (.int p1), .val (.long q2), .second, .val (.int p3), .val (.long q4), .second, .val (.int p5), .val (.int zs), .val (.long z1), .second, .val (.long zw), .second, .val (.long zo), .second, .val (.long zu), .second, .val (.long zd), .second, .val (.long zn), .second, .val (.int z5), .val (.long z8), .second, .val (.double ze), .second, .unset, .unset, .unset] []))
        refine own_go (fun _ k => XS.dload X0.here hx rfl (hb hby at_162) rfl k) ?_
        show own_Ends _ _ _ _ _ _ _ (s₁.setTop (mkF m 164 #[.val (.int p0), .val (.int p1), .val (.long q2), .second, .val (.int p3), .val (.long q4), .second, .val (.int p5), .val (.int zs), .val (.long z1), .second, .val (.long zw), .second, .val (.long zo), .second, .val (.long zu), .second, .val (.long zd), .second, .val (.long zn), .second, .val (.int z5), .val (.long z8), .second, .val (.double ze), .second, .unset, .unset, .unset] [(.double ze)]))
        refine own_go (fun _ k => XS.goto X0.here hx rfl (pc0 := 164) (pc' := 168) rfl (hb hby at_164) (by decide) (by decide) k) ?_
        exact hj12 _ ((if_neg hc13)).symm
    intro z11 hz11
    show own_Ends _ _ _ _ _ _ _ (s₁.setTop (mkF m 168 #[.val (.int p0), .val (.int p1), .val (.long q2), .second, .val (.int p3), .val (.long q4), .second, .val (.int p5), .val (.int zs), .val (.long z1), .second, .val (.long zw), .second, .val (.long zo), .second, .val (.long zu), .second, .val (.long zd), .second, .val (.long zn), .second, .val (.int z5), .val (.long z8), .second, .val (.double ze), .second, .unset, .unset, .unset] [(.double z11)]))
    refine own_go (fun _ k => XS.dstore X0.here hx rfl (hb hby at_168) rfl (l' := #[.val (.int p0), .val (.int p1), .val (.long q2), .second, .val (.int p3), .val (.long q4), .second, .val (.int p5), .val (.int zs), .val (.long z1), .second, .val (.long zw), .second, .val (.long zo), .second, .val (.long zu), .second, .val (.long zd), .second, .val (.long zn), .second, .val (.int z5), .val (.long z8), .second, .val (.double ze), .second, .val (.double z11), .second, .unset]) rfl k) ?_
    show own_Ends _ _ _ _ _ _ _ (s₁.setTop (mkF m 170 #[.val (.int p0), .val (.int p1), .val (.long q2), .second, .val (.int p3), .val (.long q4), .second, .val (.int p5), .val (.int zs), .val (.long z1), .second, .val (.long zw), .second, .val (.long zo), .second, .val (.long zu), .second, .val (.long zd), .second, .val (.long zn), .second, .val (.int z5), .val (.long z8), .second, .val (.double ze), .second, .val (.double z11), .second, .unset] []))
    obtain ⟨T14, h14, X14, e14, E14, A14, D14, -, st14⟩ := newO X0 hx hZ hown (hw _ (List.mem_of_getElem? (i := 6) rfl)) (hw _ (List.mem_of_getElem? (i := 7) rfl)) (hw _ (List.mem_of_getElem? (i := 8) rfl)) e0 (g := (mkF m 170 #[.val (.int p0), .val (.int p1), .val (.long q2), .second, .val (.int p3), .val (.long q4), .second, .val (.int p5), .val (.int zs), .val (.long z1), .second, .val (.long zw), .second, .val (.long zo), .second, .val (.long zu), .second, .val (.long zd), .second, .val (.long zn), .second, .val (.int z5), .val (.long z8), .second, .val (.double ze), .second, .val (.double z11), .second, .unset] [])) rfl (hb hby at_170) (by decide) (by decide)
    obtain ⟨b14, q_b14⟩ : ∃ z, z = h0.size := ⟨_, rfl⟩
    rw [← q_b14] at A14 D14 st14
    have g_b14 : n0 ≤ b14 := Nat.le_trans (own_sz O0) (Nat.le_of_eq q_b14.symm)
    refine own_go (fun _ k => st14 _ k) ?_
    have F15 : Old Z n0 h14 := (O0.ext E14)
    have F16 : Fld Z h14 b14 "com/example/rate_keeper/ratekeeper/server/bench/LatencyHistogram" "counts" "[J" .null := D14 (Or.inr (hw _ (List.mem_of_getElem? (i := 18) rfl))) (ty := (.array .long)) (by decide)
    show own_Ends _ _ _ _ _ _ _ (T14.setTop (mkF m 173 #[.val (.int p0), .val (.int p1), .val (.long q2), .second, .val (.int p3), .val (.long q4), .second, .val (.int p5), .val (.int zs), .val (.long z1), .second, .val (.long zw), .second, .val (.long zo), .second, .val (.long zu), .second, .val (.long zd), .second, .val (.long zn), .second, .val (.int z5), .val (.long z8), .second, .val (.double ze), .second, .val (.double z11), .second, .unset] [(.ref b14)]))
    refine own_go (fun _ k => XS.dup X14.here hx rfl (hb hby at_173) rfl rfl k) ?_
    show own_Ends _ _ _ _ _ _ _ (T14.setTop (mkF m 174 #[.val (.int p0), .val (.int p1), .val (.long q2), .second, .val (.int p3), .val (.long q4), .second, .val (.int p5), .val (.int zs), .val (.long z1), .second, .val (.long zw), .second, .val (.long zo), .second, .val (.long zu), .second, .val (.long zd), .second, .val (.long zn), .second, .val (.int z5), .val (.long z8), .second, .val (.double ze), .second, .val (.double z11), .second, .unset] [(.ref b14), (.ref b14)]))
    obtain ⟨_, _, ⟨T17, L17, k17, n17⟩, -, X17, ⟨Lc17, hQ17, l17, y17, z17⟩, st17⟩ := X14.specialBack hx (y := (⟨"com/example/rate_keeper/ratekeeper/server/bench/LatencyHistogram", "<init>", "()V"⟩ : MethodName)) rfl hown (mvT hZ (hw _ (List.mem_of_getElem? (i := 9) rfl))) (mvT hZ (hw _ (List.mem_of_getElem? (i := 10) rfl))) (mvT hZ (hw _ (List.mem_of_getElem? (i := 11) rfl))) (by decide) (backOf (W := 1) (rminit l Z ar hw [] b14 (.null) h14 n0 F15 A14 g_b14 F16) hZ (hw _ (List.mem_of_getElem? (i := 11) rfl)) (hw _ (List.mem_of_getElem? (i := 8) rfl)) (by decide) (by decide)) (g := (mkF m 174 #[.val (.int p0), .val (.int p1), .val (.long q2), .second, .val (.int p3), .val (.long q4), .second, .val (.int p5), .val (.int zs), .val (.long z1), .second, .val (.long zw), .second, .val (.long zo), .second, .val (.long zu), .second, .val (.long zd), .second, .val (.long zn), .second, .val (.int z5), .val (.long z8), .second, .val (.double ze), .second, .val (.double z11), .second, .unset] [(.ref b14), (.ref b14)])) rfl (by rw [hml]; rfl) (Steps.refl _) (a := b14) (argsL := []) (rest := [(.ref b14)]) (lenOf pd0_0 rfl) rfl (by show 2 * 0 + _ ≤ _; exact Nat.le_of_eq rfl) (hb hby at_174) (fun _ _ => ⟨rfl, e14, (by decide : 1 + 1 ≤ _), (by decide : 1 + 55296 ≤ _)⟩)
    dsimp only [Pt.U, Pt.locs, Pt.cells, Pt.slots] at X17 l17 y17 z17 st17 hQ17
    subst l17 y17 z17
    obtain ⟨rfl, N17q, K17, E17_0, bb17, g_bb17, ne17, F17_0, A17_0⟩ := hQ17
    have N17 := Fr.app N0 N17q
    have F18 : Old Z n0 T17.heap := (F15.keep K17 (allS g_b14 all0))
    refine own_go (fun _ k => st17.trans k) ?_
    show own_Ends _ _ _ _ _ _ _ (T17.setTop (mkF m 177 #[.val (.int p0), .val (.int p1), .val (.long q2), .second, .val (.int p3), .val (.long q4), .second, .val (.int p5), .val (.int zs), .val (.long z1), .second, .val (.long zw), .second, .val (.long zo), .second, .val (.long zu), .second, .val (.long zd), .second, .val (.long zn), .second, .val (.int z5), .val (.long z8), .second, .val (.double ze), .second, .val (.double z11), .second, .unset] [(.ref b14)]))
    refine own_go (fun _ k => XS.astore X17.here hx rfl (hb hby at_177) rfl rfl (l' := #[.val (.int p0), .val (.int p1), .val (.long q2), .second, .val (.int p3), .val (.long q4), .second, .val (.int p5), .val (.int zs), .val (.long z1), .second, .val (.long zw), .second, .val (.long zo), .second, .val (.long zu), .second, .val (.long zd), .second, .val (.long zn), .second, .val (.int z5), .val (.long z8), .second, .val (.double ze), .second, .val (.double z11), .second, .val (.ref b14)]) rfl k) ?_
    show own_Ends _ _ _ _ _ _ _ (T17.setTop (mkF m 179 #[.val (.int p0), .val (.int p1), .val (.long q2), .second, .val (.int p3), .val (.long q4), .second, .val (.int p5), .val (.int zs), .val (.long z1), .second, .val (.long zw), .second, .val (.long zo), .second, .val (.long zu), .second, .val (.long zd), .second, .val (.long zn), .second, .val (.int z5), .val (.long z8), .second, .val (.double ze), .second, .val (.double z11), .second, .val (.ref b14)] []))
    refine own_go (fun _ k => XS.aload X17.here hx rfl (hb hby at_179) rfl rfl k) ?_
    show own_Ends _ _ _ _ _ _ _ (T17.setTop (mkF m 181 #[.val (.int p0), .val (.int p1), .val (.long q2), .second, .val (.int p3), .val (.long q4), .second, .val (.int p5), .val (.int zs), .val (.long z1), .second, .val (.long zw), .second, .val (.long zo), .second, .val (.long zu), .second, .val (.long zd), .second, .val (.long zn), .second, .val (.int z5), .val (.long z8), .second, .val (.double ze), .second, .val (.double z11), .second, .val (.ref b14)] [(.ref b14)]))
    refine own_go (fun _ k => XS.lload X17.here hx rfl (hb hby at_181) rfl k) ?_
    show own_Ends _ _ _ _ _ _ _ (T17.setTop (mkF m 183 #[.val (.int p0), .val (.int p1), .val (.long q2), .second, .val (.int p3), .val (.long q4), .second, .val (.int p5), .val (.int zs), .val (.long z1), .second, .val (.long zw), .second, .val (.long zo), .second, .val (.long zu), .second, .val (.long zd), .second, .val (.long zn), .second, .val (.int z5), .val (.long z8), .second, .val (.double ze), .second, .val (.double z11), .second, .val (.ref b14)] [(.long zn), (.ref b14)]))
    obtain ⟨cq19, kq19, q19a, q19b, q19c⟩ := isOf hZ rfl E17_0
    obtain ⟨_, _, ⟨T19, L19, k19, n19⟩, -, X19, ⟨Lc19, hQ19, l19, y19, z19⟩, st19⟩ := X17.virtualBack hx (y := (⟨"com/example/rate_keeper/ratekeeper/server/bench/LatencyHistogram", "record", "(J)V"⟩ : MethodName)) (z := (⟨"com/example/rate_keeper/ratekeeper/server/bench/LatencyHistogram", "record", "(J)V"⟩ : MethodName)) hown (mvT hZ (hw _ (List.mem_of_getElem? (i := 19) rfl))) (mvT hZ (hw _ (List.mem_of_getElem? (i := 20) rfl))) (notFace_of_selects (args := #[]) (mvT hZ (hw _ (List.mem_of_getElem? (i := 22) rfl)))) (mvT hZ (hw _ (List.mem_of_getElem? (i := 22) rfl))) (mvT hZ (hw _ (List.mem_of_getElem? (i := 21) rfl))) (by decide) (backOf (W := 0) (rmrec l Z ar hw [] b14 zn bb17 (fun _ => (0 : Int64)) T17.heap n0 F18 E17_0 F17_0 A17_0 g_bb17 ne17) hZ (hw _ (List.mem_of_getElem? (i := 23) rfl)) (hw _ (List.mem_of_getElem? (i := 8) rfl)) (by decide) (by decide)) q19a q19c (g := (mkF m 183 #[.val (.int p0), .val (.int p1), .val (.long q2), .second, .val (.int p3), .val (.long q4), .second, .val (.int p5), .val (.int zs), .val (.long z1), .second, .val (.long zw), .second, .val (.long zo), .second, .val (.long zu), .second, .val (.long zd), .second, .val (.long zn), .second, .val (.int z5), .val (.long z8), .second, .val (.double ze), .second, .val (.double z11), .second, .val (.ref b14)] [(.long zn), (.ref b14)])) rfl (by rw [hml]; rfl) (Steps.refl _) (argsL := [(.long zn)]) (rest := []) (lenOf pd0_1 rfl) rfl (by show 2 * 0 + _ ≤ _; exact Nat.le_of_eq rfl) (hb hby at_183) (fun _ _ => ⟨rfl, rfl, (by decide : 2 + 0 ≤ _), (by decide : 55297 + 0 ≤ _)⟩)
    dsimp only [Pt.U, Pt.locs, Pt.cells, Pt.slots] at X19 l19 y19 z19 st19 hQ19
    subst l19 y19 z19
    obtain ⟨rfl, N19q, K19, E19_0, F19_0, A19_0⟩ := hQ19
    have N19 := Fr.app N17 N19q
    have F20 : Old Z n0 T19.heap := (F18.keep K19 (allS g_bb17 all0))
    refine own_go (fun _ k => st19.trans k) ?_
    show own_Ends _ _ _ _ _ _ _ (T19.setTop (mkF m 186 #[.val (.int p0), .val (.int p1), .val (.long q2), .second, .val (.int p3), .val (.long q4), .second, .val (.int p5), .val (.int zs), .val (.long z1), .second, .val (.long zw), .second, .val (.long zo), .second, .val (.long zu), .second, .val (.long zd), .second, .val (.long zn), .second, .val (.int z5), .val (.long z8), .second, .val (.double ze), .second, .val (.double z11), .second, .val (.ref b14)] []))
    refine own_go (fun _ k => XS.aload X19.here hx rfl (hb hby at_186) rfl rfl k) ?_
    show own_Ends _ _ _ _ _ _ _ (T19.setTop (mkF m 188 #[.val (.int p0), .val (.int p1), .val (.long q2), .second, .val (.int p3), .val (.long q4), .second, .val (.int p5), .val (.int zs), .val (.long z1), .second, .val (.long zw), .second, .val (.long zo), .second, .val (.long zu), .second, .val (.long zd), .second, .val (.long zn), .second, .val (.int z5), .val (.long z8), .second, .val (.double ze), .second, .val (.double z11), .second, .val (.ref b14)] [(.ref b14)]))
    refine own_go (fun _ k => XS.lload X19.here hx rfl (hb hby at_188) rfl k) ?_
    show own_Ends _ _ _ _ _ _ _ (T19.setTop (mkF m 190 #[.val (.int p0), .val (.int p1), .val (.long q2), .second, .val (.int p3), .val (.long q4), .second, .val (.int p5), .val (.int zs), .val (.long z1), .second, .val (.long zw), .second, .val (.long zo), .second, .val (.long zu), .second, .val (.long zd), .second, .val (.long zn), .second, .val (.int z5), .val (.long z8), .second, .val (.double ze), .second, .val (.double z11), .second, .val (.ref b14)] [(.long z8), (.ref b14)]))
    obtain ⟨cq21, kq21, q21a, q21b, q21c⟩ := isOf hZ rfl E19_0
    obtain ⟨_, _, ⟨T21, L21, k21, n21⟩, -, X21, ⟨Lc21, hQ21, l21, y21, z21⟩, st21⟩ := X19.virtualBack hx (y := (⟨"com/example/rate_keeper/ratekeeper/server/bench/LatencyHistogram", "record", "(J)V"⟩ : MethodName)) (z := (⟨"com/example/rate_keeper/ratekeeper/server/bench/LatencyHistogram", "record", "(J)V"⟩ : MethodName)) hown (mvT hZ (hw _ (List.mem_of_getElem? (i := 19) rfl))) (mvT hZ (hw _ (List.mem_of_getElem? (i := 20) rfl))) (notFace_of_selects (args := #[]) (mvT hZ (hw _ (List.mem_of_getElem? (i := 22) rfl)))) (mvT hZ (hw _ (List.mem_of_getElem? (i := 22) rfl))) (mvT hZ (hw _ (List.mem_of_getElem? (i := 21) rfl))) (by decide) (backOf (W := 0) (rmrec l Z ar hw [] b14 z8 bb17 (own_add zn (fun _ => (0 : Int64))) T19.heap n0 F20 E19_0 F19_0 A19_0 g_bb17 ne17) hZ (hw _ (List.mem_of_getElem? (i := 23) rfl)) (hw _ (List.mem_of_getElem? (i := 8) rfl)) (by decide) (by decide)) q21a q21c (g := (mkF m 190 #[.val (.int p0), .val (.int p1), .val (.long q2), .second, .val (.int p3), .val (.long q4), .second, .val (.int p5), .val (.int zs), .val (.long z1), .second, .val (.long zw), .second, .val (.long zo), .second, .val (.long zu), .second, .val (.long zd), .second, .val (.long zn), .second, .val (.int z5), .val (.long z8), .second, .val (.double ze), .second, .val (.double z11), .second, .val (.ref b14)] [(.long z8), (.ref b14)])) rfl (by rw [hml]; rfl) (Steps.refl _) (argsL := [(.long z8)]) (rest := []) (lenOf pd0_1 rfl) rfl (by show 2 * 0 + _ ≤ _; exact Nat.le_of_eq rfl) (hb hby at_190) (fun _ _ => ⟨rfl, rfl, (by decide : 2 + 0 ≤ _), (by decide : 55297 + 0 ≤ _)⟩)
    dsimp only [Pt.U, Pt.locs, Pt.cells, Pt.slots] at X21 l21 y21 z21 st21 hQ21
    subst l21 y21 z21
    obtain ⟨rfl, N21q, K21, E21_0, F21_0, A21_0⟩ := hQ21
    have N21 := Fr.app N19 N21q
    have F22 : Old Z n0 T21.heap := (F20.keep K21 (allS g_bb17 all0))
    refine own_go (fun _ k => st21.trans k) ?_
    show own_Ends _ _ _ _ _ _ _ (T21.setTop (mkF m 193 #[.val (.int p0), .val (.int p1), .val (.long q2), .second, .val (.int p3), .val (.long q4), .second, .val (.int p5), .val (.int zs), .val (.long z1), .second, .val (.long zw), .second, .val (.long zo), .second, .val (.long zu), .second, .val (.long zd), .second, .val (.long zn), .second, .val (.int z5), .val (.long z8), .second, .val (.double ze), .second, .val (.double z11), .second, .val (.ref b14)] []))
    refine own_go (fun _ k => XS.aload X21.here hx rfl (hb hby at_193) rfl rfl k) ?_
    show own_Ends _ _ _ _ _ _ _ (T21.setTop (mkF m 195 #[.val (.int p0), .val (.int p1), .val (.long q2), .second, .val (.int p3), .val (.long q4), .second, .val (.int p5), .val (.int zs), .val (.long z1), .second, .val (.long zw), .second, .val (.long zo), .second, .val (.long zu), .second, .val (.long zd), .second, .val (.long zn), .second, .val (.int z5), .val (.long z8), .second, .val (.double ze), .second, .val (.double z11), .second, .val (.ref b14)] [(.ref b14)]))
    obtain ⟨cq23, kq23, q23a, q23b, q23c⟩ := isOf hZ rfl E21_0
    obtain ⟨_, _, ⟨T23, L23, k23, n23⟩, -, X23, ⟨Lc23, hQ23, l23, y23, z23⟩, st23⟩ := X21.virtualBack hx (y := (⟨"com/example/rate_keeper/ratekeeper/server/bench/LatencyHistogram", "count", "()J"⟩ : MethodName)) (z := (⟨"com/example/rate_keeper/ratekeeper/server/bench/LatencyHistogram", "count", "()J"⟩ : MethodName)) hown (mvT hZ (hw _ (List.mem_of_getElem? (i := 46) rfl))) (mvT hZ (hw _ (List.mem_of_getElem? (i := 47) rfl))) (notFace_of_selects (args := #[]) (mvT hZ (hw _ (List.mem_of_getElem? (i := 49) rfl)))) (mvT hZ (hw _ (List.mem_of_getElem? (i := 49) rfl))) (mvT hZ (hw _ (List.mem_of_getElem? (i := 48) rfl))) (by decide) (backOf (W := 0) (rmcount l Z ar hw [] b14 bb17 (own_add z8 (own_add zn (fun _ => (0 : Int64)))) T21.heap n0 F22 E21_0 F21_0 A21_0) hZ (hw _ (List.mem_of_getElem? (i := 50) rfl)) (hw _ (List.mem_of_getElem? (i := 8) rfl)) (by decide) (by decide)) q23a q23c (g := (mkF m 195 #[.val (.int p0), .val (.int p1), .val (.long q2), .second, .val (.int p3), .val (.long q4), .second, .val (.int p5), .val (.int zs), .val (.long z1), .second, .val (.long zw), .second, .val (.long zo), .second, .val (.long zu), .second, .val (.long zd), .second, .val (.long zn), .second, .val (.int z5), .val (.long z8), .second, .val (.double ze), .second, .val (.double z11), .second, .val (.ref b14)] [(.ref b14)])) rfl (by rw [hml]; rfl) (Steps.refl _) (argsL := []) (rest := []) (lenOf pd0_2 rfl) rfl (by show 2 * 0 + _ ≤ _; exact Nat.le_of_eq rfl) (hb hby at_195) (fun _ _ => ⟨rfl, rfl, (by decide : 2 + 0 ≤ _), (by decide : 55297 + 0 ≤ _)⟩)
    dsimp only [Pt.U, Pt.locs, Pt.cells, Pt.slots] at X23 l23 y23 z23 st23 hQ23
    subst l23 y23 z23
    obtain ⟨rfl, N23q, eq23⟩ := hQ23
    have e23 : T23.heap = T21.heap := eq23
    have N23 := Fr.app N21 N23q
    refine own_go (fun _ k => st23.trans k) ?_
    show own_Ends _ _ _ _ _ _ _ (T23.setTop (mkF m 198 #[.val (.int p0), .val (.int p1), .val (.long q2), .second, .val (.int p3), .val (.long q4), .second, .val (.int p5), .val (.int zs), .val (.long z1), .second, .val (.long zw), .second, .val (.long zo), .second, .val (.long zu), .second, .val (.long zd), .second, .val (.long zn), .second, .val (.int z5), .val (.long z8), .second, .val (.double ze), .second, .val (.double z11), .second, .val (.ref b14)] [(.long (fcount b14 bb17 (own_add z8 (own_add zn (fun _ => (0 : Int64))))))]))
    refine own_go (fun _ k => X23.ldc2Long hx hown (mvT hZ (hw _ (List.mem_of_getElem? (i := 51) rfl))) (g := (mkF m 198 #[.val (.int p0), .val (.int p1), .val (.long q2), .second, .val (.int p3), .val (.long q4), .second, .val (.int p5), .val (.int zs), .val (.long z1), .second, .val (.long zw), .second, .val (.long zo), .second, .val (.long zu), .second, .val (.long zd), .second, .val (.long zn), .second, .val (.int z5), .val (.long z8), .second, .val (.double ze), .second, .val (.double z11), .second, .val (.ref b14)] [(.long (fcount b14 bb17 (own_add z8 (own_add zn (fun _ => (0 : Int64))))))])) rfl (hb hby at_198) _ k) ?_
    show own_Ends _ _ _ _ _ _ _ (T23.setTop (mkF m 201 #[.val (.int p0), .val (.int p1), .val (.long q2), .second, .val (.int p3), .val (.long q4), .second, .val (.int p5), .val (.int zs), .val (.long z1), .second, .val (.long zw), .second, .val (.long zo), .second, .val (.long zu), .second, .val (.long zd), .second, .val (.long zn), .second, .val (.int z5), .val (.long z8), .second, .val (.double ze), .second, .val (.double z11), .second, .val (.ref b14)] [(.long (2 : Int64)), (.long (fcount b14 bb17 (own_add z8 (own_add zn (fun _ => (0 : Int64))))))]))
    refine own_go (fun _ k => XS.lcmp X23.here hx rfl (hb hby at_201) rfl k) ?_
    show own_Ends _ _ _ _ _ _ _ (T23.setTop (mkF m 202 #[.val (.int p0), .val (.int p1), .val (.long q2), .second, .val (.int p3), .val (.long q4), .second, .val (.int p5), .val (.int zs), .val (.long z1), .second, .val (.long zw), .second, .val (.long zo), .second, .val (.long zu), .second, .val (.long zd), .second, .val (.long zn), .second, .val (.int z5), .val (.long z8), .second, .val (.double ze), .second, .val (.double z11), .second, .val (.ref b14)] [(.int (lcmpW (fcount b14 bb17 (own_add z8 (own_add zn (fun _ => (0 : Int64))))) (2 : Int64)))]))
    refine own_go (fun _ k => XS.ifNo X23.here hx rfl (hb hby at_202) rfl ((if0 _ _).trans (teq (own_cnt2 _ _)).2) k) ?_
    show own_Ends _ _ _ _ _ _ _ (T23.setTop (mkF m 205 #[.val (.int p0), .val (.int p1), .val (.long q2), .second, .val (.int p3), .val (.long q4), .second, .val (.int p5), .val (.int zs), .val (.long z1), .second, .val (.long zw), .second, .val (.long zo), .second, .val (.long zu), .second, .val (.long zd), .second, .val (.long zn), .second, .val (.int z5), .val (.long z8), .second, .val (.double ze), .second, .val (.double z11), .second, .val (.ref b14)] []))
    refine own_go (fun _ k => XS.aload X23.here hx rfl (hb hby at_205) rfl rfl k) ?_
    show own_Ends _ _ _ _ _ _ _ (T23.setTop (mkF m 207 #[.val (.int p0), .val (.int p1), .val (.long q2), .second, .val (.int p3), .val (.long q4), .second, .val (.int p5), .val (.int zs), .val (.long z1), .second, .val (.long zw), .second, .val (.long zo), .second, .val (.long zu), .second, .val (.long zd), .second, .val (.long zn), .second, .val (.int z5), .val (.long z8), .second, .val (.double ze), .second, .val (.double z11), .second, .val (.ref b14)] [(.ref b14)]))
    refine own_go (fun _ k => XS.bipush X23.here hx rfl (hb hby at_207) k) ?_
    show own_Ends _ _ _ _ _ _ _ (T23.setTop (mkF m 209 #[.val (.int p0), .val (.int p1), .val (.long q2), .second, .val (.int p3), .val (.long q4), .second, .val (.int p5), .val (.int zs), .val (.long z1), .second, .val (.long zw), .second, .val (.long zo), .second, .val (.long zu), .second, .val (.long zd), .second, .val (.long zn), .second, .val (.int z5), .val (.long z8), .second, .val (.double ze), .second, .val (.double z11), .second, .val (.ref b14)] [(.int (100 : Int32)), (.ref b14)]))
    obtain ⟨cq24, kq24, q24a, q24b, q24c⟩ := isOf hZ e23 E21_0
    obtain ⟨_, _, ⟨T24, L24, k24, n24⟩, -, X24, ⟨Lc24, hQ24, l24, y24, z24⟩, st24⟩ := X23.virtualBack hx (y := (⟨"com/example/rate_keeper/ratekeeper/server/bench/LatencyHistogram", "percentileMicros", "(I)D"⟩ : MethodName)) (z := (⟨"com/example/rate_keeper/ratekeeper/server/bench/LatencyHistogram", "percentileMicros", "(I)D"⟩ : MethodName)) hown (mvT hZ (hw _ (List.mem_of_getElem? (i := 52) rfl))) (mvT hZ (hw _ (List.mem_of_getElem? (i := 53) rfl))) (notFace_of_selects (args := #[]) (mvT hZ (hw _ (List.mem_of_getElem? (i := 55) rfl)))) (mvT hZ (hw _ (List.mem_of_getElem? (i := 55) rfl))) (mvT hZ (hw _ (List.mem_of_getElem? (i := 54) rfl))) (by decide) (backOf (W := 0) (rmpct l Z ar hw [] b14 (100 : Int32) bb17 (own_add z8 (own_add zn (fun _ => (0 : Int64)))) T21.heap n0 F22 E21_0 F21_0 A21_0 (own_tot2 _ _) (own_le100 _ _)) hZ (hw _ (List.mem_of_getElem? (i := 56) rfl)) (hw _ (List.mem_of_getElem? (i := 8) rfl)) (by decide) (by decide)) q24a q24c (g := (mkF m 209 #[.val (.int p0), .val (.int p1), .val (.long q2), .second, .val (.int p3), .val (.long q4), .second, .val (.int p5), .val (.int zs), .val (.long z1), .second, .val (.long zw), .second, .val (.long zo), .second, .val (.long zu), .second, .val (.long zd), .second, .val (.long zn), .second, .val (.int z5), .val (.long z8), .second, .val (.double ze), .second, .val (.double z11), .second, .val (.ref b14)] [(.int (100 : Int32)), (.ref b14)])) rfl (by rw [hml]; rfl) (Steps.refl _) (argsL := [(.int (100 : Int32))]) (rest := []) (lenOf pd0_3 rfl) rfl (by show 2 * 0 + _ ≤ _; exact Nat.le_of_eq rfl) (hb hby at_209) (fun _ _ => ⟨rfl, e23, (by decide : 2 + 0 ≤ _), (by decide : 55297 + 0 ≤ _)⟩)
    dsimp only [Pt.U, Pt.locs, Pt.cells, Pt.slots] at X24 l24 y24 z24 st24 hQ24
    subst l24 y24 z24
    obtain ⟨ix24, rfl, hr24, N24q, eq24⟩ := hQ24
    have e24 : T24.heap = T21.heap := eq24
    have N24 := Fr.app N23 N24q
    refine own_go (fun _ k => st24.trans k) ?_
    show own_Ends _ _ _ _ _ _ _ (T24.setTop (mkF m 212 #[.val (.int p0), .val (.int p1), .val (.long q2), .second, .val (.int p3), .val (.long q4), .second, .val (.int p5), .val (.int zs), .val (.long z1), .second, .val (.long zw), .second, .val (.long zo), .second, .val (.long zu), .second, .val (.long zd), .second, .val (.long zn), .second, .val (.int z5), .val (.long z8), .second, .val (.double ze), .second, .val (.double z11), .second, .val (.ref b14)] [(.double (fmid (Int32.ofNat ix24)))]))
    refine own_go (fun _ k => XS.dload X24.here hx rfl (hb hby at_212) rfl k) ?_
    show own_Ends _ _ _ _ _ _ _ (T24.setTop (mkF m 214 #[.val (.int p0), .val (.int p1), .val (.long q2), .second, .val (.int p3), .val (.long q4), .second, .val (.int p5), .val (.int zs), .val (.long z1), .second, .val (.long zw), .second, .val (.long zo), .second, .val (.long zu), .second, .val (.long zd), .second, .val (.long zn), .second, .val (.int z5), .val (.long z8), .second, .val (.double ze), .second, .val (.double z11), .second, .val (.ref b14)] [(.double ze), (.double (fmid (Int32.ofNat ix24)))]))
    refine own_go (fun _ k => XS.dcmpS X24.here hx rfl (hb hby at_214) rfl rfl k) ?_
    show own_Ends _ _ _ _ _ _ _ (T24.setTop (mkF m 215 #[.val (.int p0), .val (.int p1), .val (.long q2), .second, .val (.int p3), .val (.long q4), .second, .val (.int p5), .val (.int zs), .val (.long z1), .second, .val (.long zw), .second, .val (.long zo), .second, .val (.long zu), .second, .val (.long zd), .second, .val (.long zn), .second, .val (.int z5), .val (.long z8), .second, .val (.double ze), .second, .val (.double z11), .second, .val (.ref b14)] [(.int (cmpValue (FP.dcmp (fmid (Int32.ofNat ix24)) ze) .l))]))
    refine own_go (fun _ k => XS.ifNo X24.here hx rfl (hb hby at_215) rfl ((if0 _ _).trans (teq (own_p100 hzs hz1 hzw hzo hzu hzd hzn hz5 hz8 hze hz11 hc4 hr24)).2) k) ?_
    show own_Ends _ _ _ _ _ _ _ (T24.setTop (mkF m 218 #[.val (.int p0), .val (.int p1), .val (.long q2), .second, .val (.int p3), .val (.long q4), .second, .val (.int p5), .val (.int zs), .val (.long z1), .second, .val (.long zw), .second, .val (.long zo), .second, .val (.long zu), .second, .val (.long zd), .second, .val (.long zn), .second, .val (.int z5), .val (.long z8), .second, .val (.double ze), .second, .val (.double z11), .second, .val (.ref b14)] []))
    refine own_go (fun _ k => XS.aload X24.here hx rfl (hb hby at_218) rfl rfl k) ?_
    show own_Ends _ _ _ _ _ _ _ (T24.setTop (mkF m 220 #[.val (.int p0), .val (.int p1), .val (.long q2), .second, .val (.int p3), .val (.long q4), .second, .val (.int p5), .val (.int zs), .val (.long z1), .second, .val (.long zw), .second, .val (.long zo), .second, .val (.long zu), .second, .val (.long zd), .second, .val (.long zn), .second, .val (.int z5), .val (.long z8), .second, .val (.double ze), .second, .val (.double z11), .second, .val (.ref b14)] [(.ref b14)]))
    refine own_go (fun _ k => XS.bipush X24.here hx rfl (hb hby at_220) k) ?_
    show own_Ends _ _ _ _ _ _ _ (T24.setTop (mkF m 222 #[.val (.int p0), .val (.int p1), .val (.long q2), .second, .val (.int p3), .val (.long q4), .second, .val (.int p5), .val (.int zs), .val (.long z1), .second, .val (.long zw), .second, .val (.long zo), .second, .val (.long zu), .second, .val (.long zd), .second, .val (.long zn), .second, .val (.int z5), .val (.long z8), .second, .val (.double ze), .second, .val (.double z11), .second, .val (.ref b14)] [(.int (50 : Int32)), (.ref b14)]))
    obtain ⟨cq25, kq25, q25a, q25b, q25c⟩ := isOf hZ e24 E21_0
    obtain ⟨_, _, ⟨T25, L25, k25, n25⟩, -, X25, ⟨Lc25, hQ25, l25, y25, z25⟩, st25⟩ := X24.virtualBack hx (y := (⟨"com/example/rate_keeper/ratekeeper/server/bench/LatencyHistogram", "percentileMicros", "(I)D"⟩ : MethodName)) (z := (⟨"com/example/rate_keeper/ratekeeper/server/bench/LatencyHistogram", "percentileMicros", "(I)D"⟩ : MethodName)) hown (mvT hZ (hw _ (List.mem_of_getElem? (i := 52) rfl))) (mvT hZ (hw _ (List.mem_of_getElem? (i := 53) rfl))) (notFace_of_selects (args := #[]) (mvT hZ (hw _ (List.mem_of_getElem? (i := 55) rfl)))) (mvT hZ (hw _ (List.mem_of_getElem? (i := 55) rfl))) (mvT hZ (hw _ (List.mem_of_getElem? (i := 54) rfl))) (by decide) (backOf (W := 0) (rmpct l Z ar hw [] b14 (50 : Int32) bb17 (own_add z8 (own_add zn (fun _ => (0 : Int64)))) T21.heap n0 F22 E21_0 F21_0 A21_0 (own_tot2 _ _) (own_le50 _ _)) hZ (hw _ (List.mem_of_getElem? (i := 56) rfl)) (hw _ (List.mem_of_getElem? (i := 8) rfl)) (by decide) (by decide)) q25a q25c (g := (mkF m 222 #[.val (.int p0), .val (.int p1), .val (.long q2), .second, .val (.int p3), .val (.long q4), .second, .val (.int p5), .val (.int zs), .val (.long z1), .second, .val (.long zw), .second, .val (.long zo), .second, .val (.long zu), .second, .val (.long zd), .second, .val (.long zn), .second, .val (.int z5), .val (.long z8), .second, .val (.double ze), .second, .val (.double z11), .second, .val (.ref b14)] [(.int (50 : Int32)), (.ref b14)])) rfl (by rw [hml]; rfl) (Steps.refl _) (argsL := [(.int (50 : Int32))]) (rest := []) (lenOf pd0_3 rfl) rfl (by show 2 * 0 + _ ≤ _; exact Nat.le_of_eq rfl) (hb hby at_222) (fun _ _ => ⟨rfl, e24, (by decide : 2 + 0 ≤ _), (by decide : 55297 + 0 ≤ _)⟩)
    dsimp only [Pt.U, Pt.locs, Pt.cells, Pt.slots] at X25 l25 y25 z25 st25 hQ25
    subst l25 y25 z25
    obtain ⟨ix25, rfl, hr25, N25q, eq25⟩ := hQ25
    have e25 : T25.heap = T21.heap := eq25
    have N25 := Fr.app N24 N25q
    refine own_go (fun _ k => st25.trans k) ?_
    show own_Ends _ _ _ _ _ _ _ (T25.setTop (mkF m 225 #[.val (.int p0), .val (.int p1), .val (.long q2), .second, .val (.int p3), .val (.long q4), .second, .val (.int p5), .val (.int zs), .val (.long z1), .second, .val (.long zw), .second, .val (.long zo), .second, .val (.long zu), .second, .val (.long zd), .second, .val (.long zn), .second, .val (.int z5), .val (.long z8), .second, .val (.double ze), .second, .val (.double z11), .second, .val (.ref b14)] [(.double (fmid (Int32.ofNat ix25)))]))
    refine own_go (fun _ k => XS.dload X25.here hx rfl (hb hby at_225) rfl k) ?_
    show own_Ends _ _ _ _ _ _ _ (T25.setTop (mkF m 227 #[.val (.int p0), .val (.int p1), .val (.long q2), .second, .val (.int p3), .val (.long q4), .second, .val (.int p5), .val (.int zs), .val (.long z1), .second, .val (.long zw), .second, .val (.long zo), .second, .val (.long zu), .second, .val (.long zd), .second, .val (.long zn), .second, .val (.int z5), .val (.long z8), .second, .val (.double ze), .second, .val (.double z11), .second, .val (.ref b14)] [(.double z11), (.double (fmid (Int32.ofNat ix25)))]))
    refine own_go (fun _ k => XS.dcmpS X25.here hx rfl (hb hby at_227) rfl rfl k) ?_
    show own_Ends _ _ _ _ _ _ _ (T25.setTop (mkF m 228 #[.val (.int p0), .val (.int p1), .val (.long q2), .second, .val (.int p3), .val (.long q4), .second, .val (.int p5), .val (.int zs), .val (.long z1), .second, .val (.long zw), .second, .val (.long zo), .second, .val (.long zu), .second, .val (.long zd), .second, .val (.long zn), .second, .val (.int z5), .val (.long z8), .second, .val (.double ze), .second, .val (.double z11), .second, .val (.ref b14)] [(.int (cmpValue (FP.dcmp (fmid (Int32.ofNat ix25)) z11) .l))]))
    refine own_go (fun _ k => XS.ifNo X25.here hx rfl (hb hby at_228) rfl ((if0 _ _).trans (teq (own_p50 hzs hz1 hzw hzo hzu hzd hzn hz5 hz8 hze hz11 hc4 hr25)).2) k) ?_
    show own_Ends _ _ _ _ _ _ _ (T25.setTop (mkF m 231 #[.val (.int p0), .val (.int p1), .val (.long q2), .second, .val (.int p3), .val (.long q4), .second, .val (.int p5), .val (.int zs), .val (.long z1), .second, .val (.long zw), .second, .val (.long zo), .second, .val (.long zu), .second, .val (.long zd), .second, .val (.long zn), .second, .val (.int z5), .val (.long z8), .second, .val (.double ze), .second, .val (.double z11), .second, .val (.ref b14)] []))
    refine own_go (fun _ k => XS.iconst X25.here hx rfl (hb hby at_231) k) ?_
    show own_Ends _ _ _ _ _ _ _ (T25.setTop (mkF m 232 #[.val (.int p0), .val (.int p1), .val (.long q2), .second, .val (.int p3), .val (.long q4), .second, .val (.int p5), .val (.int zs), .val (.long z1), .second, .val (.long zw), .second, .val (.long zo), .second, .val (.long zu), .second, .val (.long zd), .second, .val (.long zn), .second, .val (.int z5), .val (.long z8), .second, .val (.double ze), .second, .val (.double z11), .second, .val (.ref b14)] [(.int (1 : Int32))]))
    refine own_go (fun _ k => XS.goto X25.here hx rfl (pc0 := 232) (pc' := 236) rfl (hb hby at_232) (by decide) (by decide) k) ?_
    show own_Ends _ _ _ _ _ _ _ (T25.setTop (mkF m 236 #[.val (.int p0), .val (.int p1), .val (.long q2), .second, .val (.int p3), .val (.long q4), .second, .val (.int p5), .val (.int zs), .val (.long z1), .second, .val (.long zw), .second, .val (.long zo), .second, .val (.long zu), .second, .val (.long zd), .second, .val (.long zn), .second, .val (.int z5), .val (.long z8), .second, .val (.double ze), .second, .val (.double z11), .second, .val (.ref b14)] [(.int (1 : Int32))]))
    exact own_retN X25 hx hlk (t := .boolean) Bd.returns (by simp) (hb hby at_236) (by decide) (by decide) ⟨rfl, N25⟩
set_option maxRecDepth 65536 in
set_option maxHeartbeats 40000000 in
theorem comes_1 {Post : Tables → Env → Array Value → State → Outcome → State → Prop} (hpost : ∀ tb e args s v u, (limb_1_1.after args s (.returned v) u = true ∧ limb_1_2.after args s (.returned v) u = true ∧ True) → FrameEnd s (.returned v) u (Jvm.fieldLocs frame_1_writes args s ++ Jvm.arrayLocs frame_1_arrays args s ++ Jvm.staticLocs frame_1_statics s) 16 110720 → Post tb e args s (.returned v) u) :
    ArmFor flags0 classFile x code maxLocals ret World_1 tables_1 room_1 Calls_1 rest_1 Pre_1 Post := by
  intro l hfl _ _ p e ha hc hk s m args below hf hA hF happ hP
  obtain ⟨hcalls, hrest, hpre⟩ := hP
  obtain ⟨-, -, -, hnamed, -, -, -, hat⟩ := (Spec.applies_iff hf).mp happ
  obtain ⟨hg, hn⟩ := and_e (Cond.before_iff.mp (show (Jvm.Cond.and given_1 narrow_1).before args s = true from hpre))
  obtain ⟨hcount, hg0⟩ := and_e hg
  obtain ⟨ga0, hg1⟩ := and_e hg0
  obtain ⟨ga1, hg2⟩ := and_e hg1
  obtain ⟨ga2, hg3⟩ := and_e hg2
  obtain ⟨ga3, hg4⟩ := and_e hg3
  obtain ⟨ga4, hg5⟩ := and_e hg4
  obtain ⟨w0, w1, w2, w3, w4, w5, rfl⟩ : ∃ w0 w1 w2 w3 w4 w5 : Value, args = #[w0, w1, w2, w3, w4, w5] := by
    have hs : args.size = 6 := by simpa [Cond.value, given_1] using hcount
    obtain ⟨L⟩ := args
    match L, hs with
    | [w0, w1, w2, w3, w4, w5], _ => exact ⟨w0, w1, w2, w3, w4, w5, rfl⟩
  have hw := fun d (hd : d ∈ tables_1) => atoms_spec (ws := Jvm.Cond.code x code maxLocals ret :: tables_1) hat d (List.mem_cons_of_mem _ hd)
  have hfit : Fit s := fun {y c} hc i hi => by
    obtain ⟨ha, rfl⟩ := Array.getElem?_eq_some_iff.mp hc
    have q := List.all_eq_true.mp ((Array.all_eq_true_iff_forall_mem.mp hF) _ (Array.getElem_mem ha)) i (List.mem_range.mpr hi)
    simpa [Array.getElem?_eq_getElem hi] using q
  obtain ⟨p0, ei0⟩ := is_v ga0
  obtain rfl : w0 = (.int p0) := Option.some.inj ei0
  obtain ⟨p1, ei1⟩ := is_v ga1
  obtain rfl : w1 = (.int p1) := Option.some.inj ei1
  obtain ⟨q2, ei2⟩ := isL_v ga2
  obtain rfl : w2 = (.long q2) := Option.some.inj ei2
  obtain ⟨p3, ei3⟩ := is_v ga3
  obtain rfl : w3 = (.int p3) := Option.some.inj ei3
  obtain ⟨q4, ei4⟩ := isL_v ga4
  obtain rfl : w4 = (.long q4) := Option.some.inj ei4
  obtain ⟨p5, ei5⟩ := is_v hg5
  obtain rfl : w5 = (.int p5) := Option.some.inj ei5
  obtain ⟨n, o, h1, h2, h3, _, L, rfl, ⟨rfl, N⟩, hq⟩ := rm0 l s _ hw tables_1 p0 p1 q2 p3 q4 p5 s.heap s.heap.size (Old.start s) p e ha hc hk s m _ below hf ((Spec.applies_iff_loose hf).mp happ).1 ⟨rfl, State.Warmed39.refl s, rfl⟩ trivial
  refine ⟨n, _, h1, h2, h3, hpost _ _ _ _ _ _ ⟨Cond.after_iff.mpr rfl, Cond.after_iff.mpr (eq_i res_at (Term.int_eval (1)) rfl), trivial⟩ ⟨hq.1, hq.2.1, (hq.2.2.sift fun y hy => Or.inr (N y hy)).mono (by decide) (by decide)⟩⟩
theorem main_1_1 : Claimed_1_1 := comes_1 fun _ _ _ _ _ _ h hF => ⟨h.1, hF⟩
theorem main_1_2 : Claimed_1_2 := comes_1 fun _ _ _ _ _ _ h hF => ⟨h.2.1, hF⟩
end Jvm.Pilot.@@N@@
namespace Jvm.Pilot.@@N@@
open Jvm Jvm.ClassFile Sem Op Lib Jvm.Free Jvm.Stand Jvm.Pilot.@@N@@.Jvm.D
/-! MADE BY PROGRAM (witnessworld.py) out of the Statement's table words and the real class files: 18 classes; the members and pool entries that the words name. The judged class is class 1, her method 1. -/
namespace start1
open Jvm.ClassFile
def u (s : String) : CpInfo := .utf8 (stringToUtf16 s)
/-- a pool by its gaps: so many unusable entries, then the entry; so many at the end -/
def gap : Nat → List CpInfo → List CpInfo
  | 0, r => r
  | n + 1, r => .unusable :: gap n r
def poolList (es : List (Nat × CpInfo)) (last : Nat) : List CpInfo := es.foldr (fun e r => gap e.1 (e.2 :: r)) (gap last [])
def pool (es : List (Nat × CpInfo)) (last : Nat) : Array CpInfo := ⟨poolList es last⟩
def fileOf (pool : Array CpInfo) (this : Nat) (attrs : Array Attribute := #[]) (ms : Array MethodInfo := #[]) (fl : Nat := 33) (sup : Nat := 0) (ifs : Array Nat := #[]) (fds : Array FieldInfo := #[]) : ClassFile where
  minorVersion := 0
  majorVersion := 65
  constantPool := pool
  accessFlags := fl
  thisClass := this
  superClass := sup
  interfaces := ifs
  fields := fds
  methods := ms
  attributes := attrs
def plain (name : String) (sup : Option ClassId) : Class where
  name := name
  kind := .ordinary
  loader := none
  accessFlags := 33
  super := sup
  interfaces := #[]
  cf := none
  fields := #[]
  methods := #[]
  instanceTypes := #[]
  staticTypes := #[]
  resolved := #[]
  callSites := []
  init := .initialized
  statics := none
  mirror := none

def pool0 : Array CpInfo := pool [(5, u "<init>"), (0, u "()V"), (1, .class_ 10), (1, u "java/lang/Object")] 113

def k0c0 : Code := { maxStack := 0, maxLocals := 1, code := object_method_1_code, exceptionTable := #[], attributes := #[] }
def k0m0 : Method := { name := "<init>", desc := "()V", sig := { parameters := [], returnType := none }, accessFlags := 1, code := some k0c0 }
/-- java/lang/Object -/
def k0 : Class := { plain "java/lang/Object" none with
  accessFlags := 33
  interfaces := #[]
  cf := some (fileOf pool0 8 #[] #[{ accessFlags := 1, nameIndex := 5, descriptorIndex := 6, attributes := #[] }] 33 0 #[] #[])
  fields := #[]
  methods := #[k0m0]
  instanceTypes := #[]
  staticTypes := #[]
  resolved := Array.replicate 124 none
  statics := none }

def pool1 : Array CpInfo := pool [(2, .class_ 4), (0, .nameAndType 5 6), (0, u "java/lang/Object"), (0, u "<init>"), (0, u "()V"), (0, .integer 2147483647), (2, .long 9223372036854775807), (1, .long 9223372036854774), (1, .long 1000), (1, .long 9223372036854775808), (1, .double 4611686018427387904), (1, .class_ 21), (0, u "com/example/rate_keeper/ratekeeper/server/bench/LatencyHistogram"), (0, .methodref 20 3), (0, .methodref 20 24), (0, .nameAndType 25 26), (0, u "record"), (0, u "(J)V"), (0, .methodref 20 28), (0, .nameAndType 29 30), (0, u "count"), (0, u "()J"), (0, .long 2), (1, .methodref 20 34), (0, .nameAndType 35 36), (0, u "percentileMicros"), (0, u "(I)D"), (0, .class_ 38), (0, u "com/example/rate_keeper/ratekeeper/server/bench/LatencyHistogramRecordPinLaw"), (2, u "law"), (0, u "(IIJIJI)Z")] 3

def k1m0 : Method := { name := "<init>", desc := "()V", sig := { parameters := [], returnType := none }, accessFlags := 1, code := none }
def k1c1 : Code := { maxStack := 6, maxLocals := 29, code := code, exceptionTable := #[], attributes := #[] }
def k1m1 : Method := { name := "law", desc := "(IIJIJI)Z", sig := { parameters := [.int, .int, .long, .int, .long, .int], returnType := some .boolean }, accessFlags := 9, code := some k1c1 }
/-- com/example/rate_keeper/ratekeeper/server/bench/LatencyHistogramRecordPinLaw -/
def k1 : Class := { plain "com/example/rate_keeper/ratekeeper/server/bench/LatencyHistogramRecordPinLaw" (some 0) with
  accessFlags := 49
  interfaces := #[]
  cf := some (fileOf pool1 37 #[] #[{ accessFlags := 1, nameIndex := 5, descriptorIndex := 6, attributes := #[] }, { accessFlags := 9, nameIndex := 41, descriptorIndex := 42, attributes := #[] }] 49 2 #[] #[])
  fields := #[]
  methods := #[k1m0, k1m1]
  instanceTypes := #[]
  staticTypes := #[]
  resolved := Array.replicate 46 none
  statics := none }

def pool2 : Array CpInfo := pool [(1, .class_ 2), (0, u "com/example/rate_keeper/ratekeeper/server/bench/LatencyHistogram"), (0, .methodref 4 5), (0, .class_ 6), (0, .nameAndType 7 8), (0, u "java/lang/Object"), (0, u "<init>"), (0, u "()V"), (0, .class_ 10), (0, u "java/lang/Long"), (0, .integer 55296), (0, .fieldref 1 13), (0, .nameAndType 14 15), (0, u "counts"), (0, u "[J"), (0, .long 500), (1, .long 1000), (1, .methodref 21 22), (0, .class_ 23), (0, .nameAndType 24 25), (0, u "java/lang/Math"), (0, u "max"), (0, u "(JJ)J"), (0, .methodref 1 27), (0, .nameAndType 28 29), (0, u "index"), (0, u "(J)I"), (0, .methodref 1 31), (0, .nameAndType 32 33), (0, u "count"), (0, u "()J"), (7, .long 99), (1, .long 100), (1, .methodref 1 46), (0, .nameAndType 47 48), (0, u "middle"), (0, u "(I)D"), (0, .methodref 9 50), (0, .nameAndType 51 29), (0, u "numberOfLeadingZeros"), (0, .methodref 21 53), (0, .nameAndType 24 54), (0, u "(II)I"), (0, .long 1024), (1, .double 4611686018427387904), (1, u "SUB_BUCKET_BITS"), (0, u "I"), (2, u "SUB_BUCKETS"), (1, u "EXACT_MICROS"), (0, u "J"), (2, u "NANOS_PER_MICRO"), (2, u "record"), (0, u "(J)V"), (2, u "percentileMicros")] 2

def k2c0 : Code := { maxStack := 2, maxLocals := 1, code := prog_10_method_1_code, exceptionTable := #[], attributes := #[] }
def k2m0 : Method := { name := "<init>", desc := "()V", sig := { parameters := [], returnType := none }, accessFlags := 0, code := some k2c0 }
def k2c1 : Code := { maxStack := 6, maxLocals := 5, code := prog_10_method_2_code, exceptionTable := #[], attributes := #[] }
def k2m1 : Method := { name := "record", desc := "(J)V", sig := { parameters := [.long], returnType := none }, accessFlags := 0, code := some k2c1 }
def k2c2 : Code := { maxStack := 4, maxLocals := 8, code := prog_10_method_3_code, exceptionTable := #[], attributes := #[] }
def k2m2 : Method := { name := "count", desc := "()J", sig := { parameters := [], returnType := some .long }, accessFlags := 0, code := some k2c2 }
def k2c3 : Code := { maxStack := 4, maxLocals := 9, code := prog_10_method_4_code, exceptionTable := #[], attributes := #[] }
def k2m3 : Method := { name := "percentileMicros", desc := "(I)D", sig := { parameters := [.int], returnType := some .double }, accessFlags := 0, code := some k2c3 }
def k2c4 : Code := { maxStack := 5, maxLocals := 4, code := prog_10_method_5_code, exceptionTable := #[], attributes := #[] }
def k2m4 : Method := { name := "index", desc := "(J)I", sig := { parameters := [.long], returnType := some .int }, accessFlags := 10, code := some k2c4 }
def k2c5 : Code := { maxStack := 6, maxLocals := 4, code := prog_10_method_6_code, exceptionTable := #[], attributes := #[] }
def k2m5 : Method := { name := "middle", desc := "(I)D", sig := { parameters := [.int], returnType := some .double }, accessFlags := 10, code := some k2c5 }
/-- com/example/rate_keeper/ratekeeper/server/bench/LatencyHistogram -/
def k2 : Class := { plain "com/example/rate_keeper/ratekeeper/server/bench/LatencyHistogram" (some 0) with
  accessFlags := 48
  interfaces := #[]
  cf := some (fileOf pool2 1 #[] #[{ accessFlags := 0, nameIndex := 7, descriptorIndex := 8, attributes := #[] }, { accessFlags := 0, nameIndex := 72, descriptorIndex := 73, attributes := #[] }, { accessFlags := 0, nameIndex := 32, descriptorIndex := 33, attributes := #[] }, { accessFlags := 0, nameIndex := 76, descriptorIndex := 48, attributes := #[] }, { accessFlags := 10, nameIndex := 28, descriptorIndex := 29, attributes := #[] }, { accessFlags := 10, nameIndex := 47, descriptorIndex := 48, attributes := #[] }] 48 4 #[] #[{ accessFlags := 26, nameIndex := 59, descriptorIndex := 60, attributes := #[] }, { accessFlags := 26, nameIndex := 63, descriptorIndex := 60, attributes := #[] }, { accessFlags := 24, nameIndex := 65, descriptorIndex := 66, attributes := #[] }, { accessFlags := 26, nameIndex := 69, descriptorIndex := 66, attributes := #[] }, { accessFlags := 18, nameIndex := 14, descriptorIndex := 15, attributes := #[] }])
  fields := #[{ name := "SUB_BUCKET_BITS", type := .int, accessFlags := 26, slot := 0, constantValue := 0 }, { name := "SUB_BUCKETS", type := .int, accessFlags := 26, slot := 1, constantValue := 0 }, { name := "EXACT_MICROS", type := .long, accessFlags := 24, slot := 2, constantValue := 0 }, { name := "NANOS_PER_MICRO", type := .long, accessFlags := 26, slot := 3, constantValue := 0 }, { name := "counts", type := (.array .long), accessFlags := 18, slot := 0, constantValue := 0 }]
  methods := #[k2m0, k2m1, k2m2, k2m3, k2m4, k2m5]
  instanceTypes := #[(.array .long)]
  staticTypes := #[.int, .int, .long, .long]
  resolved := Array.replicate 79 none
  statics := none }

def pool3 : Array CpInfo := pool [(1, .class_ 2), (0, u "java/lang/Math"), (1, .class_ 6), (1, u "java/lang/Object"), (0, u "<init>"), (0, u "()V"), (89, .class_ 100), (1, u "java/lang/Math$RandomNumberGeneratorHolder"), (20, u "(JJ)J"), (50, u "negativeZeroFloatBits"), (0, u "J"), (2, u "negativeZeroDoubleBits"), (21, u "max"), (46, u "$assertionsDisabled"), (0, u "Z"), (88, u "(II)I"), (2, u "twoToTheDoubleScaleDown"), (0, u "D"), (4, u "twoToTheDoubleScaleUp"), (9, u "E"), (3, u "PI"), (2, u "TAU"), (2, u "DEGREES_TO_RADIANS"), (0, u "RADIANS_TO_DEGREES")] 94

def k3m0 : Method := { name := "<init>", desc := "()V", sig := { parameters := [], returnType := none }, accessFlags := 2, code := none }
def k3c1 : Code := { maxStack := 2, maxLocals := 2, code := jdk_29_method_65_code, exceptionTable := #[], attributes := #[] }
def k3m1 : Method := { name := "max", desc := "(II)I", sig := { parameters := [.int, .int], returnType := some .int }, accessFlags := 9, code := some k3c1 }
def k3c2 : Code := { maxStack := 4, maxLocals := 4, code := jdk_29_method_66_code, exceptionTable := #[], attributes := #[] }
def k3m2 : Method := { name := "max", desc := "(JJ)J", sig := { parameters := [.long, .long], returnType := some .long }, accessFlags := 9, code := some k3c2 }
/-- java/lang/Math -/
def k3 : Class := { plain "java/lang/Math" (some 0) with
  accessFlags := 49
  interfaces := #[]
  cf := some (fileOf pool3 1 #[.nestMembers #[98]] #[{ accessFlags := 2, nameIndex := 7, descriptorIndex := 8, attributes := #[] }, { accessFlags := 9, nameIndex := 198, descriptorIndex := 335, attributes := #[] }, { accessFlags := 9, nameIndex := 198, descriptorIndex := 121, attributes := #[] }] 49 4 #[] #[{ accessFlags := 25, nameIndex := 354, descriptorIndex := 339, attributes := #[] }, { accessFlags := 25, nameIndex := 358, descriptorIndex := 339, attributes := #[] }, { accessFlags := 25, nameIndex := 361, descriptorIndex := 339, attributes := #[] }, { accessFlags := 26, nameIndex := 364, descriptorIndex := 339, attributes := #[] }, { accessFlags := 26, nameIndex := 365, descriptorIndex := 339, attributes := #[] }, { accessFlags := 26, nameIndex := 172, descriptorIndex := 173, attributes := #[] }, { accessFlags := 26, nameIndex := 176, descriptorIndex := 173, attributes := #[] }, { accessFlags := 8, nameIndex := 344, descriptorIndex := 339, attributes := #[] }, { accessFlags := 8, nameIndex := 338, descriptorIndex := 339, attributes := #[] }, { accessFlags := 4120, nameIndex := 245, descriptorIndex := 246, attributes := #[] }])
  fields := #[{ name := "E", type := .double, accessFlags := 25, slot := 0, constantValue := 0 }, { name := "PI", type := .double, accessFlags := 25, slot := 1, constantValue := 0 }, { name := "TAU", type := .double, accessFlags := 25, slot := 2, constantValue := 0 }, { name := "DEGREES_TO_RADIANS", type := .double, accessFlags := 26, slot := 3, constantValue := 0 }, { name := "RADIANS_TO_DEGREES", type := .double, accessFlags := 26, slot := 4, constantValue := 0 }, { name := "negativeZeroFloatBits", type := .long, accessFlags := 26, slot := 5, constantValue := 0 }, { name := "negativeZeroDoubleBits", type := .long, accessFlags := 26, slot := 6, constantValue := 0 }, { name := "twoToTheDoubleScaleUp", type := .double, accessFlags := 8, slot := 7, constantValue := 0 }, { name := "twoToTheDoubleScaleDown", type := .double, accessFlags := 8, slot := 8, constantValue := 0 }, { name := "$assertionsDisabled", type := .boolean, accessFlags := 4120, slot := 9, constantValue := 0 }]
  methods := #[k3m0, k3m1, k3m2]
  instanceTypes := #[]
  staticTypes := #[.double, .double, .double, .double, .double, .long, .long, .double, .double, .boolean]
  resolved := Array.replicate 460 none
  statics := none }

def pool4 : Array CpInfo := pool [(1, .class_ 2), (0, u "java/io/Serializable"), (0, .class_ 4), (0, u "java/lang/Object")] 2

/-- java/io/Serializable -/
def k4 : Class := { plain "java/io/Serializable" (some 0) with
  accessFlags := 1537
  interfaces := #[]
  cf := some (fileOf pool4 1 #[] #[] 1537 3 #[] #[])
  fields := #[]
  methods := #[]
  instanceTypes := #[]
  staticTypes := #[]
  resolved := Array.replicate 7 none
  statics := none }

def pool5 : Array CpInfo := pool [(2, .class_ 4), (1, u "java/lang/Object"), (0, u "<init>"), (0, u "()V"), (1, .class_ 10), (1, u "java/lang/Number"), (2, .class_ 14), (0, u "java/io/Serializable"), (0, u "serialVersionUID"), (0, u "J")] 20

def k5m0 : Method := { name := "<init>", desc := "()V", sig := { parameters := [], returnType := none }, accessFlags := 1, code := none }
/-- java/lang/Number -/
def k5 : Class := { plain "java/lang/Number" (some 0) with
  accessFlags := 1057
  interfaces := #[4]
  cf := some (fileOf pool5 8 #[] #[{ accessFlags := 1, nameIndex := 5, descriptorIndex := 6, attributes := #[] }] 1057 2 #[13] #[{ accessFlags := 26, nameIndex := 15, descriptorIndex := 16, attributes := #[] }])
  fields := #[{ name := "serialVersionUID", type := .long, accessFlags := 26, slot := 0, constantValue := 0 }]
  methods := #[k5m0]
  instanceTypes := #[]
  staticTypes := #[.long]
  resolved := Array.replicate 37 none
  statics := none }

def pool6 : Array CpInfo := pool [(1, .class_ 2), (0, u "java/lang/Comparable"), (0, .class_ 4), (0, u "java/lang/Object")] 7

/-- java/lang/Comparable -/
def k6 : Class := { plain "java/lang/Comparable" (some 0) with
  accessFlags := 1537
  interfaces := #[]
  cf := some (fileOf pool6 1 #[] #[] 1537 3 #[] #[])
  fields := #[]
  methods := #[]
  instanceTypes := #[]
  staticTypes := #[]
  resolved := Array.replicate 12 none
  statics := none }

def pool7 : Array CpInfo := pool [(1, .class_ 2), (0, u "java/lang/constant/Constable"), (0, .class_ 4), (0, u "java/lang/Object")] 6

/-- java/lang/constant/Constable -/
def k7 : Class := { plain "java/lang/constant/Constable" (some 0) with
  accessFlags := 1537
  interfaces := #[]
  cf := some (fileOf pool7 1 #[] #[] 1537 3 #[] #[])
  fields := #[]
  methods := #[]
  instanceTypes := #[]
  staticTypes := #[]
  resolved := Array.replicate 11 none
  statics := none }

def pool8 : Array CpInfo := pool [(1, .class_ 2), (0, u "java/lang/constant/ConstantDesc"), (0, .class_ 4), (0, u "java/lang/Object")] 32

/-- java/lang/constant/ConstantDesc -/
def k8 : Class := { plain "java/lang/constant/ConstantDesc" (some 0) with
  accessFlags := 1537
  interfaces := #[]
  cf := some (fileOf pool8 1 #[] #[] 1537 3 #[] #[])
  fields := #[]
  methods := #[]
  instanceTypes := #[]
  staticTypes := #[]
  resolved := Array.replicate 37 none
  statics := none }

def pool9 : Array CpInfo := pool [(1, .class_ 2), (0, u "java/lang/Long"), (15, .class_ 20), (1, u "java/lang/Integer"), (79, u "numberOfLeadingZeros"), (0, u "(J)I"), (133, .class_ 237), (1, u "java/lang/Long$LongCache"), (33, .class_ 272), (0, u "java/lang/Number"), (2, u "value"), (0, u "J"), (31, .methodref 18 309), (0, .nameAndType 100 310), (0, u "(I)I"), (50, u "TYPE"), (0, u "Ljava/lang/Class;"), (0, .class_ 364), (0, u "java/lang/Comparable"), (0, .class_ 366), (0, u "java/lang/constant/Constable"), (0, .class_ 368), (0, u "java/lang/constant/ConstantDesc"), (0, u "MIN_VALUE"), (1, u "MAX_VALUE"), (4, u "SIZE"), (0, u "I"), (1, u "BYTES"), (1, u "serialVersionUID")] 142

def k9c0 : Code := { maxStack := 3, maxLocals := 3, code := jdk_35_method_48_code, exceptionTable := #[], attributes := #[] }
def k9m0 : Method := { name := "numberOfLeadingZeros", desc := "(J)I", sig := { parameters := [.long], returnType := some .int }, accessFlags := 9, code := some k9c0 }
/-- java/lang/Long -/
def k9 : Class := { plain "java/lang/Long" (some 5) with
  accessFlags := 49
  interfaces := #[6, 7, 8]
  cf := some (fileOf pool9 1 #[.nestMembers #[235]] #[{ accessFlags := 9, nameIndex := 100, descriptorIndex := 101, attributes := #[] }] 49 271 #[363, 365, 367] #[{ accessFlags := 25, nameIndex := 369, descriptorIndex := 276, attributes := #[] }, { accessFlags := 25, nameIndex := 371, descriptorIndex := 276, attributes := #[] }, { accessFlags := 25, nameIndex := 361, descriptorIndex := 362, attributes := #[] }, { accessFlags := 18, nameIndex := 275, descriptorIndex := 276, attributes := #[] }, { accessFlags := 25, nameIndex := 376, descriptorIndex := 377, attributes := #[] }, { accessFlags := 25, nameIndex := 379, descriptorIndex := 377, attributes := #[] }, { accessFlags := 26, nameIndex := 381, descriptorIndex := 276, attributes := #[] }])
  fields := #[{ name := "MIN_VALUE", type := .long, accessFlags := 25, slot := 0, constantValue := 0 }, { name := "MAX_VALUE", type := .long, accessFlags := 25, slot := 1, constantValue := 0 }, { name := "TYPE", type := (.object "java/lang/Class"), accessFlags := 25, slot := 2, constantValue := 0 }, { name := "value", type := .long, accessFlags := 18, slot := 0, constantValue := 0 }, { name := "SIZE", type := .int, accessFlags := 25, slot := 3, constantValue := 0 }, { name := "BYTES", type := .int, accessFlags := 25, slot := 4, constantValue := 0 }, { name := "serialVersionUID", type := .long, accessFlags := 26, slot := 5, constantValue := 0 }]
  methods := #[k9m0]
  instanceTypes := #[.long]
  staticTypes := #[.long, .long, (.object "java/lang/Class"), .int, .int, .long]
  resolved := Array.replicate 524 none
  statics := none }

def pool10 : Array CpInfo := pool [(1, .class_ 2), (0, u "java/lang/Integer"), (16, u "digits"), (0, u "[C"), (32, u "numberOfLeadingZeros"), (0, u "(I)I"), (30, u "DigitOnes"), (0, u "[B"), (2, u "DigitTens"), (99, .class_ 190), (0, u "java/lang/Integer$IntegerCache"), (3, u "I"), (8, .class_ 204), (0, u "java/lang/Number"), (2, u "value"), (56, .integer 65536), (37, u "TYPE"), (0, u "Ljava/lang/Class;"), (0, .class_ 305), (0, u "java/lang/Comparable"), (0, .class_ 307), (0, u "java/lang/constant/Constable"), (0, .class_ 309), (0, u "java/lang/constant/ConstantDesc"), (0, u "MIN_VALUE"), (1, u "MAX_VALUE"), (3, u "SIZE"), (1, u "BYTES"), (1, u "serialVersionUID"), (0, u "J")] 131

def k10c0 : Code := { maxStack := 3, maxLocals := 2, code := jdk_33_method_47_code, exceptionTable := #[], attributes := #[] }
def k10m0 : Method := { name := "numberOfLeadingZeros", desc := "(I)I", sig := { parameters := [.int], returnType := some .int }, accessFlags := 9, code := some k10c0 }
/-- java/lang/Integer -/
def k10 : Class := { plain "java/lang/Integer" (some 5) with
  accessFlags := 49
  interfaces := #[6, 7, 8]
  cf := some (fileOf pool10 1 #[.nestMembers #[189]] #[{ accessFlags := 9, nameIndex := 53, descriptorIndex := 54, attributes := #[] }] 49 203 #[304, 306, 308] #[{ accessFlags := 25, nameIndex := 310, descriptorIndex := 194, attributes := #[] }, { accessFlags := 25, nameIndex := 312, descriptorIndex := 194, attributes := #[] }, { accessFlags := 25, nameIndex := 302, descriptorIndex := 303, attributes := #[] }, { accessFlags := 24, nameIndex := 19, descriptorIndex := 20, attributes := #[] }, { accessFlags := 24, nameIndex := 89, descriptorIndex := 86, attributes := #[] }, { accessFlags := 24, nameIndex := 85, descriptorIndex := 86, attributes := #[] }, { accessFlags := 18, nameIndex := 207, descriptorIndex := 194, attributes := #[] }, { accessFlags := 25, nameIndex := 316, descriptorIndex := 194, attributes := #[] }, { accessFlags := 25, nameIndex := 318, descriptorIndex := 194, attributes := #[] }, { accessFlags := 26, nameIndex := 320, descriptorIndex := 321, attributes := #[] }])
  fields := #[{ name := "MIN_VALUE", type := .int, accessFlags := 25, slot := 0, constantValue := 0 }, { name := "MAX_VALUE", type := .int, accessFlags := 25, slot := 1, constantValue := 0 }, { name := "TYPE", type := (.object "java/lang/Class"), accessFlags := 25, slot := 2, constantValue := 0 }, { name := "digits", type := (.array .char), accessFlags := 24, slot := 3, constantValue := 0 }, { name := "DigitTens", type := (.array .byte), accessFlags := 24, slot := 4, constantValue := 0 }, { name := "DigitOnes", type := (.array .byte), accessFlags := 24, slot := 5, constantValue := 0 }, { name := "value", type := .int, accessFlags := 18, slot := 0, constantValue := 0 }, { name := "SIZE", type := .int, accessFlags := 25, slot := 6, constantValue := 0 }, { name := "BYTES", type := .int, accessFlags := 25, slot := 7, constantValue := 0 }, { name := "serialVersionUID", type := .long, accessFlags := 26, slot := 8, constantValue := 0 }]
  methods := #[k10m0]
  instanceTypes := #[.int]
  staticTypes := #[.int, .int, (.object "java/lang/Class"), (.array .char), (.array .byte), (.array .byte), .int, .int, .long]
  resolved := Array.replicate 453 none
  statics := none }

def pool11 : Array CpInfo := pool [(1, u "java/lang/Cloneable"), (0, .class_ 1), (0, u "java/lang/Object"), (0, .class_ 3)] 3

/-- java/lang/Cloneable -/
def k11 : Class := { plain "java/lang/Cloneable" (some 0) with
  accessFlags := 1537
  interfaces := #[]
  cf := some (fileOf pool11 2 #[] #[] 1537 4 #[] #[])
  fields := #[]
  methods := #[]
  instanceTypes := #[]
  staticTypes := #[]
  resolved := Array.replicate 8 none
  statics := none }

/-- the primitive byte -/
def k12 : Class := { plain "byte" none with kind := .primitive 'B', accessFlags := 0x411 }
/-- [B -/
def k13 : Class := { plain "[B" (some 0) with kind := .array 12 .byte, interfaces := #[11, 4], accessFlags := 1041 }

/-- the primitive int -/
def k14 : Class := { plain "int" none with kind := .primitive 'I', accessFlags := 0x411 }
/-- [I -/
def k15 : Class := { plain "[I" (some 0) with kind := .array 14 .int, interfaces := #[11, 4], accessFlags := 1041 }

/-- the primitive long -/
def k16 : Class := { plain "long" none with kind := .primitive 'J', accessFlags := 0x411 }
/-- [J -/
def k17 : Class := { plain "[J" (some 0) with kind := .array 16 .long, interfaces := #[11, 4], accessFlags := 1041 }

def heap : Heap := #[]
def classes : Array Class := #[k0, k1, k2, k3, k4, k5, k6, k7, k8, k9, k10, k11, k12, k13, k14, k15, k16, k17]
def interned : List (Array UInt16 × Addr) := []
def slotsUsed : Nat := 0
def theMethod : MethodId := ⟨1, 1⟩
def args0 : Array Value := #[.int 5, .int 3, .long 20, .int 1, .long 7, .int 1]
def aboutOver (below : List Frame) : State where
  vm := { classes := classes, interned := interned.toArray }
  heap := heap
  slotsUsed := slotsUsed
  threads := #[{ frames := .invoking theMethod args0 :: below }]
def below0 : List Frame := [.native { method := ⟨0, 0⟩, args := #[] }]
def about1 : State := aboutOver below0
def p0 : Program := .bare "" "" ""
def e0 : Env := launch0.env 0 0 0
theorem w_frames : about1.frames = Frame.invoking theMethod args0 :: below0 := rfl
set_option maxRecDepth 65536 in
theorem w_args : argsFit about1.vm theMethod args0 = true := by decide +kernel
set_option maxRecDepth 65536 in
theorem w_heap : heapFits about1 = true := by decide +kernel
set_option maxRecDepth 65536 in
theorem w_runnable : about1.curStatus? = some .runnable := by decide +kernel
set_option maxRecDepth 65536 in
theorem w_alone : about1.alone = true := by decide +kernel
set_option maxRecDepth 65536 in
theorem w_named : about1.methodNamed? x = some theMethod := by decide +kernel
set_option maxRecDepth 65536 in
theorem w_hears : about1.hears theMethod below0 = true := by decide +kernel
set_option maxRecDepth 65536 in
theorem w_ripe : about1.ripe theMethod args0 below0 = true := by decide +kernel
theorem w_running : about1.status = .running := rfl
set_option maxRecDepth 65536 in
theorem w_room : about1.hasRoom e0.platform room_1 = true :=
  launch0.hasRoom_least _ room_1 (by decide +kernel) (by decide +kernel) (by decide +kernel) (by decide +kernel) (by decide +kernel) (by decide +kernel)
theorem allAtoms_all (ts : List Jvm.Cond) (a : Array Jvm.Value) (st : Jvm.State) : (allAtoms ts).before a st = ts.all (fun c => c.before a st) := by
  induction ts with
  | nil => rfl
  | cons c t ih =>
    show (Jvm.Cond.and c (allAtoms t)).before a st = _
    rw [Jvm.Cond.before_and, ih, List.all_cons]
def words1 : List Jvm.Cond := Jvm.Cond.code x code maxLocals ret :: tables_1
/-- a 'code' word, met by the world's own term for the bytes: nothing is compared byte by byte -/
theorem code_word {y : MethodName} {bytes : ByteArray} {mx : Nat} {rt : Option FieldType} {a : Array Value} {s : State} {m : MethodId} {meth : Method} {c : Code} (h1 : s.methodNamed? y = some m) (h2 : s.vm.method? m = some meth) (h3 : meth.code = some c) (h4 : c.code = bytes)
    (h5 : (c.maxLocals == mx && c.exceptionTable.isEmpty && decide (c.maxStack ≤ mostOperands) && decide (meth.sig.returnType = rt) && !meth.locks && decide (parseMethodDescriptor y.desc = some meth.sig)) = true) : (Jvm.Cond.code y bytes mx rt).before a s = true := by
  simp only [Bool.and_eq_true, beq_iff_eq, Bool.not_eq_true', decide_eq_true_eq] at h5
  obtain ⟨⟨⟨⟨⟨g1, g2⟩, g3⟩, g4⟩, g5⟩, g6⟩ := h5
  simp [Cond.before, Cond.holds, Cond.value, h1, h2, h3, h4, g1, g2, g3, g4, g5, g6]
def isCode : Jvm.Cond → Bool
  | .code _ _ _ _ => true
  | _ => false
theorem all_split {L : List Jvm.Cond} {P : Jvm.Cond → Bool} (h1 : L.all (fun c => isCode c || P c) = true) (h2 : ∀ c ∈ L.filter isCode, P c = true) : L.all P = true := by
  refine List.all_eq_true.mpr fun c hc => ?_
  have h := List.all_eq_true.mp h1 c hc
  rcases Bool.eq_false_or_eq_true (isCode c) with hi | hi
  · exact h2 c (List.mem_filter.mpr ⟨hc, hi⟩)
  · simpa [hi] using h
set_option maxRecDepth 65536 in
theorem w_c0 : (Jvm.Cond.code x code maxLocals ret).before args0 about1 = true := code_word (m := ⟨1, 1⟩) (meth := k1m1) (c := k1c1) (by decide +kernel) rfl rfl rfl (by decide +kernel)
set_option maxRecDepth 65536 in
theorem w_c1 : (Jvm.Cond.code ({ cls := "com/example/rate_keeper/ratekeeper/server/bench/LatencyHistogram", name := "<init>", desc := "()V" } : Jvm.MethodName) prog_10_method_1_code (1 : Nat) (Option.none : Option Jvm.ClassFile.FieldType)).before args0 about1 = true := code_word (m := ⟨2, 0⟩) (meth := k2m0) (c := k2c0) (by decide +kernel) rfl rfl rfl (by decide +kernel)
set_option maxRecDepth 65536 in
theorem w_c2 : (Jvm.Cond.code ({ cls := "java/lang/Object", name := "<init>", desc := "()V" } : Jvm.MethodName) object_method_1_code (1 : Nat) (Option.none : Option Jvm.ClassFile.FieldType)).before args0 about1 = true := code_word (m := ⟨0, 0⟩) (meth := k0m0) (c := k0c0) (by decide +kernel) rfl rfl rfl (by decide +kernel)
set_option maxRecDepth 65536 in
theorem w_c3 : (Jvm.Cond.code ({ cls := "com/example/rate_keeper/ratekeeper/server/bench/LatencyHistogram", name := "record", desc := "(J)V" } : Jvm.MethodName) prog_10_method_2_code (5 : Nat) (Option.none : Option Jvm.ClassFile.FieldType)).before args0 about1 = true := code_word (m := ⟨2, 1⟩) (meth := k2m1) (c := k2c1) (by decide +kernel) rfl rfl rfl (by decide +kernel)
set_option maxRecDepth 65536 in
theorem w_c4 : (Jvm.Cond.code ({ cls := "java/lang/Math", name := "max", desc := "(JJ)J" } : Jvm.MethodName) jdk_29_method_66_code (4 : Nat) (Option.some Jvm.ClassFile.FieldType.long)).before args0 about1 = true := code_word (m := ⟨3, 2⟩) (meth := k3m2) (c := k3c2) (by decide +kernel) rfl rfl rfl (by decide +kernel)
set_option maxRecDepth 65536 in
theorem w_c5 : (Jvm.Cond.code ({ cls := "com/example/rate_keeper/ratekeeper/server/bench/LatencyHistogram", name := "index", desc := "(J)I" } : Jvm.MethodName) prog_10_method_5_code (4 : Nat) (Option.some Jvm.ClassFile.FieldType.int)).before args0 about1 = true := code_word (m := ⟨2, 4⟩) (meth := k2m4) (c := k2c4) (by decide +kernel) rfl rfl rfl (by decide +kernel)
set_option maxRecDepth 65536 in
theorem w_c6 : (Jvm.Cond.code ({ cls := "java/lang/Long", name := "numberOfLeadingZeros", desc := "(J)I" } : Jvm.MethodName) jdk_35_method_48_code (3 : Nat) (Option.some Jvm.ClassFile.FieldType.int)).before args0 about1 = true := code_word (m := ⟨9, 0⟩) (meth := k9m0) (c := k9c0) (by decide +kernel) rfl rfl rfl (by decide +kernel)
set_option maxRecDepth 65536 in
theorem w_c7 : (Jvm.Cond.code ({ cls := "java/lang/Integer", name := "numberOfLeadingZeros", desc := "(I)I" } : Jvm.MethodName) jdk_33_method_47_code (2 : Nat) (Option.some Jvm.ClassFile.FieldType.int)).before args0 about1 = true := code_word (m := ⟨10, 0⟩) (meth := k10m0) (c := k10c0) (by decide +kernel) rfl rfl rfl (by decide +kernel)
set_option maxRecDepth 65536 in
theorem w_c8 : (Jvm.Cond.code ({ cls := "java/lang/Math", name := "max", desc := "(II)I" } : Jvm.MethodName) jdk_29_method_65_code (2 : Nat) (Option.some Jvm.ClassFile.FieldType.int)).before args0 about1 = true := code_word (m := ⟨3, 1⟩) (meth := k3m1) (c := k3c1) (by decide +kernel) rfl rfl rfl (by decide +kernel)
set_option maxRecDepth 65536 in
theorem w_c9 : (Jvm.Cond.code ({ cls := "com/example/rate_keeper/ratekeeper/server/bench/LatencyHistogram", name := "count", desc := "()J" } : Jvm.MethodName) prog_10_method_3_code (8 : Nat) (Option.some Jvm.ClassFile.FieldType.long)).before args0 about1 = true := code_word (m := ⟨2, 2⟩) (meth := k2m2) (c := k2c2) (by decide +kernel) rfl rfl rfl (by decide +kernel)
set_option maxRecDepth 65536 in
theorem w_c10 : (Jvm.Cond.code ({ cls := "com/example/rate_keeper/ratekeeper/server/bench/LatencyHistogram", name := "percentileMicros", desc := "(I)D" } : Jvm.MethodName) prog_10_method_4_code (9 : Nat) (Option.some Jvm.ClassFile.FieldType.double)).before args0 about1 = true := code_word (m := ⟨2, 3⟩) (meth := k2m3) (c := k2c3) (by decide +kernel) rfl rfl rfl (by decide +kernel)
set_option maxRecDepth 65536 in
theorem w_c11 : (Jvm.Cond.code ({ cls := "com/example/rate_keeper/ratekeeper/server/bench/LatencyHistogram", name := "middle", desc := "(I)D" } : Jvm.MethodName) prog_10_method_6_code (4 : Nat) (Option.some Jvm.ClassFile.FieldType.double)).before args0 about1 = true := code_word (m := ⟨2, 5⟩) (meth := k2m5) (c := k2c5) (by decide +kernel) rfl rfl rfl (by decide +kernel)
def codes1 : List Jvm.Cond := [Jvm.Cond.code x code maxLocals ret, Jvm.Cond.code ({ cls := "com/example/rate_keeper/ratekeeper/server/bench/LatencyHistogram", name := "<init>", desc := "()V" } : Jvm.MethodName) prog_10_method_1_code (1 : Nat) (Option.none : Option Jvm.ClassFile.FieldType), Jvm.Cond.code ({ cls := "java/lang/Object", name := "<init>", desc := "()V" } : Jvm.MethodName) object_method_1_code (1 : Nat) (Option.none : Option Jvm.ClassFile.FieldType), Jvm.Cond.code ({ cls := "com/example/rate_keeper/ratekeeper/server/bench/LatencyHistogram", name := "record", desc := "(J)V" } : Jvm.MethodName) prog_10_method_2_code (5 : Nat) (Option.none : Option Jvm.ClassFile.FieldType), Jvm.Cond.code ({ cls := "java/lang/Math", name := "max", desc := "(JJ)J" } : Jvm.MethodName) jdk_29_method_66_code (4 : Nat) (Option.some Jvm.ClassFile.FieldType.long), Jvm.Cond.code ({ cls := "com/example/rate_keeper/ratekeeper/server/bench/LatencyHistogram", name := "index", desc := "(J)I" } : Jvm.MethodName) prog_10_method_5_code (4 : Nat) (Option.some Jvm.ClassFile.FieldType.int), Jvm.Cond.code ({ cls := "java/lang/Long", name := "numberOfLeadingZeros", desc := "(J)I" } : Jvm.MethodName) jdk_35_method_48_code (3 : Nat) (Option.some Jvm.ClassFile.FieldType.int), Jvm.Cond.code ({ cls := "java/lang/Integer", name := "numberOfLeadingZeros", desc := "(I)I" } : Jvm.MethodName) jdk_33_method_47_code (2 : Nat) (Option.some Jvm.ClassFile.FieldType.int), Jvm.Cond.code ({ cls := "java/lang/Math", name := "max", desc := "(II)I" } : Jvm.MethodName) jdk_29_method_65_code (2 : Nat) (Option.some Jvm.ClassFile.FieldType.int), Jvm.Cond.code ({ cls := "com/example/rate_keeper/ratekeeper/server/bench/LatencyHistogram", name := "count", desc := "()J" } : Jvm.MethodName) prog_10_method_3_code (8 : Nat) (Option.some Jvm.ClassFile.FieldType.long), Jvm.Cond.code ({ cls := "com/example/rate_keeper/ratekeeper/server/bench/LatencyHistogram", name := "percentileMicros", desc := "(I)D" } : Jvm.MethodName) prog_10_method_4_code (9 : Nat) (Option.some Jvm.ClassFile.FieldType.double), Jvm.Cond.code ({ cls := "com/example/rate_keeper/ratekeeper/server/bench/LatencyHistogram", name := "middle", desc := "(I)D" } : Jvm.MethodName) prog_10_method_6_code (4 : Nat) (Option.some Jvm.ClassFile.FieldType.double)]
set_option maxRecDepth 65536 in
theorem codes_eq : words1.filter isCode = codes1 := rfl
theorem w_codes : ∀ c ∈ words1.filter isCode, c.before args0 about1 = true := by
  rw [codes_eq]
  intro c hc
  simp only [codes1, List.mem_cons, List.not_mem_nil, or_false] at hc
  rcases hc with rfl | rfl | rfl | rfl | rfl | rfl | rfl | rfl | rfl | rfl | rfl | rfl
  · exact w_c0
  · exact w_c1
  · exact w_c2
  · exact w_c3
  · exact w_c4
  · exact w_c5
  · exact w_c6
  · exact w_c7
  · exact w_c8
  · exact w_c9
  · exact w_c10
  · exact w_c11
set_option maxRecDepth 65536 in
theorem w_t1 : (words1.take 24).all (fun c => isCode c || c.before args0 about1) = true := by decide +kernel
set_option maxRecDepth 65536 in
theorem w_t2 : ((words1.drop 24).take 24).all (fun c => isCode c || c.before args0 about1) = true := by decide +kernel
set_option maxRecDepth 65536 in
theorem w_t3 : ((words1.drop 24).drop 24).all (fun c => isCode c || c.before args0 about1) = true := by decide +kernel
theorem w_tables : (allAtoms (Jvm.Cond.code x code maxLocals ret :: tables_1)).before args0 about1 = true := by
  rw [allAtoms_all]
  show words1.all (fun c => c.before args0 about1) = true
  refine all_split ?_ w_codes
  rw [← List.take_append_drop 24 words1, List.all_append, w_t1, ← List.take_append_drop 24 (words1.drop 24), List.all_append, w_t2, w_t3]
  rfl
set_option maxRecDepth 65536 in
theorem w_case : (Jvm.Cond.and given_1 narrow_1).before args0 about1 = true := by decide +kernel
theorem w_applies : (headSpec (Jvm.Cond.code x code maxLocals ret :: tables_1) room_1).applies x e0.platform about1 = true :=
  (Spec.applies_iff w_frames).mpr ⟨w_running, w_runnable, w_alone, w_named, w_hears, w_ripe, w_room, w_tables⟩
theorem atStart : AtStart classFile x code maxLocals ret World_1 tables_1 room_1 Calls_1 rest_1 Pre_1 launch0 p0 e0 about1 theMethod args0 below0 :=
  ⟨lists_1, trivial, launch0.admits_env _ _ _, launch0.least_env, fairChoices_fair.cas, fairChoices_fair.clock, w_frames, w_args, w_heap, w_applies, trivial, trivial, w_case⟩
end start1
theorem witness_1 : WitnessClaimed_1 := ⟨start1.p0, start1.e0, start1.about1, start1.theMethod, start1.args0, start1.below0, start1.atStart⟩
end Jvm.Pilot.@@N@@
