import JvmDerived
import JvmDerived.Pilot.@@N@@Statement
import JvmDerived.Pilot.@@N@@Code
set_option linter.unusedVariables false
set_option linter.unusedSimpArgs false
@@BLOCK:NumsL.lean.txt@@
namespace Jvm.Pilot.@@N@@
open Jvm Jvm.ClassFile Sem Op Lib Jvm.Free Jvm.Stand Jvm.LawKit Jvm.RoadKit Bundle Jvm.Pilot.@@N@@.Jvm.D
theorem own_ne {k : Int32} {n : Int} (z : Int32) (hl : z.toInt = n) (h : ¬ k = z) : n ≠ k.toInt := fun e => h (Int32.toInt_inj.mp (by rw [hl]; exact e.symm))
theorem own_ext {Z : State} {n0 : Nat} {h : Heap} (O : Old Z n0 h) : Ext Z.heap h := O.2
theorem own_sz {Z : State} {n0 : Nat} {h : Heap} (O : Old Z n0 h) : n0 ≤ h.size := by have := O.2.1; rw [O.1] at this; exact this
def own_Ends (p : Program) (e : Env) (below : List Frame) (s : State) (Q : Option Value → Heap → List Loc → Prop) (k n : Nat) (A : State) : Prop :=
  ∃ (U : State) (o : Outcome), Steps p.tables e below A U ∧ U.status = .running ∧ Ended U below o ∧ ∃ v L, o = .returned v ∧ Q v U.heap L ∧ FrameEnd s o U L k n
section OwnKit
variable {p : Program} {l : Launch} {e : Env} {R : Room} {s : State} {m : MethodId} {args : Array Value} {below : List Frame} {meth : Method} {c : Code} {T : State} {locs : List Loc} {cells slots k n : Nat} {Q : Option Value → Heap → List Loc → Prop} {A B : State}
theorem own_go (h : ∀ t, Steps p.tables e below B t → Steps p.tables e below A t) (K : own_Ends p e below s Q k n B) : own_Ends p e below s Q k n A := by
  obtain ⟨U, o, h1, r⟩ := K
  exact ⟨U, o, h U h1, r⟩
theorem own_ret (X : Stand p l e R s m args below meth c T locs cells slots) (hx : p.tables.exec = Jvm.exec) (hlk : meth.locks = false) {pc : Nat} {Ls : Array Slot} {w : Value} {t : FieldType} {i : Instr} {rest : List Value} (hret : meth.sig.returnType = some t) (hn : narrow t w = w)
    (hi : (i = .ireturn ∧ (t = .int ∨ t = .boolean ∨ t = .byte ∨ t = .char ∨ t = .short) ∧ ∃ z, w = .int z) ∨ (i = .lreturn ∧ t = .long ∧ ∃ z, w = .long z) ∨ (i = .dreturn ∧ t = .double ∧ ∃ z, w = .double z) ∨ (i = .freturn ∧ t = .float ∧ ∃ z, w = .float z) ∨ (i = .areturn ∧ t.isReference = true ∧ w.isRef = true))
    (hd : decode c.code pc = .ok (i, 1)) (hk : cells ≤ k) (hs : slots ≤ n) (hQ : Q (some w) T.heap locs) : own_Ends p e below s Q k n (T.setTop (mkF m pc Ls (w :: rest))) := by
  obtain ⟨fs, hr, hrun, hended, hW, hsame⟩ := X.leave (v := some w) (fun h => by rw [hret] at h; cases h) hlk
  exact ⟨_, _, retOut X hx hret hn hi hd hr, hrun, hended, _, _, rfl, hQ, ⟨_, rfl⟩, hW, hsame.mono hk hs⟩
theorem own_retI (X : Stand p l e R s m args below meth c T locs cells slots) (hx : p.tables.exec = Jvm.exec) (hlk : meth.locks = false) {pc : Nat} {Ls : Array Slot} {z : Int32} {rest : List Value} (hret : meth.sig.returnType = some .int) (hd : decode c.code pc = .ok (.ireturn, 1)) (hk : cells ≤ k) (hs : slots ≤ n) (hQ : Q (some (.int z)) T.heap locs) : own_Ends p e below s Q k n (T.setTop (mkF m pc Ls (.int z :: rest))) :=
  own_ret X hx hlk hret rfl (Or.inl ⟨rfl, Or.inl rfl, _, rfl⟩) hd hk hs hQ
theorem own_retJ (X : Stand p l e R s m args below meth c T locs cells slots) (hx : p.tables.exec = Jvm.exec) (hlk : meth.locks = false) {pc : Nat} {Ls : Array Slot} {z : Int64} {rest : List Value} (hret : meth.sig.returnType = some .long) (hd : decode c.code pc = .ok (.lreturn, 1)) (hk : cells ≤ k) (hs : slots ≤ n) (hQ : Q (some (.long z)) T.heap locs) : own_Ends p e below s Q k n (T.setTop (mkF m pc Ls (.long z :: rest))) :=
  own_ret X hx hlk hret rfl (Or.inr (Or.inl ⟨rfl, rfl, _, rfl⟩)) hd hk hs hQ
theorem own_retD (X : Stand p l e R s m args below meth c T locs cells slots) (hx : p.tables.exec = Jvm.exec) (hlk : meth.locks = false) {pc : Nat} {Ls : Array Slot} {z : UInt64} {rest : List Value} (hret : meth.sig.returnType = some .double) (hd : decode c.code pc = .ok (.dreturn, 1)) (hk : cells ≤ k) (hs : slots ≤ n) (hQ : Q (some (.double z)) T.heap locs) : own_Ends p e below s Q k n (T.setTop (mkF m pc Ls (.double z :: rest))) :=
  own_ret X hx hlk hret rfl (Or.inr (Or.inr (Or.inl ⟨rfl, rfl, _, rfl⟩))) hd hk hs hQ
theorem own_retA (X : Stand p l e R s m args below meth c T locs cells slots) (hx : p.tables.exec = Jvm.exec) (hlk : meth.locks = false) {pc : Nat} {Ls : Array Slot} {w : Value} {t : FieldType} {rest : List Value} (hret : meth.sig.returnType = some t) (ht : t.isReference = true) (hw : w.isRef = true) (hn : narrow t w = w) (hd : decode c.code pc = .ok (.areturn, 1)) (hk : cells ≤ k) (hs : slots ≤ n) (hQ : Q (some w) T.heap locs) : own_Ends p e below s Q k n (T.setTop (mkF m pc Ls (w :: rest))) :=
  own_ret X hx hlk hret hn (Or.inr (Or.inr (Or.inr (Or.inr ⟨rfl, ht, hw⟩)))) hd hk hs hQ
theorem own_retN (X : Stand p l e R s m args below meth c T locs cells slots) (hx : p.tables.exec = Jvm.exec) (hlk : meth.locks = false) {pc : Nat} {Ls : Array Slot} {z : Int32} {t : FieldType} {rest : List Value} (hret : meth.sig.returnType = some t) (ht : t = .boolean ∨ t = .byte ∨ t = .char ∨ t = .short) (hd : decode c.code pc = .ok (.ireturn, 1)) (hk : cells ≤ k) (hs : slots ≤ n) (hQ : Q (some (.int (nar t z))) T.heap locs) : own_Ends p e below s Q k n (T.setTop (mkF m pc Ls (.int z :: rest))) := by
  obtain ⟨fs, hr, hrun, hended, hW, hsame⟩ := X.leave (v := some (.int (nar t z))) (fun h => by rw [hret] at h; cases h) hlk
  exact ⟨_, _, retN X hx hret ht hd hr, hrun, hended, _, _, rfl, hQ, ⟨_, rfl⟩, hW, hsame.mono hk hs⟩
theorem own_retV (X : Stand p l e R s m args below meth c T locs cells slots) (hx : p.tables.exec = Jvm.exec) (hlk : meth.locks = false) {pc : Nat} {Ls : Array Slot} (hret : meth.sig.returnType = none) (hd : decode c.code pc = .ok (.return_, 1)) (hk : cells ≤ k) (hs : slots ≤ n) (hQ : Q none T.heap locs) : own_Ends p e below s Q k n (T.setTop (mkF m pc Ls [])) := by
  obtain ⟨fs, hr, hrun, hended, hW, hsame⟩ := X.leave (v := none) (fun _ => rfl) hlk
  exact ⟨_, _, X.returnOut hx hret hd hr, hrun, hended, _, _, rfl, hQ, ⟨_, rfl⟩, hW, hsame.mono hk hs⟩
end OwnKit

theorem own_eqref {args : Array Value} {first s : State} {o : Option Outcome} {idx : List Nat} {a b : Term} {y : Addr} (hb : b.eval args first o idx s = some (.ref y)) (h : (Jvm.Cond.eq a b).value args first o s idx = some true) : a.eval args first o idx s = some (.ref y) := by
  cases ha : a.eval args first o idx s with
  | none => simp [Cond.value, ha] at h
  | some x => cases x <;> simp [Cond.value, ha, hb] at h ⊢; exact h
theorem d1a_0 : decode prog_58_method_7_code 0 = .ok (.aload_n 0, 1) := by decide +kernel
theorem d1a_1 : decode prog_58_method_7_code 1 = .ok (.getfield 39, 3) := by decide +kernel
theorem d1a_4 : decode prog_58_method_7_code 4 = .ok (.ifnonnull 7, 3) := by decide +kernel
theorem d1a_7 : decode prog_58_method_7_code 7 = .ok (.iconst 0, 1) := by decide +kernel
theorem d1a_8 : decode prog_58_method_7_code 8 = .ok (.goto 12, 3) := by decide +kernel
theorem d1a_20 : decode prog_58_method_7_code 20 = .ok (.ireturn, 1) := by decide +kernel
theorem pn1a : plainName "com/example/helmsward/helmsward/policy/ResourceLevel" = true := by first | (simp [plainName, overriddenIn]; done) | decide +kernel
theorem ef1a (m : MethodId) (a0 : Addr) : entryFrame m #[(.ref a0)] 1 = mkF m 0 #[.val (.ref a0)] [] := by first | (simp [entryFrame, mkF, argsToLocals, Value.category]; done) | rfl
def f1a (a0 : Addr) : Int32 := (0 : Int32)
def Q1a (Z : State) (a0 : Addr) (h0 : Heap) (n0 : Nat) (v : Option Value) (h : Heap) (L : List Loc) : Prop := v = some (.int (f1a a0)) ∧ Fr n0 L ∧ h = h0
set_option maxRecDepth 65536 in
set_option maxHeartbeats 40000000 in
theorem rm1a (l : Launch) (Z : State) (ar : Array Value) (hw : ∀ d ∈ tables_1, d.before ar Z = true) (ws : List Jvm.Cond) (a0 : Addr) (h0 : Heap) (n0 : Nat) (O0 : Old Z n0 h0) (F_parent_a0 : Fld Z h0 a0 "com/example/helmsward/helmsward/policy/ResourceLevel" "parent" "Lcom/example/helmsward/helmsward/policy/ResourceLevel;" .null) :
    MetFree l (⟨"com/example/helmsward/helmsward/policy/ResourceLevel", "depth", "()I"⟩ : MethodName) (head1 (Jvm.Cond.code (⟨"com/example/helmsward/helmsward/policy/ResourceLevel", "depth", "()I"⟩ : MethodName) prog_58_method_7_code 1 (some .int) :: ws) ({ frames := 0, cells := 0, slots := 0, locals := 0 } : Room)) (fun a U => a = #[(.ref a0)] ∧ Z.Warmed39 U.vm ∧ U.heap = h0) (fun _ _ _ _ _ => True) (fun _ U o U' => ∃ v L, o = .returned v ∧ Q1a Z a0 h0 n0 v U'.heap L ∧ FrameEnd U o U' L ({ frames := 0, cells := 0, slots := 0, locals := 0 } : Room).cells ({ frames := 0, cells := 0, slots := 0, locals := 0 } : Room).slots) := by
  refine MetFree.of_bodySF (plainFor_of_name pn1a) hisR ?_
  intro p e s m args below meth c s₁ Bd hml0 hP hK
  obtain ⟨rfl, hZ, hh⟩ := hP
  have hx := Bd.exec
  have hby := Bd.bytes
  have hml : c.maxLocals = 1 := hml0
  have hown : s.vm.findClass "com/example/helmsward/helmsward/policy/ResourceLevel" = some m.cls := findClass_of_methodNamed Bd.named
  have hnm := (name_of_methodNamed Bd.named Bd.method).1
  have hlk : meth.locks = false := BodyLoose.notSynchronized Bd
  have X0 : Stand p l e ({ frames := 0, cells := 0, slots := 0, locals := 0 } : Room) s m #[(.ref a0)] below meth c s₁ [] 0 0 := Stand.of_body Bd
  have e0 : s₁.heap = h0 := by rw [← hh, Bd.state]; rfl
  have N0 := Fr.nil n0
  suffices hmain : own_Ends p e below s (Q1a Z a0 h0 n0) 0 0 (s₁.setTop (mkF m 0 #[.val (.ref a0)] [])) by
    obtain ⟨U, o, h1, r⟩ := hmain
    exact ⟨U, o, castTop (ef1a m a0) h1, r⟩
  show own_Ends _ _ _ _ _ _ _ (s₁.setTop (mkF m 0 #[.val (.ref a0)] []))
  refine own_go (fun _ k => XS.aloadN X0.here hx rfl (hb hby d1a_0) rfl rfl k) ?_
  show own_Ends _ _ _ _ _ _ _ (s₁.setTop (mkF m 1 #[.val (.ref a0)] [(.ref a0)]))
  obtain ⟨T1, X1, e1, st1⟩ := getF X0 hx hZ hown (host := "") (Or.inl (hw _ (List.mem_of_getElem? (i := 8) rfl))) Via.refl e0 F_parent_a0 (g := (mkF m 1 #[.val (.ref a0)] [(.ref a0)])) rfl rfl (hb hby d1a_1)
  refine own_go (fun _ k => st1 _ k) ?_
  show own_Ends _ _ _ _ _ _ _ (T1.setTop (mkF m 4 #[.val (.ref a0)] [.null]))
  refine own_go (fun _ k => XS.ifnonnullNo X1.here hx rfl (hb hby d1a_4) rfl k) ?_
  show own_Ends _ _ _ _ _ _ _ (T1.setTop (mkF m 7 #[.val (.ref a0)] []))
  refine own_go (fun _ k => XS.iconst X1.here hx rfl (hb hby d1a_7) k) ?_
  show own_Ends _ _ _ _ _ _ _ (T1.setTop (mkF m 8 #[.val (.ref a0)] [(.int (0 : Int32))]))
  refine own_go (fun _ k => XS.goto X1.here hx rfl (pc0 := 8) (pc' := 20) rfl (hb hby d1a_8) (by decide) (by decide) k) ?_
  show own_Ends _ _ _ _ _ _ _ (T1.setTop (mkF m 20 #[.val (.ref a0)] [(.int (0 : Int32))]))
  exact own_retI X1 hx hlk Bd.returns (hb hby d1a_20) (by decide) (by decide) ⟨congrArg (fun z => some (Value.int z)) (by exact rfl), N0, e1⟩
theorem d1b_0 : decode prog_58_method_7_code 0 = .ok (.aload_n 0, 1) := by decide +kernel
theorem d1b_1 : decode prog_58_method_7_code 1 = .ok (.getfield 39, 3) := by decide +kernel
theorem d1b_4 : decode prog_58_method_7_code 4 = .ok (.ifnonnull 7, 3) := by decide +kernel
theorem d1b_11 : decode prog_58_method_7_code 11 = .ok (.aload_n 0, 1) := by decide +kernel
theorem d1b_12 : decode prog_58_method_7_code 12 = .ok (.getfield 39, 3) := by decide +kernel
theorem d1b_15 : decode prog_58_method_7_code 15 = .ok (.invokevirtual 50, 3) := by decide +kernel
theorem d1b_18 : decode prog_58_method_7_code 18 = .ok (.iconst 1, 1) := by decide +kernel
theorem d1b_19 : decode prog_58_method_7_code 19 = .ok (.iadd, 1) := by decide +kernel
theorem d1b_20 : decode prog_58_method_7_code 20 = .ok (.ireturn, 1) := by decide +kernel
theorem pn1b : plainName "com/example/helmsward/helmsward/policy/ResourceLevel" = true := by first | (simp [plainName, overriddenIn]; done) | decide +kernel
theorem pd1b_0 : parseMethodDescriptor "()I" = some ⟨[], some .int⟩ := by decide +kernel
theorem ef1b (m : MethodId) (a0 : Addr) : entryFrame m #[(.ref a0)] 1 = mkF m 0 #[.val (.ref a0)] [] := by first | (simp [entryFrame, mkF, argsToLocals, Value.category]; done) | rfl
def f1b (a0 : Addr) (x1 : Addr) : Int32 := ((f1a x1) + (1 : Int32))
def Q1b (Z : State) (a0 : Addr) (x1 : Addr) (h0 : Heap) (n0 : Nat) (v : Option Value) (h : Heap) (L : List Loc) : Prop := v = some (.int (f1b a0 x1)) ∧ Fr n0 L ∧ h = h0
set_option maxRecDepth 65536 in
set_option maxHeartbeats 40000000 in
theorem rm1b (l : Launch) (Z : State) (ar : Array Value) (hw : ∀ d ∈ tables_1, d.before ar Z = true) (ws : List Jvm.Cond) (a0 : Addr) (x1 : Addr) (h0 : Heap) (n0 : Nat) (O0 : Old Z n0 h0) (F_parent_a0 : Fld Z h0 a0 "com/example/helmsward/helmsward/policy/ResourceLevel" "parent" "Lcom/example/helmsward/helmsward/policy/ResourceLevel;" (.ref x1)) (E_x1 : Exa Z h0 x1 "com/example/helmsward/helmsward/policy/ResourceLevel") (F_parent_x1 : Fld Z h0 x1 "com/example/helmsward/helmsward/policy/ResourceLevel" "parent" "Lcom/example/helmsward/helmsward/policy/ResourceLevel;" .null) :
    MetFree l (⟨"com/example/helmsward/helmsward/policy/ResourceLevel", "depth", "()I"⟩ : MethodName) (head1 (Jvm.Cond.code (⟨"com/example/helmsward/helmsward/policy/ResourceLevel", "depth", "()I"⟩ : MethodName) prog_58_method_7_code 1 (some .int) :: ws) ({ frames := 1, cells := 0, slots := 0, locals := 12 } : Room)) (fun a U => a = #[(.ref a0)] ∧ Z.Warmed39 U.vm ∧ U.heap = h0) (fun _ _ _ _ _ => True) (fun _ U o U' => ∃ v L, o = .returned v ∧ Q1b Z a0 x1 h0 n0 v U'.heap L ∧ FrameEnd U o U' L ({ frames := 1, cells := 0, slots := 0, locals := 12 } : Room).cells ({ frames := 1, cells := 0, slots := 0, locals := 12 } : Room).slots) := by
  refine MetFree.of_bodySF (plainFor_of_name pn1b) hisR ?_
  intro p e s m args below meth c s₁ Bd hml0 hP hK
  obtain ⟨rfl, hZ, hh⟩ := hP
  have hx := Bd.exec
  have hby := Bd.bytes
  have hml : c.maxLocals = 1 := hml0
  have hown : s.vm.findClass "com/example/helmsward/helmsward/policy/ResourceLevel" = some m.cls := findClass_of_methodNamed Bd.named
  have hnm := (name_of_methodNamed Bd.named Bd.method).1
  have hlk : meth.locks = false := BodyLoose.notSynchronized Bd
  have X0 : Stand p l e ({ frames := 1, cells := 0, slots := 0, locals := 12 } : Room) s m #[(.ref a0)] below meth c s₁ [] 0 0 := Stand.of_body Bd
  have e0 : s₁.heap = h0 := by rw [← hh, Bd.state]; rfl
  have N0 := Fr.nil n0
  suffices hmain : own_Ends p e below s (Q1b Z a0 x1 h0 n0) 0 0 (s₁.setTop (mkF m 0 #[.val (.ref a0)] [])) by
    obtain ⟨U, o, h1, r⟩ := hmain
    exact ⟨U, o, castTop (ef1b m a0) h1, r⟩
  show own_Ends _ _ _ _ _ _ _ (s₁.setTop (mkF m 0 #[.val (.ref a0)] []))
  refine own_go (fun _ k => XS.aloadN X0.here hx rfl (hb hby d1b_0) rfl rfl k) ?_
  show own_Ends _ _ _ _ _ _ _ (s₁.setTop (mkF m 1 #[.val (.ref a0)] [(.ref a0)]))
  obtain ⟨T1, X1, e1, st1⟩ := getF X0 hx hZ hown (host := "") (Or.inl (hw _ (List.mem_of_getElem? (i := 8) rfl))) Via.refl e0 F_parent_a0 (g := (mkF m 1 #[.val (.ref a0)] [(.ref a0)])) rfl rfl (hb hby d1b_1)
  refine own_go (fun _ k => st1 _ k) ?_
  show own_Ends _ _ _ _ _ _ _ (T1.setTop (mkF m 4 #[.val (.ref a0)] [(.ref x1)]))
  refine own_go (fun _ k => XS.ifnonnullYes X1.here hx rfl (pc0 := 4) (pc' := 11) rfl (hb hby d1b_4) rfl (by decide) (by decide) k) ?_
  show own_Ends _ _ _ _ _ _ _ (T1.setTop (mkF m 11 #[.val (.ref a0)] []))
  refine own_go (fun _ k => XS.aloadN X1.here hx rfl (hb hby d1b_11) rfl rfl k) ?_
  show own_Ends _ _ _ _ _ _ _ (T1.setTop (mkF m 12 #[.val (.ref a0)] [(.ref a0)]))
  obtain ⟨T2, X2, e2, st2⟩ := getF X1 hx hZ hown (host := "") (Or.inl (hw _ (List.mem_of_getElem? (i := 8) rfl))) Via.refl e1 F_parent_a0 (g := (mkF m 12 #[.val (.ref a0)] [(.ref a0)])) rfl rfl (hb hby d1b_12)
  refine own_go (fun _ k => st2 _ k) ?_
  show own_Ends _ _ _ _ _ _ _ (T2.setTop (mkF m 15 #[.val (.ref a0)] [(.ref x1)]))
  obtain ⟨cq3, kq3, q3a, q3b, q3c⟩ := isOf hZ e2 E_x1
  obtain ⟨_, _, ⟨T3, L3, k3, n3⟩, -, X3, ⟨Lc3, hQ3, l3, y3, z3⟩, st3⟩ := X2.virtualBack hx (y := (⟨"com/example/helmsward/helmsward/policy/ResourceLevel", "depth", "()I"⟩ : MethodName)) (z := (⟨"com/example/helmsward/helmsward/policy/ResourceLevel", "depth", "()I"⟩ : MethodName)) hown (mvT hZ (hw _ (List.mem_of_getElem? (i := 15) rfl))) (mvT hZ (hw _ (List.mem_of_getElem? (i := 4) rfl))) (notFace_of_selects (args := #[]) (mvT hZ (hw _ (List.mem_of_getElem? (i := 6) rfl)))) (mvT hZ (hw _ (List.mem_of_getElem? (i := 6) rfl))) (mvT hZ (hw _ (List.mem_of_getElem? (i := 5) rfl))) (by decide) (backOf (W := 0) (rm1a l Z ar hw [] x1 h0 n0 O0 F_parent_x1) hZ (hw _ (List.mem_of_getElem? (i := 7) rfl)) (hw _ (List.mem_of_getElem? (i := 1) rfl)) (by decide) (by decide)) q3a q3c (g := (mkF m 15 #[.val (.ref a0)] [(.ref x1)])) rfl (by rw [hml]; rfl) (Steps.refl _) (argsL := []) (rest := []) (lenOf pd1b_0 rfl) rfl (by show 2 * 0 + _ ≤ _; exact Nat.le_of_eq rfl) (hb hby d1b_15) (fun _ _ => ⟨rfl, e2, (by decide : 0 + 0 ≤ _), (by decide : 0 + 0 ≤ _)⟩)
  dsimp only [Pt.U, Pt.locs, Pt.cells, Pt.slots] at X3 l3 y3 z3 st3 hQ3
  subst l3 y3 z3
  obtain ⟨rfl, N3q, eq3⟩ := hQ3
  have e3 : T3.heap = h0 := eq3
  have N3 := Fr.app N0 N3q
  refine own_go (fun _ k => st3.trans k) ?_
  show own_Ends _ _ _ _ _ _ _ (T3.setTop (mkF m 18 #[.val (.ref a0)] [(.int (f1a x1))]))
  refine own_go (fun _ k => XS.iconst X3.here hx rfl (hb hby d1b_18) k) ?_
  show own_Ends _ _ _ _ _ _ _ (T3.setTop (mkF m 19 #[.val (.ref a0)] [(.int (1 : Int32)), (.int (f1a x1))]))
  refine own_go (fun _ k => XS.iadd X3.here hx rfl (hb hby d1b_19) rfl k) ?_
  show own_Ends _ _ _ _ _ _ _ (T3.setTop (mkF m 20 #[.val (.ref a0)] [(.int ((f1a x1) + (1 : Int32)))]))
  exact own_retI X3 hx hlk Bd.returns (hb hby d1b_20) (by decide) (by decide) ⟨congrArg (fun z => some (Value.int z)) (by exact rfl), N3, e3⟩
theorem d1c_0 : decode prog_58_method_7_code 0 = .ok (.aload_n 0, 1) := by decide +kernel
theorem d1c_1 : decode prog_58_method_7_code 1 = .ok (.getfield 39, 3) := by decide +kernel
theorem d1c_4 : decode prog_58_method_7_code 4 = .ok (.ifnonnull 7, 3) := by decide +kernel
theorem d1c_11 : decode prog_58_method_7_code 11 = .ok (.aload_n 0, 1) := by decide +kernel
theorem d1c_12 : decode prog_58_method_7_code 12 = .ok (.getfield 39, 3) := by decide +kernel
theorem d1c_15 : decode prog_58_method_7_code 15 = .ok (.invokevirtual 50, 3) := by decide +kernel
theorem d1c_18 : decode prog_58_method_7_code 18 = .ok (.iconst 1, 1) := by decide +kernel
theorem d1c_19 : decode prog_58_method_7_code 19 = .ok (.iadd, 1) := by decide +kernel
theorem d1c_20 : decode prog_58_method_7_code 20 = .ok (.ireturn, 1) := by decide +kernel
theorem pn1c : plainName "com/example/helmsward/helmsward/policy/ResourceLevel" = true := by first | (simp [plainName, overriddenIn]; done) | decide +kernel
theorem pd1c_0 : parseMethodDescriptor "()I" = some ⟨[], some .int⟩ := by decide +kernel
theorem ef1c (m : MethodId) (a0 : Addr) : entryFrame m #[(.ref a0)] 1 = mkF m 0 #[.val (.ref a0)] [] := by first | (simp [entryFrame, mkF, argsToLocals, Value.category]; done) | rfl
def f1c (a0 : Addr) (x1 : Addr) (x2 : Addr) : Int32 := ((f1b x1 x2) + (1 : Int32))
def Q1c (Z : State) (a0 : Addr) (x1 : Addr) (x2 : Addr) (h0 : Heap) (n0 : Nat) (v : Option Value) (h : Heap) (L : List Loc) : Prop := v = some (.int (f1c a0 x1 x2)) ∧ Fr n0 L ∧ h = h0
set_option maxRecDepth 65536 in
set_option maxHeartbeats 40000000 in
theorem rm1c (l : Launch) (Z : State) (ar : Array Value) (hw : ∀ d ∈ tables_1, d.before ar Z = true) (ws : List Jvm.Cond) (a0 : Addr) (x1 : Addr) (x2 : Addr) (h0 : Heap) (n0 : Nat) (O0 : Old Z n0 h0) (F_parent_a0 : Fld Z h0 a0 "com/example/helmsward/helmsward/policy/ResourceLevel" "parent" "Lcom/example/helmsward/helmsward/policy/ResourceLevel;" (.ref x1)) (E_x1 : Exa Z h0 x1 "com/example/helmsward/helmsward/policy/ResourceLevel") (F_parent_x1 : Fld Z h0 x1 "com/example/helmsward/helmsward/policy/ResourceLevel" "parent" "Lcom/example/helmsward/helmsward/policy/ResourceLevel;" (.ref x2)) (E_x2 : Exa Z h0 x2 "com/example/helmsward/helmsward/policy/ResourceLevel") (F_parent_x2 : Fld Z h0 x2 "com/example/helmsward/helmsward/policy/ResourceLevel" "parent" "Lcom/example/helmsward/helmsward/policy/ResourceLevel;" .null) :
    MetFree l (⟨"com/example/helmsward/helmsward/policy/ResourceLevel", "depth", "()I"⟩ : MethodName) (head1 (Jvm.Cond.code (⟨"com/example/helmsward/helmsward/policy/ResourceLevel", "depth", "()I"⟩ : MethodName) prog_58_method_7_code 1 (some .int) :: ws) ({ frames := 2, cells := 0, slots := 0, locals := 24 } : Room)) (fun a U => a = #[(.ref a0)] ∧ Z.Warmed39 U.vm ∧ U.heap = h0) (fun _ _ _ _ _ => True) (fun _ U o U' => ∃ v L, o = .returned v ∧ Q1c Z a0 x1 x2 h0 n0 v U'.heap L ∧ FrameEnd U o U' L ({ frames := 2, cells := 0, slots := 0, locals := 24 } : Room).cells ({ frames := 2, cells := 0, slots := 0, locals := 24 } : Room).slots) := by
  refine MetFree.of_bodySF (plainFor_of_name pn1c) hisR ?_
  intro p e s m args below meth c s₁ Bd hml0 hP hK
  obtain ⟨rfl, hZ, hh⟩ := hP
  have hx := Bd.exec
  have hby := Bd.bytes
  have hml : c.maxLocals = 1 := hml0
  have hown : s.vm.findClass "com/example/helmsward/helmsward/policy/ResourceLevel" = some m.cls := findClass_of_methodNamed Bd.named
  have hnm := (name_of_methodNamed Bd.named Bd.method).1
  have hlk : meth.locks = false := BodyLoose.notSynchronized Bd
  have X0 : Stand p l e ({ frames := 2, cells := 0, slots := 0, locals := 24 } : Room) s m #[(.ref a0)] below meth c s₁ [] 0 0 := Stand.of_body Bd
  have e0 : s₁.heap = h0 := by rw [← hh, Bd.state]; rfl
  have N0 := Fr.nil n0
  suffices hmain : own_Ends p e below s (Q1c Z a0 x1 x2 h0 n0) 0 0 (s₁.setTop (mkF m 0 #[.val (.ref a0)] [])) by
    obtain ⟨U, o, h1, r⟩ := hmain
    exact ⟨U, o, castTop (ef1c m a0) h1, r⟩
  show own_Ends _ _ _ _ _ _ _ (s₁.setTop (mkF m 0 #[.val (.ref a0)] []))
  refine own_go (fun _ k => XS.aloadN X0.here hx rfl (hb hby d1c_0) rfl rfl k) ?_
  show own_Ends _ _ _ _ _ _ _ (s₁.setTop (mkF m 1 #[.val (.ref a0)] [(.ref a0)]))
  obtain ⟨T1, X1, e1, st1⟩ := getF X0 hx hZ hown (host := "") (Or.inl (hw _ (List.mem_of_getElem? (i := 8) rfl))) Via.refl e0 F_parent_a0 (g := (mkF m 1 #[.val (.ref a0)] [(.ref a0)])) rfl rfl (hb hby d1c_1)
  refine own_go (fun _ k => st1 _ k) ?_
  show own_Ends _ _ _ _ _ _ _ (T1.setTop (mkF m 4 #[.val (.ref a0)] [(.ref x1)]))
  refine own_go (fun _ k => XS.ifnonnullYes X1.here hx rfl (pc0 := 4) (pc' := 11) rfl (hb hby d1c_4) rfl (by decide) (by decide) k) ?_
  show own_Ends _ _ _ _ _ _ _ (T1.setTop (mkF m 11 #[.val (.ref a0)] []))
  refine own_go (fun _ k => XS.aloadN X1.here hx rfl (hb hby d1c_11) rfl rfl k) ?_
  show own_Ends _ _ _ _ _ _ _ (T1.setTop (mkF m 12 #[.val (.ref a0)] [(.ref a0)]))
  obtain ⟨T2, X2, e2, st2⟩ := getF X1 hx hZ hown (host := "") (Or.inl (hw _ (List.mem_of_getElem? (i := 8) rfl))) Via.refl e1 F_parent_a0 (g := (mkF m 12 #[.val (.ref a0)] [(.ref a0)])) rfl rfl (hb hby d1c_12)
  refine own_go (fun _ k => st2 _ k) ?_
  show own_Ends _ _ _ _ _ _ _ (T2.setTop (mkF m 15 #[.val (.ref a0)] [(.ref x1)]))
  obtain ⟨cq3, kq3, q3a, q3b, q3c⟩ := isOf hZ e2 E_x1
  obtain ⟨_, _, ⟨T3, L3, k3, n3⟩, -, X3, ⟨Lc3, hQ3, l3, y3, z3⟩, st3⟩ := X2.virtualBack hx (y := (⟨"com/example/helmsward/helmsward/policy/ResourceLevel", "depth", "()I"⟩ : MethodName)) (z := (⟨"com/example/helmsward/helmsward/policy/ResourceLevel", "depth", "()I"⟩ : MethodName)) hown (mvT hZ (hw _ (List.mem_of_getElem? (i := 15) rfl))) (mvT hZ (hw _ (List.mem_of_getElem? (i := 4) rfl))) (notFace_of_selects (args := #[]) (mvT hZ (hw _ (List.mem_of_getElem? (i := 6) rfl)))) (mvT hZ (hw _ (List.mem_of_getElem? (i := 6) rfl))) (mvT hZ (hw _ (List.mem_of_getElem? (i := 5) rfl))) (by decide) (backOf (W := 0) (rm1b l Z ar hw [] x1 x2 h0 n0 O0 F_parent_x1 E_x2 F_parent_x2) hZ (hw _ (List.mem_of_getElem? (i := 7) rfl)) (hw _ (List.mem_of_getElem? (i := 1) rfl)) (by decide) (by decide)) q3a q3c (g := (mkF m 15 #[.val (.ref a0)] [(.ref x1)])) rfl (by rw [hml]; rfl) (Steps.refl _) (argsL := []) (rest := []) (lenOf pd1c_0 rfl) rfl (by show 2 * 0 + _ ≤ _; exact Nat.le_of_eq rfl) (hb hby d1c_15) (fun _ _ => ⟨rfl, e2, (by decide : 0 + 0 ≤ _), (by decide : 0 + 0 ≤ _)⟩)
  dsimp only [Pt.U, Pt.locs, Pt.cells, Pt.slots] at X3 l3 y3 z3 st3 hQ3
  subst l3 y3 z3
  obtain ⟨rfl, N3q, eq3⟩ := hQ3
  have e3 : T3.heap = h0 := eq3
  have N3 := Fr.app N0 N3q
  refine own_go (fun _ k => st3.trans k) ?_
  show own_Ends _ _ _ _ _ _ _ (T3.setTop (mkF m 18 #[.val (.ref a0)] [(.int (f1b x1 x2))]))
  refine own_go (fun _ k => XS.iconst X3.here hx rfl (hb hby d1c_18) k) ?_
  show own_Ends _ _ _ _ _ _ _ (T3.setTop (mkF m 19 #[.val (.ref a0)] [(.int (1 : Int32)), (.int (f1b x1 x2))]))
  refine own_go (fun _ k => XS.iadd X3.here hx rfl (hb hby d1c_19) rfl k) ?_
  show own_Ends _ _ _ _ _ _ _ (T3.setTop (mkF m 20 #[.val (.ref a0)] [(.int ((f1b x1 x2) + (1 : Int32)))]))
  exact own_retI X3 hx hlk Bd.returns (hb hby d1c_20) (by decide) (by decide) ⟨congrArg (fun z => some (Value.int z)) (by exact rfl), N3, e3⟩
theorem pn0 : plainName "com/example/helmsward/helmsward/policy/ResourceLevelDepthPinLaw" = true := by first | (simp [plainName, overriddenIn]; done) | decide +kernel
theorem pd0_0 : parseMethodDescriptor "()I" = some ⟨[], some .int⟩ := by decide +kernel
theorem ef0 (m : MethodId) (p0 : Int32) : entryFrame m #[(.int p0)] maxLocals = mkF m 0 #[.val (.int p0), .unset, .unset, .unset] [] := by first | (simp [entryFrame, mkF, argsToLocals, Value.category, maxLocals]; done) | rfl
def Q0 (Z : State) (p0 : Int32) (w_DATABASE : Addr) (w_PATH : Addr) (w_TABLE : Addr) (w_COLUMN : Addr) (h0 : Heap) (n0 : Nat) (v : Option Value) (h : Heap) (L : List Loc) : Prop := v = some (.int 1) ∧ Fr n0 L
set_option maxRecDepth 65536 in
set_option maxHeartbeats 40000000 in
theorem rm0 (l : Launch) (Z : State) (ar : Array Value) (hw : ∀ d ∈ tables_1, d.before ar Z = true) (ws : List Jvm.Cond) (p0 : Int32) (w_DATABASE : Addr) (w_PATH : Addr) (w_TABLE : Addr) (w_COLUMN : Addr) (h0 : Heap) (n0 : Nat) (O0 : Old Z n0 h0) (S_DATABASE : Sta Z Z.heap "com/example/helmsward/helmsward/policy/ResourceLevel" "DATABASE" "Lcom/example/helmsward/helmsward/policy/ResourceLevel;" (.ref w_DATABASE)) (EZ_DATABASE : Exa Z Z.heap w_DATABASE "com/example/helmsward/helmsward/policy/ResourceLevel") (FZ_DATABASE : Fld Z Z.heap w_DATABASE "com/example/helmsward/helmsward/policy/ResourceLevel" "parent" "Lcom/example/helmsward/helmsward/policy/ResourceLevel;" .null) (S_PATH : Sta Z Z.heap "com/example/helmsward/helmsward/policy/ResourceLevel" "PATH" "Lcom/example/helmsward/helmsward/policy/ResourceLevel;" (.ref w_PATH)) (EZ_PATH : Exa Z Z.heap w_PATH "com/example/helmsward/helmsward/policy/ResourceLevel") (FZ_PATH : Fld Z Z.heap w_PATH "com/example/helmsward/helmsward/policy/ResourceLevel" "parent" "Lcom/example/helmsward/helmsward/policy/ResourceLevel;" .null) (S_TABLE : Sta Z Z.heap "com/example/helmsward/helmsward/policy/ResourceLevel" "TABLE" "Lcom/example/helmsward/helmsward/policy/ResourceLevel;" (.ref w_TABLE)) (EZ_TABLE : Exa Z Z.heap w_TABLE "com/example/helmsward/helmsward/policy/ResourceLevel") (FZ_TABLE : Fld Z Z.heap w_TABLE "com/example/helmsward/helmsward/policy/ResourceLevel" "parent" "Lcom/example/helmsward/helmsward/policy/ResourceLevel;" (.ref w_DATABASE)) (S_COLUMN : Sta Z Z.heap "com/example/helmsward/helmsward/policy/ResourceLevel" "COLUMN" "Lcom/example/helmsward/helmsward/policy/ResourceLevel;" (.ref w_COLUMN)) (EZ_COLUMN : Exa Z Z.heap w_COLUMN "com/example/helmsward/helmsward/policy/ResourceLevel") (FZ_COLUMN : Fld Z Z.heap w_COLUMN "com/example/helmsward/helmsward/policy/ResourceLevel" "parent" "Lcom/example/helmsward/helmsward/policy/ResourceLevel;" (.ref w_TABLE)) :
    MetFree l x (head1 (Jvm.Cond.code x code maxLocals ret :: ws) room_1) (fun a U => a = #[(.int p0)] ∧ Z.Warmed39 U.vm ∧ U.heap = h0) (fun _ _ _ _ _ => True) (fun _ U o U' => ∃ v L, o = .returned v ∧ Q0 Z p0 w_DATABASE w_PATH w_TABLE w_COLUMN h0 n0 v U'.heap L ∧ FrameEnd U o U' L room_1.cells room_1.slots) := by
  refine MetFree.of_bodySF (plainFor_of_name pn0) hisR ?_
  intro p e s m args below meth c s₁ Bd hml0 hP hK
  obtain ⟨rfl, hZ, hh⟩ := hP
  have hx := Bd.exec
  have hby := Bd.bytes
  have hml : c.maxLocals = 4 := hml0
  have hown : s.vm.findClass "com/example/helmsward/helmsward/policy/ResourceLevelDepthPinLaw" = some m.cls := findClass_of_methodNamed Bd.named
  have hnm := (name_of_methodNamed Bd.named Bd.method).1
  have hlk : meth.locks = false := BodyLoose.notSynchronized Bd
  have X0 : Stand p l e room_1 s m #[(.int p0)] below meth c s₁ [] 0 0 := Stand.of_body Bd
  have e0 : s₁.heap = h0 := by rw [← hh, Bd.state]; rfl
  have N0 := Fr.nil n0
  suffices hmain : own_Ends p e below s (Q0 Z p0 w_DATABASE w_PATH w_TABLE w_COLUMN h0 n0) 0 0 (s₁.setTop (mkF m 0 #[.val (.int p0), .unset, .unset, .unset] [])) by
    obtain ⟨U, o, h1, r⟩ := hmain
    exact ⟨U, o, castTop (ef0 m p0) h1, r⟩
  show own_Ends _ _ _ _ _ _ _ (s₁.setTop (mkF m 0 #[.val (.int p0), .unset, .unset, .unset] []))
  refine own_go (fun _ k => XS.iloadN X0.here hx rfl (hb hby at_0) rfl k) ?_
  show own_Ends _ _ _ _ _ _ _ (s₁.setTop (mkF m 1 #[.val (.int p0), .unset, .unset, .unset] [(.int p0)]))
  refine own_go (fun _ k => XS.iconst X0.here hx rfl (hb hby at_1) k) ?_
  show own_Ends _ _ _ _ _ _ _ (s₁.setTop (mkF m 2 #[.val (.int p0), .unset, .unset, .unset] [(.int (3 : Int32)), (.int p0)]))
  refine own_go (fun _ k => XS.iand X0.here hx rfl (hb hby at_2) rfl k) ?_
  show own_Ends _ _ _ _ _ _ _ (s₁.setTop (mkF m 3 #[.val (.int p0), .unset, .unset, .unset] [(.int (p0 &&& (3 : Int32)))]))
  refine own_go (fun _ k => XS.istoreN X0.here hx rfl (hb hby at_3) rfl (l' := #[.val (.int p0), .val (.int (p0 &&& (3 : Int32))), .unset, .unset]) rfl k) ?_
  show own_Ends _ _ _ _ _ _ _ (s₁.setTop (mkF m 4 #[.val (.int p0), .val (.int (p0 &&& (3 : Int32))), .unset, .unset] []))
  refine own_go (fun _ k => XS.iloadN X0.here hx rfl (hb hby at_4) rfl k) ?_
  show own_Ends _ _ _ _ _ _ _ (s₁.setTop (mkF m 5 #[.val (.int p0), .val (.int (p0 &&& (3 : Int32))), .unset, .unset] [(.int (p0 &&& (3 : Int32)))]))
  by_cases hc1 : (p0 &&& (3 : Int32)) = (0 : Int32)
  · refine own_go (fun _ k => XS.ifNo X0.here hx rfl (hb hby at_5) rfl ((if0 _ _).trans (teq hc1).2) k) ?_
    show own_Ends _ _ _ _ _ _ _ (s₁.setTop (mkF m 8 #[.val (.int p0), .val (.int (p0 &&& (3 : Int32))), .unset, .unset] []))
    obtain ⟨T2, X2, e2, st2⟩ := getS2 X0 hx hZ hown (host := "") (Or.inl (hw _ (List.mem_of_getElem? (i := 0) rfl))) Via.refl e0 (Sta.ext (own_ext O0) S_DATABASE) (g := (mkF m 8 #[.val (.int p0), .val (.int (p0 &&& (3 : Int32))), .unset, .unset] [])) rfl (hb hby at_8)
    refine own_go (fun _ k => st2 _ k) ?_
    show own_Ends _ _ _ _ _ _ _ (T2.setTop (mkF m 11 #[.val (.int p0), .val (.int (p0 &&& (3 : Int32))), .unset, .unset] [(.ref w_DATABASE)]))
    refine own_go (fun _ k => XS.astoreN X2.here hx rfl (hb hby at_11) rfl rfl (l' := #[.val (.int p0), .val (.int (p0 &&& (3 : Int32))), .val (.ref w_DATABASE), .unset]) rfl k) ?_
    show own_Ends _ _ _ _ _ _ _ (T2.setTop (mkF m 12 #[.val (.int p0), .val (.int (p0 &&& (3 : Int32))), .val (.ref w_DATABASE), .unset] []))
    refine own_go (fun _ k => XS.iconst X2.here hx rfl (hb hby at_12) k) ?_
    show own_Ends _ _ _ _ _ _ _ (T2.setTop (mkF m 13 #[.val (.int p0), .val (.int (p0 &&& (3 : Int32))), .val (.ref w_DATABASE), .unset] [(.int (0 : Int32))]))
    refine own_go (fun _ k => XS.istoreN X2.here hx rfl (hb hby at_13) rfl (l' := #[.val (.int p0), .val (.int (p0 &&& (3 : Int32))), .val (.ref w_DATABASE), .val (.int (0 : Int32))]) rfl k) ?_
    show own_Ends _ _ _ _ _ _ _ (T2.setTop (mkF m 14 #[.val (.int p0), .val (.int (p0 &&& (3 : Int32))), .val (.ref w_DATABASE), .val (.int (0 : Int32))] []))
    refine own_go (fun _ k => XS.goto X2.here hx rfl (pc0 := 14) (pc' := 51) rfl (hb hby at_14) (by decide) (by decide) k) ?_
    show own_Ends _ _ _ _ _ _ _ (T2.setTop (mkF m 51 #[.val (.int p0), .val (.int (p0 &&& (3 : Int32))), .val (.ref w_DATABASE), .val (.int (0 : Int32))] []))
    refine own_go (fun _ k => XS.aloadN X2.here hx rfl (hb hby at_51) rfl rfl k) ?_
    show own_Ends _ _ _ _ _ _ _ (T2.setTop (mkF m 52 #[.val (.int p0), .val (.int (p0 &&& (3 : Int32))), .val (.ref w_DATABASE), .val (.int (0 : Int32))] [(.ref w_DATABASE)]))
    obtain ⟨cq3, kq3, q3a, q3b, q3c⟩ := isOf hZ e2 (Exa.ext (own_ext O0) EZ_DATABASE)
    obtain ⟨_, _, ⟨T3, L3, k3, n3⟩, -, X3, ⟨Lc3, hQ3, l3, y3, z3⟩, st3⟩ := X2.virtualBack hx (y := (⟨"com/example/helmsward/helmsward/policy/ResourceLevel", "depth", "()I"⟩ : MethodName)) (z := (⟨"com/example/helmsward/helmsward/policy/ResourceLevel", "depth", "()I"⟩ : MethodName)) hown (mvT hZ (hw _ (List.mem_of_getElem? (i := 3) rfl))) (mvT hZ (hw _ (List.mem_of_getElem? (i := 4) rfl))) (notFace_of_selects (args := #[]) (mvT hZ (hw _ (List.mem_of_getElem? (i := 6) rfl)))) (mvT hZ (hw _ (List.mem_of_getElem? (i := 6) rfl))) (mvT hZ (hw _ (List.mem_of_getElem? (i := 5) rfl))) (by decide) (backOf (W := 0) (rm1a l Z ar hw [] w_DATABASE h0 n0 O0 (Fld.ext (own_ext O0) FZ_DATABASE)) hZ (hw _ (List.mem_of_getElem? (i := 7) rfl)) (hw _ (List.mem_of_getElem? (i := 1) rfl)) (by decide) (by decide)) q3a q3c (g := (mkF m 52 #[.val (.int p0), .val (.int (p0 &&& (3 : Int32))), .val (.ref w_DATABASE), .val (.int (0 : Int32))] [(.ref w_DATABASE)])) rfl (by rw [hml]; rfl) (Steps.refl _) (argsL := []) (rest := []) (lenOf pd0_0 rfl) rfl (by show 2 * 0 + _ ≤ _; exact Nat.le_of_eq rfl) (hb hby at_52) (fun _ _ => ⟨rfl, e2, (by decide : 0 + 0 ≤ _), (by decide : 0 + 0 ≤ _)⟩)
    dsimp only [Pt.U, Pt.locs, Pt.cells, Pt.slots] at X3 l3 y3 z3 st3 hQ3
    subst l3 y3 z3
    obtain ⟨rfl, N3q, eq3⟩ := hQ3
    have e3 : T3.heap = h0 := eq3
    have N3 := Fr.app N0 N3q
    refine own_go (fun _ k => st3.trans k) ?_
    show own_Ends _ _ _ _ _ _ _ (T3.setTop (mkF m 55 #[.val (.int p0), .val (.int (p0 &&& (3 : Int32))), .val (.ref w_DATABASE), .val (.int (0 : Int32))] [(.int (f1a w_DATABASE))]))
    refine own_go (fun _ k => XS.iloadN X3.here hx rfl (hb hby at_55) rfl k) ?_
    show own_Ends _ _ _ _ _ _ _ (T3.setTop (mkF m 56 #[.val (.int p0), .val (.int (p0 &&& (3 : Int32))), .val (.ref w_DATABASE), .val (.int (0 : Int32))] [(.int (0 : Int32)), (.int (f1a w_DATABASE))]))
    refine own_go (fun _ k => XS.icmpNo X3.here hx rfl (hb hby at_56) rfl (teq (by first | rfl | decide)).2 k) ?_
    show own_Ends _ _ _ _ _ _ _ (T3.setTop (mkF m 59 #[.val (.int p0), .val (.int (p0 &&& (3 : Int32))), .val (.ref w_DATABASE), .val (.int (0 : Int32))] []))
    refine own_go (fun _ k => XS.iconst X3.here hx rfl (hb hby at_59) k) ?_
    show own_Ends _ _ _ _ _ _ _ (T3.setTop (mkF m 60 #[.val (.int p0), .val (.int (p0 &&& (3 : Int32))), .val (.ref w_DATABASE), .val (.int (0 : Int32))] [(.int (1 : Int32))]))
    refine own_go (fun _ k => XS.goto X3.here hx rfl (pc0 := 60) (pc' := 64) rfl (hb hby at_60) (by decide) (by decide) k) ?_
    show own_Ends _ _ _ _ _ _ _ (T3.setTop (mkF m 64 #[.val (.int p0), .val (.int (p0 &&& (3 : Int32))), .val (.ref w_DATABASE), .val (.int (0 : Int32))] [(.int (1 : Int32))]))
    exact own_retN X3 hx hlk (t := .boolean) Bd.returns (by simp) (hb hby at_64) (by decide) (by decide) ⟨rfl, N3⟩
  · refine own_go (fun _ k => XS.ifYes X0.here hx rfl (pc0 := 5) (pc' := 17) rfl (hb hby at_5) rfl ((if0 _ _).trans (feq hc1).2) (by decide) (by decide) k) ?_
    show own_Ends _ _ _ _ _ _ _ (s₁.setTop (mkF m 17 #[.val (.int p0), .val (.int (p0 &&& (3 : Int32))), .unset, .unset] []))
    refine own_go (fun _ k => XS.iloadN X0.here hx rfl (hb hby at_17) rfl k) ?_
    show own_Ends _ _ _ _ _ _ _ (s₁.setTop (mkF m 18 #[.val (.int p0), .val (.int (p0 &&& (3 : Int32))), .unset, .unset] [(.int (p0 &&& (3 : Int32)))]))
    refine own_go (fun _ k => XS.iconst X0.here hx rfl (hb hby at_18) k) ?_
    show own_Ends _ _ _ _ _ _ _ (s₁.setTop (mkF m 19 #[.val (.int p0), .val (.int (p0 &&& (3 : Int32))), .unset, .unset] [(.int (1 : Int32)), (.int (p0 &&& (3 : Int32)))]))
    by_cases hc4 : (p0 &&& (3 : Int32)) = (1 : Int32)
    · refine own_go (fun _ k => XS.icmpNo X0.here hx rfl (hb hby at_19) rfl (teq hc4).2 k) ?_
      show own_Ends _ _ _ _ _ _ _ (s₁.setTop (mkF m 22 #[.val (.int p0), .val (.int (p0 &&& (3 : Int32))), .unset, .unset] []))
      obtain ⟨T5, X5, e5, st5⟩ := getS2 X0 hx hZ hown (host := "") (Or.inl (hw _ (List.mem_of_getElem? (i := 16) rfl))) Via.refl e0 (Sta.ext (own_ext O0) S_TABLE) (g := (mkF m 22 #[.val (.int p0), .val (.int (p0 &&& (3 : Int32))), .unset, .unset] [])) rfl (hb hby at_22)
      refine own_go (fun _ k => st5 _ k) ?_
      show own_Ends _ _ _ _ _ _ _ (T5.setTop (mkF m 25 #[.val (.int p0), .val (.int (p0 &&& (3 : Int32))), .unset, .unset] [(.ref w_TABLE)]))
      refine own_go (fun _ k => XS.astoreN X5.here hx rfl (hb hby at_25) rfl rfl (l' := #[.val (.int p0), .val (.int (p0 &&& (3 : Int32))), .val (.ref w_TABLE), .unset]) rfl k) ?_
      show own_Ends _ _ _ _ _ _ _ (T5.setTop (mkF m 26 #[.val (.int p0), .val (.int (p0 &&& (3 : Int32))), .val (.ref w_TABLE), .unset] []))
      refine own_go (fun _ k => XS.iconst X5.here hx rfl (hb hby at_26) k) ?_
      show own_Ends _ _ _ _ _ _ _ (T5.setTop (mkF m 27 #[.val (.int p0), .val (.int (p0 &&& (3 : Int32))), .val (.ref w_TABLE), .unset] [(.int (1 : Int32))]))
      refine own_go (fun _ k => XS.istoreN X5.here hx rfl (hb hby at_27) rfl (l' := #[.val (.int p0), .val (.int (p0 &&& (3 : Int32))), .val (.ref w_TABLE), .val (.int (1 : Int32))]) rfl k) ?_
      show own_Ends _ _ _ _ _ _ _ (T5.setTop (mkF m 28 #[.val (.int p0), .val (.int (p0 &&& (3 : Int32))), .val (.ref w_TABLE), .val (.int (1 : Int32))] []))
      refine own_go (fun _ k => XS.goto X5.here hx rfl (pc0 := 28) (pc' := 51) rfl (hb hby at_28) (by decide) (by decide) k) ?_
      show own_Ends _ _ _ _ _ _ _ (T5.setTop (mkF m 51 #[.val (.int p0), .val (.int (p0 &&& (3 : Int32))), .val (.ref w_TABLE), .val (.int (1 : Int32))] []))
      refine own_go (fun _ k => XS.aloadN X5.here hx rfl (hb hby at_51) rfl rfl k) ?_
      show own_Ends _ _ _ _ _ _ _ (T5.setTop (mkF m 52 #[.val (.int p0), .val (.int (p0 &&& (3 : Int32))), .val (.ref w_TABLE), .val (.int (1 : Int32))] [(.ref w_TABLE)]))
      obtain ⟨cq6, kq6, q6a, q6b, q6c⟩ := isOf hZ e5 (Exa.ext (own_ext O0) EZ_TABLE)
      obtain ⟨_, _, ⟨T6, L6, k6, n6⟩, -, X6, ⟨Lc6, hQ6, l6, y6, z6⟩, st6⟩ := X5.virtualBack hx (y := (⟨"com/example/helmsward/helmsward/policy/ResourceLevel", "depth", "()I"⟩ : MethodName)) (z := (⟨"com/example/helmsward/helmsward/policy/ResourceLevel", "depth", "()I"⟩ : MethodName)) hown (mvT hZ (hw _ (List.mem_of_getElem? (i := 3) rfl))) (mvT hZ (hw _ (List.mem_of_getElem? (i := 4) rfl))) (notFace_of_selects (args := #[]) (mvT hZ (hw _ (List.mem_of_getElem? (i := 6) rfl)))) (mvT hZ (hw _ (List.mem_of_getElem? (i := 6) rfl))) (mvT hZ (hw _ (List.mem_of_getElem? (i := 5) rfl))) (by decide) (backOf (W := 0) (rm1b l Z ar hw [] w_TABLE w_DATABASE h0 n0 O0 (Fld.ext (own_ext O0) FZ_TABLE) (Exa.ext (own_ext O0) EZ_DATABASE) (Fld.ext (own_ext O0) FZ_DATABASE)) hZ (hw _ (List.mem_of_getElem? (i := 7) rfl)) (hw _ (List.mem_of_getElem? (i := 1) rfl)) (by decide) (by decide)) q6a q6c (g := (mkF m 52 #[.val (.int p0), .val (.int (p0 &&& (3 : Int32))), .val (.ref w_TABLE), .val (.int (1 : Int32))] [(.ref w_TABLE)])) rfl (by rw [hml]; rfl) (Steps.refl _) (argsL := []) (rest := []) (lenOf pd0_0 rfl) rfl (by show 2 * 0 + _ ≤ _; exact Nat.le_of_eq rfl) (hb hby at_52) (fun _ _ => ⟨rfl, e5, (by decide : 0 + 0 ≤ _), (by decide : 0 + 0 ≤ _)⟩)
      dsimp only [Pt.U, Pt.locs, Pt.cells, Pt.slots] at X6 l6 y6 z6 st6 hQ6
      subst l6 y6 z6
      obtain ⟨rfl, N6q, eq6⟩ := hQ6
      have e6 : T6.heap = h0 := eq6
      have N6 := Fr.app N0 N6q
      refine own_go (fun _ k => st6.trans k) ?_
      show own_Ends _ _ _ _ _ _ _ (T6.setTop (mkF m 55 #[.val (.int p0), .val (.int (p0 &&& (3 : Int32))), .val (.ref w_TABLE), .val (.int (1 : Int32))] [(.int (f1b w_TABLE w_DATABASE))]))
      refine own_go (fun _ k => XS.iloadN X6.here hx rfl (hb hby at_55) rfl k) ?_
      show own_Ends _ _ _ _ _ _ _ (T6.setTop (mkF m 56 #[.val (.int p0), .val (.int (p0 &&& (3 : Int32))), .val (.ref w_TABLE), .val (.int (1 : Int32))] [(.int (1 : Int32)), (.int (f1b w_TABLE w_DATABASE))]))
      refine own_go (fun _ k => XS.icmpNo X6.here hx rfl (hb hby at_56) rfl (teq (by first | rfl | decide)).2 k) ?_
      show own_Ends _ _ _ _ _ _ _ (T6.setTop (mkF m 59 #[.val (.int p0), .val (.int (p0 &&& (3 : Int32))), .val (.ref w_TABLE), .val (.int (1 : Int32))] []))
      refine own_go (fun _ k => XS.iconst X6.here hx rfl (hb hby at_59) k) ?_
      show own_Ends _ _ _ _ _ _ _ (T6.setTop (mkF m 60 #[.val (.int p0), .val (.int (p0 &&& (3 : Int32))), .val (.ref w_TABLE), .val (.int (1 : Int32))] [(.int (1 : Int32))]))
      refine own_go (fun _ k => XS.goto X6.here hx rfl (pc0 := 60) (pc' := 64) rfl (hb hby at_60) (by decide) (by decide) k) ?_
      show own_Ends _ _ _ _ _ _ _ (T6.setTop (mkF m 64 #[.val (.int p0), .val (.int (p0 &&& (3 : Int32))), .val (.ref w_TABLE), .val (.int (1 : Int32))] [(.int (1 : Int32))]))
      exact own_retN X6 hx hlk (t := .boolean) Bd.returns (by simp) (hb hby at_64) (by decide) (by decide) ⟨rfl, N6⟩
    · refine own_go (fun _ k => XS.icmpYes X0.here hx rfl (pc0 := 19) (pc' := 31) rfl (hb hby at_19) rfl (feq hc4).2 (by decide) (by decide) k) ?_
      show own_Ends _ _ _ _ _ _ _ (s₁.setTop (mkF m 31 #[.val (.int p0), .val (.int (p0 &&& (3 : Int32))), .unset, .unset] []))
      refine own_go (fun _ k => XS.iloadN X0.here hx rfl (hb hby at_31) rfl k) ?_
      show own_Ends _ _ _ _ _ _ _ (s₁.setTop (mkF m 32 #[.val (.int p0), .val (.int (p0 &&& (3 : Int32))), .unset, .unset] [(.int (p0 &&& (3 : Int32)))]))
      refine own_go (fun _ k => XS.iconst X0.here hx rfl (hb hby at_32) k) ?_
      show own_Ends _ _ _ _ _ _ _ (s₁.setTop (mkF m 33 #[.val (.int p0), .val (.int (p0 &&& (3 : Int32))), .unset, .unset] [(.int (2 : Int32)), (.int (p0 &&& (3 : Int32)))]))
      by_cases hc7 : (p0 &&& (3 : Int32)) = (2 : Int32)
      · refine own_go (fun _ k => XS.icmpNo X0.here hx rfl (hb hby at_33) rfl (teq hc7).2 k) ?_
        show own_Ends _ _ _ _ _ _ _ (s₁.setTop (mkF m 36 #[.val (.int p0), .val (.int (p0 &&& (3 : Int32))), .unset, .unset] []))
        obtain ⟨T8, X8, e8, st8⟩ := getS2 X0 hx hZ hown (host := "") (Or.inl (hw _ (List.mem_of_getElem? (i := 12) rfl))) Via.refl e0 (Sta.ext (own_ext O0) S_COLUMN) (g := (mkF m 36 #[.val (.int p0), .val (.int (p0 &&& (3 : Int32))), .unset, .unset] [])) rfl (hb hby at_36)
        refine own_go (fun _ k => st8 _ k) ?_
        show own_Ends _ _ _ _ _ _ _ (T8.setTop (mkF m 39 #[.val (.int p0), .val (.int (p0 &&& (3 : Int32))), .unset, .unset] [(.ref w_COLUMN)]))
        refine own_go (fun _ k => XS.astoreN X8.here hx rfl (hb hby at_39) rfl rfl (l' := #[.val (.int p0), .val (.int (p0 &&& (3 : Int32))), .val (.ref w_COLUMN), .unset]) rfl k) ?_
        show own_Ends _ _ _ _ _ _ _ (T8.setTop (mkF m 40 #[.val (.int p0), .val (.int (p0 &&& (3 : Int32))), .val (.ref w_COLUMN), .unset] []))
        refine own_go (fun _ k => XS.iconst X8.here hx rfl (hb hby at_40) k) ?_
        show own_Ends _ _ _ _ _ _ _ (T8.setTop (mkF m 41 #[.val (.int p0), .val (.int (p0 &&& (3 : Int32))), .val (.ref w_COLUMN), .unset] [(.int (2 : Int32))]))
        refine own_go (fun _ k => XS.istoreN X8.here hx rfl (hb hby at_41) rfl (l' := #[.val (.int p0), .val (.int (p0 &&& (3 : Int32))), .val (.ref w_COLUMN), .val (.int (2 : Int32))]) rfl k) ?_
        show own_Ends _ _ _ _ _ _ _ (T8.setTop (mkF m 42 #[.val (.int p0), .val (.int (p0 &&& (3 : Int32))), .val (.ref w_COLUMN), .val (.int (2 : Int32))] []))
        refine own_go (fun _ k => XS.goto X8.here hx rfl (pc0 := 42) (pc' := 51) rfl (hb hby at_42) (by decide) (by decide) k) ?_
        show own_Ends _ _ _ _ _ _ _ (T8.setTop (mkF m 51 #[.val (.int p0), .val (.int (p0 &&& (3 : Int32))), .val (.ref w_COLUMN), .val (.int (2 : Int32))] []))
        refine own_go (fun _ k => XS.aloadN X8.here hx rfl (hb hby at_51) rfl rfl k) ?_
        show own_Ends _ _ _ _ _ _ _ (T8.setTop (mkF m 52 #[.val (.int p0), .val (.int (p0 &&& (3 : Int32))), .val (.ref w_COLUMN), .val (.int (2 : Int32))] [(.ref w_COLUMN)]))
        obtain ⟨cq9, kq9, q9a, q9b, q9c⟩ := isOf hZ e8 (Exa.ext (own_ext O0) EZ_COLUMN)
        obtain ⟨_, _, ⟨T9, L9, k9, n9⟩, -, X9, ⟨Lc9, hQ9, l9, y9, z9⟩, st9⟩ := X8.virtualBack hx (y := (⟨"com/example/helmsward/helmsward/policy/ResourceLevel", "depth", "()I"⟩ : MethodName)) (z := (⟨"com/example/helmsward/helmsward/policy/ResourceLevel", "depth", "()I"⟩ : MethodName)) hown (mvT hZ (hw _ (List.mem_of_getElem? (i := 3) rfl))) (mvT hZ (hw _ (List.mem_of_getElem? (i := 4) rfl))) (notFace_of_selects (args := #[]) (mvT hZ (hw _ (List.mem_of_getElem? (i := 6) rfl)))) (mvT hZ (hw _ (List.mem_of_getElem? (i := 6) rfl))) (mvT hZ (hw _ (List.mem_of_getElem? (i := 5) rfl))) (by decide) (backOf (W := 0) (rm1c l Z ar hw [] w_COLUMN w_TABLE w_DATABASE h0 n0 O0 (Fld.ext (own_ext O0) FZ_COLUMN) (Exa.ext (own_ext O0) EZ_TABLE) (Fld.ext (own_ext O0) FZ_TABLE) (Exa.ext (own_ext O0) EZ_DATABASE) (Fld.ext (own_ext O0) FZ_DATABASE)) hZ (hw _ (List.mem_of_getElem? (i := 7) rfl)) (hw _ (List.mem_of_getElem? (i := 1) rfl)) (by decide) (by decide)) q9a q9c (g := (mkF m 52 #[.val (.int p0), .val (.int (p0 &&& (3 : Int32))), .val (.ref w_COLUMN), .val (.int (2 : Int32))] [(.ref w_COLUMN)])) rfl (by rw [hml]; rfl) (Steps.refl _) (argsL := []) (rest := []) (lenOf pd0_0 rfl) rfl (by show 2 * 0 + _ ≤ _; exact Nat.le_of_eq rfl) (hb hby at_52) (fun _ _ => ⟨rfl, e8, (by decide : 0 + 0 ≤ _), (by decide : 0 + 0 ≤ _)⟩)
        dsimp only [Pt.U, Pt.locs, Pt.cells, Pt.slots] at X9 l9 y9 z9 st9 hQ9
        subst l9 y9 z9
        obtain ⟨rfl, N9q, eq9⟩ := hQ9
        have e9 : T9.heap = h0 := eq9
        have N9 := Fr.app N0 N9q
        refine own_go (fun _ k => st9.trans k) ?_
        show own_Ends _ _ _ _ _ _ _ (T9.setTop (mkF m 55 #[.val (.int p0), .val (.int (p0 &&& (3 : Int32))), .val (.ref w_COLUMN), .val (.int (2 : Int32))] [(.int (f1c w_COLUMN w_TABLE w_DATABASE))]))
        refine own_go (fun _ k => XS.iloadN X9.here hx rfl (hb hby at_55) rfl k) ?_
        show own_Ends _ _ _ _ _ _ _ (T9.setTop (mkF m 56 #[.val (.int p0), .val (.int (p0 &&& (3 : Int32))), .val (.ref w_COLUMN), .val (.int (2 : Int32))] [(.int (2 : Int32)), (.int (f1c w_COLUMN w_TABLE w_DATABASE))]))
        refine own_go (fun _ k => XS.icmpNo X9.here hx rfl (hb hby at_56) rfl (teq (by first | rfl | decide)).2 k) ?_
        show own_Ends _ _ _ _ _ _ _ (T9.setTop (mkF m 59 #[.val (.int p0), .val (.int (p0 &&& (3 : Int32))), .val (.ref w_COLUMN), .val (.int (2 : Int32))] []))
        refine own_go (fun _ k => XS.iconst X9.here hx rfl (hb hby at_59) k) ?_
        show own_Ends _ _ _ _ _ _ _ (T9.setTop (mkF m 60 #[.val (.int p0), .val (.int (p0 &&& (3 : Int32))), .val (.ref w_COLUMN), .val (.int (2 : Int32))] [(.int (1 : Int32))]))
        refine own_go (fun _ k => XS.goto X9.here hx rfl (pc0 := 60) (pc' := 64) rfl (hb hby at_60) (by decide) (by decide) k) ?_
        show own_Ends _ _ _ _ _ _ _ (T9.setTop (mkF m 64 #[.val (.int p0), .val (.int (p0 &&& (3 : Int32))), .val (.ref w_COLUMN), .val (.int (2 : Int32))] [(.int (1 : Int32))]))
        exact own_retN X9 hx hlk (t := .boolean) Bd.returns (by simp) (hb hby at_64) (by decide) (by decide) ⟨rfl, N9⟩
      · refine own_go (fun _ k => XS.icmpYes X0.here hx rfl (pc0 := 33) (pc' := 45) rfl (hb hby at_33) rfl (feq hc7).2 (by decide) (by decide) k) ?_
        show own_Ends _ _ _ _ _ _ _ (s₁.setTop (mkF m 45 #[.val (.int p0), .val (.int (p0 &&& (3 : Int32))), .unset, .unset] []))
        obtain ⟨T10, X10, e10, st10⟩ := getS2 X0 hx hZ hown (host := "") (Or.inl (hw _ (List.mem_of_getElem? (i := 10) rfl))) Via.refl e0 (Sta.ext (own_ext O0) S_PATH) (g := (mkF m 45 #[.val (.int p0), .val (.int (p0 &&& (3 : Int32))), .unset, .unset] [])) rfl (hb hby at_45)
        refine own_go (fun _ k => st10 _ k) ?_
        show own_Ends _ _ _ _ _ _ _ (T10.setTop (mkF m 48 #[.val (.int p0), .val (.int (p0 &&& (3 : Int32))), .unset, .unset] [(.ref w_PATH)]))
        refine own_go (fun _ k => XS.astoreN X10.here hx rfl (hb hby at_48) rfl rfl (l' := #[.val (.int p0), .val (.int (p0 &&& (3 : Int32))), .val (.ref w_PATH), .unset]) rfl k) ?_
        show own_Ends _ _ _ _ _ _ _ (T10.setTop (mkF m 49 #[.val (.int p0), .val (.int (p0 &&& (3 : Int32))), .val (.ref w_PATH), .unset] []))
        refine own_go (fun _ k => XS.iconst X10.here hx rfl (hb hby at_49) k) ?_
        show own_Ends _ _ _ _ _ _ _ (T10.setTop (mkF m 50 #[.val (.int p0), .val (.int (p0 &&& (3 : Int32))), .val (.ref w_PATH), .unset] [(.int (0 : Int32))]))
        refine own_go (fun _ k => XS.istoreN X10.here hx rfl (hb hby at_50) rfl (l' := #[.val (.int p0), .val (.int (p0 &&& (3 : Int32))), .val (.ref w_PATH), .val (.int (0 : Int32))]) rfl k) ?_
        show own_Ends _ _ _ _ _ _ _ (T10.setTop (mkF m 51 #[.val (.int p0), .val (.int (p0 &&& (3 : Int32))), .val (.ref w_PATH), .val (.int (0 : Int32))] []))
        refine own_go (fun _ k => XS.aloadN X10.here hx rfl (hb hby at_51) rfl rfl k) ?_
        show own_Ends _ _ _ _ _ _ _ (T10.setTop (mkF m 52 #[.val (.int p0), .val (.int (p0 &&& (3 : Int32))), .val (.ref w_PATH), .val (.int (0 : Int32))] [(.ref w_PATH)]))
        obtain ⟨cq11, kq11, q11a, q11b, q11c⟩ := isOf hZ e10 (Exa.ext (own_ext O0) EZ_PATH)
        obtain ⟨_, _, ⟨T11, L11, k11, n11⟩, -, X11, ⟨Lc11, hQ11, l11, y11, z11⟩, st11⟩ := X10.virtualBack hx (y := (⟨"com/example/helmsward/helmsward/policy/ResourceLevel", "depth", "()I"⟩ : MethodName)) (z := (⟨"com/example/helmsward/helmsward/policy/ResourceLevel", "depth", "()I"⟩ : MethodName)) hown (mvT hZ (hw _ (List.mem_of_getElem? (i := 3) rfl))) (mvT hZ (hw _ (List.mem_of_getElem? (i := 4) rfl))) (notFace_of_selects (args := #[]) (mvT hZ (hw _ (List.mem_of_getElem? (i := 6) rfl)))) (mvT hZ (hw _ (List.mem_of_getElem? (i := 6) rfl))) (mvT hZ (hw _ (List.mem_of_getElem? (i := 5) rfl))) (by decide) (backOf (W := 0) (rm1a l Z ar hw [] w_PATH h0 n0 O0 (Fld.ext (own_ext O0) FZ_PATH)) hZ (hw _ (List.mem_of_getElem? (i := 7) rfl)) (hw _ (List.mem_of_getElem? (i := 1) rfl)) (by decide) (by decide)) q11a q11c (g := (mkF m 52 #[.val (.int p0), .val (.int (p0 &&& (3 : Int32))), .val (.ref w_PATH), .val (.int (0 : Int32))] [(.ref w_PATH)])) rfl (by rw [hml]; rfl) (Steps.refl _) (argsL := []) (rest := []) (lenOf pd0_0 rfl) rfl (by show 2 * 0 + _ ≤ _; exact Nat.le_of_eq rfl) (hb hby at_52) (fun _ _ => ⟨rfl, e10, (by decide : 0 + 0 ≤ _), (by decide : 0 + 0 ≤ _)⟩)
        dsimp only [Pt.U, Pt.locs, Pt.cells, Pt.slots] at X11 l11 y11 z11 st11 hQ11
        subst l11 y11 z11
        obtain ⟨rfl, N11q, eq11⟩ := hQ11
        have e11 : T11.heap = h0 := eq11
        have N11 := Fr.app N0 N11q
        refine own_go (fun _ k => st11.trans k) ?_
        show own_Ends _ _ _ _ _ _ _ (T11.setTop (mkF m 55 #[.val (.int p0), .val (.int (p0 &&& (3 : Int32))), .val (.ref w_PATH), .val (.int (0 : Int32))] [(.int (f1a w_PATH))]))
        refine own_go (fun _ k => XS.iloadN X11.here hx rfl (hb hby at_55) rfl k) ?_
        show own_Ends _ _ _ _ _ _ _ (T11.setTop (mkF m 56 #[.val (.int p0), .val (.int (p0 &&& (3 : Int32))), .val (.ref w_PATH), .val (.int (0 : Int32))] [(.int (0 : Int32)), (.int (f1a w_PATH))]))
        refine own_go (fun _ k => XS.icmpNo X11.here hx rfl (hb hby at_56) rfl (teq (by first | rfl | decide)).2 k) ?_
        show own_Ends _ _ _ _ _ _ _ (T11.setTop (mkF m 59 #[.val (.int p0), .val (.int (p0 &&& (3 : Int32))), .val (.ref w_PATH), .val (.int (0 : Int32))] []))
        refine own_go (fun _ k => XS.iconst X11.here hx rfl (hb hby at_59) k) ?_
        show own_Ends _ _ _ _ _ _ _ (T11.setTop (mkF m 60 #[.val (.int p0), .val (.int (p0 &&& (3 : Int32))), .val (.ref w_PATH), .val (.int (0 : Int32))] [(.int (1 : Int32))]))
        refine own_go (fun _ k => XS.goto X11.here hx rfl (pc0 := 60) (pc' := 64) rfl (hb hby at_60) (by decide) (by decide) k) ?_
        show own_Ends _ _ _ _ _ _ _ (T11.setTop (mkF m 64 #[.val (.int p0), .val (.int (p0 &&& (3 : Int32))), .val (.ref w_PATH), .val (.int (0 : Int32))] [(.int (1 : Int32))]))
        exact own_retN X11 hx hlk (t := .boolean) Bd.returns (by simp) (hb hby at_64) (by decide) (by decide) ⟨rfl, N11⟩
set_option maxRecDepth 65536 in
set_option maxHeartbeats 40000000 in
theorem comes_1 {Post : Tables → Env → Array Value → State → Outcome → State → Prop} (hpost : ∀ tb e args s v u, (limb_1_1.after args s (.returned v) u = true ∧ limb_1_2.after args s (.returned v) u = true ∧ True) → FrameEnd s (.returned v) u (Jvm.fieldLocs frame_1_writes args s ++ Jvm.arrayLocs frame_1_arrays args s ++ Jvm.staticLocs frame_1_statics s) 0 0 → Post tb e args s (.returned v) u) :
    ArmFor flags0 classFile x code maxLocals ret World_1 tables_1 room_1 Calls_1 rest_1 Pre_1 Post := by
  intro l hfl _ _ p e ha hc hk s m args below hf hA hF happ hP
  obtain ⟨hcalls, hrest, hpre⟩ := hP
  obtain ⟨-, -, -, hnamed, -, -, -, hat⟩ := (Spec.applies_iff hf).mp happ
  obtain ⟨hg, hn⟩ := and_e (Cond.before_iff.mp (show (Jvm.Cond.and given_1 narrow_1).before args s = true from hpre))
  obtain ⟨hcount, hg0⟩ := and_e hg
  obtain ⟨w0, rfl⟩ : ∃ w0 : Value, args = #[w0] := by
    have hs : args.size = 1 := by simpa [Cond.value, given_1] using hcount
    obtain ⟨L⟩ := args
    match L, hs with
    | [w0], _ => exact ⟨w0, rfl⟩
  have hw := fun d (hd : d ∈ tables_1) => atoms_spec (ws := Jvm.Cond.code x code maxLocals ret :: tables_1) hat d (List.mem_cons_of_mem _ hd)
  have hfit : Fit s := fun {y c} hc i hi => by
    obtain ⟨ha, rfl⟩ := Array.getElem?_eq_some_iff.mp hc
    have q := List.all_eq_true.mp ((Array.all_eq_true_iff_forall_mem.mp hF) _ (Array.getElem_mem ha)) i (List.mem_range.mpr hi)
    simpa [Array.getElem?_eq_getElem hi] using q
  obtain ⟨p0, ei0⟩ := is_v hg0
  obtain rfl : w0 = (.int p0) := Option.some.inj ei0
  obtain ⟨hn_0, hn0'⟩ := and_e hn
  obtain ⟨hn_1, hn1'⟩ := and_e hn0'
  obtain ⟨hn_2, hn2'⟩ := and_e hn1'
  obtain ⟨hn_3, hn3'⟩ := and_e hn2'
  obtain ⟨hn_4, hn4'⟩ := and_e hn3'
  obtain ⟨hn_5, hn5'⟩ := and_e hn4'
  obtain ⟨hn_6, hn6'⟩ := and_e hn5'
  have hn_7 := hn6'
  obtain ⟨w_DATABASE, ev_DATABASE⟩ := exa_v hn_0
  have S_DATABASE : Sta s s.heap "com/example/helmsward/helmsward/policy/ResourceLevel" "DATABASE" "Lcom/example/helmsward/helmsward/policy/ResourceLevel;" (.ref w_DATABASE) := Sta.start ev_DATABASE (Or.inr ⟨(hw _ (List.mem_of_getElem? (i := 1) rfl)), (hw _ (List.mem_of_getElem? (i := 2) rfl))⟩)
  have E_w_DATABASE : Exa s s.heap w_DATABASE "com/example/helmsward/helmsward/policy/ResourceLevel" := Exa.start ev_DATABASE hn_0
  obtain ⟨w_PATH, ev_PATH⟩ := exa_v hn_2
  have S_PATH : Sta s s.heap "com/example/helmsward/helmsward/policy/ResourceLevel" "PATH" "Lcom/example/helmsward/helmsward/policy/ResourceLevel;" (.ref w_PATH) := Sta.start ev_PATH (Or.inr ⟨(hw _ (List.mem_of_getElem? (i := 1) rfl)), (hw _ (List.mem_of_getElem? (i := 11) rfl))⟩)
  have E_w_PATH : Exa s s.heap w_PATH "com/example/helmsward/helmsward/policy/ResourceLevel" := Exa.start ev_PATH hn_2
  obtain ⟨w_COLUMN, ev_COLUMN⟩ := exa_v hn_4
  have S_COLUMN : Sta s s.heap "com/example/helmsward/helmsward/policy/ResourceLevel" "COLUMN" "Lcom/example/helmsward/helmsward/policy/ResourceLevel;" (.ref w_COLUMN) := Sta.start ev_COLUMN (Or.inr ⟨(hw _ (List.mem_of_getElem? (i := 1) rfl)), (hw _ (List.mem_of_getElem? (i := 13) rfl))⟩)
  have E_w_COLUMN : Exa s s.heap w_COLUMN "com/example/helmsward/helmsward/policy/ResourceLevel" := Exa.start ev_COLUMN hn_4
  obtain ⟨w_TABLE, ev_TABLE⟩ := exa_v hn_5
  have S_TABLE : Sta s s.heap "com/example/helmsward/helmsward/policy/ResourceLevel" "TABLE" "Lcom/example/helmsward/helmsward/policy/ResourceLevel;" (.ref w_TABLE) := Sta.start ev_TABLE (Or.inr ⟨(hw _ (List.mem_of_getElem? (i := 1) rfl)), (hw _ (List.mem_of_getElem? (i := 14) rfl))⟩)
  have E_w_TABLE : Exa s s.heap w_TABLE "com/example/helmsward/helmsward/policy/ResourceLevel" := Exa.start ev_TABLE hn_5
  have FZ_DATABASE : Fld s s.heap w_DATABASE "com/example/helmsward/helmsward/policy/ResourceLevel" "parent" "Lcom/example/helmsward/helmsward/policy/ResourceLevel;" .null := Fld.start ((fld_at ev_DATABASE).symm.trans (null_v hn_1))
  have FZ_PATH : Fld s s.heap w_PATH "com/example/helmsward/helmsward/policy/ResourceLevel" "parent" "Lcom/example/helmsward/helmsward/policy/ResourceLevel;" .null := Fld.start ((fld_at ev_PATH).symm.trans (null_v hn_3))
  have FZ_COLUMN : Fld s s.heap w_COLUMN "com/example/helmsward/helmsward/policy/ResourceLevel" "parent" "Lcom/example/helmsward/helmsward/policy/ResourceLevel;" (.ref w_TABLE) := Fld.start ((fld_at ev_COLUMN).symm.trans (own_eqref ev_TABLE hn_6))
  have FZ_TABLE : Fld s s.heap w_TABLE "com/example/helmsward/helmsward/policy/ResourceLevel" "parent" "Lcom/example/helmsward/helmsward/policy/ResourceLevel;" (.ref w_DATABASE) := Fld.start ((fld_at ev_TABLE).symm.trans (own_eqref ev_DATABASE hn_7))
  have EZ_DATABASE := E_w_DATABASE
  have EZ_PATH := E_w_PATH
  have EZ_TABLE := E_w_TABLE
  have EZ_COLUMN := E_w_COLUMN
  obtain ⟨n, o, h1, h2, h3, _, L, rfl, ⟨rfl, N⟩, hq⟩ := rm0 l s _ hw tables_1 p0 w_DATABASE w_PATH w_TABLE w_COLUMN s.heap s.heap.size (Old.start s) S_DATABASE EZ_DATABASE FZ_DATABASE S_PATH EZ_PATH FZ_PATH S_TABLE EZ_TABLE FZ_TABLE S_COLUMN EZ_COLUMN FZ_COLUMN p e ha hc hk s m _ below hf ((Spec.applies_iff_loose hf).mp happ).1 ⟨rfl, State.Warmed39.refl s, rfl⟩ trivial
  refine ⟨n, _, h1, h2, h3, hpost _ _ _ _ _ _ ⟨Cond.after_iff.mpr rfl, Cond.after_iff.mpr (eq_i res_at (Term.int_eval (1)) rfl), trivial⟩ ⟨hq.1, hq.2.1, (hq.2.2.sift fun y hy => Or.inr (N y hy)).mono (by decide) (by decide)⟩⟩
theorem main_1_1 : Claimed_1_1 := comes_1 fun _ _ _ _ _ _ h hF => ⟨h.1, hF⟩
theorem main_1_2 : Claimed_1_2 := comes_1 fun _ _ _ _ _ _ h hF => ⟨h.2.1, hF⟩
end Jvm.Pilot.@@N@@
namespace Jvm.Pilot.@@N@@
open Jvm Jvm.ClassFile Sem Op Lib Jvm.Free Jvm.Stand Jvm.Pilot.@@N@@.Jvm.D
/-! MADE BY PROGRAM (witnessworld.py) out of the Statement's table words and the real class files: 12 classes; the members and pool entries that the words name. The judged class is class 1, her method 1. -/
namespace start1
open Jvm.ClassFile
def u (s : String) : CpInfo := .utf8 (stringToUtf16 s)
/-- a pool by its gaps: so many unusable entries, then the entry; so many at the end -/
def gap : Nat → List CpInfo → List CpInfo
  | 0, r => r
  | n + 1, r => .unusable :: gap n r
def poolList (es : List (Nat × CpInfo)) (last : Nat) : List CpInfo := es.foldr (fun e r => gap e.1 (e.2 :: r)) (gap last [])
def pool (es : List (Nat × CpInfo)) (last : Nat) : Array CpInfo := ⟨poolList es last⟩
def fileOf (pool : Array CpInfo) (this : Nat) (attrs : Array Attribute := #[]) (ms : Array MethodInfo := #[]) (fl : Nat := 33) (sup : Nat := 0) (ifs : Array Nat := #[]) (fds : Array FieldInfo := #[]) : ClassFile where
  minorVersion := 0
  majorVersion := 65
  constantPool := pool
  accessFlags := fl
  thisClass := this
  superClass := sup
  interfaces := ifs
  fields := fds
  methods := ms
  attributes := attrs
def plain (name : String) (sup : Option ClassId) : Class where
  name := name
  kind := .ordinary
  loader := none
  accessFlags := 33
  super := sup
  interfaces := #[]
  cf := none
  fields := #[]
  methods := #[]
  instanceTypes := #[]
  staticTypes := #[]
  resolved := #[]
  callSites := []
  init := .initialized
  statics := none
  mirror := none

def pool0 : Array CpInfo := pool [(5, u "<init>"), (0, u "()V"), (1, .class_ 10), (1, u "java/lang/Object")] 113

def k0m0 : Method := { name := "<init>", desc := "()V", sig := { parameters := [], returnType := none }, accessFlags := 1, code := none }
/-- java/lang/Object -/
def k0 : Class := { plain "java/lang/Object" none with
  accessFlags := 33
  interfaces := #[]
  cf := some (fileOf pool0 8 #[] #[{ accessFlags := 1, nameIndex := 5, descriptorIndex := 6, attributes := #[] }] 33 0 #[] #[])
  fields := #[]
  methods := #[k0m0]
  instanceTypes := #[]
  staticTypes := #[]
  resolved := Array.replicate 124 none
  statics := none }

def pool1 : Array CpInfo := pool [(2, .class_ 4), (1, u "java/lang/Object"), (0, u "<init>"), (0, u "()V"), (0, .fieldref 8 9), (0, .class_ 10), (0, .nameAndType 11 12), (0, u "com/example/helmsward/helmsward/policy/ResourceLevel"), (0, u "DATABASE"), (0, u "Lcom/example/helmsward/helmsward/policy/ResourceLevel;"), (0, .fieldref 8 14), (0, .nameAndType 15 12), (0, u "TABLE"), (0, .fieldref 8 17), (0, .nameAndType 18 12), (0, u "COLUMN"), (0, .fieldref 8 20), (0, .nameAndType 21 12), (0, u "PATH"), (0, .methodref 8 23), (0, .nameAndType 24 25), (0, u "depth"), (0, u "()I"), (0, .class_ 27), (0, u "com/example/helmsward/helmsward/policy/ResourceLevelDepthPinLaw"), (2, u "law"), (0, u "(I)Z")] 3

def k1m0 : Method := { name := "<init>", desc := "()V", sig := { parameters := [], returnType := none }, accessFlags := 1, code := none }
def k1c1 : Code := { maxStack := 2, maxLocals := 4, code := code, exceptionTable := #[], attributes := #[] }
def k1m1 : Method := { name := "law", desc := "(I)Z", sig := { parameters := [.int], returnType := some .boolean }, accessFlags := 9, code := some k1c1 }
/-- com/example/helmsward/helmsward/policy/ResourceLevelDepthPinLaw -/
def k1 : Class := { plain "com/example/helmsward/helmsward/policy/ResourceLevelDepthPinLaw" (some 0) with
  accessFlags := 49
  interfaces := #[]
  cf := some (fileOf pool1 26 #[] #[{ accessFlags := 1, nameIndex := 5, descriptorIndex := 6, attributes := #[] }, { accessFlags := 9, nameIndex := 30, descriptorIndex := 31, attributes := #[] }] 49 2 #[] #[])
  fields := #[]
  methods := #[k1m0, k1m1]
  instanceTypes := #[]
  staticTypes := #[]
  resolved := Array.replicate 35 none
  statics := none }

def pool2 : Array CpInfo := pool [(1, .class_ 2), (0, u "java/lang/constant/Constable"), (0, .class_ 4), (0, u "java/lang/Object")] 6

/-- java/lang/constant/Constable -/
def k2 : Class := { plain "java/lang/constant/Constable" (some 0) with
  accessFlags := 1537
  interfaces := #[]
  cf := some (fileOf pool2 1 #[] #[] 1537 3 #[] #[])
  fields := #[]
  methods := #[]
  instanceTypes := #[]
  staticTypes := #[]
  resolved := Array.replicate 11 none
  statics := none }

def pool3 : Array CpInfo := pool [(1, .class_ 2), (0, u "java/lang/Comparable"), (0, .class_ 4), (0, u "java/lang/Object")] 7

/-- java/lang/Comparable -/
def k3 : Class := { plain "java/lang/Comparable" (some 0) with
  accessFlags := 1537
  interfaces := #[]
  cf := some (fileOf pool3 1 #[] #[] 1537 3 #[] #[])
  fields := #[]
  methods := #[]
  instanceTypes := #[]
  staticTypes := #[]
  resolved := Array.replicate 12 none
  statics := none }

def pool4 : Array CpInfo := pool [(1, .class_ 2), (0, u "java/io/Serializable"), (0, .class_ 4), (0, u "java/lang/Object")] 2

/-- java/io/Serializable -/
def k4 : Class := { plain "java/io/Serializable" (some 0) with
  accessFlags := 1537
  interfaces := #[]
  cf := some (fileOf pool4 1 #[] #[] 1537 3 #[] #[])
  fields := #[]
  methods := #[]
  instanceTypes := #[]
  staticTypes := #[]
  resolved := Array.replicate 7 none
  statics := none }

def pool5 : Array CpInfo := pool [(2, .class_ 4), (1, u "java/lang/Enum"), (0, u "name"), (0, u "Ljava/lang/String;"), (2, u "ordinal"), (0, u "I"), (1, .class_ 14), (1, u "java/lang/Object"), (4, u "hash"), (86, .class_ 108), (1, u "java/lang/Enum$EnumDesc"), (2, .class_ 112), (0, u "java/lang/constant/Constable"), (0, .class_ 114), (0, u "java/lang/Comparable"), (0, .class_ 116), (0, u "java/io/Serializable")] 87

/-- java/lang/Enum -/
def k5 : Class := { plain "java/lang/Enum" (some 0) with
  accessFlags := 1057
  interfaces := #[2, 3, 4]
  cf := some (fileOf pool5 2 #[.nestMembers #[106]] #[] 1057 12 #[111, 113, 115] #[{ accessFlags := 18, nameIndex := 5, descriptorIndex := 6, attributes := #[] }, { accessFlags := 18, nameIndex := 9, descriptorIndex := 10, attributes := #[] }, { accessFlags := 2, nameIndex := 19, descriptorIndex := 10, attributes := #[] }])
  fields := #[{ name := "name", type := (.object "java/lang/String"), accessFlags := 18, slot := 0, constantValue := 0 }, { name := "ordinal", type := .int, accessFlags := 18, slot := 1, constantValue := 0 }, { name := "hash", type := .int, accessFlags := 2, slot := 2, constantValue := 0 }]
  methods := #[]
  instanceTypes := #[(.object "java/lang/String"), .int, .int]
  staticTypes := #[]
  resolved := Array.replicate 204 none
  statics := none }

def pool6 : Array CpInfo := pool [(1, .class_ 2), (0, u "com/example/helmsward/helmsward/policy/ResourceLevel"), (2, u "DATABASE"), (0, u "Lcom/example/helmsward/helmsward/policy/ResourceLevel;"), (2, u "TABLE"), (2, u "COLUMN"), (2, u "PATH"), (2, u "$VALUES"), (0, u "[Lcom/example/helmsward/helmsward/policy/ResourceLevel;"), (6, .class_ 28), (1, u "java/lang/Enum"), (8, u "key"), (0, u "Ljava/lang/String;"), (0, .fieldref 1 40), (0, .nameAndType 41 6), (0, u "parent"), (2, u "paths"), (0, u "Z"), (4, .methodref 1 51), (0, .nameAndType 52 53), (0, u "depth"), (0, u "()I"), (2, u "HIERARCHIES"), (0, u "Ljava/util/Map;"), (73, .class_ 133), (1, u "com/example/helmsward/helmsward/policy/ResourceLevel$Reader"), (29, .class_ 164), (0, u "com/example/helmsward/helmsward/policy/ResourceLevel$Named")] 135

def k6c0 : Code := { maxStack := 2, maxLocals := 1, code := prog_58_method_7_code, exceptionTable := #[], attributes := #[] }
def k6m0 : Method := { name := "depth", desc := "()I", sig := { parameters := [], returnType := some .int }, accessFlags := 0, code := some k6c0 }
/-- com/example/helmsward/helmsward/policy/ResourceLevel -/
def k6 : Class := { plain "com/example/helmsward/helmsward/policy/ResourceLevel" (some 5) with
  accessFlags := 16432
  interfaces := #[]
  cf := some (fileOf pool6 1 #[.nestMembers #[163, 131]] #[{ accessFlags := 0, nameIndex := 52, descriptorIndex := 53, attributes := #[] }] 16432 26 #[] #[{ accessFlags := 16409, nameIndex := 5, descriptorIndex := 6, attributes := #[] }, { accessFlags := 16409, nameIndex := 9, descriptorIndex := 6, attributes := #[] }, { accessFlags := 16409, nameIndex := 12, descriptorIndex := 6, attributes := #[] }, { accessFlags := 16409, nameIndex := 15, descriptorIndex := 6, attributes := #[] }, { accessFlags := 26, nameIndex := 56, descriptorIndex := 57, attributes := #[] }, { accessFlags := 18, nameIndex := 37, descriptorIndex := 38, attributes := #[] }, { accessFlags := 18, nameIndex := 41, descriptorIndex := 6, attributes := #[] }, { accessFlags := 18, nameIndex := 44, descriptorIndex := 45, attributes := #[] }, { accessFlags := 4122, nameIndex := 18, descriptorIndex := 19, attributes := #[] }])
  fields := #[{ name := "DATABASE", type := (.object "com/example/helmsward/helmsward/policy/ResourceLevel"), accessFlags := 16409, slot := 0, constantValue := 0 }, { name := "TABLE", type := (.object "com/example/helmsward/helmsward/policy/ResourceLevel"), accessFlags := 16409, slot := 1, constantValue := 0 }, { name := "COLUMN", type := (.object "com/example/helmsward/helmsward/policy/ResourceLevel"), accessFlags := 16409, slot := 2, constantValue := 0 }, { name := "PATH", type := (.object "com/example/helmsward/helmsward/policy/ResourceLevel"), accessFlags := 16409, slot := 3, constantValue := 0 }, { name := "HIERARCHIES", type := (.object "java/util/Map"), accessFlags := 26, slot := 4, constantValue := 0 }, { name := "key", type := (.object "java/lang/String"), accessFlags := 18, slot := 3, constantValue := 0 }, { name := "parent", type := (.object "com/example/helmsward/helmsward/policy/ResourceLevel"), accessFlags := 18, slot := 4, constantValue := 0 }, { name := "paths", type := .boolean, accessFlags := 18, slot := 5, constantValue := 0 }, { name := "$VALUES", type := (.array (.object "com/example/helmsward/helmsward/policy/ResourceLevel")), accessFlags := 4122, slot := 5, constantValue := 0 }]
  methods := #[k6m0]
  instanceTypes := #[(.object "java/lang/String"), .int, .int, (.object "java/lang/String"), (.object "com/example/helmsward/helmsward/policy/ResourceLevel"), .boolean]
  staticTypes := #[(.object "com/example/helmsward/helmsward/policy/ResourceLevel"), (.object "com/example/helmsward/helmsward/policy/ResourceLevel"), (.object "com/example/helmsward/helmsward/policy/ResourceLevel"), (.object "com/example/helmsward/helmsward/policy/ResourceLevel"), (.object "java/util/Map"), (.array (.object "com/example/helmsward/helmsward/policy/ResourceLevel"))]
  resolved := Array.replicate 300 none
  statics := some 0 }

def pool7 : Array CpInfo := pool [(1, u "java/lang/Cloneable"), (0, .class_ 1), (0, u "java/lang/Object"), (0, .class_ 3)] 3

/-- java/lang/Cloneable -/
def k7 : Class := { plain "java/lang/Cloneable" (some 0) with
  accessFlags := 1537
  interfaces := #[]
  cf := some (fileOf pool7 2 #[] #[] 1537 4 #[] #[])
  fields := #[]
  methods := #[]
  instanceTypes := #[]
  staticTypes := #[]
  resolved := Array.replicate 8 none
  statics := none }

/-- the primitive byte -/
def k8 : Class := { plain "byte" none with kind := .primitive 'B', accessFlags := 0x411 }
/-- [B -/
def k9 : Class := { plain "[B" (some 0) with kind := .array 8 .byte, interfaces := #[7, 4], accessFlags := 1041 }

/-- the primitive int -/
def k10 : Class := { plain "int" none with kind := .primitive 'I', accessFlags := 0x411 }
/-- [I -/
def k11 : Class := { plain "[I" (some 0) with kind := .array 10 .int, interfaces := #[7, 4], accessFlags := 1041 }

def heap : Heap := #[{ cls := 6, slots := #[.ref 1, .ref 2, .ref 3, .ref 4, .null, .null], vm := .statics 6 },
  { cls := 6, slots := #[.null, .int 0, .int 0, .null, .null, .int 0], vm := .none },
  { cls := 6, slots := #[.null, .int 0, .int 0, .null, .ref 1, .int 0], vm := .none },
  { cls := 6, slots := #[.null, .int 0, .int 0, .null, .ref 2, .int 0], vm := .none },
  { cls := 6, slots := #[.null, .int 0, .int 0, .null, .null, .int 1], vm := .none }]
def classes : Array Class := #[k0, k1, k2, k3, k4, k5, k6, k7, k8, k9, k10, k11]
def interned : List (Array UInt16 × Addr) := []
def slotsUsed : Nat := 30
def theMethod : MethodId := ⟨1, 1⟩
def args0 : Array Value := #[.int 1]
def aboutOver (below : List Frame) : State where
  vm := { classes := classes, interned := interned.toArray }
  heap := heap
  slotsUsed := slotsUsed
  threads := #[{ frames := .invoking theMethod args0 :: below }]
def below0 : List Frame := [.native { method := ⟨0, 0⟩, args := #[] }]
def about1 : State := aboutOver below0
def p0 : Program := .bare "" "" ""
def e0 : Env := launch0.env 0 0 0
theorem w_frames : about1.frames = Frame.invoking theMethod args0 :: below0 := rfl
set_option maxRecDepth 65536 in
theorem w_args : argsFit about1.vm theMethod args0 = true := by decide +kernel
set_option maxRecDepth 65536 in
theorem w_heap : heapFits about1 = true := by decide +kernel
set_option maxRecDepth 65536 in
theorem w_runnable : about1.curStatus? = some .runnable := by decide +kernel
set_option maxRecDepth 65536 in
theorem w_alone : about1.alone = true := by decide +kernel
set_option maxRecDepth 65536 in
theorem w_named : about1.methodNamed? x = some theMethod := by decide +kernel
set_option maxRecDepth 65536 in
theorem w_hears : about1.hears theMethod below0 = true := by decide +kernel
set_option maxRecDepth 65536 in
theorem w_ripe : about1.ripe theMethod args0 below0 = true := by decide +kernel
theorem w_running : about1.status = .running := rfl
set_option maxRecDepth 65536 in
theorem w_room : about1.hasRoom e0.platform room_1 = true :=
  launch0.hasRoom_least _ room_1 (by decide +kernel) (by decide +kernel) (by decide +kernel) (by decide +kernel) (by decide +kernel) (by decide +kernel)
theorem allAtoms_all (ts : List Jvm.Cond) (a : Array Jvm.Value) (st : Jvm.State) : (allAtoms ts).before a st = ts.all (fun c => c.before a st) := by
  induction ts with
  | nil => rfl
  | cons c t ih =>
    show (Jvm.Cond.and c (allAtoms t)).before a st = _
    rw [Jvm.Cond.before_and, ih, List.all_cons]
def words1 : List Jvm.Cond := Jvm.Cond.code x code maxLocals ret :: tables_1
/-- a 'code' word, met by the world's own term for the bytes: nothing is compared byte by byte -/
theorem code_word {y : MethodName} {bytes : ByteArray} {mx : Nat} {rt : Option FieldType} {a : Array Value} {s : State} {m : MethodId} {meth : Method} {c : Code} (h1 : s.methodNamed? y = some m) (h2 : s.vm.method? m = some meth) (h3 : meth.code = some c) (h4 : c.code = bytes)
    (h5 : (c.maxLocals == mx && c.exceptionTable.isEmpty && decide (c.maxStack ≤ mostOperands) && decide (meth.sig.returnType = rt) && !meth.locks && decide (parseMethodDescriptor y.desc = some meth.sig)) = true) : (Jvm.Cond.code y bytes mx rt).before a s = true := by
  simp only [Bool.and_eq_true, beq_iff_eq, Bool.not_eq_true', decide_eq_true_eq] at h5
  obtain ⟨⟨⟨⟨⟨g1, g2⟩, g3⟩, g4⟩, g5⟩, g6⟩ := h5
  simp [Cond.before, Cond.holds, Cond.value, h1, h2, h3, h4, g1, g2, g3, g4, g5, g6]
def isCode : Jvm.Cond → Bool
  | .code _ _ _ _ => true
  | _ => false
theorem all_split {L : List Jvm.Cond} {P : Jvm.Cond → Bool} (h1 : L.all (fun c => isCode c || P c) = true) (h2 : ∀ c ∈ L.filter isCode, P c = true) : L.all P = true := by
  refine List.all_eq_true.mpr fun c hc => ?_
  have h := List.all_eq_true.mp h1 c hc
  rcases Bool.eq_false_or_eq_true (isCode c) with hi | hi
  · exact h2 c (List.mem_filter.mpr ⟨hc, hi⟩)
  · simpa [hi] using h
set_option maxRecDepth 65536 in
theorem w_c0 : (Jvm.Cond.code x code maxLocals ret).before args0 about1 = true := code_word (m := ⟨1, 1⟩) (meth := k1m1) (c := k1c1) (by decide +kernel) rfl rfl rfl (by decide +kernel)
set_option maxRecDepth 65536 in
theorem w_c1 : (Jvm.Cond.code ({ cls := "com/example/helmsward/helmsward/policy/ResourceLevel", name := "depth", desc := "()I" } : Jvm.MethodName) prog_58_method_7_code (1 : Nat) (Option.some Jvm.ClassFile.FieldType.int)).before args0 about1 = true := code_word (m := ⟨6, 0⟩) (meth := k6m0) (c := k6c0) (by decide +kernel) rfl rfl rfl (by decide +kernel)
def codes1 : List Jvm.Cond := [Jvm.Cond.code x code maxLocals ret, Jvm.Cond.code ({ cls := "com/example/helmsward/helmsward/policy/ResourceLevel", name := "depth", desc := "()I" } : Jvm.MethodName) prog_58_method_7_code (1 : Nat) (Option.some Jvm.ClassFile.FieldType.int)]
set_option maxRecDepth 65536 in
theorem codes_eq : words1.filter isCode = codes1 := rfl
theorem w_codes : ∀ c ∈ words1.filter isCode, c.before args0 about1 = true := by
  rw [codes_eq]
  intro c hc
  simp only [codes1, List.mem_cons, List.not_mem_nil, or_false] at hc
  rcases hc with rfl | rfl
  · exact w_c0
  · exact w_c1
set_option maxRecDepth 65536 in
theorem w_t1 : words1.all (fun c => isCode c || c.before args0 about1) = true := by decide +kernel
theorem w_tables : (allAtoms (Jvm.Cond.code x code maxLocals ret :: tables_1)).before args0 about1 = true := by
  rw [allAtoms_all]
  show words1.all (fun c => c.before args0 about1) = true
  refine all_split ?_ w_codes
  rw [w_t1]
set_option maxRecDepth 65536 in
theorem w_case : (Jvm.Cond.and given_1 narrow_1).before args0 about1 = true := by decide +kernel
theorem w_applies : (headSpec (Jvm.Cond.code x code maxLocals ret :: tables_1) room_1).applies x e0.platform about1 = true :=
  (Spec.applies_iff w_frames).mpr ⟨w_running, w_runnable, w_alone, w_named, w_hears, w_ripe, w_room, w_tables⟩
theorem atStart : AtStart classFile x code maxLocals ret World_1 tables_1 room_1 Calls_1 rest_1 Pre_1 launch0 p0 e0 about1 theMethod args0 below0 :=
  ⟨lists_1, trivial, launch0.admits_env _ _ _, launch0.least_env, fairChoices_fair.cas, fairChoices_fair.clock, w_frames, w_args, w_heap, w_applies, trivial, trivial, w_case⟩
end start1
theorem witness_1 : WitnessClaimed_1 := ⟨start1.p0, start1.e0, start1.about1, start1.theMethod, start1.args0, start1.below0, start1.atStart⟩
end Jvm.Pilot.@@N@@
