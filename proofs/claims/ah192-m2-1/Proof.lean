import JvmDerived
import JvmDerived.Pilot.@@N@@Statement
import JvmDerived.Pilot.@@N@@Code
set_option linter.unusedVariables false
set_option linter.unusedSimpArgs false
@@BLOCK:NumsL.lean.txt@@
namespace Jvm.Pilot.@@N@@
open Jvm Jvm.ClassFile Sem Op Lib Jvm.Free Jvm.Stand Jvm.LawKit Jvm.RoadKit Bundle Jvm.Pilot.@@N@@.Jvm.D
theorem own_ne {k : Int32} {n : Int} (z : Int32) (hl : z.toInt = n) (h : ¬ k = z) : n ≠ k.toInt := fun e => h (Int32.toInt_inj.mp (by rw [hl]; exact e.symm))
theorem own_ext {Z : State} {n0 : Nat} {h : Heap} (O : Old Z n0 h) : Ext Z.heap h := O.2
theorem own_sz {Z : State} {n0 : Nat} {h : Heap} (O : Old Z n0 h) : n0 ≤ h.size := by have := O.2.1; rw [O.1] at this; exact this
def own_Ends (p : Program) (e : Env) (below : List Frame) (s : State) (Q : Option Value → Heap → List Loc → Prop) (k n : Nat) (A : State) : Prop :=
  ∃ (U : State) (o : Outcome), Steps p.tables e below A U ∧ U.status = .running ∧ Ended U below o ∧ ∃ v L, o = .returned v ∧ Q v U.heap L ∧ FrameEnd s o U L k n
section OwnKit
variable {p : Program} {l : Launch} {e : Env} {R : Room} {s : State} {m : MethodId} {args : Array Value} {below : List Frame} {meth : Method} {c : Code} {T : State} {locs : List Loc} {cells slots k n : Nat} {Q : Option Value → Heap → List Loc → Prop} {A B : State}
theorem own_go (h : ∀ t, Steps p.tables e below B t → Steps p.tables e below A t) (K : own_Ends p e below s Q k n B) : own_Ends p e below s Q k n A := by
  obtain ⟨U, o, h1, r⟩ := K
  exact ⟨U, o, h U h1, r⟩
theorem own_ret (X : Stand p l e R s m args below meth c T locs cells slots) (hx : p.tables.exec = Jvm.exec) (hlk : meth.locks = false) {pc : Nat} {Ls : Array Slot} {w : Value} {t : FieldType} {i : Instr} {rest : List Value} (hret : meth.sig.returnType = some t) (hn : narrow t w = w)
    (hi : (i = .ireturn ∧ (t = .int ∨ t = .boolean ∨ t = .byte ∨ t = .char ∨ t = .short) ∧ ∃ z, w = .int z) ∨ (i = .lreturn ∧ t = .long ∧ ∃ z, w = .long z) ∨ (i = .dreturn ∧ t = .double ∧ ∃ z, w = .double z) ∨ (i = .freturn ∧ t = .float ∧ ∃ z, w = .float z) ∨ (i = .areturn ∧ t.isReference = true ∧ w.isRef = true))
    (hd : decode c.code pc = .ok (i, 1)) (hk : cells ≤ k) (hs : slots ≤ n) (hQ : Q (some w) T.heap locs) : own_Ends p e below s Q k n (T.setTop (mkF m pc Ls (w :: rest))) := by
  obtain ⟨fs, hr, hrun, hended, hW, hsame⟩ := X.leave (v := some w) (fun h => by rw [hret] at h; cases h) hlk
  exact ⟨_, _, retOut X hx hret hn hi hd hr, hrun, hended, _, _, rfl, hQ, ⟨_, rfl⟩, hW, hsame.mono hk hs⟩
theorem own_retI (X : Stand p l e R s m args below meth c T locs cells slots) (hx : p.tables.exec = Jvm.exec) (hlk : meth.locks = false) {pc : Nat} {Ls : Array Slot} {z : Int32} {rest : List Value} (hret : meth.sig.returnType = some .int) (hd : decode c.code pc = .ok (.ireturn, 1)) (hk : cells ≤ k) (hs : slots ≤ n) (hQ : Q (some (.int z)) T.heap locs) : own_Ends p e below s Q k n (T.setTop (mkF m pc Ls (.int z :: rest))) :=
  own_ret X hx hlk hret rfl (Or.inl ⟨rfl, Or.inl rfl, _, rfl⟩) hd hk hs hQ
theorem own_retJ (X : Stand p l e R s m args below meth c T locs cells slots) (hx : p.tables.exec = Jvm.exec) (hlk : meth.locks = false) {pc : Nat} {Ls : Array Slot} {z : Int64} {rest : List Value} (hret : meth.sig.returnType = some .long) (hd : decode c.code pc = .ok (.lreturn, 1)) (hk : cells ≤ k) (hs : slots ≤ n) (hQ : Q (some (.long z)) T.heap locs) : own_Ends p e below s Q k n (T.setTop (mkF m pc Ls (.long z :: rest))) :=
  own_ret X hx hlk hret rfl (Or.inr (Or.inl ⟨rfl, rfl, _, rfl⟩)) hd hk hs hQ
theorem own_retD (X : Stand p l e R s m args below meth c T locs cells slots) (hx : p.tables.exec = Jvm.exec) (hlk : meth.locks = false) {pc : Nat} {Ls : Array Slot} {z : UInt64} {rest : List Value} (hret : meth.sig.returnType = some .double) (hd : decode c.code pc = .ok (.dreturn, 1)) (hk : cells ≤ k) (hs : slots ≤ n) (hQ : Q (some (.double z)) T.heap locs) : own_Ends p e below s Q k n (T.setTop (mkF m pc Ls (.double z :: rest))) :=
  own_ret X hx hlk hret rfl (Or.inr (Or.inr (Or.inl ⟨rfl, rfl, _, rfl⟩))) hd hk hs hQ
theorem own_retA (X : Stand p l e R s m args below meth c T locs cells slots) (hx : p.tables.exec = Jvm.exec) (hlk : meth.locks = false) {pc : Nat} {Ls : Array Slot} {w : Value} {t : FieldType} {rest : List Value} (hret : meth.sig.returnType = some t) (ht : t.isReference = true) (hw : w.isRef = true) (hn : narrow t w = w) (hd : decode c.code pc = .ok (.areturn, 1)) (hk : cells ≤ k) (hs : slots ≤ n) (hQ : Q (some w) T.heap locs) : own_Ends p e below s Q k n (T.setTop (mkF m pc Ls (w :: rest))) :=
  own_ret X hx hlk hret hn (Or.inr (Or.inr (Or.inr (Or.inr ⟨rfl, ht, hw⟩)))) hd hk hs hQ
theorem own_retN (X : Stand p l e R s m args below meth c T locs cells slots) (hx : p.tables.exec = Jvm.exec) (hlk : meth.locks = false) {pc : Nat} {Ls : Array Slot} {z : Int32} {t : FieldType} {rest : List Value} (hret : meth.sig.returnType = some t) (ht : t = .boolean ∨ t = .byte ∨ t = .char ∨ t = .short) (hd : decode c.code pc = .ok (.ireturn, 1)) (hk : cells ≤ k) (hs : slots ≤ n) (hQ : Q (some (.int (nar t z))) T.heap locs) : own_Ends p e below s Q k n (T.setTop (mkF m pc Ls (.int z :: rest))) := by
  obtain ⟨fs, hr, hrun, hended, hW, hsame⟩ := X.leave (v := some (.int (nar t z))) (fun h => by rw [hret] at h; cases h) hlk
  exact ⟨_, _, retN X hx hret ht hd hr, hrun, hended, _, _, rfl, hQ, ⟨_, rfl⟩, hW, hsame.mono hk hs⟩
theorem own_retV (X : Stand p l e R s m args below meth c T locs cells slots) (hx : p.tables.exec = Jvm.exec) (hlk : meth.locks = false) {pc : Nat} {Ls : Array Slot} (hret : meth.sig.returnType = none) (hd : decode c.code pc = .ok (.return_, 1)) (hk : cells ≤ k) (hs : slots ≤ n) (hQ : Q none T.heap locs) : own_Ends p e below s Q k n (T.setTop (mkF m pc Ls [])) := by
  obtain ⟨fs, hr, hrun, hended, hW, hsame⟩ := X.leave (v := none) (fun _ => rfl) hlk
  exact ⟨_, _, X.returnOut hx hret hd hr, hrun, hended, _, _, rfl, hQ, ⟨_, rfl⟩, hW, hsame.mono hk hs⟩
end OwnKit
theorem d4_0 : decode jdk_30_method_1_code 0 = .ok (.aload_n 0, 1) := by decide +kernel
theorem d4_1 : decode jdk_30_method_1_code 1 = .ok (.invokespecial 1, 3) := by decide +kernel
theorem d4_4 : decode jdk_30_method_1_code 4 = .ok (.return_, 1) := by decide +kernel
theorem pn4 : plainName "java/lang/Record" = true := by first | (simp [plainName, overriddenIn]; done) | decide +kernel
theorem ef4 (m : MethodId) (a0 : Addr) : entryFrame m #[(.ref a0)] 1 = mkF m 0 #[.val (.ref a0)] [] := by first | (simp [entryFrame, mkF, argsToLocals, Value.category]; done) | rfl
def Q4 (Z : State) (a0 : Addr) (h0 : Heap) (n0 : Nat) (v : Option Value) (h : Heap) (L : List Loc) : Prop := v = none ∧ Fr n0 L ∧ h = h0
set_option maxRecDepth 65536 in
set_option maxHeartbeats 40000000 in
theorem rm4 (l : Launch) (Z : State) (ar : Array Value) (hw : ∀ d ∈ tables_1, d.before ar Z = true) (ws : List Jvm.Cond) (a0 : Addr) (h0 : Heap) (n0 : Nat) (O0 : Old Z n0 h0) :
    MetFree l (⟨"java/lang/Record", "<init>", "()V"⟩ : MethodName) (head1 (Jvm.Cond.code (⟨"java/lang/Record", "<init>", "()V"⟩ : MethodName) jdk_30_method_1_code 1 none :: ws) ({ frames := 1, cells := 0, slots := 0, locals := 12 } : Room)) (fun a U => a = #[(.ref a0)] ∧ Z.Warmed39 U.vm ∧ U.heap = h0) (fun _ _ _ _ _ => True) (fun _ U o U' => ∃ v L, o = .returned v ∧ Q4 Z a0 h0 n0 v U'.heap L ∧ FrameEnd U o U' L ({ frames := 1, cells := 0, slots := 0, locals := 12 } : Room).cells ({ frames := 1, cells := 0, slots := 0, locals := 12 } : Room).slots) := by
  refine MetFree.of_bodySF (plainFor_of_name pn4) hisR ?_
  intro p e s m args below meth c s₁ Bd hml0 hP hK
  obtain ⟨rfl, hZ, hh⟩ := hP
  have hx := Bd.exec
  have hby := Bd.bytes
  have hml : c.maxLocals = 1 := hml0
  have hown : s.vm.findClass "java/lang/Record" = some m.cls := findClass_of_methodNamed Bd.named
  have hnm := (name_of_methodNamed Bd.named Bd.method).1
  have hlk : meth.locks = false := BodyLoose.notSynchronized Bd
  have X0 : Stand p l e ({ frames := 1, cells := 0, slots := 0, locals := 12 } : Room) s m #[(.ref a0)] below meth c s₁ [] 0 0 := Stand.of_body Bd
  have e0 : s₁.heap = h0 := by rw [← hh, Bd.state]; rfl
  have N0 := Fr.nil n0
  suffices hmain : own_Ends p e below s (Q4 Z a0 h0 n0) 0 0 (s₁.setTop (mkF m 0 #[.val (.ref a0)] [])) by
    obtain ⟨U, o, h1, r⟩ := hmain
    exact ⟨U, o, castTop (ef4 m a0) h1, r⟩
  show own_Ends _ _ _ _ _ _ _ (s₁.setTop (mkF m 0 #[.val (.ref a0)] []))
  refine own_go (fun _ k => XS.aloadN X0.here hx rfl (hb hby d4_0) rfl rfl k) ?_
  show own_Ends _ _ _ _ _ _ _ (s₁.setTop (mkF m 1 #[.val (.ref a0)] [(.ref a0)]))
  obtain ⟨T1, X1, e1, st1⟩ := initO X0 hx hZ hown (hw _ (List.mem_of_getElem? (i := 24) rfl)) (hw _ (List.mem_of_getElem? (i := 25) rfl)) (hw _ (List.mem_of_getElem? (i := 26) rfl)) e0 (g := (mkF m 1 #[.val (.ref a0)] [(.ref a0)])) rfl (by rw [hml]; rfl) rfl (hb hby d4_1) (by decide) (W := 0) (by show 2 * 0 + _ ≤ _; exact Nat.le_of_eq rfl) (by decide)
  refine own_go (fun _ k => st1 _ k) ?_
  show own_Ends _ _ _ _ _ _ _ (T1.setTop (mkF m 4 #[.val (.ref a0)] []))
  exact own_retV X1 hx hlk Bd.returns (hb hby d4_4) (by decide) (by decide) ⟨rfl, N0, e1⟩
theorem d1_0 : decode method_2_code 0 = .ok (.iload_n 0, 1) := by decide +kernel
theorem d1_1 : decode method_2_code 1 = .ok (.iconst 1, 1) := by decide +kernel
theorem d1_2 : decode method_2_code 2 = .ok (.iand, 1) := by decide +kernel
theorem d1_3 : decode method_2_code 3 = .ok (.ifCond .eq 9, 3) := by decide +kernel
theorem d1_6 : decode method_2_code 6 = .ok (.getstatic 7, 3) := by decide +kernel
theorem d1_9 : decode method_2_code 9 = .ok (.goto 6, 3) := by decide +kernel
theorem d1_12 : decode method_2_code 12 = .ok (.getstatic 13, 3) := by decide +kernel
theorem d1_15 : decode method_2_code 15 = .ok (.areturn, 1) := by decide +kernel
theorem pn1 : plainName "com/example/octroi/octroi/model/BehaviourAnswersPinLaw" = true := by first | (simp [plainName, overriddenIn]; done) | decide +kernel
theorem ef1 (m : MethodId) (p0 : Int32) : entryFrame m #[(.int p0)] 1 = mkF m 0 #[.val (.int p0)] [] := by first | (simp [entryFrame, mkF, argsToLocals, Value.category]; done) | rfl
def f1 (p0 : Int32) (w_ORIGINAL_CREDIT_IN_PROCESS : Addr) (w_SUCCESS : Addr) : Addr := (if (p0 &&& (1 : Int32)) = (0 : Int32) then w_ORIGINAL_CREDIT_IN_PROCESS else w_SUCCESS)
def Q1 (Z : State) (p0 : Int32) (w_ORIGINAL_CREDIT_IN_PROCESS : Addr) (w_SUCCESS : Addr) (h0 : Heap) (n0 : Nat) (v : Option Value) (h : Heap) (L : List Loc) : Prop := v = some (.ref (f1 p0 w_ORIGINAL_CREDIT_IN_PROCESS w_SUCCESS)) ∧ Fr n0 L ∧ h = h0
set_option maxRecDepth 65536 in
set_option maxHeartbeats 40000000 in
theorem rm1 (l : Launch) (Z : State) (ar : Array Value) (hw : ∀ d ∈ tables_1, d.before ar Z = true) (ws : List Jvm.Cond) (p0 : Int32) (w_ORIGINAL_CREDIT_IN_PROCESS : Addr) (w_SUCCESS : Addr) (h0 : Heap) (n0 : Nat) (O0 : Old Z n0 h0) (S_ORIGINAL_CREDIT_IN_PROCESS : Sta Z Z.heap "com/example/octroi/octroi/model/ResultCode" "ORIGINAL_CREDIT_IN_PROCESS" "Lcom/example/octroi/octroi/model/ResultCode;" (.ref w_ORIGINAL_CREDIT_IN_PROCESS)) (S_SUCCESS : Sta Z Z.heap "com/example/octroi/octroi/model/ResultCode" "SUCCESS" "Lcom/example/octroi/octroi/model/ResultCode;" (.ref w_SUCCESS)) :
    MetFree l (⟨"com/example/octroi/octroi/model/BehaviourAnswersPinLaw", "createOf", "(I)Lcom/example/octroi/octroi/model/ResultCode;"⟩ : MethodName) (head1 (Jvm.Cond.code (⟨"com/example/octroi/octroi/model/BehaviourAnswersPinLaw", "createOf", "(I)Lcom/example/octroi/octroi/model/ResultCode;"⟩ : MethodName) method_2_code 1 (some (.object "com/example/octroi/octroi/model/ResultCode")) :: ws) ({ frames := 0, cells := 0, slots := 0, locals := 0 } : Room)) (fun a U => a = #[(.int p0)] ∧ Z.Warmed39 U.vm ∧ U.heap = h0) (fun _ _ _ _ _ => True) (fun _ U o U' => ∃ v L, o = .returned v ∧ Q1 Z p0 w_ORIGINAL_CREDIT_IN_PROCESS w_SUCCESS h0 n0 v U'.heap L ∧ FrameEnd U o U' L ({ frames := 0, cells := 0, slots := 0, locals := 0 } : Room).cells ({ frames := 0, cells := 0, slots := 0, locals := 0 } : Room).slots) := by
  refine MetFree.of_bodySF (plainFor_of_name pn1) hisR ?_
  intro p e s m args below meth c s₁ Bd hml0 hP hK
  obtain ⟨rfl, hZ, hh⟩ := hP
  have hx := Bd.exec
  have hby := Bd.bytes
  have hml : c.maxLocals = 1 := hml0
  have hown : s.vm.findClass "com/example/octroi/octroi/model/BehaviourAnswersPinLaw" = some m.cls := findClass_of_methodNamed Bd.named
  have hnm := (name_of_methodNamed Bd.named Bd.method).1
  have hlk : meth.locks = false := BodyLoose.notSynchronized Bd
  have X0 : Stand p l e ({ frames := 0, cells := 0, slots := 0, locals := 0 } : Room) s m #[(.int p0)] below meth c s₁ [] 0 0 := Stand.of_body Bd
  have e0 : s₁.heap = h0 := by rw [← hh, Bd.state]; rfl
  have N0 := Fr.nil n0
  suffices hmain : own_Ends p e below s (Q1 Z p0 w_ORIGINAL_CREDIT_IN_PROCESS w_SUCCESS h0 n0) 0 0 (s₁.setTop (mkF m 0 #[.val (.int p0)] [])) by
    obtain ⟨U, o, h1, r⟩ := hmain
    exact ⟨U, o, castTop (ef1 m p0) h1, r⟩
  show own_Ends _ _ _ _ _ _ _ (s₁.setTop (mkF m 0 #[.val (.int p0)] []))
  refine own_go (fun _ k => XS.iloadN X0.here hx rfl (hb hby d1_0) rfl k) ?_
  show own_Ends _ _ _ _ _ _ _ (s₁.setTop (mkF m 1 #[.val (.int p0)] [(.int p0)]))
  refine own_go (fun _ k => XS.iconst X0.here hx rfl (hb hby d1_1) k) ?_
  show own_Ends _ _ _ _ _ _ _ (s₁.setTop (mkF m 2 #[.val (.int p0)] [(.int (1 : Int32)), (.int p0)]))
  refine own_go (fun _ k => XS.iand X0.here hx rfl (hb hby d1_2) rfl k) ?_
  show own_Ends _ _ _ _ _ _ _ (s₁.setTop (mkF m 3 #[.val (.int p0)] [(.int (p0 &&& (1 : Int32)))]))
  by_cases hc1 : (p0 &&& (1 : Int32)) = (0 : Int32)
  · refine own_go (fun _ k => XS.ifYes X0.here hx rfl (pc0 := 3) (pc' := 12) rfl (hb hby d1_3) rfl ((if0 _ _).trans (teq hc1).1) (by decide) (by decide) k) ?_
    show own_Ends _ _ _ _ _ _ _ (s₁.setTop (mkF m 12 #[.val (.int p0)] []))
    obtain ⟨T2, X2, e2, st2⟩ := getS2 X0 hx hZ hown (host := "") (Or.inl (hw _ (List.mem_of_getElem? (i := 8) rfl))) Via.refl e0 (Sta.ext (own_ext O0) S_ORIGINAL_CREDIT_IN_PROCESS) (g := (mkF m 12 #[.val (.int p0)] [])) rfl (hb hby d1_12)
    refine own_go (fun _ k => st2 _ k) ?_
    show own_Ends _ _ _ _ _ _ _ (T2.setTop (mkF m 15 #[.val (.int p0)] [(.ref w_ORIGINAL_CREDIT_IN_PROCESS)]))
    exact own_retA X2 hx hlk Bd.returns rfl rfl rfl (hb hby d1_15) (by decide) (by decide) ⟨congrArg (fun z => some (Value.ref z)) (by exact ((if_pos hc1)).symm), N0, e2⟩
  · refine own_go (fun _ k => XS.ifNo X0.here hx rfl (hb hby d1_3) rfl ((if0 _ _).trans (feq hc1).1) k) ?_
    show own_Ends _ _ _ _ _ _ _ (s₁.setTop (mkF m 6 #[.val (.int p0)] []))
    obtain ⟨T3, X3, e3, st3⟩ := getS2 X0 hx hZ hown (host := "") (Or.inl (hw _ (List.mem_of_getElem? (i := 40) rfl))) Via.refl e0 (Sta.ext (own_ext O0) S_SUCCESS) (g := (mkF m 6 #[.val (.int p0)] [])) rfl (hb hby d1_6)
    refine own_go (fun _ k => st3 _ k) ?_
    show own_Ends _ _ _ _ _ _ _ (T3.setTop (mkF m 9 #[.val (.int p0)] [(.ref w_SUCCESS)]))
    refine own_go (fun _ k => XS.goto X3.here hx rfl (pc0 := 9) (pc' := 15) rfl (hb hby d1_9) (by decide) (by decide) k) ?_
    show own_Ends _ _ _ _ _ _ _ (T3.setTop (mkF m 15 #[.val (.int p0)] [(.ref w_SUCCESS)]))
    exact own_retA X3 hx hlk Bd.returns rfl rfl rfl (hb hby d1_15) (by decide) (by decide) ⟨congrArg (fun z => some (Value.ref z)) (by exact ((if_neg hc1)).symm), N0, e3⟩
theorem d2_0 : decode method_3_code 0 = .ok (.iload_n 0, 1) := by decide +kernel
theorem d2_1 : decode method_3_code 1 = .ok (.iconst 2, 1) := by decide +kernel
theorem d2_2 : decode method_3_code 2 = .ok (.iand, 1) := by decide +kernel
theorem d2_3 : decode method_3_code 3 = .ok (.ifCond .eq 9, 3) := by decide +kernel
theorem d2_6 : decode method_3_code 6 = .ok (.getstatic 7, 3) := by decide +kernel
theorem d2_9 : decode method_3_code 9 = .ok (.goto 6, 3) := by decide +kernel
theorem d2_12 : decode method_3_code 12 = .ok (.getstatic 16, 3) := by decide +kernel
theorem d2_15 : decode method_3_code 15 = .ok (.areturn, 1) := by decide +kernel
theorem pn2 : plainName "com/example/octroi/octroi/model/BehaviourAnswersPinLaw" = true := by first | (simp [plainName, overriddenIn]; done) | decide +kernel
theorem ef2 (m : MethodId) (p0 : Int32) : entryFrame m #[(.int p0)] 1 = mkF m 0 #[.val (.int p0)] [] := by first | (simp [entryFrame, mkF, argsToLocals, Value.category]; done) | rfl
def f2 (p0 : Int32) (w_PROCESS_FAIL : Addr) (w_SUCCESS : Addr) : Addr := (if (p0 &&& (2 : Int32)) = (0 : Int32) then w_PROCESS_FAIL else w_SUCCESS)
def Q2 (Z : State) (p0 : Int32) (w_PROCESS_FAIL : Addr) (w_SUCCESS : Addr) (h0 : Heap) (n0 : Nat) (v : Option Value) (h : Heap) (L : List Loc) : Prop := v = some (.ref (f2 p0 w_PROCESS_FAIL w_SUCCESS)) ∧ Fr n0 L ∧ h = h0
set_option maxRecDepth 65536 in
set_option maxHeartbeats 40000000 in
theorem rm2 (l : Launch) (Z : State) (ar : Array Value) (hw : ∀ d ∈ tables_1, d.before ar Z = true) (ws : List Jvm.Cond) (p0 : Int32) (w_PROCESS_FAIL : Addr) (w_SUCCESS : Addr) (h0 : Heap) (n0 : Nat) (O0 : Old Z n0 h0) (S_PROCESS_FAIL : Sta Z Z.heap "com/example/octroi/octroi/model/ResultCode" "PROCESS_FAIL" "Lcom/example/octroi/octroi/model/ResultCode;" (.ref w_PROCESS_FAIL)) (S_SUCCESS : Sta Z Z.heap "com/example/octroi/octroi/model/ResultCode" "SUCCESS" "Lcom/example/octroi/octroi/model/ResultCode;" (.ref w_SUCCESS)) :
    MetFree l (⟨"com/example/octroi/octroi/model/BehaviourAnswersPinLaw", "settleOf", "(I)Lcom/example/octroi/octroi/model/ResultCode;"⟩ : MethodName) (head1 (Jvm.Cond.code (⟨"com/example/octroi/octroi/model/BehaviourAnswersPinLaw", "settleOf", "(I)Lcom/example/octroi/octroi/model/ResultCode;"⟩ : MethodName) method_3_code 1 (some (.object "com/example/octroi/octroi/model/ResultCode")) :: ws) ({ frames := 0, cells := 0, slots := 0, locals := 0 } : Room)) (fun a U => a = #[(.int p0)] ∧ Z.Warmed39 U.vm ∧ U.heap = h0) (fun _ _ _ _ _ => True) (fun _ U o U' => ∃ v L, o = .returned v ∧ Q2 Z p0 w_PROCESS_FAIL w_SUCCESS h0 n0 v U'.heap L ∧ FrameEnd U o U' L ({ frames := 0, cells := 0, slots := 0, locals := 0 } : Room).cells ({ frames := 0, cells := 0, slots := 0, locals := 0 } : Room).slots) := by
  refine MetFree.of_bodySF (plainFor_of_name pn2) hisR ?_
  intro p e s m args below meth c s₁ Bd hml0 hP hK
  obtain ⟨rfl, hZ, hh⟩ := hP
  have hx := Bd.exec
  have hby := Bd.bytes
  have hml : c.maxLocals = 1 := hml0
  have hown : s.vm.findClass "com/example/octroi/octroi/model/BehaviourAnswersPinLaw" = some m.cls := findClass_of_methodNamed Bd.named
  have hnm := (name_of_methodNamed Bd.named Bd.method).1
  have hlk : meth.locks = false := BodyLoose.notSynchronized Bd
  have X0 : Stand p l e ({ frames := 0, cells := 0, slots := 0, locals := 0 } : Room) s m #[(.int p0)] below meth c s₁ [] 0 0 := Stand.of_body Bd
  have e0 : s₁.heap = h0 := by rw [← hh, Bd.state]; rfl
  have N0 := Fr.nil n0
  suffices hmain : own_Ends p e below s (Q2 Z p0 w_PROCESS_FAIL w_SUCCESS h0 n0) 0 0 (s₁.setTop (mkF m 0 #[.val (.int p0)] [])) by
    obtain ⟨U, o, h1, r⟩ := hmain
    exact ⟨U, o, castTop (ef2 m p0) h1, r⟩
  show own_Ends _ _ _ _ _ _ _ (s₁.setTop (mkF m 0 #[.val (.int p0)] []))
  refine own_go (fun _ k => XS.iloadN X0.here hx rfl (hb hby d2_0) rfl k) ?_
  show own_Ends _ _ _ _ _ _ _ (s₁.setTop (mkF m 1 #[.val (.int p0)] [(.int p0)]))
  refine own_go (fun _ k => XS.iconst X0.here hx rfl (hb hby d2_1) k) ?_
  show own_Ends _ _ _ _ _ _ _ (s₁.setTop (mkF m 2 #[.val (.int p0)] [(.int (2 : Int32)), (.int p0)]))
  refine own_go (fun _ k => XS.iand X0.here hx rfl (hb hby d2_2) rfl k) ?_
  show own_Ends _ _ _ _ _ _ _ (s₁.setTop (mkF m 3 #[.val (.int p0)] [(.int (p0 &&& (2 : Int32)))]))
  by_cases hc1 : (p0 &&& (2 : Int32)) = (0 : Int32)
  · refine own_go (fun _ k => XS.ifYes X0.here hx rfl (pc0 := 3) (pc' := 12) rfl (hb hby d2_3) rfl ((if0 _ _).trans (teq hc1).1) (by decide) (by decide) k) ?_
    show own_Ends _ _ _ _ _ _ _ (s₁.setTop (mkF m 12 #[.val (.int p0)] []))
    obtain ⟨T2, X2, e2, st2⟩ := getS2 X0 hx hZ hown (host := "") (Or.inl (hw _ (List.mem_of_getElem? (i := 14) rfl))) Via.refl e0 (Sta.ext (own_ext O0) S_PROCESS_FAIL) (g := (mkF m 12 #[.val (.int p0)] [])) rfl (hb hby d2_12)
    refine own_go (fun _ k => st2 _ k) ?_
    show own_Ends _ _ _ _ _ _ _ (T2.setTop (mkF m 15 #[.val (.int p0)] [(.ref w_PROCESS_FAIL)]))
    exact own_retA X2 hx hlk Bd.returns rfl rfl rfl (hb hby d2_15) (by decide) (by decide) ⟨congrArg (fun z => some (Value.ref z)) (by exact ((if_pos hc1)).symm), N0, e2⟩
  · refine own_go (fun _ k => XS.ifNo X0.here hx rfl (hb hby d2_3) rfl ((if0 _ _).trans (feq hc1).1) k) ?_
    show own_Ends _ _ _ _ _ _ _ (s₁.setTop (mkF m 6 #[.val (.int p0)] []))
    obtain ⟨T3, X3, e3, st3⟩ := getS2 X0 hx hZ hown (host := "") (Or.inl (hw _ (List.mem_of_getElem? (i := 40) rfl))) Via.refl e0 (Sta.ext (own_ext O0) S_SUCCESS) (g := (mkF m 6 #[.val (.int p0)] [])) rfl (hb hby d2_6)
    refine own_go (fun _ k => st3 _ k) ?_
    show own_Ends _ _ _ _ _ _ _ (T3.setTop (mkF m 9 #[.val (.int p0)] [(.ref w_SUCCESS)]))
    refine own_go (fun _ k => XS.goto X3.here hx rfl (pc0 := 9) (pc' := 15) rfl (hb hby d2_9) (by decide) (by decide) k) ?_
    show own_Ends _ _ _ _ _ _ _ (T3.setTop (mkF m 15 #[.val (.int p0)] [(.ref w_SUCCESS)]))
    exact own_retA X3 hx hlk Bd.returns rfl rfl rfl (hb hby d2_15) (by decide) (by decide) ⟨congrArg (fun z => some (Value.ref z)) (by exact ((if_neg hc1)).symm), N0, e3⟩
theorem d3_0 : decode prog_26_method_1_code 0 = .ok (.aload_n 0, 1) := by decide +kernel
theorem d3_1 : decode prog_26_method_1_code 1 = .ok (.invokespecial 1, 3) := by decide +kernel
theorem d3_4 : decode prog_26_method_1_code 4 = .ok (.aload_n 0, 1) := by decide +kernel
theorem d3_5 : decode prog_26_method_1_code 5 = .ok (.aload_n 1, 1) := by decide +kernel
theorem d3_6 : decode prog_26_method_1_code 6 = .ok (.putfield 7, 3) := by decide +kernel
theorem d3_9 : decode prog_26_method_1_code 9 = .ok (.aload_n 0, 1) := by decide +kernel
theorem d3_10 : decode prog_26_method_1_code 10 = .ok (.iload_n 2, 1) := by decide +kernel
theorem d3_11 : decode prog_26_method_1_code 11 = .ok (.putfield 13, 3) := by decide +kernel
theorem d3_14 : decode prog_26_method_1_code 14 = .ok (.aload_n 0, 1) := by decide +kernel
theorem d3_15 : decode prog_26_method_1_code 15 = .ok (.aload_n 3, 1) := by decide +kernel
theorem d3_16 : decode prog_26_method_1_code 16 = .ok (.putfield 17, 3) := by decide +kernel
theorem d3_19 : decode prog_26_method_1_code 19 = .ok (.aload_n 0, 1) := by decide +kernel
theorem d3_20 : decode prog_26_method_1_code 20 = .ok (.iload 4, 2) := by decide +kernel
theorem d3_22 : decode prog_26_method_1_code 22 = .ok (.putfield 20, 3) := by decide +kernel
theorem d3_25 : decode prog_26_method_1_code 25 = .ok (.return_, 1) := by decide +kernel
theorem pn3 : plainName "com/example/octroi/octroi/model/Behaviour" = true := by first | (simp [plainName, overriddenIn]; done) | decide +kernel
theorem pd3_0 : parseMethodDescriptor "()V" = some ⟨[], none⟩ := by decide +kernel
theorem ef3 (m : MethodId) (a0 : Addr) (a1 : Addr) (p2 : Int32) (a3 : Addr) (p4 : Int32) : entryFrame m #[(.ref a0), (.ref a1), (.int p2), (.ref a3), (.int p4)] 5 = mkF m 0 #[.val (.ref a0), .val (.ref a1), .val (.int p2), .val (.ref a3), .val (.int p4)] [] := by first | (simp [entryFrame, mkF, argsToLocals, Value.category]; done) | rfl
def Q3 (Z : State) (a0 : Addr) (a1 : Addr) (p2 : Int32) (a3 : Addr) (p4 : Int32) (u_create_a0 : Value) (u_settleAfterInquiries_a0 : Value) (u_settleAs_a0 : Value) (u_times_a0 : Value) (h0 : Heap) (n0 : Nat) (v : Option Value) (h : Heap) (L : List Loc) : Prop := v = none ∧ Fr n0 L ∧ Keep h0 h [a0] ∧ Exa Z h a0 "com/example/octroi/octroi/model/Behaviour" ∧ Fld Z h a0 "com/example/octroi/octroi/model/Behaviour" "create" "Lcom/example/octroi/octroi/model/ResultCode;" (.ref a1) ∧ Fld Z h a0 "com/example/octroi/octroi/model/Behaviour" "settleAfterInquiries" "I" (.int p2) ∧ Fld Z h a0 "com/example/octroi/octroi/model/Behaviour" "settleAs" "Lcom/example/octroi/octroi/model/ResultCode;" (.ref a3) ∧ Fld Z h a0 "com/example/octroi/octroi/model/Behaviour" "times" "I" (.int p4)
set_option maxRecDepth 65536 in
set_option maxHeartbeats 40000000 in
theorem rm3 (l : Launch) (Z : State) (ar : Array Value) (hw : ∀ d ∈ tables_1, d.before ar Z = true) (ws : List Jvm.Cond) (a0 : Addr) (a1 : Addr) (p2 : Int32) (a3 : Addr) (p4 : Int32) (u_create_a0 : Value) (u_settleAfterInquiries_a0 : Value) (u_settleAs_a0 : Value) (u_times_a0 : Value) (h0 : Heap) (n0 : Nat) (O0 : Old Z n0 h0) (E_a0 : Exa Z h0 a0 "com/example/octroi/octroi/model/Behaviour") (g_a0 : n0 ≤ a0) (F_create_a0 : Fld Z h0 a0 "com/example/octroi/octroi/model/Behaviour" "create" "Lcom/example/octroi/octroi/model/ResultCode;" u_create_a0) (F_settleAfterInquiries_a0 : Fld Z h0 a0 "com/example/octroi/octroi/model/Behaviour" "settleAfterInquiries" "I" u_settleAfterInquiries_a0) (F_settleAs_a0 : Fld Z h0 a0 "com/example/octroi/octroi/model/Behaviour" "settleAs" "Lcom/example/octroi/octroi/model/ResultCode;" u_settleAs_a0) (F_times_a0 : Fld Z h0 a0 "com/example/octroi/octroi/model/Behaviour" "times" "I" u_times_a0) :
    MetFree l (⟨"com/example/octroi/octroi/model/Behaviour", "<init>", "(Lcom/example/octroi/octroi/model/ResultCode;ILcom/example/octroi/octroi/model/ResultCode;I)V"⟩ : MethodName) (head1 (Jvm.Cond.code (⟨"com/example/octroi/octroi/model/Behaviour", "<init>", "(Lcom/example/octroi/octroi/model/ResultCode;ILcom/example/octroi/octroi/model/ResultCode;I)V"⟩ : MethodName) prog_26_method_1_code 5 none :: ws) ({ frames := 2, cells := 0, slots := 0, locals := 24 } : Room)) (fun a U => a = #[(.ref a0), (.ref a1), (.int p2), (.ref a3), (.int p4)] ∧ Z.Warmed39 U.vm ∧ U.heap = h0) (fun _ _ _ _ _ => True) (fun _ U o U' => ∃ v L, o = .returned v ∧ Q3 Z a0 a1 p2 a3 p4 u_create_a0 u_settleAfterInquiries_a0 u_settleAs_a0 u_times_a0 h0 n0 v U'.heap L ∧ FrameEnd U o U' L ({ frames := 2, cells := 0, slots := 0, locals := 24 } : Room).cells ({ frames := 2, cells := 0, slots := 0, locals := 24 } : Room).slots) := by
  refine MetFree.of_bodySF (plainFor_of_name pn3) hisR ?_
  intro p e s m args below meth c s₁ Bd hml0 hP hK
  obtain ⟨rfl, hZ, hh⟩ := hP
  have hx := Bd.exec
  have hby := Bd.bytes
  have hml : c.maxLocals = 5 := hml0
  have hown : s.vm.findClass "com/example/octroi/octroi/model/Behaviour" = some m.cls := findClass_of_methodNamed Bd.named
  have hnm := (name_of_methodNamed Bd.named Bd.method).1
  have hlk : meth.locks = false := BodyLoose.notSynchronized Bd
  have X0 : Stand p l e ({ frames := 2, cells := 0, slots := 0, locals := 24 } : Room) s m #[(.ref a0), (.ref a1), (.int p2), (.ref a3), (.int p4)] below meth c s₁ [] 0 0 := Stand.of_body Bd
  have e0 : s₁.heap = h0 := by rw [← hh, Bd.state]; rfl
  have N0 := Fr.nil n0
  suffices hmain : own_Ends p e below s (Q3 Z a0 a1 p2 a3 p4 u_create_a0 u_settleAfterInquiries_a0 u_settleAs_a0 u_times_a0 h0 n0) 0 0 (s₁.setTop (mkF m 0 #[.val (.ref a0), .val (.ref a1), .val (.int p2), .val (.ref a3), .val (.int p4)] [])) by
    obtain ⟨U, o, h1, r⟩ := hmain
    exact ⟨U, o, castTop (ef3 m a0 a1 p2 a3 p4) h1, r⟩
  show own_Ends _ _ _ _ _ _ _ (s₁.setTop (mkF m 0 #[.val (.ref a0), .val (.ref a1), .val (.int p2), .val (.ref a3), .val (.int p4)] []))
  refine own_go (fun _ k => XS.aloadN X0.here hx rfl (hb hby d3_0) rfl rfl k) ?_
  show own_Ends _ _ _ _ _ _ _ (s₁.setTop (mkF m 1 #[.val (.ref a0), .val (.ref a1), .val (.int p2), .val (.ref a3), .val (.int p4)] [(.ref a0)]))
  obtain ⟨_, _, ⟨T1, L1, k1, n1⟩, -, X1, ⟨Lc1, hQ1, l1, y1, z1⟩, st1⟩ := X0.specialBack hx (y := (⟨"java/lang/Record", "<init>", "()V"⟩ : MethodName)) rfl hown (mvT hZ (hw _ (List.mem_of_getElem? (i := 19) rfl))) (mvT hZ (hw _ (List.mem_of_getElem? (i := 20) rfl))) (mvT hZ (hw _ (List.mem_of_getElem? (i := 23) rfl))) (by decide) (backOf (W := 0) (rm4 l Z ar hw [] a0 h0 n0 O0) hZ (hw _ (List.mem_of_getElem? (i := 23) rfl)) (hw _ (List.mem_of_getElem? (i := 22) rfl)) (by decide) (by decide)) (g := (mkF m 1 #[.val (.ref a0), .val (.ref a1), .val (.int p2), .val (.ref a3), .val (.int p4)] [(.ref a0)])) rfl (by rw [hml]; rfl) (Steps.refl _) (a := a0) (argsL := []) (rest := []) (lenOf pd3_0 rfl) rfl (by show 2 * 0 + _ ≤ _; exact Nat.le_of_eq rfl) (hb hby d3_1) (fun _ _ => ⟨rfl, e0, (by decide : 0 + 0 ≤ _), (by decide : 0 + 0 ≤ _)⟩)
  dsimp only [Pt.U, Pt.locs, Pt.cells, Pt.slots] at X1 l1 y1 z1 st1 hQ1
  subst l1 y1 z1
  obtain ⟨rfl, N1q, eq1⟩ := hQ1
  have e1 : T1.heap = h0 := eq1
  have N1 := Fr.app N0 N1q
  refine own_go (fun _ k => st1.trans k) ?_
  show own_Ends _ _ _ _ _ _ _ (T1.setTop (mkF m 4 #[.val (.ref a0), .val (.ref a1), .val (.int p2), .val (.ref a3), .val (.int p4)] []))
  refine own_go (fun _ k => XS.aloadN X1.here hx rfl (hb hby d3_4) rfl rfl k) ?_
  show own_Ends _ _ _ _ _ _ _ (T1.setTop (mkF m 5 #[.val (.ref a0), .val (.ref a1), .val (.int p2), .val (.ref a3), .val (.int p4)] [(.ref a0)]))
  refine own_go (fun _ k => XS.aloadN X1.here hx rfl (hb hby d3_5) rfl rfl k) ?_
  show own_Ends _ _ _ _ _ _ _ (T1.setTop (mkF m 6 #[.val (.ref a0), .val (.ref a1), .val (.int p2), .val (.ref a3), .val (.int p4)] [(.ref a1), (.ref a0)]))
  obtain ⟨T2, h2, X2, e2, W2, st2⟩ := putF X1 hx hZ hown (host := "") (Or.inl (hw _ (List.mem_of_getElem? (i := 27) rfl))) Via.refl e1 F_create_a0 E_a0 (Or.inr ⟨(hw _ (List.mem_of_getElem? (i := 28) rfl)), rfl, hnm⟩) (hw _ (List.mem_of_getElem? (i := 2) rfl)) (ty := (.object "com/example/octroi/octroi/model/ResultCode")) (by decide) rfl rfl (g := (mkF m 6 #[.val (.ref a0), .val (.ref a1), .val (.int p2), .val (.ref a3), .val (.int p4)] [(.ref a1), (.ref a0)])) rfl rfl (hb hby d3_6)
  refine own_go (fun _ k => st2 _ k) ?_
  have N2 := Fr.snoc X2 N1 g_a0
  have F3 : Exa Z h2 a0 "com/example/octroi/octroi/model/Behaviour" := (Exa.wr W2 E_a0)
  have F4 : Fld Z h2 a0 "com/example/octroi/octroi/model/Behaviour" "settleAfterInquiries" "I" u_settleAfterInquiries_a0 := (Fld.other W2 F_settleAfterInquiries_a0 (Or.inr (slot_ne (Or.inr (hw _ (List.mem_of_getElem? (i := 30) rfl))) (Or.inr (hw _ (List.mem_of_getElem? (i := 28) rfl))) (by decide) (t := .int) (t' := (.object "com/example/octroi/octroi/model/ResultCode")) (by decide) (by decide))))
  have F5 : Fld Z h2 a0 "com/example/octroi/octroi/model/Behaviour" "settleAs" "Lcom/example/octroi/octroi/model/ResultCode;" u_settleAs_a0 := (Fld.other W2 F_settleAs_a0 (Or.inr (slot_ne (Or.inr (hw _ (List.mem_of_getElem? (i := 32) rfl))) (Or.inr (hw _ (List.mem_of_getElem? (i := 28) rfl))) (by decide) (t := (.object "com/example/octroi/octroi/model/ResultCode")) (t' := (.object "com/example/octroi/octroi/model/ResultCode")) (by decide) (by decide))))
  have F6 : Fld Z h2 a0 "com/example/octroi/octroi/model/Behaviour" "times" "I" u_times_a0 := (Fld.other W2 F_times_a0 (Or.inr (slot_ne (Or.inr (hw _ (List.mem_of_getElem? (i := 34) rfl))) (Or.inr (hw _ (List.mem_of_getElem? (i := 28) rfl))) (by decide) (t := .int) (t' := (.object "com/example/octroi/octroi/model/ResultCode")) (by decide) (by decide))))
  have F7 : Old Z n0 h2 := (O0.wr W2 g_a0)
  have F8 : Fld Z h2 a0 "com/example/octroi/octroi/model/Behaviour" "create" "Lcom/example/octroi/octroi/model/ResultCode;" (.ref a1) := Fld.same W2 F_create_a0
  have K9 : Keep h0 h2 [a0] := (Keep.refl h0 [a0]).wr W2 (Or.inl (List.mem_of_getElem? (i := 0) rfl))
  show own_Ends _ _ _ _ _ _ _ (T2.setTop (mkF m 9 #[.val (.ref a0), .val (.ref a1), .val (.int p2), .val (.ref a3), .val (.int p4)] []))
  refine own_go (fun _ k => XS.aloadN X2.here hx rfl (hb hby d3_9) rfl rfl k) ?_
  show own_Ends _ _ _ _ _ _ _ (T2.setTop (mkF m 10 #[.val (.ref a0), .val (.ref a1), .val (.int p2), .val (.ref a3), .val (.int p4)] [(.ref a0)]))
  refine own_go (fun _ k => XS.iloadN X2.here hx rfl (hb hby d3_10) rfl k) ?_
  show own_Ends _ _ _ _ _ _ _ (T2.setTop (mkF m 11 #[.val (.ref a0), .val (.ref a1), .val (.int p2), .val (.ref a3), .val (.int p4)] [(.int p2), (.ref a0)]))
  obtain ⟨T10, h10, X10, e10, W10, st10⟩ := putF X2 hx hZ hown (host := "") (Or.inl (hw _ (List.mem_of_getElem? (i := 29) rfl))) Via.refl e2 F4 F3 (Or.inr ⟨(hw _ (List.mem_of_getElem? (i := 30) rfl)), rfl, hnm⟩) (hw _ (List.mem_of_getElem? (i := 2) rfl)) (ty := .int) (by decide) rfl rfl (g := (mkF m 11 #[.val (.ref a0), .val (.ref a1), .val (.int p2), .val (.ref a3), .val (.int p4)] [(.int p2), (.ref a0)])) rfl rfl (hb hby d3_11)
  refine own_go (fun _ k => st10 _ k) ?_
  have N10 := Fr.snoc X10 N2 g_a0
  have F11 : Exa Z h10 a0 "com/example/octroi/octroi/model/Behaviour" := (Exa.wr W10 F3)
  have F12 : Fld Z h10 a0 "com/example/octroi/octroi/model/Behaviour" "create" "Lcom/example/octroi/octroi/model/ResultCode;" (.ref a1) := (Fld.other W10 F8 (Or.inr (slot_ne (Or.inr (hw _ (List.mem_of_getElem? (i := 28) rfl))) (Or.inr (hw _ (List.mem_of_getElem? (i := 30) rfl))) (by decide) (t := (.object "com/example/octroi/octroi/model/ResultCode")) (t' := .int) (by decide) (by decide))))
  have F13 : Fld Z h10 a0 "com/example/octroi/octroi/model/Behaviour" "settleAs" "Lcom/example/octroi/octroi/model/ResultCode;" u_settleAs_a0 := (Fld.other W10 F5 (Or.inr (slot_ne (Or.inr (hw _ (List.mem_of_getElem? (i := 32) rfl))) (Or.inr (hw _ (List.mem_of_getElem? (i := 30) rfl))) (by decide) (t := (.object "com/example/octroi/octroi/model/ResultCode")) (t' := .int) (by decide) (by decide))))
  have F14 : Fld Z h10 a0 "com/example/octroi/octroi/model/Behaviour" "times" "I" u_times_a0 := (Fld.other W10 F6 (Or.inr (slot_ne (Or.inr (hw _ (List.mem_of_getElem? (i := 34) rfl))) (Or.inr (hw _ (List.mem_of_getElem? (i := 30) rfl))) (by decide) (t := .int) (t' := .int) (by decide) (by decide))))
  have F15 : Old Z n0 h10 := (F7.wr W10 g_a0)
  have F16 : Fld Z h10 a0 "com/example/octroi/octroi/model/Behaviour" "settleAfterInquiries" "I" (.int p2) := Fld.same W10 F4
  have K17 : Keep h0 h10 [a0] := K9.wr W10 (Or.inl (List.mem_of_getElem? (i := 0) rfl))
  show own_Ends _ _ _ _ _ _ _ (T10.setTop (mkF m 14 #[.val (.ref a0), .val (.ref a1), .val (.int p2), .val (.ref a3), .val (.int p4)] []))
  refine own_go (fun _ k => XS.aloadN X10.here hx rfl (hb hby d3_14) rfl rfl k) ?_
  show own_Ends _ _ _ _ _ _ _ (T10.setTop (mkF m 15 #[.val (.ref a0), .val (.ref a1), .val (.int p2), .val (.ref a3), .val (.int p4)] [(.ref a0)]))
  refine own_go (fun _ k => XS.aloadN X10.here hx rfl (hb hby d3_15) rfl rfl k) ?_
  show own_Ends _ _ _ _ _ _ _ (T10.setTop (mkF m 16 #[.val (.ref a0), .val (.ref a1), .val (.int p2), .val (.ref a3), .val (.int p4)] [(.ref a3), (.ref a0)]))
  obtain ⟨T18, h18, X18, e18, W18, st18⟩ := putF X10 hx hZ hown (host := "") (Or.inl (hw _ (List.mem_of_getElem? (i := 31) rfl))) Via.refl e10 F13 F11 (Or.inr ⟨(hw _ (List.mem_of_getElem? (i := 32) rfl)), rfl, hnm⟩) (hw _ (List.mem_of_getElem? (i := 2) rfl)) (ty := (.object "com/example/octroi/octroi/model/ResultCode")) (by decide) rfl rfl (g := (mkF m 16 #[.val (.ref a0), .val (.ref a1), .val (.int p2), .val (.ref a3), .val (.int p4)] [(.ref a3), (.ref a0)])) rfl rfl (hb hby d3_16)
  refine own_go (fun _ k => st18 _ k) ?_
  have N18 := Fr.snoc X18 N10 g_a0
  have F19 : Exa Z h18 a0 "com/example/octroi/octroi/model/Behaviour" := (Exa.wr W18 F11)
  have F20 : Fld Z h18 a0 "com/example/octroi/octroi/model/Behaviour" "create" "Lcom/example/octroi/octroi/model/ResultCode;" (.ref a1) := (Fld.other W18 F12 (Or.inr (slot_ne (Or.inr (hw _ (List.mem_of_getElem? (i := 28) rfl))) (Or.inr (hw _ (List.mem_of_getElem? (i := 32) rfl))) (by decide) (t := (.object "com/example/octroi/octroi/model/ResultCode")) (t' := (.object "com/example/octroi/octroi/model/ResultCode")) (by decide) (by decide))))
  have F21 : Fld Z h18 a0 "com/example/octroi/octroi/model/Behaviour" "settleAfterInquiries" "I" (.int p2) := (Fld.other W18 F16 (Or.inr (slot_ne (Or.inr (hw _ (List.mem_of_getElem? (i := 30) rfl))) (Or.inr (hw _ (List.mem_of_getElem? (i := 32) rfl))) (by decide) (t := .int) (t' := (.object "com/example/octroi/octroi/model/ResultCode")) (by decide) (by decide))))
  have F22 : Fld Z h18 a0 "com/example/octroi/octroi/model/Behaviour" "times" "I" u_times_a0 := (Fld.other W18 F14 (Or.inr (slot_ne (Or.inr (hw _ (List.mem_of_getElem? (i := 34) rfl))) (Or.inr (hw _ (List.mem_of_getElem? (i := 32) rfl))) (by decide) (t := .int) (t' := (.object "com/example/octroi/octroi/model/ResultCode")) (by decide) (by decide))))
  have F23 : Old Z n0 h18 := (F15.wr W18 g_a0)
  have F24 : Fld Z h18 a0 "com/example/octroi/octroi/model/Behaviour" "settleAs" "Lcom/example/octroi/octroi/model/ResultCode;" (.ref a3) := Fld.same W18 F13
  have K25 : Keep h0 h18 [a0] := K17.wr W18 (Or.inl (List.mem_of_getElem? (i := 0) rfl))
  show own_Ends _ _ _ _ _ _ _ (T18.setTop (mkF m 19 #[.val (.ref a0), .val (.ref a1), .val (.int p2), .val (.ref a3), .val (.int p4)] []))
  refine own_go (fun _ k => XS.aloadN X18.here hx rfl (hb hby d3_19) rfl rfl k) ?_
  show own_Ends _ _ _ _ _ _ _ (T18.setTop (mkF m 20 #[.val (.ref a0), .val (.ref a1), .val (.int p2), .val (.ref a3), .val (.int p4)] [(.ref a0)]))
  refine own_go (fun _ k => XS.iload X18.here hx rfl (hb hby d3_20) rfl k) ?_
  show own_Ends _ _ _ _ _ _ _ (T18.setTop (mkF m 22 #[.val (.ref a0), .val (.ref a1), .val (.int p2), .val (.ref a3), .val (.int p4)] [(.int p4), (.ref a0)]))
  obtain ⟨T26, h26, X26, e26, W26, st26⟩ := putF X18 hx hZ hown (host := "") (Or.inl (hw _ (List.mem_of_getElem? (i := 33) rfl))) Via.refl e18 F22 F19 (Or.inr ⟨(hw _ (List.mem_of_getElem? (i := 34) rfl)), rfl, hnm⟩) (hw _ (List.mem_of_getElem? (i := 2) rfl)) (ty := .int) (by decide) rfl rfl (g := (mkF m 22 #[.val (.ref a0), .val (.ref a1), .val (.int p2), .val (.ref a3), .val (.int p4)] [(.int p4), (.ref a0)])) rfl rfl (hb hby d3_22)
  refine own_go (fun _ k => st26 _ k) ?_
  have N26 := Fr.snoc X26 N18 g_a0
  have F27 : Exa Z h26 a0 "com/example/octroi/octroi/model/Behaviour" := (Exa.wr W26 F19)
  have F28 : Fld Z h26 a0 "com/example/octroi/octroi/model/Behaviour" "create" "Lcom/example/octroi/octroi/model/ResultCode;" (.ref a1) := (Fld.other W26 F20 (Or.inr (slot_ne (Or.inr (hw _ (List.mem_of_getElem? (i := 28) rfl))) (Or.inr (hw _ (List.mem_of_getElem? (i := 34) rfl))) (by decide) (t := (.object "com/example/octroi/octroi/model/ResultCode")) (t' := .int) (by decide) (by decide))))
  have F29 : Fld Z h26 a0 "com/example/octroi/octroi/model/Behaviour" "settleAfterInquiries" "I" (.int p2) := (Fld.other W26 F21 (Or.inr (slot_ne (Or.inr (hw _ (List.mem_of_getElem? (i := 30) rfl))) (Or.inr (hw _ (List.mem_of_getElem? (i := 34) rfl))) (by decide) (t := .int) (t' := .int) (by decide) (by decide))))
  have F30 : Fld Z h26 a0 "com/example/octroi/octroi/model/Behaviour" "settleAs" "Lcom/example/octroi/octroi/model/ResultCode;" (.ref a3) := (Fld.other W26 F24 (Or.inr (slot_ne (Or.inr (hw _ (List.mem_of_getElem? (i := 32) rfl))) (Or.inr (hw _ (List.mem_of_getElem? (i := 34) rfl))) (by decide) (t := (.object "com/example/octroi/octroi/model/ResultCode")) (t' := .int) (by decide) (by decide))))
  have F31 : Old Z n0 h26 := (F23.wr W26 g_a0)
  have F32 : Fld Z h26 a0 "com/example/octroi/octroi/model/Behaviour" "times" "I" (.int p4) := Fld.same W26 F22
  have K33 : Keep h0 h26 [a0] := K25.wr W26 (Or.inl (List.mem_of_getElem? (i := 0) rfl))
  show own_Ends _ _ _ _ _ _ _ (T26.setTop (mkF m 25 #[.val (.ref a0), .val (.ref a1), .val (.int p2), .val (.ref a3), .val (.int p4)] []))
  exact own_retV X26 hx hlk Bd.returns (hb hby d3_25) (by decide) (by decide) (by rw [e26]; exact ⟨rfl, N26, K33, F27, F28, F29, F30, F32⟩)
theorem d6_0 : decode prog_26_method_2_code 0 = .ok (.aload_n 0, 1) := by decide +kernel
theorem d6_1 : decode prog_26_method_2_code 1 = .ok (.getfield 20, 3) := by decide +kernel
theorem d6_4 : decode prog_26_method_2_code 4 = .ok (.ifCond .eq 13, 3) := by decide +kernel
theorem d6_7 : decode prog_26_method_2_code 7 = .ok (.lload_n 1, 1) := by decide +kernel
theorem d6_8 : decode prog_26_method_2_code 8 = .ok (.aload_n 0, 1) := by decide +kernel
theorem d6_9 : decode prog_26_method_2_code 9 = .ok (.getfield 20, 3) := by decide +kernel
theorem d6_12 : decode prog_26_method_2_code 12 = .ok (.i2l, 1) := by decide +kernel
theorem d6_13 : decode prog_26_method_2_code 13 = .ok (.lcmp, 1) := by decide +kernel
theorem d6_14 : decode prog_26_method_2_code 14 = .ok (.ifCond .gt 7, 3) := by decide +kernel
theorem d6_17 : decode prog_26_method_2_code 17 = .ok (.iconst 1, 1) := by decide +kernel
theorem d6_18 : decode prog_26_method_2_code 18 = .ok (.goto 4, 3) := by decide +kernel
theorem d6_21 : decode prog_26_method_2_code 21 = .ok (.iconst 0, 1) := by decide +kernel
theorem d6_22 : decode prog_26_method_2_code 22 = .ok (.ireturn, 1) := by decide +kernel
theorem pn6 : plainName "com/example/octroi/octroi/model/Behaviour" = true := by first | (simp [plainName, overriddenIn]; done) | decide +kernel
theorem ef6 (m : MethodId) (a0 : Addr) (q1 : Int64) : entryFrame m #[(.ref a0), (.long q1)] 3 = mkF m 0 #[.val (.ref a0), .val (.long q1), .second] [] := by first | (simp [entryFrame, mkF, argsToLocals, Value.category]; done) | rfl
def f6 (a0 : Addr) (q1 : Int64) (v_times_a0 : Int32) : Int32 := (if v_times_a0 = (0 : Int32) then (1 : Int32) else (if (0 : Int32) < (lcmpW q1 (v_times_a0.toInt64)) then (0 : Int32) else (1 : Int32)))
def Q6 (Z : State) (a0 : Addr) (q1 : Int64) (v_times_a0 : Int32) (h0 : Heap) (n0 : Nat) (v : Option Value) (h : Heap) (L : List Loc) : Prop := v = some (.int (f6 a0 q1 v_times_a0)) ∧ Fr n0 L ∧ h = h0
set_option maxRecDepth 65536 in
set_option maxHeartbeats 40000000 in
theorem rm6 (l : Launch) (Z : State) (ar : Array Value) (hw : ∀ d ∈ tables_1, d.before ar Z = true) (ws : List Jvm.Cond) (a0 : Addr) (q1 : Int64) (v_times_a0 : Int32) (h0 : Heap) (n0 : Nat) (O0 : Old Z n0 h0) (F_times_a0 : Fld Z h0 a0 "com/example/octroi/octroi/model/Behaviour" "times" "I" (.int v_times_a0)) :
    MetFree l (⟨"com/example/octroi/octroi/model/Behaviour", "answers", "(J)Z"⟩ : MethodName) (head1 (Jvm.Cond.code (⟨"com/example/octroi/octroi/model/Behaviour", "answers", "(J)Z"⟩ : MethodName) prog_26_method_2_code 3 (some .boolean) :: ws) ({ frames := 0, cells := 0, slots := 0, locals := 0 } : Room)) (fun a U => a = #[(.ref a0), (.long q1)] ∧ Z.Warmed39 U.vm ∧ U.heap = h0) (fun _ _ _ _ _ => True) (fun _ U o U' => ∃ v L, o = .returned v ∧ Q6 Z a0 q1 v_times_a0 h0 n0 v U'.heap L ∧ FrameEnd U o U' L ({ frames := 0, cells := 0, slots := 0, locals := 0 } : Room).cells ({ frames := 0, cells := 0, slots := 0, locals := 0 } : Room).slots) := by
  refine MetFree.of_bodySF (plainFor_of_name pn6) hisR ?_
  intro p e s m args below meth c s₁ Bd hml0 hP hK
  obtain ⟨rfl, hZ, hh⟩ := hP
  have hx := Bd.exec
  have hby := Bd.bytes
  have hml : c.maxLocals = 3 := hml0
  have hown : s.vm.findClass "com/example/octroi/octroi/model/Behaviour" = some m.cls := findClass_of_methodNamed Bd.named
  have hnm := (name_of_methodNamed Bd.named Bd.method).1
  have hlk : meth.locks = false := BodyLoose.notSynchronized Bd
  have X0 : Stand p l e ({ frames := 0, cells := 0, slots := 0, locals := 0 } : Room) s m #[(.ref a0), (.long q1)] below meth c s₁ [] 0 0 := Stand.of_body Bd
  have e0 : s₁.heap = h0 := by rw [← hh, Bd.state]; rfl
  have N0 := Fr.nil n0
  suffices hmain : own_Ends p e below s (Q6 Z a0 q1 v_times_a0 h0 n0) 0 0 (s₁.setTop (mkF m 0 #[.val (.ref a0), .val (.long q1), .second] [])) by
    obtain ⟨U, o, h1, r⟩ := hmain
    exact ⟨U, o, castTop (ef6 m a0 q1) h1, r⟩
  show own_Ends _ _ _ _ _ _ _ (s₁.setTop (mkF m 0 #[.val (.ref a0), .val (.long q1), .second] []))
  refine own_go (fun _ k => XS.aloadN X0.here hx rfl (hb hby d6_0) rfl rfl k) ?_
  show own_Ends _ _ _ _ _ _ _ (s₁.setTop (mkF m 1 #[.val (.ref a0), .val (.long q1), .second] [(.ref a0)]))
  obtain ⟨T1, X1, e1, st1⟩ := getF X0 hx hZ hown (host := "") (Or.inl (hw _ (List.mem_of_getElem? (i := 33) rfl))) Via.refl e0 F_times_a0 (g := (mkF m 1 #[.val (.ref a0), .val (.long q1), .second] [(.ref a0)])) rfl rfl (hb hby d6_1)
  refine own_go (fun _ k => st1 _ k) ?_
  show own_Ends _ _ _ _ _ _ _ (T1.setTop (mkF m 4 #[.val (.ref a0), .val (.long q1), .second] [(.int v_times_a0)]))
  by_cases hc2 : v_times_a0 = (0 : Int32)
  · refine own_go (fun _ k => XS.ifYes X1.here hx rfl (pc0 := 4) (pc' := 17) rfl (hb hby d6_4) rfl ((if0 _ _).trans (teq hc2).1) (by decide) (by decide) k) ?_
    show own_Ends _ _ _ _ _ _ _ (T1.setTop (mkF m 17 #[.val (.ref a0), .val (.long q1), .second] []))
    refine own_go (fun _ k => XS.iconst X1.here hx rfl (hb hby d6_17) k) ?_
    show own_Ends _ _ _ _ _ _ _ (T1.setTop (mkF m 18 #[.val (.ref a0), .val (.long q1), .second] [(.int (1 : Int32))]))
    refine own_go (fun _ k => XS.goto X1.here hx rfl (pc0 := 18) (pc' := 22) rfl (hb hby d6_18) (by decide) (by decide) k) ?_
    show own_Ends _ _ _ _ _ _ _ (T1.setTop (mkF m 22 #[.val (.ref a0), .val (.long q1), .second] [(.int (1 : Int32))]))
    exact own_retN X1 hx hlk (t := .boolean) Bd.returns (by simp) (hb hby d6_22) (by decide) (by decide) ⟨congrArg (fun z => some (Value.int z)) ((by decide : nar .boolean (1 : Int32) = (1 : Int32)).trans (by exact ((if_pos hc2)).symm)), N0, e1⟩
  · refine own_go (fun _ k => XS.ifNo X1.here hx rfl (hb hby d6_4) rfl ((if0 _ _).trans (feq hc2).1) k) ?_
    show own_Ends _ _ _ _ _ _ _ (T1.setTop (mkF m 7 #[.val (.ref a0), .val (.long q1), .second] []))
    refine own_go (fun _ k => XS.lloadN X1.here hx rfl (hb hby d6_7) rfl k) ?_
    show own_Ends _ _ _ _ _ _ _ (T1.setTop (mkF m 8 #[.val (.ref a0), .val (.long q1), .second] [(.long q1)]))
    refine own_go (fun _ k => XS.aloadN X1.here hx rfl (hb hby d6_8) rfl rfl k) ?_
    show own_Ends _ _ _ _ _ _ _ (T1.setTop (mkF m 9 #[.val (.ref a0), .val (.long q1), .second] [(.ref a0), (.long q1)]))
    obtain ⟨T3, X3, e3, st3⟩ := getF X1 hx hZ hown (host := "") (Or.inl (hw _ (List.mem_of_getElem? (i := 33) rfl))) Via.refl e1 F_times_a0 (g := (mkF m 9 #[.val (.ref a0), .val (.long q1), .second] [(.ref a0), (.long q1)])) rfl rfl (hb hby d6_9)
    refine own_go (fun _ k => st3 _ k) ?_
    show own_Ends _ _ _ _ _ _ _ (T3.setTop (mkF m 12 #[.val (.ref a0), .val (.long q1), .second] [(.int v_times_a0), (.long q1)]))
    refine own_go (fun _ k => XS.i2l X3.here hx rfl (hb hby d6_12) rfl k) ?_
    show own_Ends _ _ _ _ _ _ _ (T3.setTop (mkF m 13 #[.val (.ref a0), .val (.long q1), .second] [(.long (v_times_a0.toInt64)), (.long q1)]))
    refine own_go (fun _ k => XS.lcmp X3.here hx rfl (hb hby d6_13) rfl k) ?_
    show own_Ends _ _ _ _ _ _ _ (T3.setTop (mkF m 14 #[.val (.ref a0), .val (.long q1), .second] [(.int (lcmpW q1 (v_times_a0.toInt64)))]))
    by_cases hc4 : (0 : Int32) < (lcmpW q1 (v_times_a0.toInt64))
    · refine own_go (fun _ k => XS.ifYes X3.here hx rfl (pc0 := 14) (pc' := 21) rfl (hb hby d6_14) rfl ((if0 _ _).trans (tlt hc4).2.2.1) (by decide) (by decide) k) ?_
      show own_Ends _ _ _ _ _ _ _ (T3.setTop (mkF m 21 #[.val (.ref a0), .val (.long q1), .second] []))
      refine own_go (fun _ k => XS.iconst X3.here hx rfl (hb hby d6_21) k) ?_
      show own_Ends _ _ _ _ _ _ _ (T3.setTop (mkF m 22 #[.val (.ref a0), .val (.long q1), .second] [(.int (0 : Int32))]))
      exact own_retN X3 hx hlk (t := .boolean) Bd.returns (by simp) (hb hby d6_22) (by decide) (by decide) ⟨congrArg (fun z => some (Value.int z)) ((by decide : nar .boolean (0 : Int32) = (0 : Int32)).trans (by exact (((if_neg hc2).trans (if_pos hc4))).symm)), N0, e3⟩
    · refine own_go (fun _ k => XS.ifNo X3.here hx rfl (hb hby d6_14) rfl ((if0 _ _).trans (flt hc4).2.2.1) k) ?_
      show own_Ends _ _ _ _ _ _ _ (T3.setTop (mkF m 17 #[.val (.ref a0), .val (.long q1), .second] []))
      refine own_go (fun _ k => XS.iconst X3.here hx rfl (hb hby d6_17) k) ?_
      show own_Ends _ _ _ _ _ _ _ (T3.setTop (mkF m 18 #[.val (.ref a0), .val (.long q1), .second] [(.int (1 : Int32))]))
      refine own_go (fun _ k => XS.goto X3.here hx rfl (pc0 := 18) (pc' := 22) rfl (hb hby d6_18) (by decide) (by decide) k) ?_
      show own_Ends _ _ _ _ _ _ _ (T3.setTop (mkF m 22 #[.val (.ref a0), .val (.long q1), .second] [(.int (1 : Int32))]))
      exact own_retN X3 hx hlk (t := .boolean) Bd.returns (by simp) (hb hby d6_22) (by decide) (by decide) ⟨congrArg (fun z => some (Value.int z)) ((by decide : nar .boolean (1 : Int32) = (1 : Int32)).trans (by exact (((if_neg hc2).trans (if_neg hc4))).symm)), N0, e3⟩
theorem own_mask {p z : Int32} (h : z = (p &&& 2147483647)) : 0 ≤ z.toInt := by
  have e : (p &&& 2147483647).toInt = p.toInt % 2 ^ 31 := Jvm.Kit.i32_mask p 2147483647 (k := 31) (by decide) (by decide)
  rw [h, e]; exact Int.emod_nonneg _ (by decide)
theorem own_t0 {b : Addr} {q : Int64} {t v : Int32} (h : t = 0) (e : v = f6 b q t) : ¬ v = 0 := by
  rw [e, f6, if_pos h]; decide
theorem own_gt (q t : Int64) : (0 < lcmpW q t) ↔ t < q := by rw [lcW]; exact lc_gt q t
theorem own_ge {b : Addr} {q : Int64} {t v : Int32} (h : ¬ t = 0) (e : v = f6 b q t) (hq : q.toInt ≤ t.toInt) : ¬ v = 0 := by
  have : ¬ (0 < lcmpW q t.toInt64) := by
    rw [own_gt, Int64.lt_iff_toInt_lt, Int32.toInt_toInt64]; omega
  rw [e, f6, if_neg h, if_neg this]; decide
theorem own_pos {t : Int32} (ht : 0 ≤ t.toInt) (h : ¬ t = 0) : 1 ≤ t.toInt := by
  have : t.toInt ≠ 0 := fun q => h (Int32.toInt_inj.mp (q.trans (by decide)))
  omega
theorem own_first {b : Addr} {t v : Int32} (ht : 0 ≤ t.toInt) (h : ¬ t = 0) (e : v = f6 b 1 t) : ¬ v = 0 :=
  own_ge h e (by have := own_pos ht h; rw [show (1 : Int64).toInt = 1 by decide]; omega)
theorem own_at {b : Addr} {t v : Int32} (ht : 0 ≤ t.toInt) (h : ¬ t = 0) (e : v = f6 b t.toInt64 t) : ¬ v = 0 :=
  own_ge h e (by rw [Int32.toInt_toInt64]; omega)
theorem own_past {b : Addr} {t v : Int32} (ht : 0 ≤ t.toInt) (h : ¬ t = 0) (e : v = f6 b (t.toInt64 + 1) t) : v = 0 := by
  have h1 := Int32.toInt_lt t
  have : 0 < lcmpW (t.toInt64 + 1) t.toInt64 := by
    rw [own_gt, Int64.lt_iff_toInt_lt, Int64.toInt_add, Int32.toInt_toInt64, show (1 : Int64).toInt = 1 by decide, Int.bmod_eq_of_le (by omega) (by omega)]; omega
  rw [e, f6, if_neg h, if_pos this]
theorem own_a {b : Addr} {q : Int64} {t v z : Int32} (ht : 0 ≤ t.toInt) (h : ¬ t = 0) (e : v = f6 b q t) (hz : z = (if (0 : Int32) < (lcmpW q (t.toInt64)) then (0 : Int32) else (1 : Int32))) : v = z := by
  rw [e, hz, f6, if_neg h]
theorem pn0 : plainName "com/example/octroi/octroi/model/BehaviourAnswersPinLaw" = true := by first | (simp [plainName, overriddenIn]; done) | decide +kernel
theorem pd0_0 : parseMethodDescriptor "(I)Lcom/example/octroi/octroi/model/ResultCode;" = some ⟨[.int], some (.object "com/example/octroi/octroi/model/ResultCode")⟩ := by decide +kernel
theorem pd0_1 : parseMethodDescriptor "(Lcom/example/octroi/octroi/model/ResultCode;ILcom/example/octroi/octroi/model/ResultCode;I)V" = some ⟨[(.object "com/example/octroi/octroi/model/ResultCode"), .int, (.object "com/example/octroi/octroi/model/ResultCode"), .int], none⟩ := by decide +kernel
theorem pd0_2 : parseMethodDescriptor "(J)Z" = some ⟨[.long], some .boolean⟩ := by decide +kernel
theorem ef0 (m : MethodId) (q0 : Int64) (p1 : Int32) (p2 : Int32) (p3 : Int32) : entryFrame m #[(.long q0), (.int p1), (.int p2), (.int p3)] maxLocals = mkF m 0 #[.val (.long q0), .second, .val (.int p1), .val (.int p2), .val (.int p3), .unset, .unset, .unset, .unset, .unset, .unset, .unset] [] := by first | (simp [entryFrame, mkF, argsToLocals, Value.category, maxLocals]; done) | rfl
def Q0 (Z : State) (q0 : Int64) (p1 : Int32) (p2 : Int32) (p3 : Int32) (w_ORIGINAL_CREDIT_IN_PROCESS : Addr) (w_SUCCESS : Addr) (w_PROCESS_FAIL : Addr) (h0 : Heap) (n0 : Nat) (v : Option Value) (h : Heap) (L : List Loc) : Prop := v = some (.int 1) ∧ Fr n0 L
set_option maxRecDepth 65536 in
set_option maxHeartbeats 40000000 in
theorem rm0 (l : Launch) (Z : State) (ar : Array Value) (hw : ∀ d ∈ tables_1, d.before ar Z = true) (ws : List Jvm.Cond) (q0 : Int64) (p1 : Int32) (p2 : Int32) (p3 : Int32) (w_ORIGINAL_CREDIT_IN_PROCESS : Addr) (w_SUCCESS : Addr) (w_PROCESS_FAIL : Addr) (h0 : Heap) (n0 : Nat) (O0 : Old Z n0 h0) (S_ORIGINAL_CREDIT_IN_PROCESS : Sta Z Z.heap "com/example/octroi/octroi/model/ResultCode" "ORIGINAL_CREDIT_IN_PROCESS" "Lcom/example/octroi/octroi/model/ResultCode;" (.ref w_ORIGINAL_CREDIT_IN_PROCESS)) (S_SUCCESS : Sta Z Z.heap "com/example/octroi/octroi/model/ResultCode" "SUCCESS" "Lcom/example/octroi/octroi/model/ResultCode;" (.ref w_SUCCESS)) (S_PROCESS_FAIL : Sta Z Z.heap "com/example/octroi/octroi/model/ResultCode" "PROCESS_FAIL" "Lcom/example/octroi/octroi/model/ResultCode;" (.ref w_PROCESS_FAIL)) :
    MetFree l x (head1 (Jvm.Cond.code x code maxLocals ret :: ws) room_1) (fun a U => a = #[(.long q0), (.int p1), (.int p2), (.int p3)] ∧ Z.Warmed39 U.vm ∧ U.heap = h0) (fun _ _ _ _ _ => True) (fun _ U o U' => ∃ v L, o = .returned v ∧ Q0 Z q0 p1 p2 p3 w_ORIGINAL_CREDIT_IN_PROCESS w_SUCCESS w_PROCESS_FAIL h0 n0 v U'.heap L ∧ FrameEnd U o U' L room_1.cells room_1.slots) := by
  refine MetFree.of_bodySF (plainFor_of_name pn0) hisR ?_
  intro p e s m args below meth c s₁ Bd hml0 hP hK
  obtain ⟨rfl, hZ, hh⟩ := hP
  have hx := Bd.exec
  have hby := Bd.bytes
  have hml : c.maxLocals = 12 := hml0
  have hown : s.vm.findClass "com/example/octroi/octroi/model/BehaviourAnswersPinLaw" = some m.cls := findClass_of_methodNamed Bd.named
  have hnm := (name_of_methodNamed Bd.named Bd.method).1
  have hlk : meth.locks = false := BodyLoose.notSynchronized Bd
  have X0 : Stand p l e room_1 s m #[(.long q0), (.int p1), (.int p2), (.int p3)] below meth c s₁ [] 0 0 := Stand.of_body Bd
  have e0 : s₁.heap = h0 := by rw [← hh, Bd.state]; rfl
  have N0 := Fr.nil n0
  suffices hmain : own_Ends p e below s (Q0 Z q0 p1 p2 p3 w_ORIGINAL_CREDIT_IN_PROCESS w_SUCCESS w_PROCESS_FAIL h0 n0) 16 128 (s₁.setTop (mkF m 0 #[.val (.long q0), .second, .val (.int p1), .val (.int p2), .val (.int p3), .unset, .unset, .unset, .unset, .unset, .unset, .unset] [])) by
    obtain ⟨U, o, h1, r⟩ := hmain
    exact ⟨U, o, castTop (ef0 m q0 p1 p2 p3) h1, r⟩
  show own_Ends _ _ _ _ _ _ _ (s₁.setTop (mkF m 0 #[.val (.long q0), .second, .val (.int p1), .val (.int p2), .val (.int p3), .unset, .unset, .unset, .unset, .unset, .unset, .unset] []))
  refine own_go (fun _ k => XS.iloadN X0.here hx rfl (hb hby at_0) rfl k) ?_
  show own_Ends _ _ _ _ _ _ _ (s₁.setTop (mkF m 1 #[.val (.long q0), .second, .val (.int p1), .val (.int p2), .val (.int p3), .unset, .unset, .unset, .unset, .unset, .unset, .unset] [(.int p1)]))
  refine own_go (fun _ k => X0.ldcInt hx hown (mvT hZ (hw _ (List.mem_of_getElem? (i := 0) rfl))) (g := (mkF m 1 #[.val (.long q0), .second, .val (.int p1), .val (.int p2), .val (.int p3), .unset, .unset, .unset, .unset, .unset, .unset, .unset] [(.int p1)])) rfl (hb hby at_1) _ k) ?_
  show own_Ends _ _ _ _ _ _ _ (s₁.setTop (mkF m 3 #[.val (.long q0), .second, .val (.int p1), .val (.int p2), .val (.int p3), .unset, .unset, .unset, .unset, .unset, .unset, .unset] [(.int (2147483647 : Int32)), (.int p1)]))
  refine own_go (fun _ k => XS.iand X0.here hx rfl (hb hby at_3) rfl k) ?_
  show own_Ends _ _ _ _ _ _ _ (s₁.setTop (mkF m 4 #[.val (.long q0), .second, .val (.int p1), .val (.int p2), .val (.int p3), .unset, .unset, .unset, .unset, .unset, .unset, .unset] [(.int (p1 &&& (2147483647 : Int32)))]))
  refine own_go (fun _ k => XS.istore X0.here hx rfl (hb hby at_4) rfl (l' := #[.val (.long q0), .second, .val (.int p1), .val (.int p2), .val (.int p3), .val (.int (p1 &&& (2147483647 : Int32))), .unset, .unset, .unset, .unset, .unset, .unset]) rfl k) ?_
  suffices hjzt : ∀ zt : Int32, zt = (p1 &&& (2147483647 : Int32)) → own_Ends p e below s (Q0 Z q0 p1 p2 p3 w_ORIGINAL_CREDIT_IN_PROCESS w_SUCCESS w_PROCESS_FAIL h0 n0) 16 128 (s₁.setTop (mkF m 6 #[.val (.long q0), .second, .val (.int p1), .val (.int p2), .val (.int p3), .val (.int zt), .unset, .unset, .unset, .unset, .unset, .unset] [])) by exact hjzt _ rfl
  intro zt hzt
  have Pzt := own_mask hzt
  show own_Ends _ _ _ _ _ _ _ (s₁.setTop (mkF m 6 #[.val (.long q0), .second, .val (.int p1), .val (.int p2), .val (.int p3), .val (.int zt), .unset, .unset, .unset, .unset, .unset, .unset] []))
  obtain ⟨T1, h1, X1, e1, E1, A1, D1, -, st1⟩ := newO X0 hx hZ hown (hw _ (List.mem_of_getElem? (i := 1) rfl)) (hw _ (List.mem_of_getElem? (i := 2) rfl)) (hw _ (List.mem_of_getElem? (i := 3) rfl)) e0 (g := (mkF m 6 #[.val (.long q0), .second, .val (.int p1), .val (.int p2), .val (.int p3), .val (.int zt), .unset, .unset, .unset, .unset, .unset, .unset] [])) rfl (hb hby at_6) (by decide) (by decide)
  obtain ⟨b1, q_b1⟩ : ∃ z, z = h0.size := ⟨_, rfl⟩
  rw [← q_b1] at A1 D1 st1
  have g_b1 : n0 ≤ b1 := Nat.le_trans (own_sz O0) (Nat.le_of_eq q_b1.symm)
  refine own_go (fun _ k => st1 _ k) ?_
  have F2 : Old Z n0 h1 := (O0.ext E1)
  have F3 : Fld Z h1 b1 "com/example/octroi/octroi/model/Behaviour" "create" "Lcom/example/octroi/octroi/model/ResultCode;" .null := D1 (Or.inr (hw _ (List.mem_of_getElem? (i := 28) rfl))) (ty := (.object "com/example/octroi/octroi/model/ResultCode")) (by decide)
  have F4 : Fld Z h1 b1 "com/example/octroi/octroi/model/Behaviour" "settleAfterInquiries" "I" (.int (0 : Int32)) := D1 (Or.inr (hw _ (List.mem_of_getElem? (i := 30) rfl))) (ty := .int) (by decide)
  have F5 : Fld Z h1 b1 "com/example/octroi/octroi/model/Behaviour" "settleAs" "Lcom/example/octroi/octroi/model/ResultCode;" .null := D1 (Or.inr (hw _ (List.mem_of_getElem? (i := 32) rfl))) (ty := (.object "com/example/octroi/octroi/model/ResultCode")) (by decide)
  have F6 : Fld Z h1 b1 "com/example/octroi/octroi/model/Behaviour" "times" "I" (.int (0 : Int32)) := D1 (Or.inr (hw _ (List.mem_of_getElem? (i := 34) rfl))) (ty := .int) (by decide)
  show own_Ends _ _ _ _ _ _ _ (T1.setTop (mkF m 9 #[.val (.long q0), .second, .val (.int p1), .val (.int p2), .val (.int p3), .val (.int zt), .unset, .unset, .unset, .unset, .unset, .unset] [(.ref b1)]))
  refine own_go (fun _ k => XS.dup X1.here hx rfl (hb hby at_9) rfl rfl k) ?_
  show own_Ends _ _ _ _ _ _ _ (T1.setTop (mkF m 10 #[.val (.long q0), .second, .val (.int p1), .val (.int p2), .val (.int p3), .val (.int zt), .unset, .unset, .unset, .unset, .unset, .unset] [(.ref b1), (.ref b1)]))
  refine own_go (fun _ k => XS.iload X1.here hx rfl (hb hby at_10) rfl k) ?_
  show own_Ends _ _ _ _ _ _ _ (T1.setTop (mkF m 12 #[.val (.long q0), .second, .val (.int p1), .val (.int p2), .val (.int p3), .val (.int zt), .unset, .unset, .unset, .unset, .unset, .unset] [(.int p3), (.ref b1), (.ref b1)]))
  obtain ⟨_, _, ⟨T7, L7, k7, n7⟩, -, X7, ⟨Lc7, hQ7, l7, y7, z7⟩, st7⟩ := Jvm.LawKit.callS X1 hx (y := (⟨"com/example/octroi/octroi/model/BehaviourAnswersPinLaw", "createOf", "(I)Lcom/example/octroi/octroi/model/ResultCode;"⟩ : MethodName)) hown (mvT hZ (hw _ (List.mem_of_getElem? (i := 4) rfl))) (mvT hZ (hw _ (List.mem_of_getElem? (i := 5) rfl))) (mvT hZ (hw _ (List.mem_of_getElem? (i := 6) rfl))) (mvT hZ (hw _ (List.mem_of_getElem? (i := 7) rfl))) (by decide) (backOf (W := 2) (rm1 l Z ar hw [] p3 w_ORIGINAL_CREDIT_IN_PROCESS w_SUCCESS h1 n0 F2 S_ORIGINAL_CREDIT_IN_PROCESS S_SUCCESS) hZ (hw _ (List.mem_of_getElem? (i := 7) rfl)) (hw _ (List.mem_of_getElem? (i := 6) rfl)) (by decide) (by decide)) (g := (mkF m 12 #[.val (.long q0), .second, .val (.int p1), .val (.int p2), .val (.int p3), .val (.int zt), .unset, .unset, .unset, .unset, .unset, .unset] [(.int p3), (.ref b1), (.ref b1)])) rfl (by rw [hml]; rfl) (argsL := [(.int p3)]) (rest := [(.ref b1), (.ref b1)]) (lenOf pd0_0 rfl) rfl (by show 2 * 0 + _ ≤ _; exact Nat.le_of_eq rfl) (hb hby at_12) (fun _ _ => ⟨rfl, e1, (by decide : 1 + 0 ≤ _), (by decide : 4 + 0 ≤ _)⟩)
  dsimp only [Pt.U, Pt.locs, Pt.cells, Pt.slots] at X7 l7 y7 z7 st7 hQ7
  subst l7 y7 z7
  obtain ⟨rfl, N7q, eq7⟩ := hQ7
  have e7 : T7.heap = h1 := eq7
  have N7 := Fr.app N0 N7q
  refine own_go (fun _ k => st7 _ k) ?_
  show own_Ends _ _ _ _ _ _ _ (T7.setTop (mkF m 15 #[.val (.long q0), .second, .val (.int p1), .val (.int p2), .val (.int p3), .val (.int zt), .unset, .unset, .unset, .unset, .unset, .unset] [(.ref (f1 p3 w_ORIGINAL_CREDIT_IN_PROCESS w_SUCCESS)), (.ref b1), (.ref b1)]))
  refine own_go (fun _ k => XS.iloadN X7.here hx rfl (hb hby at_15) rfl k) ?_
  show own_Ends _ _ _ _ _ _ _ (T7.setTop (mkF m 16 #[.val (.long q0), .second, .val (.int p1), .val (.int p2), .val (.int p3), .val (.int zt), .unset, .unset, .unset, .unset, .unset, .unset] [(.int p2), (.ref (f1 p3 w_ORIGINAL_CREDIT_IN_PROCESS w_SUCCESS)), (.ref b1), (.ref b1)]))
  refine own_go (fun _ k => XS.iload X7.here hx rfl (hb hby at_16) rfl k) ?_
  show own_Ends _ _ _ _ _ _ _ (T7.setTop (mkF m 18 #[.val (.long q0), .second, .val (.int p1), .val (.int p2), .val (.int p3), .val (.int zt), .unset, .unset, .unset, .unset, .unset, .unset] [(.int p3), (.int p2), (.ref (f1 p3 w_ORIGINAL_CREDIT_IN_PROCESS w_SUCCESS)), (.ref b1), (.ref b1)]))
  obtain ⟨_, _, ⟨T8, L8, k8, n8⟩, -, X8, ⟨Lc8, hQ8, l8, y8, z8⟩, st8⟩ := Jvm.LawKit.callS X7 hx (y := (⟨"com/example/octroi/octroi/model/BehaviourAnswersPinLaw", "settleOf", "(I)Lcom/example/octroi/octroi/model/ResultCode;"⟩ : MethodName)) hown (mvT hZ (hw _ (List.mem_of_getElem? (i := 11) rfl))) (mvT hZ (hw _ (List.mem_of_getElem? (i := 12) rfl))) (mvT hZ (hw _ (List.mem_of_getElem? (i := 6) rfl))) (mvT hZ (hw _ (List.mem_of_getElem? (i := 13) rfl))) (by decide) (backOf (W := 4) (rm2 l Z ar hw [] p3 w_PROCESS_FAIL w_SUCCESS h1 n0 F2 S_PROCESS_FAIL S_SUCCESS) hZ (hw _ (List.mem_of_getElem? (i := 13) rfl)) (hw _ (List.mem_of_getElem? (i := 6) rfl)) (by decide) (by decide)) (g := (mkF m 18 #[.val (.long q0), .second, .val (.int p1), .val (.int p2), .val (.int p3), .val (.int zt), .unset, .unset, .unset, .unset, .unset, .unset] [(.int p3), (.int p2), (.ref (f1 p3 w_ORIGINAL_CREDIT_IN_PROCESS w_SUCCESS)), (.ref b1), (.ref b1)])) rfl (by rw [hml]; rfl) (argsL := [(.int p3)]) (rest := [(.int p2), (.ref (f1 p3 w_ORIGINAL_CREDIT_IN_PROCESS w_SUCCESS)), (.ref b1), (.ref b1)]) (lenOf pd0_0 rfl) rfl (by show 2 * 0 + _ ≤ _; exact Nat.le_of_eq rfl) (hb hby at_18) (fun _ _ => ⟨rfl, e7, (by decide : 1 + 0 ≤ _), (by decide : 4 + 0 ≤ _)⟩)
  dsimp only [Pt.U, Pt.locs, Pt.cells, Pt.slots] at X8 l8 y8 z8 st8 hQ8
  subst l8 y8 z8
  obtain ⟨rfl, N8q, eq8⟩ := hQ8
  have e8 : T8.heap = h1 := eq8
  have N8 := Fr.app N7 N8q
  refine own_go (fun _ k => st8 _ k) ?_
  show own_Ends _ _ _ _ _ _ _ (T8.setTop (mkF m 21 #[.val (.long q0), .second, .val (.int p1), .val (.int p2), .val (.int p3), .val (.int zt), .unset, .unset, .unset, .unset, .unset, .unset] [(.ref (f2 p3 w_PROCESS_FAIL w_SUCCESS)), (.int p2), (.ref (f1 p3 w_ORIGINAL_CREDIT_IN_PROCESS w_SUCCESS)), (.ref b1), (.ref b1)]))
  refine own_go (fun _ k => XS.iload X8.here hx rfl (hb hby at_21) rfl k) ?_
  show own_Ends _ _ _ _ _ _ _ (T8.setTop (mkF m 23 #[.val (.long q0), .second, .val (.int p1), .val (.int p2), .val (.int p3), .val (.int zt), .unset, .unset, .unset, .unset, .unset, .unset] [(.int zt), (.ref (f2 p3 w_PROCESS_FAIL w_SUCCESS)), (.int p2), (.ref (f1 p3 w_ORIGINAL_CREDIT_IN_PROCESS w_SUCCESS)), (.ref b1), (.ref b1)]))
  obtain ⟨_, _, ⟨T9, L9, k9, n9⟩, -, X9, ⟨Lc9, hQ9, l9, y9, z9⟩, st9⟩ := X8.specialBack hx (y := (⟨"com/example/octroi/octroi/model/Behaviour", "<init>", "(Lcom/example/octroi/octroi/model/ResultCode;ILcom/example/octroi/octroi/model/ResultCode;I)V"⟩ : MethodName)) rfl hown (mvT hZ (hw _ (List.mem_of_getElem? (i := 16) rfl))) (mvT hZ (hw _ (List.mem_of_getElem? (i := 17) rfl))) (mvT hZ (hw _ (List.mem_of_getElem? (i := 18) rfl))) (by decide) (backOf (W := 1) (rm3 l Z ar hw [] b1 (f1 p3 w_ORIGINAL_CREDIT_IN_PROCESS w_SUCCESS) p2 (f2 p3 w_PROCESS_FAIL w_SUCCESS) zt (.null) ((.int (0 : Int32))) (.null) ((.int (0 : Int32))) h1 n0 F2 A1 g_b1 F3 F4 F5 F6) hZ (hw _ (List.mem_of_getElem? (i := 18) rfl)) (hw _ (List.mem_of_getElem? (i := 3) rfl)) (by decide) (by decide)) (g := (mkF m 23 #[.val (.long q0), .second, .val (.int p1), .val (.int p2), .val (.int p3), .val (.int zt), .unset, .unset, .unset, .unset, .unset, .unset] [(.int zt), (.ref (f2 p3 w_PROCESS_FAIL w_SUCCESS)), (.int p2), (.ref (f1 p3 w_ORIGINAL_CREDIT_IN_PROCESS w_SUCCESS)), (.ref b1), (.ref b1)])) rfl (by rw [hml]; rfl) (Steps.refl _) (a := b1) (argsL := [(.ref (f1 p3 w_ORIGINAL_CREDIT_IN_PROCESS w_SUCCESS)), (.int p2), (.ref (f2 p3 w_PROCESS_FAIL w_SUCCESS)), (.int zt)]) (rest := [(.ref b1)]) (lenOf pd0_1 rfl) rfl (by show 2 * 0 + _ ≤ _; exact Nat.le_of_eq rfl) (hb hby at_23) (fun _ _ => ⟨rfl, e8, (by decide : 1 + 0 ≤ _), (by decide : 4 + 0 ≤ _)⟩)
  dsimp only [Pt.U, Pt.locs, Pt.cells, Pt.slots] at X9 l9 y9 z9 st9 hQ9
  subst l9 y9 z9
  obtain ⟨rfl, N9q, K9, E9_0, F9_0, F9_1, F9_2, F9_3⟩ := hQ9
  have N9 := Fr.app N8 N9q
  have F10 : Old Z n0 T9.heap := (F2.keep K9 (allS g_b1 all0))
  refine own_go (fun _ k => st9.trans k) ?_
  show own_Ends _ _ _ _ _ _ _ (T9.setTop (mkF m 26 #[.val (.long q0), .second, .val (.int p1), .val (.int p2), .val (.int p3), .val (.int zt), .unset, .unset, .unset, .unset, .unset, .unset] [(.ref b1)]))
  refine own_go (fun _ k => XS.astore X9.here hx rfl (hb hby at_26) rfl rfl (l' := #[.val (.long q0), .second, .val (.int p1), .val (.int p2), .val (.int p3), .val (.int zt), .val (.ref b1), .unset, .unset, .unset, .unset, .unset]) rfl k) ?_
  show own_Ends _ _ _ _ _ _ _ (T9.setTop (mkF m 28 #[.val (.long q0), .second, .val (.int p1), .val (.int p2), .val (.int p3), .val (.int zt), .val (.ref b1), .unset, .unset, .unset, .unset, .unset] []))
  refine own_go (fun _ k => XS.aload X9.here hx rfl (hb hby at_28) rfl rfl k) ?_
  show own_Ends _ _ _ _ _ _ _ (T9.setTop (mkF m 30 #[.val (.long q0), .second, .val (.int p1), .val (.int p2), .val (.int p3), .val (.int zt), .val (.ref b1), .unset, .unset, .unset, .unset, .unset] [(.ref b1)]))
  refine own_go (fun _ k => XS.lloadN X9.here hx rfl (hb hby at_30) rfl k) ?_
  show own_Ends _ _ _ _ _ _ _ (T9.setTop (mkF m 31 #[.val (.long q0), .second, .val (.int p1), .val (.int p2), .val (.int p3), .val (.int zt), .val (.ref b1), .unset, .unset, .unset, .unset, .unset] [(.long q0), (.ref b1)]))
  obtain ⟨cq11, kq11, q11a, q11b, q11c⟩ := isOf hZ rfl E9_0
  obtain ⟨_, _, ⟨T11, L11, k11, n11⟩, -, X11, ⟨Lc11, hQ11, l11, y11, z11⟩, st11⟩ := X9.virtualBack hx (y := (⟨"com/example/octroi/octroi/model/Behaviour", "answers", "(J)Z"⟩ : MethodName)) (z := (⟨"com/example/octroi/octroi/model/Behaviour", "answers", "(J)Z"⟩ : MethodName)) hown (mvT hZ (hw _ (List.mem_of_getElem? (i := 35) rfl))) (mvT hZ (hw _ (List.mem_of_getElem? (i := 36) rfl))) (notFace_of_selects (args := #[]) (mvT hZ (hw _ (List.mem_of_getElem? (i := 38) rfl)))) (mvT hZ (hw _ (List.mem_of_getElem? (i := 38) rfl))) (mvT hZ (hw _ (List.mem_of_getElem? (i := 37) rfl))) (by decide) (backOf (W := 0) (rm6 l Z ar hw [] b1 q0 zt T9.heap n0 F10 F9_3) hZ (hw _ (List.mem_of_getElem? (i := 39) rfl)) (hw _ (List.mem_of_getElem? (i := 3) rfl)) (by decide) (by decide)) q11a q11c (g := (mkF m 31 #[.val (.long q0), .second, .val (.int p1), .val (.int p2), .val (.int p3), .val (.int zt), .val (.ref b1), .unset, .unset, .unset, .unset, .unset] [(.long q0), (.ref b1)])) rfl (by rw [hml]; rfl) (Steps.refl _) (argsL := [(.long q0)]) (rest := []) (lenOf pd0_2 rfl) rfl (by show 2 * 0 + _ ≤ _; exact Nat.le_of_eq rfl) (hb hby at_31) (fun _ _ => ⟨rfl, rfl, (by decide : 1 + 0 ≤ _), (by decide : 4 + 0 ≤ _)⟩)
  dsimp only [Pt.U, Pt.locs, Pt.cells, Pt.slots] at X11 l11 y11 z11 st11 hQ11
  subst l11 y11 z11
  obtain ⟨rfl, N11q, eq11⟩ := hQ11
  have e11 : T11.heap = T9.heap := eq11
  have N11 := Fr.app N9 N11q
  refine own_go (fun _ k => st11.trans k) ?_
  show own_Ends _ _ _ _ _ _ _ (T11.setTop (mkF m 34 #[.val (.long q0), .second, .val (.int p1), .val (.int p2), .val (.int p3), .val (.int zt), .val (.ref b1), .unset, .unset, .unset, .unset, .unset] [(.int (f6 b1 q0 zt))]))
  refine own_go (fun _ k => XS.istore X11.here hx rfl (hb hby at_34) rfl (l' := #[.val (.long q0), .second, .val (.int p1), .val (.int p2), .val (.int p3), .val (.int zt), .val (.ref b1), .val (.int (f6 b1 q0 zt)), .unset, .unset, .unset, .unset]) rfl k) ?_
  suffices hjva : ∀ va : Int32, va = (f6 b1 q0 zt) → own_Ends p e below s (Q0 Z q0 p1 p2 p3 w_ORIGINAL_CREDIT_IN_PROCESS w_SUCCESS w_PROCESS_FAIL h0 n0) 16 128 (T11.setTop (mkF m 36 #[.val (.long q0), .second, .val (.int p1), .val (.int p2), .val (.int p3), .val (.int zt), .val (.ref b1), .val (.int va), .unset, .unset, .unset, .unset] [])) by exact hjva _ rfl
  intro va hva
  show own_Ends _ _ _ _ _ _ _ (T11.setTop (mkF m 36 #[.val (.long q0), .second, .val (.int p1), .val (.int p2), .val (.int p3), .val (.int zt), .val (.ref b1), .val (.int va), .unset, .unset, .unset, .unset] []))
  refine own_go (fun _ k => XS.aload X11.here hx rfl (hb hby at_36) rfl rfl k) ?_
  show own_Ends _ _ _ _ _ _ _ (T11.setTop (mkF m 38 #[.val (.long q0), .second, .val (.int p1), .val (.int p2), .val (.int p3), .val (.int zt), .val (.ref b1), .val (.int va), .unset, .unset, .unset, .unset] [(.ref b1)]))
  refine own_go (fun _ k => XS.lconst X11.here hx rfl (hb hby at_38) k) ?_
  show own_Ends _ _ _ _ _ _ _ (T11.setTop (mkF m 39 #[.val (.long q0), .second, .val (.int p1), .val (.int p2), .val (.int p3), .val (.int zt), .val (.ref b1), .val (.int va), .unset, .unset, .unset, .unset] [(.long (1 : Int64)), (.ref b1)]))
  obtain ⟨cq12, kq12, q12a, q12b, q12c⟩ := isOf hZ e11 E9_0
  obtain ⟨_, _, ⟨T12, L12, k12, n12⟩, -, X12, ⟨Lc12, hQ12, l12, y12, z12⟩, st12⟩ := X11.virtualBack hx (y := (⟨"com/example/octroi/octroi/model/Behaviour", "answers", "(J)Z"⟩ : MethodName)) (z := (⟨"com/example/octroi/octroi/model/Behaviour", "answers", "(J)Z"⟩ : MethodName)) hown (mvT hZ (hw _ (List.mem_of_getElem? (i := 35) rfl))) (mvT hZ (hw _ (List.mem_of_getElem? (i := 36) rfl))) (notFace_of_selects (args := #[]) (mvT hZ (hw _ (List.mem_of_getElem? (i := 38) rfl)))) (mvT hZ (hw _ (List.mem_of_getElem? (i := 38) rfl))) (mvT hZ (hw _ (List.mem_of_getElem? (i := 37) rfl))) (by decide) (backOf (W := 0) (rm6 l Z ar hw [] b1 (1 : Int64) zt T9.heap n0 F10 F9_3) hZ (hw _ (List.mem_of_getElem? (i := 39) rfl)) (hw _ (List.mem_of_getElem? (i := 3) rfl)) (by decide) (by decide)) q12a q12c (g := (mkF m 39 #[.val (.long q0), .second, .val (.int p1), .val (.int p2), .val (.int p3), .val (.int zt), .val (.ref b1), .val (.int va), .unset, .unset, .unset, .unset] [(.long (1 : Int64)), (.ref b1)])) rfl (by rw [hml]; rfl) (Steps.refl _) (argsL := [(.long (1 : Int64))]) (rest := []) (lenOf pd0_2 rfl) rfl (by show 2 * 0 + _ ≤ _; exact Nat.le_of_eq rfl) (hb hby at_39) (fun _ _ => ⟨rfl, e11, (by decide : 1 + 0 ≤ _), (by decide : 4 + 0 ≤ _)⟩)
  dsimp only [Pt.U, Pt.locs, Pt.cells, Pt.slots] at X12 l12 y12 z12 st12 hQ12
  subst l12 y12 z12
  obtain ⟨rfl, N12q, eq12⟩ := hQ12
  have e12 : T12.heap = T9.heap := eq12
  have N12 := Fr.app N11 N12q
  refine own_go (fun _ k => st12.trans k) ?_
  show own_Ends _ _ _ _ _ _ _ (T12.setTop (mkF m 42 #[.val (.long q0), .second, .val (.int p1), .val (.int p2), .val (.int p3), .val (.int zt), .val (.ref b1), .val (.int va), .unset, .unset, .unset, .unset] [(.int (f6 b1 (1 : Int64) zt))]))
  refine own_go (fun _ k => XS.istore X12.here hx rfl (hb hby at_42) rfl (l' := #[.val (.long q0), .second, .val (.int p1), .val (.int p2), .val (.int p3), .val (.int zt), .val (.ref b1), .val (.int va), .val (.int (f6 b1 (1 : Int64) zt)), .unset, .unset, .unset]) rfl k) ?_
  suffices hjvf : ∀ vf : Int32, vf = (f6 b1 (1 : Int64) zt) → own_Ends p e below s (Q0 Z q0 p1 p2 p3 w_ORIGINAL_CREDIT_IN_PROCESS w_SUCCESS w_PROCESS_FAIL h0 n0) 16 128 (T12.setTop (mkF m 44 #[.val (.long q0), .second, .val (.int p1), .val (.int p2), .val (.int p3), .val (.int zt), .val (.ref b1), .val (.int va), .val (.int vf), .unset, .unset, .unset] [])) by exact hjvf _ rfl
  intro vf hvf
  show own_Ends _ _ _ _ _ _ _ (T12.setTop (mkF m 44 #[.val (.long q0), .second, .val (.int p1), .val (.int p2), .val (.int p3), .val (.int zt), .val (.ref b1), .val (.int va), .val (.int vf), .unset, .unset, .unset] []))
  refine own_go (fun _ k => XS.iload X12.here hx rfl (hb hby at_44) rfl k) ?_
  show own_Ends _ _ _ _ _ _ _ (T12.setTop (mkF m 46 #[.val (.long q0), .second, .val (.int p1), .val (.int p2), .val (.int p3), .val (.int zt), .val (.ref b1), .val (.int va), .val (.int vf), .unset, .unset, .unset] [(.int zt)]))
  by_cases hc13 : zt = (0 : Int32)
  · refine own_go (fun _ k => XS.ifNo X12.here hx rfl (hb hby at_46) rfl ((if0 _ _).trans (teq hc13).2) k) ?_
    show own_Ends _ _ _ _ _ _ _ (T12.setTop (mkF m 49 #[.val (.long q0), .second, .val (.int p1), .val (.int p2), .val (.int p3), .val (.int zt), .val (.ref b1), .val (.int va), .val (.int vf), .unset, .unset, .unset] []))
    refine own_go (fun _ k => XS.aload X12.here hx rfl (hb hby at_49) rfl rfl k) ?_
    show own_Ends _ _ _ _ _ _ _ (T12.setTop (mkF m 51 #[.val (.long q0), .second, .val (.int p1), .val (.int p2), .val (.int p3), .val (.int zt), .val (.ref b1), .val (.int va), .val (.int vf), .unset, .unset, .unset] [(.ref b1)]))
    refine own_go (fun _ k => X12.ldc2Long hx hown (mvT hZ (hw _ (List.mem_of_getElem? (i := 42) rfl))) (g := (mkF m 51 #[.val (.long q0), .second, .val (.int p1), .val (.int p2), .val (.int p3), .val (.int zt), .val (.ref b1), .val (.int va), .val (.int vf), .unset, .unset, .unset] [(.ref b1)])) rfl (hb hby at_51) _ k) ?_
    show own_Ends _ _ _ _ _ _ _ (T12.setTop (mkF m 54 #[.val (.long q0), .second, .val (.int p1), .val (.int p2), .val (.int p3), .val (.int zt), .val (.ref b1), .val (.int va), .val (.int vf), .unset, .unset, .unset] [(.long (9223372036854775807 : Int64)), (.ref b1)]))
    obtain ⟨cq14, kq14, q14a, q14b, q14c⟩ := isOf hZ e12 E9_0
    obtain ⟨_, _, ⟨T14, L14, k14, n14⟩, -, X14, ⟨Lc14, hQ14, l14, y14, z14⟩, st14⟩ := X12.virtualBack hx (y := (⟨"com/example/octroi/octroi/model/Behaviour", "answers", "(J)Z"⟩ : MethodName)) (z := (⟨"com/example/octroi/octroi/model/Behaviour", "answers", "(J)Z"⟩ : MethodName)) hown (mvT hZ (hw _ (List.mem_of_getElem? (i := 35) rfl))) (mvT hZ (hw _ (List.mem_of_getElem? (i := 36) rfl))) (notFace_of_selects (args := #[]) (mvT hZ (hw _ (List.mem_of_getElem? (i := 38) rfl)))) (mvT hZ (hw _ (List.mem_of_getElem? (i := 38) rfl))) (mvT hZ (hw _ (List.mem_of_getElem? (i := 37) rfl))) (by decide) (backOf (W := 0) (rm6 l Z ar hw [] b1 (9223372036854775807 : Int64) zt T9.heap n0 F10 F9_3) hZ (hw _ (List.mem_of_getElem? (i := 39) rfl)) (hw _ (List.mem_of_getElem? (i := 3) rfl)) (by decide) (by decide)) q14a q14c (g := (mkF m 54 #[.val (.long q0), .second, .val (.int p1), .val (.int p2), .val (.int p3), .val (.int zt), .val (.ref b1), .val (.int va), .val (.int vf), .unset, .unset, .unset] [(.long (9223372036854775807 : Int64)), (.ref b1)])) rfl (by rw [hml]; rfl) (Steps.refl _) (argsL := [(.long (9223372036854775807 : Int64))]) (rest := []) (lenOf pd0_2 rfl) rfl (by show 2 * 0 + _ ≤ _; exact Nat.le_of_eq rfl) (hb hby at_54) (fun _ _ => ⟨rfl, e12, (by decide : 1 + 0 ≤ _), (by decide : 4 + 0 ≤ _)⟩)
    dsimp only [Pt.U, Pt.locs, Pt.cells, Pt.slots] at X14 l14 y14 z14 st14 hQ14
    subst l14 y14 z14
    obtain ⟨rfl, N14q, eq14⟩ := hQ14
    have e14 : T14.heap = T9.heap := eq14
    have N14 := Fr.app N12 N14q
    refine own_go (fun _ k => st14.trans k) ?_
    show own_Ends _ _ _ _ _ _ _ (T14.setTop (mkF m 57 #[.val (.long q0), .second, .val (.int p1), .val (.int p2), .val (.int p3), .val (.int zt), .val (.ref b1), .val (.int va), .val (.int vf), .unset, .unset, .unset] [(.int (f6 b1 (9223372036854775807 : Int64) zt))]))
    refine own_go (fun _ k => XS.istore X14.here hx rfl (hb hby at_57) rfl (l' := #[.val (.long q0), .second, .val (.int p1), .val (.int p2), .val (.int p3), .val (.int zt), .val (.ref b1), .val (.int va), .val (.int vf), .val (.int (f6 b1 (9223372036854775807 : Int64) zt)), .unset, .unset]) rfl k) ?_
    suffices hjvl : ∀ vl : Int32, vl = (f6 b1 (9223372036854775807 : Int64) zt) → own_Ends p e below s (Q0 Z q0 p1 p2 p3 w_ORIGINAL_CREDIT_IN_PROCESS w_SUCCESS w_PROCESS_FAIL h0 n0) 16 128 (T14.setTop (mkF m 59 #[.val (.long q0), .second, .val (.int p1), .val (.int p2), .val (.int p3), .val (.int zt), .val (.ref b1), .val (.int va), .val (.int vf), .val (.int vl), .unset, .unset] [])) by exact hjvl _ rfl
    intro vl hvl
    show own_Ends _ _ _ _ _ _ _ (T14.setTop (mkF m 59 #[.val (.long q0), .second, .val (.int p1), .val (.int p2), .val (.int p3), .val (.int zt), .val (.ref b1), .val (.int va), .val (.int vf), .val (.int vl), .unset, .unset] []))
    refine own_go (fun _ k => XS.iload X14.here hx rfl (hb hby at_59) rfl k) ?_
    show own_Ends _ _ _ _ _ _ _ (T14.setTop (mkF m 61 #[.val (.long q0), .second, .val (.int p1), .val (.int p2), .val (.int p3), .val (.int zt), .val (.ref b1), .val (.int va), .val (.int vf), .val (.int vl), .unset, .unset] [(.int vf)]))
    refine own_go (fun _ k => XS.ifNo X14.here hx rfl (hb hby at_61) rfl ((if0 _ _).trans (feq (own_t0 hc13 hvf)).1) k) ?_
    show own_Ends _ _ _ _ _ _ _ (T14.setTop (mkF m 64 #[.val (.long q0), .second, .val (.int p1), .val (.int p2), .val (.int p3), .val (.int zt), .val (.ref b1), .val (.int va), .val (.int vf), .val (.int vl), .unset, .unset] []))
    refine own_go (fun _ k => XS.iload X14.here hx rfl (hb hby at_64) rfl k) ?_
    show own_Ends _ _ _ _ _ _ _ (T14.setTop (mkF m 66 #[.val (.long q0), .second, .val (.int p1), .val (.int p2), .val (.int p3), .val (.int zt), .val (.ref b1), .val (.int va), .val (.int vf), .val (.int vl), .unset, .unset] [(.int vl)]))
    refine own_go (fun _ k => XS.ifNo X14.here hx rfl (hb hby at_66) rfl ((if0 _ _).trans (feq (own_t0 hc13 hvl)).1) k) ?_
    show own_Ends _ _ _ _ _ _ _ (T14.setTop (mkF m 69 #[.val (.long q0), .second, .val (.int p1), .val (.int p2), .val (.int p3), .val (.int zt), .val (.ref b1), .val (.int va), .val (.int vf), .val (.int vl), .unset, .unset] []))
    refine own_go (fun _ k => XS.iload X14.here hx rfl (hb hby at_69) rfl k) ?_
    show own_Ends _ _ _ _ _ _ _ (T14.setTop (mkF m 71 #[.val (.long q0), .second, .val (.int p1), .val (.int p2), .val (.int p3), .val (.int zt), .val (.ref b1), .val (.int va), .val (.int vf), .val (.int vl), .unset, .unset] [(.int va)]))
    refine own_go (fun _ k => XS.ifNo X14.here hx rfl (hb hby at_71) rfl ((if0 _ _).trans (feq (own_t0 hc13 hva)).1) k) ?_
    show own_Ends _ _ _ _ _ _ _ (T14.setTop (mkF m 74 #[.val (.long q0), .second, .val (.int p1), .val (.int p2), .val (.int p3), .val (.int zt), .val (.ref b1), .val (.int va), .val (.int vf), .val (.int vl), .unset, .unset] []))
    refine own_go (fun _ k => XS.iconst X14.here hx rfl (hb hby at_74) k) ?_
    show own_Ends _ _ _ _ _ _ _ (T14.setTop (mkF m 75 #[.val (.long q0), .second, .val (.int p1), .val (.int p2), .val (.int p3), .val (.int zt), .val (.ref b1), .val (.int va), .val (.int vf), .val (.int vl), .unset, .unset] [(.int (1 : Int32))]))
    refine own_go (fun _ k => XS.goto X14.here hx rfl (pc0 := 75) (pc' := 79) rfl (hb hby at_75) (by decide) (by decide) k) ?_
    show own_Ends _ _ _ _ _ _ _ (T14.setTop (mkF m 79 #[.val (.long q0), .second, .val (.int p1), .val (.int p2), .val (.int p3), .val (.int zt), .val (.ref b1), .val (.int va), .val (.int vf), .val (.int vl), .unset, .unset] [(.int (1 : Int32))]))
    exact own_retN X14 hx hlk (t := .boolean) Bd.returns (by simp) (hb hby at_79) (by decide) (by decide) ⟨rfl, N14⟩
  · refine own_go (fun _ k => XS.ifYes X12.here hx rfl (pc0 := 46) (pc' := 80) rfl (hb hby at_46) rfl ((if0 _ _).trans (feq hc13).2) (by decide) (by decide) k) ?_
    show own_Ends _ _ _ _ _ _ _ (T12.setTop (mkF m 80 #[.val (.long q0), .second, .val (.int p1), .val (.int p2), .val (.int p3), .val (.int zt), .val (.ref b1), .val (.int va), .val (.int vf), .unset, .unset, .unset] []))
    refine own_go (fun _ k => XS.aload X12.here hx rfl (hb hby at_80) rfl rfl k) ?_
    show own_Ends _ _ _ _ _ _ _ (T12.setTop (mkF m 82 #[.val (.long q0), .second, .val (.int p1), .val (.int p2), .val (.int p3), .val (.int zt), .val (.ref b1), .val (.int va), .val (.int vf), .unset, .unset, .unset] [(.ref b1)]))
    refine own_go (fun _ k => XS.iload X12.here hx rfl (hb hby at_82) rfl k) ?_
    show own_Ends _ _ _ _ _ _ _ (T12.setTop (mkF m 84 #[.val (.long q0), .second, .val (.int p1), .val (.int p2), .val (.int p3), .val (.int zt), .val (.ref b1), .val (.int va), .val (.int vf), .unset, .unset, .unset] [(.int zt), (.ref b1)]))
    refine own_go (fun _ k => XS.i2l X12.here hx rfl (hb hby at_84) rfl k) ?_
    show own_Ends _ _ _ _ _ _ _ (T12.setTop (mkF m 85 #[.val (.long q0), .second, .val (.int p1), .val (.int p2), .val (.int p3), .val (.int zt), .val (.ref b1), .val (.int va), .val (.int vf), .unset, .unset, .unset] [(.long (zt.toInt64)), (.ref b1)]))
    obtain ⟨cq15, kq15, q15a, q15b, q15c⟩ := isOf hZ e12 E9_0
    obtain ⟨_, _, ⟨T15, L15, k15, n15⟩, -, X15, ⟨Lc15, hQ15, l15, y15, z15⟩, st15⟩ := X12.virtualBack hx (y := (⟨"com/example/octroi/octroi/model/Behaviour", "answers", "(J)Z"⟩ : MethodName)) (z := (⟨"com/example/octroi/octroi/model/Behaviour", "answers", "(J)Z"⟩ : MethodName)) hown (mvT hZ (hw _ (List.mem_of_getElem? (i := 35) rfl))) (mvT hZ (hw _ (List.mem_of_getElem? (i := 36) rfl))) (notFace_of_selects (args := #[]) (mvT hZ (hw _ (List.mem_of_getElem? (i := 38) rfl)))) (mvT hZ (hw _ (List.mem_of_getElem? (i := 38) rfl))) (mvT hZ (hw _ (List.mem_of_getElem? (i := 37) rfl))) (by decide) (backOf (W := 0) (rm6 l Z ar hw [] b1 (zt.toInt64) zt T9.heap n0 F10 F9_3) hZ (hw _ (List.mem_of_getElem? (i := 39) rfl)) (hw _ (List.mem_of_getElem? (i := 3) rfl)) (by decide) (by decide)) q15a q15c (g := (mkF m 85 #[.val (.long q0), .second, .val (.int p1), .val (.int p2), .val (.int p3), .val (.int zt), .val (.ref b1), .val (.int va), .val (.int vf), .unset, .unset, .unset] [(.long (zt.toInt64)), (.ref b1)])) rfl (by rw [hml]; rfl) (Steps.refl _) (argsL := [(.long (zt.toInt64))]) (rest := []) (lenOf pd0_2 rfl) rfl (by show 2 * 0 + _ ≤ _; exact Nat.le_of_eq rfl) (hb hby at_85) (fun _ _ => ⟨rfl, e12, (by decide : 1 + 0 ≤ _), (by decide : 4 + 0 ≤ _)⟩)
    dsimp only [Pt.U, Pt.locs, Pt.cells, Pt.slots] at X15 l15 y15 z15 st15 hQ15
    subst l15 y15 z15
    obtain ⟨rfl, N15q, eq15⟩ := hQ15
    have e15 : T15.heap = T9.heap := eq15
    have N15 := Fr.app N12 N15q
    refine own_go (fun _ k => st15.trans k) ?_
    show own_Ends _ _ _ _ _ _ _ (T15.setTop (mkF m 88 #[.val (.long q0), .second, .val (.int p1), .val (.int p2), .val (.int p3), .val (.int zt), .val (.ref b1), .val (.int va), .val (.int vf), .unset, .unset, .unset] [(.int (f6 b1 (zt.toInt64) zt))]))
    refine own_go (fun _ k => XS.istore X15.here hx rfl (hb hby at_88) rfl (l' := #[.val (.long q0), .second, .val (.int p1), .val (.int p2), .val (.int p3), .val (.int zt), .val (.ref b1), .val (.int va), .val (.int vf), .val (.int (f6 b1 (zt.toInt64) zt)), .unset, .unset]) rfl k) ?_
    suffices hjvt : ∀ vt : Int32, vt = (f6 b1 (zt.toInt64) zt) → own_Ends p e below s (Q0 Z q0 p1 p2 p3 w_ORIGINAL_CREDIT_IN_PROCESS w_SUCCESS w_PROCESS_FAIL h0 n0) 16 128 (T15.setTop (mkF m 90 #[.val (.long q0), .second, .val (.int p1), .val (.int p2), .val (.int p3), .val (.int zt), .val (.ref b1), .val (.int va), .val (.int vf), .val (.int vt), .unset, .unset] [])) by exact hjvt _ rfl
    intro vt hvt
    show own_Ends _ _ _ _ _ _ _ (T15.setTop (mkF m 90 #[.val (.long q0), .second, .val (.int p1), .val (.int p2), .val (.int p3), .val (.int zt), .val (.ref b1), .val (.int va), .val (.int vf), .val (.int vt), .unset, .unset] []))
    refine own_go (fun _ k => XS.aload X15.here hx rfl (hb hby at_90) rfl rfl k) ?_
    show own_Ends _ _ _ _ _ _ _ (T15.setTop (mkF m 92 #[.val (.long q0), .second, .val (.int p1), .val (.int p2), .val (.int p3), .val (.int zt), .val (.ref b1), .val (.int va), .val (.int vf), .val (.int vt), .unset, .unset] [(.ref b1)]))
    refine own_go (fun _ k => XS.iload X15.here hx rfl (hb hby at_92) rfl k) ?_
    show own_Ends _ _ _ _ _ _ _ (T15.setTop (mkF m 94 #[.val (.long q0), .second, .val (.int p1), .val (.int p2), .val (.int p3), .val (.int zt), .val (.ref b1), .val (.int va), .val (.int vf), .val (.int vt), .unset, .unset] [(.int zt), (.ref b1)]))
    refine own_go (fun _ k => XS.i2l X15.here hx rfl (hb hby at_94) rfl k) ?_
    show own_Ends _ _ _ _ _ _ _ (T15.setTop (mkF m 95 #[.val (.long q0), .second, .val (.int p1), .val (.int p2), .val (.int p3), .val (.int zt), .val (.ref b1), .val (.int va), .val (.int vf), .val (.int vt), .unset, .unset] [(.long (zt.toInt64)), (.ref b1)]))
    refine own_go (fun _ k => XS.lconst X15.here hx rfl (hb hby at_95) k) ?_
    show own_Ends _ _ _ _ _ _ _ (T15.setTop (mkF m 96 #[.val (.long q0), .second, .val (.int p1), .val (.int p2), .val (.int p3), .val (.int zt), .val (.ref b1), .val (.int va), .val (.int vf), .val (.int vt), .unset, .unset] [(.long (1 : Int64)), (.long (zt.toInt64)), (.ref b1)]))
    refine own_go (fun _ k => XS.ladd X15.here hx rfl (hb hby at_96) rfl k) ?_
    show own_Ends _ _ _ _ _ _ _ (T15.setTop (mkF m 97 #[.val (.long q0), .second, .val (.int p1), .val (.int p2), .val (.int p3), .val (.int zt), .val (.ref b1), .val (.int va), .val (.int vf), .val (.int vt), .unset, .unset] [(.long ((zt.toInt64) + (1 : Int64))), (.ref b1)]))
    obtain ⟨cq16, kq16, q16a, q16b, q16c⟩ := isOf hZ e15 E9_0
    obtain ⟨_, _, ⟨T16, L16, k16, n16⟩, -, X16, ⟨Lc16, hQ16, l16, y16, z16⟩, st16⟩ := X15.virtualBack hx (y := (⟨"com/example/octroi/octroi/model/Behaviour", "answers", "(J)Z"⟩ : MethodName)) (z := (⟨"com/example/octroi/octroi/model/Behaviour", "answers", "(J)Z"⟩ : MethodName)) hown (mvT hZ (hw _ (List.mem_of_getElem? (i := 35) rfl))) (mvT hZ (hw _ (List.mem_of_getElem? (i := 36) rfl))) (notFace_of_selects (args := #[]) (mvT hZ (hw _ (List.mem_of_getElem? (i := 38) rfl)))) (mvT hZ (hw _ (List.mem_of_getElem? (i := 38) rfl))) (mvT hZ (hw _ (List.mem_of_getElem? (i := 37) rfl))) (by decide) (backOf (W := 0) (rm6 l Z ar hw [] b1 ((zt.toInt64) + (1 : Int64)) zt T9.heap n0 F10 F9_3) hZ (hw _ (List.mem_of_getElem? (i := 39) rfl)) (hw _ (List.mem_of_getElem? (i := 3) rfl)) (by decide) (by decide)) q16a q16c (g := (mkF m 97 #[.val (.long q0), .second, .val (.int p1), .val (.int p2), .val (.int p3), .val (.int zt), .val (.ref b1), .val (.int va), .val (.int vf), .val (.int vt), .unset, .unset] [(.long ((zt.toInt64) + (1 : Int64))), (.ref b1)])) rfl (by rw [hml]; rfl) (Steps.refl _) (argsL := [(.long ((zt.toInt64) + (1 : Int64)))]) (rest := []) (lenOf pd0_2 rfl) rfl (by show 2 * 0 + _ ≤ _; exact Nat.le_of_eq rfl) (hb hby at_97) (fun _ _ => ⟨rfl, e15, (by decide : 1 + 0 ≤ _), (by decide : 4 + 0 ≤ _)⟩)
    dsimp only [Pt.U, Pt.locs, Pt.cells, Pt.slots] at X16 l16 y16 z16 st16 hQ16
    subst l16 y16 z16
    obtain ⟨rfl, N16q, eq16⟩ := hQ16
    have e16 : T16.heap = T9.heap := eq16
    have N16 := Fr.app N15 N16q
    refine own_go (fun _ k => st16.trans k) ?_
    show own_Ends _ _ _ _ _ _ _ (T16.setTop (mkF m 100 #[.val (.long q0), .second, .val (.int p1), .val (.int p2), .val (.int p3), .val (.int zt), .val (.ref b1), .val (.int va), .val (.int vf), .val (.int vt), .unset, .unset] [(.int (f6 b1 ((zt.toInt64) + (1 : Int64)) zt))]))
    refine own_go (fun _ k => XS.istore X16.here hx rfl (hb hby at_100) rfl (l' := #[.val (.long q0), .second, .val (.int p1), .val (.int p2), .val (.int p3), .val (.int zt), .val (.ref b1), .val (.int va), .val (.int vf), .val (.int vt), .val (.int (f6 b1 ((zt.toInt64) + (1 : Int64)) zt)), .unset]) rfl k) ?_
    suffices hjvp : ∀ vp : Int32, vp = (f6 b1 ((zt.toInt64) + (1 : Int64)) zt) → own_Ends p e below s (Q0 Z q0 p1 p2 p3 w_ORIGINAL_CREDIT_IN_PROCESS w_SUCCESS w_PROCESS_FAIL h0 n0) 16 128 (T16.setTop (mkF m 102 #[.val (.long q0), .second, .val (.int p1), .val (.int p2), .val (.int p3), .val (.int zt), .val (.ref b1), .val (.int va), .val (.int vf), .val (.int vt), .val (.int vp), .unset] [])) by exact hjvp _ rfl
    intro vp hvp
    show own_Ends _ _ _ _ _ _ _ (T16.setTop (mkF m 102 #[.val (.long q0), .second, .val (.int p1), .val (.int p2), .val (.int p3), .val (.int zt), .val (.ref b1), .val (.int va), .val (.int vf), .val (.int vt), .val (.int vp), .unset] []))
    refine own_go (fun _ k => XS.lloadN X16.here hx rfl (hb hby at_102) rfl k) ?_
    show own_Ends _ _ _ _ _ _ _ (T16.setTop (mkF m 103 #[.val (.long q0), .second, .val (.int p1), .val (.int p2), .val (.int p3), .val (.int zt), .val (.ref b1), .val (.int va), .val (.int vf), .val (.int vt), .val (.int vp), .unset] [(.long q0)]))
    refine own_go (fun _ k => XS.iload X16.here hx rfl (hb hby at_103) rfl k) ?_
    show own_Ends _ _ _ _ _ _ _ (T16.setTop (mkF m 105 #[.val (.long q0), .second, .val (.int p1), .val (.int p2), .val (.int p3), .val (.int zt), .val (.ref b1), .val (.int va), .val (.int vf), .val (.int vt), .val (.int vp), .unset] [(.int zt), (.long q0)]))
    refine own_go (fun _ k => XS.i2l X16.here hx rfl (hb hby at_105) rfl k) ?_
    show own_Ends _ _ _ _ _ _ _ (T16.setTop (mkF m 106 #[.val (.long q0), .second, .val (.int p1), .val (.int p2), .val (.int p3), .val (.int zt), .val (.ref b1), .val (.int va), .val (.int vf), .val (.int vt), .val (.int vp), .unset] [(.long (zt.toInt64)), (.long q0)]))
    refine own_go (fun _ k => XS.lcmp X16.here hx rfl (hb hby at_106) rfl k) ?_
    show own_Ends _ _ _ _ _ _ _ (T16.setTop (mkF m 107 #[.val (.long q0), .second, .val (.int p1), .val (.int p2), .val (.int p3), .val (.int zt), .val (.ref b1), .val (.int va), .val (.int vf), .val (.int vt), .val (.int vp), .unset] [(.int (lcmpW q0 (zt.toInt64)))]))
    suffices hj18 : ∀ z17 : Int32, z17 = (if (0 : Int32) < (lcmpW q0 (zt.toInt64)) then (0 : Int32) else (1 : Int32)) → own_Ends p e below s (Q0 Z q0 p1 p2 p3 w_ORIGINAL_CREDIT_IN_PROCESS w_SUCCESS w_PROCESS_FAIL h0 n0) 16 128 (T16.setTop (mkF m 115 #[.val (.long q0), .second, .val (.int p1), .val (.int p2), .val (.int p3), .val (.int zt), .val (.ref b1), .val (.int va), .val (.int vf), .val (.int vt), .val (.int vp), .unset] [(.int z17)])) by
      show own_Ends _ _ _ _ _ _ _ (T16.setTop (mkF m 107 #[.val (.long q0), .second, .val (.int p1), .val (.int p2), .val (.int p3), .val (.int zt), .val (.ref b1), .val (.int va), .val (.int vf), .val (.int vt), .val (.int vp), .unset] [(.int (lcmpW q0 (zt.toInt64)))]))
      by_cases hc19 : (0 : Int32) < (lcmpW q0 (zt.toInt64))
      · refine own_go (fun _ k => XS.ifYes X16.here hx rfl (pc0 := 107) (pc' := 114) rfl (hb hby at_107) rfl ((if0 _ _).trans (tlt hc19).2.2.1) (by decide) (by decide) k) ?_
        show own_Ends _ _ _ _ _ _ _ (T16.setTop (mkF m 114 #[.val (.long q0), .second, .val (.int p1), .val (.int p2), .val (.int p3), .val (.int zt), .val (.ref b1), .val (.int va), .val (.int vf), .val (.int vt), .val (.int vp), .unset] []))
        refine own_go (fun _ k => XS.iconst X16.here hx rfl (hb hby at_114) k) ?_
        exact hj18 _ ((if_pos hc19)).symm
      · refine own_go (fun _ k => XS.ifNo X16.here hx rfl (hb hby at_107) rfl ((if0 _ _).trans (flt hc19).2.2.1) k) ?_
        show own_Ends _ _ _ _ _ _ _ (T16.setTop (mkF m 110 #[.val (.long q0), .second, .val (.int p1), .val (.int p2), .val (.int p3), .val (.int zt), .val (.ref b1), .val (.int va), .val (.int vf), .val (.int vt), .val (.int vp), .unset] []))
        refine own_go (fun _ k => XS.iconst X16.here hx rfl (hb hby at_110) k) ?_
        show own_Ends _ _ _ _ _ _ _ (T16.setTop (mkF m 111 #[.val (.long q0), .second, .val (.int p1), .val (.int p2), .val (.int p3), .val (.int zt), .val (.ref b1), .val (.int va), .val (.int vf), .val (.int vt), .val (.int vp), .unset] [(.int (1 : Int32))]))
        refine own_go (fun _ k => XS.goto X16.here hx rfl (pc0 := 111) (pc' := 115) rfl (hb hby at_111) (by decide) (by decide) k) ?_
        exact hj18 _ ((if_neg hc19)).symm
    intro z17 hz17
    show own_Ends _ _ _ _ _ _ _ (T16.setTop (mkF m 115 #[.val (.long q0), .second, .val (.int p1), .val (.int p2), .val (.int p3), .val (.int zt), .val (.ref b1), .val (.int va), .val (.int vf), .val (.int vt), .val (.int vp), .unset] [(.int z17)]))
    refine own_go (fun _ k => XS.istore X16.here hx rfl (hb hby at_115) rfl (l' := #[.val (.long q0), .second, .val (.int p1), .val (.int p2), .val (.int p3), .val (.int zt), .val (.ref b1), .val (.int va), .val (.int vf), .val (.int vt), .val (.int vp), .val (.int z17)]) rfl k) ?_
    show own_Ends _ _ _ _ _ _ _ (T16.setTop (mkF m 117 #[.val (.long q0), .second, .val (.int p1), .val (.int p2), .val (.int p3), .val (.int zt), .val (.ref b1), .val (.int va), .val (.int vf), .val (.int vt), .val (.int vp), .val (.int z17)] []))
    refine own_go (fun _ k => XS.iload X16.here hx rfl (hb hby at_117) rfl k) ?_
    show own_Ends _ _ _ _ _ _ _ (T16.setTop (mkF m 119 #[.val (.long q0), .second, .val (.int p1), .val (.int p2), .val (.int p3), .val (.int zt), .val (.ref b1), .val (.int va), .val (.int vf), .val (.int vt), .val (.int vp), .val (.int z17)] [(.int vf)]))
    refine own_go (fun _ k => XS.ifNo X16.here hx rfl (hb hby at_119) rfl ((if0 _ _).trans (feq (own_first Pzt hc13 hvf)).1) k) ?_
    show own_Ends _ _ _ _ _ _ _ (T16.setTop (mkF m 122 #[.val (.long q0), .second, .val (.int p1), .val (.int p2), .val (.int p3), .val (.int zt), .val (.ref b1), .val (.int va), .val (.int vf), .val (.int vt), .val (.int vp), .val (.int z17)] []))
    refine own_go (fun _ k => XS.iload X16.here hx rfl (hb hby at_122) rfl k) ?_
    show own_Ends _ _ _ _ _ _ _ (T16.setTop (mkF m 124 #[.val (.long q0), .second, .val (.int p1), .val (.int p2), .val (.int p3), .val (.int zt), .val (.ref b1), .val (.int va), .val (.int vf), .val (.int vt), .val (.int vp), .val (.int z17)] [(.int vt)]))
    refine own_go (fun _ k => XS.ifNo X16.here hx rfl (hb hby at_124) rfl ((if0 _ _).trans (feq (own_at Pzt hc13 hvt)).1) k) ?_
    show own_Ends _ _ _ _ _ _ _ (T16.setTop (mkF m 127 #[.val (.long q0), .second, .val (.int p1), .val (.int p2), .val (.int p3), .val (.int zt), .val (.ref b1), .val (.int va), .val (.int vf), .val (.int vt), .val (.int vp), .val (.int z17)] []))
    refine own_go (fun _ k => XS.iload X16.here hx rfl (hb hby at_127) rfl k) ?_
    show own_Ends _ _ _ _ _ _ _ (T16.setTop (mkF m 129 #[.val (.long q0), .second, .val (.int p1), .val (.int p2), .val (.int p3), .val (.int zt), .val (.ref b1), .val (.int va), .val (.int vf), .val (.int vt), .val (.int vp), .val (.int z17)] [(.int vp)]))
    refine own_go (fun _ k => XS.ifNo X16.here hx rfl (hb hby at_129) rfl ((if0 _ _).trans (teq (own_past Pzt hc13 hvp)).2) k) ?_
    show own_Ends _ _ _ _ _ _ _ (T16.setTop (mkF m 132 #[.val (.long q0), .second, .val (.int p1), .val (.int p2), .val (.int p3), .val (.int zt), .val (.ref b1), .val (.int va), .val (.int vf), .val (.int vt), .val (.int vp), .val (.int z17)] []))
    refine own_go (fun _ k => XS.iload X16.here hx rfl (hb hby at_132) rfl k) ?_
    show own_Ends _ _ _ _ _ _ _ (T16.setTop (mkF m 134 #[.val (.long q0), .second, .val (.int p1), .val (.int p2), .val (.int p3), .val (.int zt), .val (.ref b1), .val (.int va), .val (.int vf), .val (.int vt), .val (.int vp), .val (.int z17)] [(.int va)]))
    refine own_go (fun _ k => XS.iload X16.here hx rfl (hb hby at_134) rfl k) ?_
    show own_Ends _ _ _ _ _ _ _ (T16.setTop (mkF m 136 #[.val (.long q0), .second, .val (.int p1), .val (.int p2), .val (.int p3), .val (.int zt), .val (.ref b1), .val (.int va), .val (.int vf), .val (.int vt), .val (.int vp), .val (.int z17)] [(.int z17), (.int va)]))
    refine own_go (fun _ k => XS.icmpNo X16.here hx rfl (hb hby at_136) rfl (teq (own_a Pzt hc13 hva hz17)).2 k) ?_
    show own_Ends _ _ _ _ _ _ _ (T16.setTop (mkF m 139 #[.val (.long q0), .second, .val (.int p1), .val (.int p2), .val (.int p3), .val (.int zt), .val (.ref b1), .val (.int va), .val (.int vf), .val (.int vt), .val (.int vp), .val (.int z17)] []))
    refine own_go (fun _ k => XS.iconst X16.here hx rfl (hb hby at_139) k) ?_
    show own_Ends _ _ _ _ _ _ _ (T16.setTop (mkF m 140 #[.val (.long q0), .second, .val (.int p1), .val (.int p2), .val (.int p3), .val (.int zt), .val (.ref b1), .val (.int va), .val (.int vf), .val (.int vt), .val (.int vp), .val (.int z17)] [(.int (1 : Int32))]))
    refine own_go (fun _ k => XS.goto X16.here hx rfl (pc0 := 140) (pc' := 144) rfl (hb hby at_140) (by decide) (by decide) k) ?_
    show own_Ends _ _ _ _ _ _ _ (T16.setTop (mkF m 144 #[.val (.long q0), .second, .val (.int p1), .val (.int p2), .val (.int p3), .val (.int zt), .val (.ref b1), .val (.int va), .val (.int vf), .val (.int vt), .val (.int vp), .val (.int z17)] [(.int (1 : Int32))]))
    exact own_retN X16 hx hlk (t := .boolean) Bd.returns (by simp) (hb hby at_144) (by decide) (by decide) ⟨rfl, N16⟩
set_option maxRecDepth 65536 in
set_option maxHeartbeats 40000000 in
theorem comes_1 {Post : Tables → Env → Array Value → State → Outcome → State → Prop} (hpost : ∀ tb e args s v u, (limb_1_1.after args s (.returned v) u = true ∧ limb_1_2.after args s (.returned v) u = true ∧ True) → FrameEnd s (.returned v) u (Jvm.fieldLocs frame_1_writes args s ++ Jvm.arrayLocs frame_1_arrays args s ++ Jvm.staticLocs frame_1_statics s) 16 128 → Post tb e args s (.returned v) u) :
    ArmFor flags0 classFile x code maxLocals ret World_1 tables_1 room_1 Calls_1 rest_1 Pre_1 Post := by
  intro l hfl _ _ p e ha hc hk s m args below hf hA hF happ hP
  obtain ⟨hcalls, hrest, hpre⟩ := hP
  obtain ⟨-, -, -, hnamed, -, -, -, hat⟩ := (Spec.applies_iff hf).mp happ
  obtain ⟨hg, hn⟩ := and_e (Cond.before_iff.mp (show (Jvm.Cond.and given_1 narrow_1).before args s = true from hpre))
  obtain ⟨hcount, hg0⟩ := and_e hg
  obtain ⟨ga0, hg1⟩ := and_e hg0
  obtain ⟨ga1, hg2⟩ := and_e hg1
  obtain ⟨ga2, hg3⟩ := and_e hg2
  obtain ⟨w0, w1, w2, w3, rfl⟩ : ∃ w0 w1 w2 w3 : Value, args = #[w0, w1, w2, w3] := by
    have hs : args.size = 4 := by simpa [Cond.value, given_1] using hcount
    obtain ⟨L⟩ := args
    match L, hs with
    | [w0, w1, w2, w3], _ => exact ⟨w0, w1, w2, w3, rfl⟩
  have hw := fun d (hd : d ∈ tables_1) => atoms_spec (ws := Jvm.Cond.code x code maxLocals ret :: tables_1) hat d (List.mem_cons_of_mem _ hd)
  have hfit : Fit s := fun {y c} hc i hi => by
    obtain ⟨ha, rfl⟩ := Array.getElem?_eq_some_iff.mp hc
    have q := List.all_eq_true.mp ((Array.all_eq_true_iff_forall_mem.mp hF) _ (Array.getElem_mem ha)) i (List.mem_range.mpr hi)
    simpa [Array.getElem?_eq_getElem hi] using q
  obtain ⟨q0, ei0⟩ := isL_v ga0
  obtain rfl : w0 = (.long q0) := Option.some.inj ei0
  obtain ⟨p1, ei1⟩ := is_v ga1
  obtain rfl : w1 = (.int p1) := Option.some.inj ei1
  obtain ⟨p2, ei2⟩ := is_v ga2
  obtain rfl : w2 = (.int p2) := Option.some.inj ei2
  obtain ⟨p3, ei3⟩ := is_v hg3
  obtain rfl : w3 = (.int p3) := Option.some.inj ei3
  obtain ⟨hn_0, hn0'⟩ := and_e hn
  obtain ⟨hn_1, hn1'⟩ := and_e hn0'
  have hn_2 := hn1'
  obtain ⟨w_ORIGINAL_CREDIT_IN_PROCESS, ev_ORIGINAL_CREDIT_IN_PROCESS⟩ := exa_v hn_0
  have S_ORIGINAL_CREDIT_IN_PROCESS : Sta s s.heap "com/example/octroi/octroi/model/ResultCode" "ORIGINAL_CREDIT_IN_PROCESS" "Lcom/example/octroi/octroi/model/ResultCode;" (.ref w_ORIGINAL_CREDIT_IN_PROCESS) := Sta.start ev_ORIGINAL_CREDIT_IN_PROCESS (Or.inr ⟨(hw _ (List.mem_of_getElem? (i := 9) rfl)), (hw _ (List.mem_of_getElem? (i := 10) rfl))⟩)
  have E_w_ORIGINAL_CREDIT_IN_PROCESS : Exa s s.heap w_ORIGINAL_CREDIT_IN_PROCESS "com/example/octroi/octroi/model/ResultCode" := Exa.start ev_ORIGINAL_CREDIT_IN_PROCESS hn_0
  obtain ⟨w_PROCESS_FAIL, ev_PROCESS_FAIL⟩ := exa_v hn_1
  have S_PROCESS_FAIL : Sta s s.heap "com/example/octroi/octroi/model/ResultCode" "PROCESS_FAIL" "Lcom/example/octroi/octroi/model/ResultCode;" (.ref w_PROCESS_FAIL) := Sta.start ev_PROCESS_FAIL (Or.inr ⟨(hw _ (List.mem_of_getElem? (i := 9) rfl)), (hw _ (List.mem_of_getElem? (i := 15) rfl))⟩)
  have E_w_PROCESS_FAIL : Exa s s.heap w_PROCESS_FAIL "com/example/octroi/octroi/model/ResultCode" := Exa.start ev_PROCESS_FAIL hn_1
  obtain ⟨w_SUCCESS, ev_SUCCESS⟩ := exa_v hn_2
  have S_SUCCESS : Sta s s.heap "com/example/octroi/octroi/model/ResultCode" "SUCCESS" "Lcom/example/octroi/octroi/model/ResultCode;" (.ref w_SUCCESS) := Sta.start ev_SUCCESS (Or.inr ⟨(hw _ (List.mem_of_getElem? (i := 9) rfl)), (hw _ (List.mem_of_getElem? (i := 41) rfl))⟩)
  have E_w_SUCCESS : Exa s s.heap w_SUCCESS "com/example/octroi/octroi/model/ResultCode" := Exa.start ev_SUCCESS hn_2
  obtain ⟨n, o, h1, h2, h3, _, L, rfl, ⟨rfl, N⟩, hq⟩ := rm0 l s _ hw tables_1 q0 p1 p2 p3 w_ORIGINAL_CREDIT_IN_PROCESS w_SUCCESS w_PROCESS_FAIL s.heap s.heap.size (Old.start s) S_ORIGINAL_CREDIT_IN_PROCESS S_SUCCESS S_PROCESS_FAIL p e ha hc hk s m _ below hf ((Spec.applies_iff_loose hf).mp happ).1 ⟨rfl, State.Warmed39.refl s, rfl⟩ trivial
  refine ⟨n, _, h1, h2, h3, hpost _ _ _ _ _ _ ⟨Cond.after_iff.mpr rfl, Cond.after_iff.mpr (eq_i res_at (Term.int_eval (1)) rfl), trivial⟩ ⟨hq.1, hq.2.1, (hq.2.2.sift fun y hy => Or.inr (N y hy)).mono (by decide) (by decide)⟩⟩
theorem main_1_1 : Claimed_1_1 := comes_1 fun _ _ _ _ _ _ h hF => ⟨h.1, hF⟩
theorem main_1_2 : Claimed_1_2 := comes_1 fun _ _ _ _ _ _ h hF => ⟨h.2.1, hF⟩
end Jvm.Pilot.@@N@@
namespace Jvm.Pilot.@@N@@
open Jvm Jvm.ClassFile Sem Op Lib Jvm.Free Jvm.Stand Jvm.Pilot.@@N@@.Jvm.D
/-! MADE BY PROGRAM (witnessworld.py) out of the Statement's table words and the real class files: 14 classes; the members and pool entries that the words name. The judged class is class 1, her method 3. -/
namespace start1
open Jvm.ClassFile
def u (s : String) : CpInfo := .utf8 (stringToUtf16 s)
/-- a pool by its gaps: so many unusable entries, then the entry; so many at the end -/
def gap : Nat → List CpInfo → List CpInfo
  | 0, r => r
  | n + 1, r => .unusable :: gap n r
def poolList (es : List (Nat × CpInfo)) (last : Nat) : List CpInfo := es.foldr (fun e r => gap e.1 (e.2 :: r)) (gap last [])
def pool (es : List (Nat × CpInfo)) (last : Nat) : Array CpInfo := ⟨poolList es last⟩
def fileOf (pool : Array CpInfo) (this : Nat) (attrs : Array Attribute := #[]) (ms : Array MethodInfo := #[]) (fl : Nat := 33) (sup : Nat := 0) (ifs : Array Nat := #[]) (fds : Array FieldInfo := #[]) : ClassFile where
  minorVersion := 0
  majorVersion := 65
  constantPool := pool
  accessFlags := fl
  thisClass := this
  superClass := sup
  interfaces := ifs
  fields := fds
  methods := ms
  attributes := attrs
def plain (name : String) (sup : Option ClassId) : Class where
  name := name
  kind := .ordinary
  loader := none
  accessFlags := 33
  super := sup
  interfaces := #[]
  cf := none
  fields := #[]
  methods := #[]
  instanceTypes := #[]
  staticTypes := #[]
  resolved := #[]
  callSites := []
  init := .initialized
  statics := none
  mirror := none

def pool0 : Array CpInfo := pool [(5, u "<init>"), (0, u "()V"), (1, .class_ 10), (1, u "java/lang/Object")] 113

def k0c0 : Code := { maxStack := 0, maxLocals := 1, code := object_method_1_code, exceptionTable := #[], attributes := #[] }
def k0m0 : Method := { name := "<init>", desc := "()V", sig := { parameters := [], returnType := none }, accessFlags := 1, code := some k0c0 }
/-- java/lang/Object -/
def k0 : Class := { plain "java/lang/Object" none with
  accessFlags := 33
  interfaces := #[]
  cf := some (fileOf pool0 8 #[] #[{ accessFlags := 1, nameIndex := 5, descriptorIndex := 6, attributes := #[] }] 33 0 #[] #[])
  fields := #[]
  methods := #[k0m0]
  instanceTypes := #[]
  staticTypes := #[]
  resolved := Array.replicate 124 none
  statics := none }

def pool1 : Array CpInfo := pool [(2, .class_ 4), (1, u "java/lang/Object"), (0, u "<init>"), (0, u "()V"), (0, .fieldref 8 9), (0, .class_ 10), (0, .nameAndType 11 12), (0, u "com/example/octroi/octroi/model/ResultCode"), (0, u "SUCCESS"), (0, u "Lcom/example/octroi/octroi/model/ResultCode;"), (0, .fieldref 8 14), (0, .nameAndType 15 12), (0, u "ORIGINAL_CREDIT_IN_PROCESS"), (0, .fieldref 8 17), (0, .nameAndType 18 12), (0, u "PROCESS_FAIL"), (0, .integer 2147483647), (0, .class_ 21), (0, u "com/example/octroi/octroi/model/Behaviour"), (0, .methodref 23 24), (0, .class_ 25), (0, .nameAndType 26 27), (0, u "com/example/octroi/octroi/model/BehaviourAnswersPinLaw"), (0, u "createOf"), (0, u "(I)Lcom/example/octroi/octroi/model/ResultCode;"), (0, .methodref 23 29), (0, .nameAndType 30 27), (0, u "settleOf"), (0, .methodref 20 32), (0, .nameAndType 5 33), (0, u "(Lcom/example/octroi/octroi/model/ResultCode;ILcom/example/octroi/octroi/model/ResultCode;I)V"), (0, .methodref 20 35), (0, .nameAndType 36 37), (0, u "answers"), (0, u "(J)Z"), (2, .long 9223372036854775807), (4, u "law"), (0, u "(JIII)Z")] 2

def k1m0 : Method := { name := "<init>", desc := "()V", sig := { parameters := [], returnType := none }, accessFlags := 1, code := none }
def k1c1 : Code := { maxStack := 2, maxLocals := 1, code := method_2_code, exceptionTable := #[], attributes := #[] }
def k1m1 : Method := { name := "createOf", desc := "(I)Lcom/example/octroi/octroi/model/ResultCode;", sig := { parameters := [.int], returnType := some (.object "com/example/octroi/octroi/model/ResultCode") }, accessFlags := 10, code := some k1c1 }
def k1c2 : Code := { maxStack := 2, maxLocals := 1, code := method_3_code, exceptionTable := #[], attributes := #[] }
def k1m2 : Method := { name := "settleOf", desc := "(I)Lcom/example/octroi/octroi/model/ResultCode;", sig := { parameters := [.int], returnType := some (.object "com/example/octroi/octroi/model/ResultCode") }, accessFlags := 10, code := some k1c2 }
def k1c3 : Code := { maxStack := 6, maxLocals := 12, code := code, exceptionTable := #[], attributes := #[] }
def k1m3 : Method := { name := "law", desc := "(JIII)Z", sig := { parameters := [.long, .int, .int, .int], returnType := some .boolean }, accessFlags := 9, code := some k1c3 }
/-- com/example/octroi/octroi/model/BehaviourAnswersPinLaw -/
def k1 : Class := { plain "com/example/octroi/octroi/model/BehaviourAnswersPinLaw" (some 0) with
  accessFlags := 49
  interfaces := #[]
  cf := some (fileOf pool1 23 #[] #[{ accessFlags := 1, nameIndex := 5, descriptorIndex := 6, attributes := #[] }, { accessFlags := 10, nameIndex := 26, descriptorIndex := 27, attributes := #[] }, { accessFlags := 10, nameIndex := 30, descriptorIndex := 27, attributes := #[] }, { accessFlags := 9, nameIndex := 45, descriptorIndex := 46, attributes := #[] }] 49 2 #[] #[])
  fields := #[]
  methods := #[k1m0, k1m1, k1m2, k1m3]
  instanceTypes := #[]
  staticTypes := #[]
  resolved := Array.replicate 49 none
  statics := none }

def pool2 : Array CpInfo := pool [(1, .methodref 2 3), (0, .class_ 4), (0, .nameAndType 5 6), (0, u "java/lang/Object"), (0, u "<init>"), (0, u "()V"), (0, .class_ 8), (0, u "java/lang/Record")] 13

def k2c0 : Code := { maxStack := 1, maxLocals := 1, code := jdk_30_method_1_code, exceptionTable := #[], attributes := #[] }
def k2m0 : Method := { name := "<init>", desc := "()V", sig := { parameters := [], returnType := none }, accessFlags := 4, code := some k2c0 }
/-- java/lang/Record -/
def k2 : Class := { plain "java/lang/Record" (some 0) with
  accessFlags := 1057
  interfaces := #[]
  cf := some (fileOf pool2 7 #[] #[{ accessFlags := 4, nameIndex := 5, descriptorIndex := 6, attributes := #[] }] 1057 2 #[] #[])
  fields := #[]
  methods := #[k2m0]
  instanceTypes := #[]
  staticTypes := #[]
  resolved := Array.replicate 22 none
  statics := none }

def pool3 : Array CpInfo := pool [(1, .methodref 2 3), (0, .class_ 4), (0, .nameAndType 5 6), (0, u "java/lang/Record"), (0, u "<init>"), (0, u "()V"), (0, .fieldref 8 9), (0, .class_ 10), (0, .nameAndType 11 12), (0, u "com/example/octroi/octroi/model/Behaviour"), (0, u "create"), (0, u "Lcom/example/octroi/octroi/model/ResultCode;"), (0, .fieldref 8 14), (0, .nameAndType 15 16), (0, u "settleAfterInquiries"), (0, u "I"), (0, .fieldref 8 18), (0, .nameAndType 19 12), (0, u "settleAs"), (0, .fieldref 8 21), (0, .nameAndType 22 16), (0, u "times"), (12, u "(Lcom/example/octroi/octroi/model/ResultCode;ILcom/example/octroi/octroi/model/ResultCode;I)V"), (3, u "answers"), (0, u "(J)Z")] 30

def k3c0 : Code := { maxStack := 2, maxLocals := 5, code := prog_26_method_1_code, exceptionTable := #[], attributes := #[] }
def k3m0 : Method := { name := "<init>", desc := "(Lcom/example/octroi/octroi/model/ResultCode;ILcom/example/octroi/octroi/model/ResultCode;I)V", sig := { parameters := [(.object "com/example/octroi/octroi/model/ResultCode"), .int, (.object "com/example/octroi/octroi/model/ResultCode"), .int], returnType := none }, accessFlags := 1, code := some k3c0 }
def k3c1 : Code := { maxStack := 4, maxLocals := 3, code := prog_26_method_2_code, exceptionTable := #[], attributes := #[] }
def k3m1 : Method := { name := "answers", desc := "(J)Z", sig := { parameters := [.long], returnType := some .boolean }, accessFlags := 1, code := some k3c1 }
/-- com/example/octroi/octroi/model/Behaviour -/
def k3 : Class := { plain "com/example/octroi/octroi/model/Behaviour" (some 2) with
  accessFlags := 49
  interfaces := #[]
  cf := some (fileOf pool3 8 #[] #[{ accessFlags := 1, nameIndex := 5, descriptorIndex := 35, attributes := #[] }, { accessFlags := 1, nameIndex := 39, descriptorIndex := 40, attributes := #[] }] 49 2 #[] #[{ accessFlags := 18, nameIndex := 11, descriptorIndex := 12, attributes := #[] }, { accessFlags := 18, nameIndex := 15, descriptorIndex := 16, attributes := #[] }, { accessFlags := 18, nameIndex := 19, descriptorIndex := 12, attributes := #[] }, { accessFlags := 18, nameIndex := 22, descriptorIndex := 16, attributes := #[] }])
  fields := #[{ name := "create", type := (.object "com/example/octroi/octroi/model/ResultCode"), accessFlags := 18, slot := 0, constantValue := 0 }, { name := "settleAfterInquiries", type := .int, accessFlags := 18, slot := 1, constantValue := 0 }, { name := "settleAs", type := (.object "com/example/octroi/octroi/model/ResultCode"), accessFlags := 18, slot := 2, constantValue := 0 }, { name := "times", type := .int, accessFlags := 18, slot := 3, constantValue := 0 }]
  methods := #[k3m0, k3m1]
  instanceTypes := #[(.object "com/example/octroi/octroi/model/ResultCode"), .int, (.object "com/example/octroi/octroi/model/ResultCode"), .int]
  staticTypes := #[]
  resolved := Array.replicate 71 none
  statics := none }

def pool4 : Array CpInfo := pool [(1, .class_ 2), (0, u "java/lang/constant/Constable"), (0, .class_ 4), (0, u "java/lang/Object")] 6

/-- java/lang/constant/Constable -/
def k4 : Class := { plain "java/lang/constant/Constable" (some 0) with
  accessFlags := 1537
  interfaces := #[]
  cf := some (fileOf pool4 1 #[] #[] 1537 3 #[] #[])
  fields := #[]
  methods := #[]
  instanceTypes := #[]
  staticTypes := #[]
  resolved := Array.replicate 11 none
  statics := none }

def pool5 : Array CpInfo := pool [(1, .class_ 2), (0, u "java/lang/Comparable"), (0, .class_ 4), (0, u "java/lang/Object")] 7

/-- java/lang/Comparable -/
def k5 : Class := { plain "java/lang/Comparable" (some 0) with
  accessFlags := 1537
  interfaces := #[]
  cf := some (fileOf pool5 1 #[] #[] 1537 3 #[] #[])
  fields := #[]
  methods := #[]
  instanceTypes := #[]
  staticTypes := #[]
  resolved := Array.replicate 12 none
  statics := none }

def pool6 : Array CpInfo := pool [(1, .class_ 2), (0, u "java/io/Serializable"), (0, .class_ 4), (0, u "java/lang/Object")] 2

/-- java/io/Serializable -/
def k6 : Class := { plain "java/io/Serializable" (some 0) with
  accessFlags := 1537
  interfaces := #[]
  cf := some (fileOf pool6 1 #[] #[] 1537 3 #[] #[])
  fields := #[]
  methods := #[]
  instanceTypes := #[]
  staticTypes := #[]
  resolved := Array.replicate 7 none
  statics := none }

def pool7 : Array CpInfo := pool [(2, .class_ 4), (1, u "java/lang/Enum"), (0, u "name"), (0, u "Ljava/lang/String;"), (2, u "ordinal"), (0, u "I"), (1, .class_ 14), (1, u "java/lang/Object"), (4, u "hash"), (86, .class_ 108), (1, u "java/lang/Enum$EnumDesc"), (2, .class_ 112), (0, u "java/lang/constant/Constable"), (0, .class_ 114), (0, u "java/lang/Comparable"), (0, .class_ 116), (0, u "java/io/Serializable")] 87

/-- java/lang/Enum -/
def k7 : Class := { plain "java/lang/Enum" (some 0) with
  accessFlags := 1057
  interfaces := #[4, 5, 6]
  cf := some (fileOf pool7 2 #[.nestMembers #[106]] #[] 1057 12 #[111, 113, 115] #[{ accessFlags := 18, nameIndex := 5, descriptorIndex := 6, attributes := #[] }, { accessFlags := 18, nameIndex := 9, descriptorIndex := 10, attributes := #[] }, { accessFlags := 2, nameIndex := 19, descriptorIndex := 10, attributes := #[] }])
  fields := #[{ name := "name", type := (.object "java/lang/String"), accessFlags := 18, slot := 0, constantValue := 0 }, { name := "ordinal", type := .int, accessFlags := 18, slot := 1, constantValue := 0 }, { name := "hash", type := .int, accessFlags := 2, slot := 2, constantValue := 0 }]
  methods := #[]
  instanceTypes := #[(.object "java/lang/String"), .int, .int]
  staticTypes := #[]
  resolved := Array.replicate 204 none
  statics := none }

def pool8 : Array CpInfo := pool [(1, .class_ 2), (0, u "com/example/octroi/octroi/model/ResultCode"), (2, u "SUCCESS"), (0, u "Lcom/example/octroi/octroi/model/ResultCode;"), (2, u "ACCESS_DENIED"), (2, u "BUSINESS_NOT_SUPPORT"), (2, u "CURRENCY_NOT_SUPPORT"), (2, u "EXPIRED_CODE"), (2, u "INVALID_CLIENT"), (2, u "INVALID_CODE"), (2, u "INVALID_CONTRACT"), (2, u "INVALID_SIGNATURE"), (2, u "KEY_NOT_FOUND"), (2, u "MEDIA_TYPE_NOT_ACCEPTABLE"), (2, u "METHOD_NOT_SUPPORTED"), (2, u "NO_INTERFACE_DEF"), (2, u "PARAM_ILLEGAL"), (2, u "PROCESS_FAIL"), (2, u "REPEAT_REQ_INCONSISTENT"), (2, u "RISK_REJECT"), (2, u "SERVER_UNDER_MAINTENANCE"), (2, u "USER_AMOUNT_EXCEED_LIMIT"), (2, u "USER_KYC_NOT_QUALIFIED"), (2, u "USER_NOT_EXIST"), (2, u "USER_STATUS_ABNORMAL"), (2, u "ORIGINAL_CREDIT_IN_PROCESS"), (2, u "REQUEST_TRAFFIC_EXCEED_LIMIT"), (2, u "UNKNOWN_EXCEPTION"), (2, u "ORDER_NOT_EXIST"), (2, u "ORIGINAL_CREDIT_ALREADY_FAILED"), (2, u "INVALID_ORDER_STATUS"), (2, u "$VALUES"), (0, u "[Lcom/example/octroi/octroi/model/ResultCode;"), (6, .class_ 100), (1, u "java/lang/Enum"), (8, u "ofCreate"), (0, u "Z"), (2, u "status"), (0, u "Ljava/lang/String;"), (2, u "message"), (2, u "OF_ADJUST_REFUND"), (0, u "Ljava/util/Set;")] 154

/-- com/example/octroi/octroi/model/ResultCode -/
def k8 : Class := { plain "com/example/octroi/octroi/model/ResultCode" (some 7) with
  accessFlags := 16433
  interfaces := #[]
  cf := some (fileOf pool8 1 #[] #[] 16433 98 #[] #[{ accessFlags := 16409, nameIndex := 5, descriptorIndex := 6, attributes := #[] }, { accessFlags := 16409, nameIndex := 9, descriptorIndex := 6, attributes := #[] }, { accessFlags := 16409, nameIndex := 12, descriptorIndex := 6, attributes := #[] }, { accessFlags := 16409, nameIndex := 15, descriptorIndex := 6, attributes := #[] }, { accessFlags := 16409, nameIndex := 18, descriptorIndex := 6, attributes := #[] }, { accessFlags := 16409, nameIndex := 21, descriptorIndex := 6, attributes := #[] }, { accessFlags := 16409, nameIndex := 24, descriptorIndex := 6, attributes := #[] }, { accessFlags := 16409, nameIndex := 27, descriptorIndex := 6, attributes := #[] }, { accessFlags := 16409, nameIndex := 30, descriptorIndex := 6, attributes := #[] }, { accessFlags := 16409, nameIndex := 33, descriptorIndex := 6, attributes := #[] }, { accessFlags := 16409, nameIndex := 36, descriptorIndex := 6, attributes := #[] }, { accessFlags := 16409, nameIndex := 39, descriptorIndex := 6, attributes := #[] }, { accessFlags := 16409, nameIndex := 42, descriptorIndex := 6, attributes := #[] }, { accessFlags := 16409, nameIndex := 45, descriptorIndex := 6, attributes := #[] }, { accessFlags := 16409, nameIndex := 48, descriptorIndex := 6, attributes := #[] }, { accessFlags := 16409, nameIndex := 51, descriptorIndex := 6, attributes := #[] }, { accessFlags := 16409, nameIndex := 54, descriptorIndex := 6, attributes := #[] }, { accessFlags := 16409, nameIndex := 57, descriptorIndex := 6, attributes := #[] }, { accessFlags := 16409, nameIndex := 60, descriptorIndex := 6, attributes := #[] }, { accessFlags := 16409, nameIndex := 63, descriptorIndex := 6, attributes := #[] }, { accessFlags := 16409, nameIndex := 66, descriptorIndex := 6, attributes := #[] }, { accessFlags := 16409, nameIndex := 69, descriptorIndex := 6, attributes := #[] }, { accessFlags := 16409, nameIndex := 72, descriptorIndex := 6, attributes := #[] }, { accessFlags := 16409, nameIndex := 75, descriptorIndex := 6, attributes := #[] }, { accessFlags := 16409, nameIndex := 78, descriptorIndex := 6, attributes := #[] }, { accessFlags := 16409, nameIndex := 81, descriptorIndex := 6, attributes := #[] }, { accessFlags := 16409, nameIndex := 84, descriptorIndex := 6, attributes := #[] }, { accessFlags := 16409, nameIndex := 87, descriptorIndex := 6, attributes := #[] }, { accessFlags := 26, nameIndex := 120, descriptorIndex := 121, attributes := #[] }, { accessFlags := 18, nameIndex := 109, descriptorIndex := 110, attributes := #[] }, { accessFlags := 18, nameIndex := 113, descriptorIndex := 114, attributes := #[] }, { accessFlags := 18, nameIndex := 117, descriptorIndex := 114, attributes := #[] }, { accessFlags := 4122, nameIndex := 90, descriptorIndex := 91, attributes := #[] }])
  fields := #[{ name := "SUCCESS", type := (.object "com/example/octroi/octroi/model/ResultCode"), accessFlags := 16409, slot := 0, constantValue := 0 }, { name := "ACCESS_DENIED", type := (.object "com/example/octroi/octroi/model/ResultCode"), accessFlags := 16409, slot := 1, constantValue := 0 }, { name := "BUSINESS_NOT_SUPPORT", type := (.object "com/example/octroi/octroi/model/ResultCode"), accessFlags := 16409, slot := 2, constantValue := 0 }, { name := "CURRENCY_NOT_SUPPORT", type := (.object "com/example/octroi/octroi/model/ResultCode"), accessFlags := 16409, slot := 3, constantValue := 0 }, { name := "EXPIRED_CODE", type := (.object "com/example/octroi/octroi/model/ResultCode"), accessFlags := 16409, slot := 4, constantValue := 0 }, { name := "INVALID_CLIENT", type := (.object "com/example/octroi/octroi/model/ResultCode"), accessFlags := 16409, slot := 5, constantValue := 0 }, { name := "INVALID_CODE", type := (.object "com/example/octroi/octroi/model/ResultCode"), accessFlags := 16409, slot := 6, constantValue := 0 }, { name := "INVALID_CONTRACT", type := (.object "com/example/octroi/octroi/model/ResultCode"), accessFlags := 16409, slot := 7, constantValue := 0 }, { name := "INVALID_SIGNATURE", type := (.object "com/example/octroi/octroi/model/ResultCode"), accessFlags := 16409, slot := 8, constantValue := 0 }, { name := "KEY_NOT_FOUND", type := (.object "com/example/octroi/octroi/model/ResultCode"), accessFlags := 16409, slot := 9, constantValue := 0 }, { name := "MEDIA_TYPE_NOT_ACCEPTABLE", type := (.object "com/example/octroi/octroi/model/ResultCode"), accessFlags := 16409, slot := 10, constantValue := 0 }, { name := "METHOD_NOT_SUPPORTED", type := (.object "com/example/octroi/octroi/model/ResultCode"), accessFlags := 16409, slot := 11, constantValue := 0 }, { name := "NO_INTERFACE_DEF", type := (.object "com/example/octroi/octroi/model/ResultCode"), accessFlags := 16409, slot := 12, constantValue := 0 }, { name := "PARAM_ILLEGAL", type := (.object "com/example/octroi/octroi/model/ResultCode"), accessFlags := 16409, slot := 13, constantValue := 0 }, { name := "PROCESS_FAIL", type := (.object "com/example/octroi/octroi/model/ResultCode"), accessFlags := 16409, slot := 14, constantValue := 0 }, { name := "REPEAT_REQ_INCONSISTENT", type := (.object "com/example/octroi/octroi/model/ResultCode"), accessFlags := 16409, slot := 15, constantValue := 0 }, { name := "RISK_REJECT", type := (.object "com/example/octroi/octroi/model/ResultCode"), accessFlags := 16409, slot := 16, constantValue := 0 }, { name := "SERVER_UNDER_MAINTENANCE", type := (.object "com/example/octroi/octroi/model/ResultCode"), accessFlags := 16409, slot := 17, constantValue := 0 }, { name := "USER_AMOUNT_EXCEED_LIMIT", type := (.object "com/example/octroi/octroi/model/ResultCode"), accessFlags := 16409, slot := 18, constantValue := 0 }, { name := "USER_KYC_NOT_QUALIFIED", type := (.object "com/example/octroi/octroi/model/ResultCode"), accessFlags := 16409, slot := 19, constantValue := 0 }, { name := "USER_NOT_EXIST", type := (.object "com/example/octroi/octroi/model/ResultCode"), accessFlags := 16409, slot := 20, constantValue := 0 }, { name := "USER_STATUS_ABNORMAL", type := (.object "com/example/octroi/octroi/model/ResultCode"), accessFlags := 16409, slot := 21, constantValue := 0 }, { name := "ORIGINAL_CREDIT_IN_PROCESS", type := (.object "com/example/octroi/octroi/model/ResultCode"), accessFlags := 16409, slot := 22, constantValue := 0 }, { name := "REQUEST_TRAFFIC_EXCEED_LIMIT", type := (.object "com/example/octroi/octroi/model/ResultCode"), accessFlags := 16409, slot := 23, constantValue := 0 }, { name := "UNKNOWN_EXCEPTION", type := (.object "com/example/octroi/octroi/model/ResultCode"), accessFlags := 16409, slot := 24, constantValue := 0 }, { name := "ORDER_NOT_EXIST", type := (.object "com/example/octroi/octroi/model/ResultCode"), accessFlags := 16409, slot := 25, constantValue := 0 }, { name := "ORIGINAL_CREDIT_ALREADY_FAILED", type := (.object "com/example/octroi/octroi/model/ResultCode"), accessFlags := 16409, slot := 26, constantValue := 0 }, { name := "INVALID_ORDER_STATUS", type := (.object "com/example/octroi/octroi/model/ResultCode"), accessFlags := 16409, slot := 27, constantValue := 0 }, { name := "OF_ADJUST_REFUND", type := (.object "java/util/Set"), accessFlags := 26, slot := 28, constantValue := 0 }, { name := "ofCreate", type := .boolean, accessFlags := 18, slot := 3, constantValue := 0 }, { name := "status", type := (.object "java/lang/String"), accessFlags := 18, slot := 4, constantValue := 0 }, { name := "message", type := (.object "java/lang/String"), accessFlags := 18, slot := 5, constantValue := 0 }, { name := "$VALUES", type := (.array (.object "com/example/octroi/octroi/model/ResultCode")), accessFlags := 4122, slot := 29, constantValue := 0 }]
  methods := #[]
  instanceTypes := #[(.object "java/lang/String"), .int, .int, .boolean, (.object "java/lang/String"), (.object "java/lang/String")]
  staticTypes := #[(.object "com/example/octroi/octroi/model/ResultCode"), (.object "com/example/octroi/octroi/model/ResultCode"), (.object "com/example/octroi/octroi/model/ResultCode"), (.object "com/example/octroi/octroi/model/ResultCode"), (.object "com/example/octroi/octroi/model/ResultCode"), (.object "com/example/octroi/octroi/model/ResultCode"), (.object "com/example/octroi/octroi/model/ResultCode"), (.object "com/example/octroi/octroi/model/ResultCode"), (.object "com/example/octroi/octroi/model/ResultCode"), (.object "com/example/octroi/octroi/model/ResultCode"), (.object "com/example/octroi/octroi/model/ResultCode"), (.object "com/example/octroi/octroi/model/ResultCode"), (.object "com/example/octroi/octroi/model/ResultCode"), (.object "com/example/octroi/octroi/model/ResultCode"), (.object "com/example/octroi/octroi/model/ResultCode"), (.object "com/example/octroi/octroi/model/ResultCode"), (.object "com/example/octroi/octroi/model/ResultCode"), (.object "com/example/octroi/octroi/model/ResultCode"), (.object "com/example/octroi/octroi/model/ResultCode"), (.object "com/example/octroi/octroi/model/ResultCode"), (.object "com/example/octroi/octroi/model/ResultCode"), (.object "com/example/octroi/octroi/model/ResultCode"), (.object "com/example/octroi/octroi/model/ResultCode"), (.object "com/example/octroi/octroi/model/ResultCode"), (.object "com/example/octroi/octroi/model/ResultCode"), (.object "com/example/octroi/octroi/model/ResultCode"), (.object "com/example/octroi/octroi/model/ResultCode"), (.object "com/example/octroi/octroi/model/ResultCode"), (.object "java/util/Set"), (.array (.object "com/example/octroi/octroi/model/ResultCode"))]
  resolved := Array.replicate 276 none
  statics := some 0 }

def pool9 : Array CpInfo := pool [(1, u "java/lang/Cloneable"), (0, .class_ 1), (0, u "java/lang/Object"), (0, .class_ 3)] 3

/-- java/lang/Cloneable -/
def k9 : Class := { plain "java/lang/Cloneable" (some 0) with
  accessFlags := 1537
  interfaces := #[]
  cf := some (fileOf pool9 2 #[] #[] 1537 4 #[] #[])
  fields := #[]
  methods := #[]
  instanceTypes := #[]
  staticTypes := #[]
  resolved := Array.replicate 8 none
  statics := none }

/-- the primitive byte -/
def k10 : Class := { plain "byte" none with kind := .primitive 'B', accessFlags := 0x411 }
/-- [B -/
def k11 : Class := { plain "[B" (some 0) with kind := .array 10 .byte, interfaces := #[9, 6], accessFlags := 1041 }

/-- the primitive int -/
def k12 : Class := { plain "int" none with kind := .primitive 'I', accessFlags := 0x411 }
/-- [I -/
def k13 : Class := { plain "[I" (some 0) with kind := .array 12 .int, interfaces := #[9, 6], accessFlags := 1041 }

def heap : Heap := #[{ cls := 8, slots := #[.ref 1, .null, .null, .null, .null, .null, .null, .null, .null, .null, .null, .null, .null, .null, .ref 2, .null, .null, .null, .null, .null, .null, .null, .ref 3, .null, .null, .null, .null, .null, .null, .null], vm := .statics 8 },
  { cls := 8, slots := #[.null, .int 0, .int 0, .int 0, .null, .null], vm := .none },
  { cls := 8, slots := #[.null, .int 0, .int 0, .int 0, .null, .null], vm := .none },
  { cls := 8, slots := #[.null, .int 0, .int 0, .int 0, .null, .null], vm := .none }]
def classes : Array Class := #[k0, k1, k2, k3, k4, k5, k6, k7, k8, k9, k10, k11, k12, k13]
def interned : List (Array UInt16 × Addr) := []
def slotsUsed : Nat := 48
def theMethod : MethodId := ⟨1, 3⟩
def args0 : Array Value := #[.long 5, .int 3, .int 20, .int 1]
def aboutOver (below : List Frame) : State where
  vm := { classes := classes, interned := interned.toArray }
  heap := heap
  slotsUsed := slotsUsed
  threads := #[{ frames := .invoking theMethod args0 :: below }]
def below0 : List Frame := [.native { method := ⟨0, 0⟩, args := #[] }]
def about1 : State := aboutOver below0
def p0 : Program := .bare "" "" ""
def e0 : Env := launch0.env 0 0 0
theorem w_frames : about1.frames = Frame.invoking theMethod args0 :: below0 := rfl
set_option maxRecDepth 65536 in
theorem w_args : argsFit about1.vm theMethod args0 = true := by decide +kernel
set_option maxRecDepth 65536 in
theorem w_heap : heapFits about1 = true := by decide +kernel
set_option maxRecDepth 65536 in
theorem w_runnable : about1.curStatus? = some .runnable := by decide +kernel
set_option maxRecDepth 65536 in
theorem w_alone : about1.alone = true := by decide +kernel
set_option maxRecDepth 65536 in
theorem w_named : about1.methodNamed? x = some theMethod := by decide +kernel
set_option maxRecDepth 65536 in
theorem w_hears : about1.hears theMethod below0 = true := by decide +kernel
set_option maxRecDepth 65536 in
theorem w_ripe : about1.ripe theMethod args0 below0 = true := by decide +kernel
theorem w_running : about1.status = .running := rfl
set_option maxRecDepth 65536 in
theorem w_room : about1.hasRoom e0.platform room_1 = true :=
  launch0.hasRoom_least _ room_1 (by decide +kernel) (by decide +kernel) (by decide +kernel) (by decide +kernel) (by decide +kernel) (by decide +kernel)
theorem allAtoms_all (ts : List Jvm.Cond) (a : Array Jvm.Value) (st : Jvm.State) : (allAtoms ts).before a st = ts.all (fun c => c.before a st) := by
  induction ts with
  | nil => rfl
  | cons c t ih =>
    show (Jvm.Cond.and c (allAtoms t)).before a st = _
    rw [Jvm.Cond.before_and, ih, List.all_cons]
def words1 : List Jvm.Cond := Jvm.Cond.code x code maxLocals ret :: tables_1
/-- a 'code' word, met by the world's own term for the bytes: nothing is compared byte by byte -/
theorem code_word {y : MethodName} {bytes : ByteArray} {mx : Nat} {rt : Option FieldType} {a : Array Value} {s : State} {m : MethodId} {meth : Method} {c : Code} (h1 : s.methodNamed? y = some m) (h2 : s.vm.method? m = some meth) (h3 : meth.code = some c) (h4 : c.code = bytes)
    (h5 : (c.maxLocals == mx && c.exceptionTable.isEmpty && decide (c.maxStack ≤ mostOperands) && decide (meth.sig.returnType = rt) && !meth.locks && decide (parseMethodDescriptor y.desc = some meth.sig)) = true) : (Jvm.Cond.code y bytes mx rt).before a s = true := by
  simp only [Bool.and_eq_true, beq_iff_eq, Bool.not_eq_true', decide_eq_true_eq] at h5
  obtain ⟨⟨⟨⟨⟨g1, g2⟩, g3⟩, g4⟩, g5⟩, g6⟩ := h5
  simp [Cond.before, Cond.holds, Cond.value, h1, h2, h3, h4, g1, g2, g3, g4, g5, g6]
def isCode : Jvm.Cond → Bool
  | .code _ _ _ _ => true
  | _ => false
theorem all_split {L : List Jvm.Cond} {P : Jvm.Cond → Bool} (h1 : L.all (fun c => isCode c || P c) = true) (h2 : ∀ c ∈ L.filter isCode, P c = true) : L.all P = true := by
  refine List.all_eq_true.mpr fun c hc => ?_
  have h := List.all_eq_true.mp h1 c hc
  rcases Bool.eq_false_or_eq_true (isCode c) with hi | hi
  · exact h2 c (List.mem_filter.mpr ⟨hc, hi⟩)
  · simpa [hi] using h
set_option maxRecDepth 65536 in
theorem w_c0 : (Jvm.Cond.code x code maxLocals ret).before args0 about1 = true := code_word (m := ⟨1, 3⟩) (meth := k1m3) (c := k1c3) (by decide +kernel) rfl rfl rfl (by decide +kernel)
set_option maxRecDepth 65536 in
theorem w_c1 : (Jvm.Cond.code ({ cls := "com/example/octroi/octroi/model/BehaviourAnswersPinLaw", name := "createOf", desc := "(I)Lcom/example/octroi/octroi/model/ResultCode;" } : Jvm.MethodName) method_2_code (1 : Nat) (Option.some (Jvm.ClassFile.FieldType.object "com/example/octroi/octroi/model/ResultCode"))).before args0 about1 = true := code_word (m := ⟨1, 1⟩) (meth := k1m1) (c := k1c1) (by decide +kernel) rfl rfl rfl (by decide +kernel)
set_option maxRecDepth 65536 in
theorem w_c2 : (Jvm.Cond.code ({ cls := "com/example/octroi/octroi/model/BehaviourAnswersPinLaw", name := "settleOf", desc := "(I)Lcom/example/octroi/octroi/model/ResultCode;" } : Jvm.MethodName) method_3_code (1 : Nat) (Option.some (Jvm.ClassFile.FieldType.object "com/example/octroi/octroi/model/ResultCode"))).before args0 about1 = true := code_word (m := ⟨1, 2⟩) (meth := k1m2) (c := k1c2) (by decide +kernel) rfl rfl rfl (by decide +kernel)
set_option maxRecDepth 65536 in
theorem w_c3 : (Jvm.Cond.code ({ cls := "com/example/octroi/octroi/model/Behaviour", name := "<init>", desc := "(Lcom/example/octroi/octroi/model/ResultCode;ILcom/example/octroi/octroi/model/ResultCode;I)V" } : Jvm.MethodName) prog_26_method_1_code (5 : Nat) (Option.none : Option Jvm.ClassFile.FieldType)).before args0 about1 = true := code_word (m := ⟨3, 0⟩) (meth := k3m0) (c := k3c0) (by decide +kernel) rfl rfl rfl (by decide +kernel)
set_option maxRecDepth 65536 in
theorem w_c4 : (Jvm.Cond.code ({ cls := "java/lang/Record", name := "<init>", desc := "()V" } : Jvm.MethodName) jdk_30_method_1_code (1 : Nat) (Option.none : Option Jvm.ClassFile.FieldType)).before args0 about1 = true := code_word (m := ⟨2, 0⟩) (meth := k2m0) (c := k2c0) (by decide +kernel) rfl rfl rfl (by decide +kernel)
set_option maxRecDepth 65536 in
theorem w_c5 : (Jvm.Cond.code ({ cls := "java/lang/Object", name := "<init>", desc := "()V" } : Jvm.MethodName) object_method_1_code (1 : Nat) (Option.none : Option Jvm.ClassFile.FieldType)).before args0 about1 = true := code_word (m := ⟨0, 0⟩) (meth := k0m0) (c := k0c0) (by decide +kernel) rfl rfl rfl (by decide +kernel)
set_option maxRecDepth 65536 in
theorem w_c6 : (Jvm.Cond.code ({ cls := "com/example/octroi/octroi/model/Behaviour", name := "answers", desc := "(J)Z" } : Jvm.MethodName) prog_26_method_2_code (3 : Nat) (Option.some Jvm.ClassFile.FieldType.boolean)).before args0 about1 = true := code_word (m := ⟨3, 1⟩) (meth := k3m1) (c := k3c1) (by decide +kernel) rfl rfl rfl (by decide +kernel)
def codes1 : List Jvm.Cond := [Jvm.Cond.code x code maxLocals ret, Jvm.Cond.code ({ cls := "com/example/octroi/octroi/model/BehaviourAnswersPinLaw", name := "createOf", desc := "(I)Lcom/example/octroi/octroi/model/ResultCode;" } : Jvm.MethodName) method_2_code (1 : Nat) (Option.some (Jvm.ClassFile.FieldType.object "com/example/octroi/octroi/model/ResultCode")), Jvm.Cond.code ({ cls := "com/example/octroi/octroi/model/BehaviourAnswersPinLaw", name := "settleOf", desc := "(I)Lcom/example/octroi/octroi/model/ResultCode;" } : Jvm.MethodName) method_3_code (1 : Nat) (Option.some (Jvm.ClassFile.FieldType.object "com/example/octroi/octroi/model/ResultCode")), Jvm.Cond.code ({ cls := "com/example/octroi/octroi/model/Behaviour", name := "<init>", desc := "(Lcom/example/octroi/octroi/model/ResultCode;ILcom/example/octroi/octroi/model/ResultCode;I)V" } : Jvm.MethodName) prog_26_method_1_code (5 : Nat) (Option.none : Option Jvm.ClassFile.FieldType), Jvm.Cond.code ({ cls := "java/lang/Record", name := "<init>", desc := "()V" } : Jvm.MethodName) jdk_30_method_1_code (1 : Nat) (Option.none : Option Jvm.ClassFile.FieldType), Jvm.Cond.code ({ cls := "java/lang/Object", name := "<init>", desc := "()V" } : Jvm.MethodName) object_method_1_code (1 : Nat) (Option.none : Option Jvm.ClassFile.FieldType), Jvm.Cond.code ({ cls := "com/example/octroi/octroi/model/Behaviour", name := "answers", desc := "(J)Z" } : Jvm.MethodName) prog_26_method_2_code (3 : Nat) (Option.some Jvm.ClassFile.FieldType.boolean)]
set_option maxRecDepth 65536 in
theorem codes_eq : words1.filter isCode = codes1 := rfl
theorem w_codes : ∀ c ∈ words1.filter isCode, c.before args0 about1 = true := by
  rw [codes_eq]
  intro c hc
  simp only [codes1, List.mem_cons, List.not_mem_nil, or_false] at hc
  rcases hc with rfl | rfl | rfl | rfl | rfl | rfl | rfl
  · exact w_c0
  · exact w_c1
  · exact w_c2
  · exact w_c3
  · exact w_c4
  · exact w_c5
  · exact w_c6
set_option maxRecDepth 65536 in
theorem w_t1 : (words1.take 24).all (fun c => isCode c || c.before args0 about1) = true := by decide +kernel
set_option maxRecDepth 65536 in
theorem w_t2 : (words1.drop 24).all (fun c => isCode c || c.before args0 about1) = true := by decide +kernel
theorem w_tables : (allAtoms (Jvm.Cond.code x code maxLocals ret :: tables_1)).before args0 about1 = true := by
  rw [allAtoms_all]
  show words1.all (fun c => c.before args0 about1) = true
  refine all_split ?_ w_codes
  rw [← List.take_append_drop 24 words1, List.all_append, w_t1, w_t2]
  rfl
set_option maxRecDepth 65536 in
theorem w_case : (Jvm.Cond.and given_1 narrow_1).before args0 about1 = true := by decide +kernel
theorem w_applies : (headSpec (Jvm.Cond.code x code maxLocals ret :: tables_1) room_1).applies x e0.platform about1 = true :=
  (Spec.applies_iff w_frames).mpr ⟨w_running, w_runnable, w_alone, w_named, w_hears, w_ripe, w_room, w_tables⟩
theorem atStart : AtStart classFile x code maxLocals ret World_1 tables_1 room_1 Calls_1 rest_1 Pre_1 launch0 p0 e0 about1 theMethod args0 below0 :=
  ⟨lists_1, trivial, launch0.admits_env _ _ _, launch0.least_env, fairChoices_fair.cas, fairChoices_fair.clock, w_frames, w_args, w_heap, w_applies, trivial, trivial, w_case⟩
end start1
theorem witness_1 : WitnessClaimed_1 := ⟨start1.p0, start1.e0, start1.about1, start1.theMethod, start1.args0, start1.below0, start1.atStart⟩
end Jvm.Pilot.@@N@@
