import JvmDerived
import JvmDerived.Pilot.@@N@@Statement
import JvmDerived.Pilot.@@N@@Code
set_option linter.unusedVariables false
set_option linter.unusedSimpArgs false
@@BLOCK:NumsL.lean.txt@@
namespace Jvm.Pilot.@@N@@
open Jvm Jvm.ClassFile Sem Op Lib Jvm.Free Jvm.Stand Jvm.LawKit Jvm.RoadKit Bundle Jvm.Pilot.@@N@@.Jvm.D
theorem own_ne {k : Int32} {n : Int} (z : Int32) (hl : z.toInt = n) (h : ¬ k = z) : n ≠ k.toInt := fun e => h (Int32.toInt_inj.mp (by rw [hl]; exact e.symm))
theorem own_ext {Z : State} {n0 : Nat} {h : Heap} (O : Old Z n0 h) : Ext Z.heap h := O.2
theorem own_sz {Z : State} {n0 : Nat} {h : Heap} (O : Old Z n0 h) : n0 ≤ h.size := by have := O.2.1; rw [O.1] at this; exact this
def own_Ends (p : Program) (e : Env) (below : List Frame) (s : State) (Q : Option Value → Heap → List Loc → Prop) (k n : Nat) (A : State) : Prop :=
  ∃ (U : State) (o : Outcome), Steps p.tables e below A U ∧ U.status = .running ∧ Ended U below o ∧ ∃ v L, o = .returned v ∧ Q v U.heap L ∧ FrameEnd s o U L k n
section OwnKit
variable {p : Program} {l : Launch} {e : Env} {R : Room} {s : State} {m : MethodId} {args : Array Value} {below : List Frame} {meth : Method} {c : Code} {T : State} {locs : List Loc} {cells slots k n : Nat} {Q : Option Value → Heap → List Loc → Prop} {A B : State}
theorem own_go (h : ∀ t, Steps p.tables e below B t → Steps p.tables e below A t) (K : own_Ends p e below s Q k n B) : own_Ends p e below s Q k n A := by
  obtain ⟨U, o, h1, r⟩ := K
  exact ⟨U, o, h U h1, r⟩
theorem own_ret (X : Stand p l e R s m args below meth c T locs cells slots) (hx : p.tables.exec = Jvm.exec) (hlk : meth.locks = false) {pc : Nat} {Ls : Array Slot} {w : Value} {t : FieldType} {i : Instr} {rest : List Value} (hret : meth.sig.returnType = some t) (hn : narrow t w = w)
    (hi : (i = .ireturn ∧ (t = .int ∨ t = .boolean ∨ t = .byte ∨ t = .char ∨ t = .short) ∧ ∃ z, w = .int z) ∨ (i = .lreturn ∧ t = .long ∧ ∃ z, w = .long z) ∨ (i = .dreturn ∧ t = .double ∧ ∃ z, w = .double z) ∨ (i = .freturn ∧ t = .float ∧ ∃ z, w = .float z) ∨ (i = .areturn ∧ t.isReference = true ∧ w.isRef = true))
    (hd : decode c.code pc = .ok (i, 1)) (hk : cells ≤ k) (hs : slots ≤ n) (hQ : Q (some w) T.heap locs) : own_Ends p e below s Q k n (T.setTop (mkF m pc Ls (w :: rest))) := by
  obtain ⟨fs, hr, hrun, hended, hW, hsame⟩ := X.leave (v := some w) (fun h => by rw [hret] at h; cases h) hlk
  exact ⟨_, _, retOut X hx hret hn hi hd hr, hrun, hended, _, _, rfl, hQ, ⟨_, rfl⟩, hW, hsame.mono hk hs⟩
theorem own_retI (X : Stand p l e R s m args below meth c T locs cells slots) (hx : p.tables.exec = Jvm.exec) (hlk : meth.locks = false) {pc : Nat} {Ls : Array Slot} {z : Int32} {rest : List Value} (hret : meth.sig.returnType = some .int) (hd : decode c.code pc = .ok (.ireturn, 1)) (hk : cells ≤ k) (hs : slots ≤ n) (hQ : Q (some (.int z)) T.heap locs) : own_Ends p e below s Q k n (T.setTop (mkF m pc Ls (.int z :: rest))) :=
  own_ret X hx hlk hret rfl (Or.inl ⟨rfl, Or.inl rfl, _, rfl⟩) hd hk hs hQ
theorem own_retJ (X : Stand p l e R s m args below meth c T locs cells slots) (hx : p.tables.exec = Jvm.exec) (hlk : meth.locks = false) {pc : Nat} {Ls : Array Slot} {z : Int64} {rest : List Value} (hret : meth.sig.returnType = some .long) (hd : decode c.code pc = .ok (.lreturn, 1)) (hk : cells ≤ k) (hs : slots ≤ n) (hQ : Q (some (.long z)) T.heap locs) : own_Ends p e below s Q k n (T.setTop (mkF m pc Ls (.long z :: rest))) :=
  own_ret X hx hlk hret rfl (Or.inr (Or.inl ⟨rfl, rfl, _, rfl⟩)) hd hk hs hQ
theorem own_retD (X : Stand p l e R s m args below meth c T locs cells slots) (hx : p.tables.exec = Jvm.exec) (hlk : meth.locks = false) {pc : Nat} {Ls : Array Slot} {z : UInt64} {rest : List Value} (hret : meth.sig.returnType = some .double) (hd : decode c.code pc = .ok (.dreturn, 1)) (hk : cells ≤ k) (hs : slots ≤ n) (hQ : Q (some (.double z)) T.heap locs) : own_Ends p e below s Q k n (T.setTop (mkF m pc Ls (.double z :: rest))) :=
  own_ret X hx hlk hret rfl (Or.inr (Or.inr (Or.inl ⟨rfl, rfl, _, rfl⟩))) hd hk hs hQ
theorem own_retA (X : Stand p l e R s m args below meth c T locs cells slots) (hx : p.tables.exec = Jvm.exec) (hlk : meth.locks = false) {pc : Nat} {Ls : Array Slot} {w : Value} {t : FieldType} {rest : List Value} (hret : meth.sig.returnType = some t) (ht : t.isReference = true) (hw : w.isRef = true) (hn : narrow t w = w) (hd : decode c.code pc = .ok (.areturn, 1)) (hk : cells ≤ k) (hs : slots ≤ n) (hQ : Q (some w) T.heap locs) : own_Ends p e below s Q k n (T.setTop (mkF m pc Ls (w :: rest))) :=
  own_ret X hx hlk hret hn (Or.inr (Or.inr (Or.inr (Or.inr ⟨rfl, ht, hw⟩)))) hd hk hs hQ
theorem own_retN (X : Stand p l e R s m args below meth c T locs cells slots) (hx : p.tables.exec = Jvm.exec) (hlk : meth.locks = false) {pc : Nat} {Ls : Array Slot} {z : Int32} {t : FieldType} {rest : List Value} (hret : meth.sig.returnType = some t) (ht : t = .boolean ∨ t = .byte ∨ t = .char ∨ t = .short) (hd : decode c.code pc = .ok (.ireturn, 1)) (hk : cells ≤ k) (hs : slots ≤ n) (hQ : Q (some (.int (nar t z))) T.heap locs) : own_Ends p e below s Q k n (T.setTop (mkF m pc Ls (.int z :: rest))) := by
  obtain ⟨fs, hr, hrun, hended, hW, hsame⟩ := X.leave (v := some (.int (nar t z))) (fun h => by rw [hret] at h; cases h) hlk
  exact ⟨_, _, retN X hx hret ht hd hr, hrun, hended, _, _, rfl, hQ, ⟨_, rfl⟩, hW, hsame.mono hk hs⟩
theorem own_retV (X : Stand p l e R s m args below meth c T locs cells slots) (hx : p.tables.exec = Jvm.exec) (hlk : meth.locks = false) {pc : Nat} {Ls : Array Slot} (hret : meth.sig.returnType = none) (hd : decode c.code pc = .ok (.return_, 1)) (hk : cells ≤ k) (hs : slots ≤ n) (hQ : Q none T.heap locs) : own_Ends p e below s Q k n (T.setTop (mkF m pc Ls [])) := by
  obtain ⟨fs, hr, hrun, hended, hW, hsame⟩ := X.leave (v := none) (fun _ => rfl) hlk
  exact ⟨_, _, X.returnOut hx hret hd hr, hrun, hended, _, _, rfl, hQ, ⟨_, rfl⟩, hW, hsame.mono hk hs⟩
end OwnKit
theorem d2_0 : decode jdk_30_method_1_code 0 = .ok (.aload_n 0, 1) := by decide +kernel
theorem d2_1 : decode jdk_30_method_1_code 1 = .ok (.invokespecial 1, 3) := by decide +kernel
theorem d2_4 : decode jdk_30_method_1_code 4 = .ok (.return_, 1) := by decide +kernel
theorem pn2 : plainName "java/lang/Record" = true := by first | (simp [plainName, overriddenIn]; done) | decide +kernel
theorem ef2 (m : MethodId) (a0 : Addr) : entryFrame m #[(.ref a0)] 1 = mkF m 0 #[.val (.ref a0)] [] := by first | (simp [entryFrame, mkF, argsToLocals, Value.category]; done) | rfl
def Q2 (Z : State) (a0 : Addr) (h0 : Heap) (n0 : Nat) (v : Option Value) (h : Heap) (L : List Loc) : Prop := v = none ∧ Fr n0 L ∧ h = h0
set_option maxRecDepth 65536 in
set_option maxHeartbeats 40000000 in
theorem rm2 (l : Launch) (Z : State) (ar : Array Value) (hw : ∀ d ∈ tables_1, d.before ar Z = true) (ws : List Jvm.Cond) (a0 : Addr) (h0 : Heap) (n0 : Nat) (O0 : Old Z n0 h0) :
    MetFree l (⟨"java/lang/Record", "<init>", "()V"⟩ : MethodName) (head1 (Jvm.Cond.code (⟨"java/lang/Record", "<init>", "()V"⟩ : MethodName) jdk_30_method_1_code 1 none :: ws) ({ frames := 1, cells := 0, slots := 0, locals := 12 } : Room)) (fun a U => a = #[(.ref a0)] ∧ Z.Warmed39 U.vm ∧ U.heap = h0) (fun _ _ _ _ _ => True) (fun _ U o U' => ∃ v L, o = .returned v ∧ Q2 Z a0 h0 n0 v U'.heap L ∧ FrameEnd U o U' L ({ frames := 1, cells := 0, slots := 0, locals := 12 } : Room).cells ({ frames := 1, cells := 0, slots := 0, locals := 12 } : Room).slots) := by
  refine MetFree.of_bodySF (plainFor_of_name pn2) hisR ?_
  intro p e s m args below meth c s₁ Bd hml0 hP hK
  obtain ⟨rfl, hZ, hh⟩ := hP
  have hx := Bd.exec
  have hby := Bd.bytes
  have hml : c.maxLocals = 1 := hml0
  have hown : s.vm.findClass "java/lang/Record" = some m.cls := findClass_of_methodNamed Bd.named
  have hnm := (name_of_methodNamed Bd.named Bd.method).1
  have hlk : meth.locks = false := BodyLoose.notSynchronized Bd
  have X0 : Stand p l e ({ frames := 1, cells := 0, slots := 0, locals := 12 } : Room) s m #[(.ref a0)] below meth c s₁ [] 0 0 := Stand.of_body Bd
  have e0 : s₁.heap = h0 := by rw [← hh, Bd.state]; rfl
  have N0 := Fr.nil n0
  suffices hmain : own_Ends p e below s (Q2 Z a0 h0 n0) 0 0 (s₁.setTop (mkF m 0 #[.val (.ref a0)] [])) by
    obtain ⟨U, o, h1, r⟩ := hmain
    exact ⟨U, o, castTop (ef2 m a0) h1, r⟩
  show own_Ends _ _ _ _ _ _ _ (s₁.setTop (mkF m 0 #[.val (.ref a0)] []))
  refine own_go (fun _ k => XS.aloadN X0.here hx rfl (hb hby d2_0) rfl rfl k) ?_
  show own_Ends _ _ _ _ _ _ _ (s₁.setTop (mkF m 1 #[.val (.ref a0)] [(.ref a0)]))
  obtain ⟨T1, X1, e1, st1⟩ := initO X0 hx hZ hown (hw _ (List.mem_of_getElem? (i := 11) rfl)) (hw _ (List.mem_of_getElem? (i := 12) rfl)) (hw _ (List.mem_of_getElem? (i := 13) rfl)) e0 (g := (mkF m 1 #[.val (.ref a0)] [(.ref a0)])) rfl (by rw [hml]; rfl) rfl (hb hby d2_1) (by decide) (W := 0) (by show 2 * 0 + _ ≤ _; exact Nat.le_of_eq rfl) (by decide)
  refine own_go (fun _ k => st1 _ k) ?_
  show own_Ends _ _ _ _ _ _ _ (T1.setTop (mkF m 4 #[.val (.ref a0)] []))
  exact own_retV X1 hx hlk Bd.returns (hb hby d2_4) (by decide) (by decide) ⟨rfl, N0, e1⟩
theorem d1_0 : decode prog_1_method_1_code 0 = .ok (.aload_n 0, 1) := by decide +kernel
theorem d1_1 : decode prog_1_method_1_code 1 = .ok (.invokespecial 1, 3) := by decide +kernel
theorem d1_4 : decode prog_1_method_1_code 4 = .ok (.iload_n 1, 1) := by decide +kernel
theorem d1_5 : decode prog_1_method_1_code 5 = .ok (.iconst 1, 1) := by decide +kernel
theorem d1_6 : decode prog_1_method_1_code 6 = .ok (.if_icmp .ge 17, 3) := by decide +kernel
theorem d1_23 : decode prog_1_method_1_code 23 = .ok (.iload_n 2, 1) := by decide +kernel
theorem d1_24 : decode prog_1_method_1_code 24 = .ok (.iconst 1, 1) := by decide +kernel
theorem d1_25 : decode prog_1_method_1_code 25 = .ok (.if_icmp .ge 17, 3) := by decide +kernel
theorem d1_42 : decode prog_1_method_1_code 42 = .ok (.aload_n 0, 1) := by decide +kernel
theorem d1_43 : decode prog_1_method_1_code 43 = .ok (.iload_n 1, 1) := by decide +kernel
theorem d1_44 : decode prog_1_method_1_code 44 = .ok (.putfield 17, 3) := by decide +kernel
theorem d1_47 : decode prog_1_method_1_code 47 = .ok (.aload_n 0, 1) := by decide +kernel
theorem d1_48 : decode prog_1_method_1_code 48 = .ok (.iload_n 2, 1) := by decide +kernel
theorem d1_49 : decode prog_1_method_1_code 49 = .ok (.putfield 23, 3) := by decide +kernel
theorem d1_52 : decode prog_1_method_1_code 52 = .ok (.return_, 1) := by decide +kernel
theorem pn1 : plainName "com/example/cumaea/cumaea/ArbitraryPassages" = true := by first | (simp [plainName, overriddenIn]; done) | decide +kernel
theorem pd1_0 : parseMethodDescriptor "()V" = some ⟨[], none⟩ := by decide +kernel
theorem ef1 (m : MethodId) (a0 : Addr) (p1 : Int32) (p2 : Int32) : entryFrame m #[(.ref a0), (.int p1), (.int p2)] 3 = mkF m 0 #[.val (.ref a0), .val (.int p1), .val (.int p2)] [] := by first | (simp [entryFrame, mkF, argsToLocals, Value.category]; done) | rfl
def Q1 (Z : State) (a0 : Addr) (p1 : Int32) (p2 : Int32) (u_width_a0 : Value) (u_step_a0 : Value) (h0 : Heap) (n0 : Nat) (v : Option Value) (h : Heap) (L : List Loc) : Prop := v = none ∧ Fr n0 L ∧ Keep h0 h [a0] ∧ Exa Z h a0 "com/example/cumaea/cumaea/ArbitraryPassages" ∧ Fld Z h a0 "com/example/cumaea/cumaea/ArbitraryPassages" "width" "I" (.int p1) ∧ Fld Z h a0 "com/example/cumaea/cumaea/ArbitraryPassages" "step" "I" (.int p2)
set_option maxRecDepth 65536 in
set_option maxHeartbeats 40000000 in
theorem rm1 (l : Launch) (Z : State) (ar : Array Value) (hw : ∀ d ∈ tables_1, d.before ar Z = true) (ws : List Jvm.Cond) (a0 : Addr) (p1 : Int32) (p2 : Int32) (u_width_a0 : Value) (u_step_a0 : Value) (h0 : Heap) (n0 : Nat) (O0 : Old Z n0 h0) (E_a0 : Exa Z h0 a0 "com/example/cumaea/cumaea/ArbitraryPassages") (g_a0 : n0 ≤ a0) (F_width_a0 : Fld Z h0 a0 "com/example/cumaea/cumaea/ArbitraryPassages" "width" "I" u_width_a0) (F_step_a0 : Fld Z h0 a0 "com/example/cumaea/cumaea/ArbitraryPassages" "step" "I" u_step_a0) (hp1 : ¬ p1 < (1 : Int32)) (hp2 : ¬ p2 < (1 : Int32)) :
    MetFree l (⟨"com/example/cumaea/cumaea/ArbitraryPassages", "<init>", "(II)V"⟩ : MethodName) (head1 (Jvm.Cond.code (⟨"com/example/cumaea/cumaea/ArbitraryPassages", "<init>", "(II)V"⟩ : MethodName) prog_1_method_1_code 3 none :: ws) ({ frames := 2, cells := 0, slots := 0, locals := 24 } : Room)) (fun a U => a = #[(.ref a0), (.int p1), (.int p2)] ∧ Z.Warmed39 U.vm ∧ U.heap = h0) (fun _ _ _ _ _ => True) (fun _ U o U' => ∃ v L, o = .returned v ∧ Q1 Z a0 p1 p2 u_width_a0 u_step_a0 h0 n0 v U'.heap L ∧ FrameEnd U o U' L ({ frames := 2, cells := 0, slots := 0, locals := 24 } : Room).cells ({ frames := 2, cells := 0, slots := 0, locals := 24 } : Room).slots) := by
  refine MetFree.of_bodySF (plainFor_of_name pn1) hisR ?_
  intro p e s m args below meth c s₁ Bd hml0 hP hK
  obtain ⟨rfl, hZ, hh⟩ := hP
  have hx := Bd.exec
  have hby := Bd.bytes
  have hml : c.maxLocals = 3 := hml0
  have hown : s.vm.findClass "com/example/cumaea/cumaea/ArbitraryPassages" = some m.cls := findClass_of_methodNamed Bd.named
  have hnm := (name_of_methodNamed Bd.named Bd.method).1
  have hlk : meth.locks = false := BodyLoose.notSynchronized Bd
  have X0 : Stand p l e ({ frames := 2, cells := 0, slots := 0, locals := 24 } : Room) s m #[(.ref a0), (.int p1), (.int p2)] below meth c s₁ [] 0 0 := Stand.of_body Bd
  have e0 : s₁.heap = h0 := by rw [← hh, Bd.state]; rfl
  have N0 := Fr.nil n0
  suffices hmain : own_Ends p e below s (Q1 Z a0 p1 p2 u_width_a0 u_step_a0 h0 n0) 0 0 (s₁.setTop (mkF m 0 #[.val (.ref a0), .val (.int p1), .val (.int p2)] [])) by
    obtain ⟨U, o, h1, r⟩ := hmain
    exact ⟨U, o, castTop (ef1 m a0 p1 p2) h1, r⟩
  show own_Ends _ _ _ _ _ _ _ (s₁.setTop (mkF m 0 #[.val (.ref a0), .val (.int p1), .val (.int p2)] []))
  refine own_go (fun _ k => XS.aloadN X0.here hx rfl (hb hby d1_0) rfl rfl k) ?_
  show own_Ends _ _ _ _ _ _ _ (s₁.setTop (mkF m 1 #[.val (.ref a0), .val (.int p1), .val (.int p2)] [(.ref a0)]))
  obtain ⟨_, _, ⟨T1, L1, k1, n1⟩, -, X1, ⟨Lc1, hQ1, l1, y1, z1⟩, st1⟩ := X0.specialBack hx (y := (⟨"java/lang/Record", "<init>", "()V"⟩ : MethodName)) rfl hown (mvT hZ (hw _ (List.mem_of_getElem? (i := 6) rfl))) (mvT hZ (hw _ (List.mem_of_getElem? (i := 7) rfl))) (mvT hZ (hw _ (List.mem_of_getElem? (i := 10) rfl))) (by decide) (backOf (W := 0) (rm2 l Z ar hw [] a0 h0 n0 O0) hZ (hw _ (List.mem_of_getElem? (i := 10) rfl)) (hw _ (List.mem_of_getElem? (i := 9) rfl)) (by decide) (by decide)) (g := (mkF m 1 #[.val (.ref a0), .val (.int p1), .val (.int p2)] [(.ref a0)])) rfl (by rw [hml]; rfl) (Steps.refl _) (a := a0) (argsL := []) (rest := []) (lenOf pd1_0 rfl) rfl (by show 2 * 0 + _ ≤ _; exact Nat.le_of_eq rfl) (hb hby d1_1) (fun _ _ => ⟨rfl, e0, (by decide : 0 + 0 ≤ _), (by decide : 0 + 0 ≤ _)⟩)
  dsimp only [Pt.U, Pt.locs, Pt.cells, Pt.slots] at X1 l1 y1 z1 st1 hQ1
  subst l1 y1 z1
  obtain ⟨rfl, N1q, eq1⟩ := hQ1
  have e1 : T1.heap = h0 := eq1
  have N1 := Fr.app N0 N1q
  refine own_go (fun _ k => st1.trans k) ?_
  show own_Ends _ _ _ _ _ _ _ (T1.setTop (mkF m 4 #[.val (.ref a0), .val (.int p1), .val (.int p2)] []))
  refine own_go (fun _ k => XS.iloadN X1.here hx rfl (hb hby d1_4) rfl k) ?_
  show own_Ends _ _ _ _ _ _ _ (T1.setTop (mkF m 5 #[.val (.ref a0), .val (.int p1), .val (.int p2)] [(.int p1)]))
  refine own_go (fun _ k => XS.iconst X1.here hx rfl (hb hby d1_5) k) ?_
  show own_Ends _ _ _ _ _ _ _ (T1.setTop (mkF m 6 #[.val (.ref a0), .val (.int p1), .val (.int p2)] [(.int (1 : Int32)), (.int p1)]))
  refine own_go (fun _ k => XS.icmpYes X1.here hx rfl (pc0 := 6) (pc' := 23) rfl (hb hby d1_6) rfl (flt hp1).2.1 (by decide) (by decide) k) ?_
  show own_Ends _ _ _ _ _ _ _ (T1.setTop (mkF m 23 #[.val (.ref a0), .val (.int p1), .val (.int p2)] []))
  refine own_go (fun _ k => XS.iloadN X1.here hx rfl (hb hby d1_23) rfl k) ?_
  show own_Ends _ _ _ _ _ _ _ (T1.setTop (mkF m 24 #[.val (.ref a0), .val (.int p1), .val (.int p2)] [(.int p2)]))
  refine own_go (fun _ k => XS.iconst X1.here hx rfl (hb hby d1_24) k) ?_
  show own_Ends _ _ _ _ _ _ _ (T1.setTop (mkF m 25 #[.val (.ref a0), .val (.int p1), .val (.int p2)] [(.int (1 : Int32)), (.int p2)]))
  refine own_go (fun _ k => XS.icmpYes X1.here hx rfl (pc0 := 25) (pc' := 42) rfl (hb hby d1_25) rfl (flt hp2).2.1 (by decide) (by decide) k) ?_
  show own_Ends _ _ _ _ _ _ _ (T1.setTop (mkF m 42 #[.val (.ref a0), .val (.int p1), .val (.int p2)] []))
  refine own_go (fun _ k => XS.aloadN X1.here hx rfl (hb hby d1_42) rfl rfl k) ?_
  show own_Ends _ _ _ _ _ _ _ (T1.setTop (mkF m 43 #[.val (.ref a0), .val (.int p1), .val (.int p2)] [(.ref a0)]))
  refine own_go (fun _ k => XS.iloadN X1.here hx rfl (hb hby d1_43) rfl k) ?_
  show own_Ends _ _ _ _ _ _ _ (T1.setTop (mkF m 44 #[.val (.ref a0), .val (.int p1), .val (.int p2)] [(.int p1), (.ref a0)]))
  obtain ⟨T2, h2, X2, e2, W2, st2⟩ := putF X1 hx hZ hown (host := "") (Or.inl (hw _ (List.mem_of_getElem? (i := 14) rfl))) Via.refl e1 F_width_a0 E_a0 (Or.inr ⟨(hw _ (List.mem_of_getElem? (i := 15) rfl)), rfl, hnm⟩) (hw _ (List.mem_of_getElem? (i := 1) rfl)) (ty := .int) (by decide) rfl rfl (g := (mkF m 44 #[.val (.ref a0), .val (.int p1), .val (.int p2)] [(.int p1), (.ref a0)])) rfl rfl (hb hby d1_44)
  refine own_go (fun _ k => st2 _ k) ?_
  have N2 := Fr.snoc X2 N1 g_a0
  have F3 : Exa Z h2 a0 "com/example/cumaea/cumaea/ArbitraryPassages" := (Exa.wr W2 E_a0)
  have F4 : Fld Z h2 a0 "com/example/cumaea/cumaea/ArbitraryPassages" "step" "I" u_step_a0 := (Fld.other W2 F_step_a0 (Or.inr (slot_ne (Or.inr (hw _ (List.mem_of_getElem? (i := 17) rfl))) (Or.inr (hw _ (List.mem_of_getElem? (i := 15) rfl))) (by decide) (t := .int) (t' := .int) (by decide) (by decide))))
  have F5 : Old Z n0 h2 := (O0.wr W2 g_a0)
  have F6 : Fld Z h2 a0 "com/example/cumaea/cumaea/ArbitraryPassages" "width" "I" (.int p1) := Fld.same W2 F_width_a0
  have K7 : Keep h0 h2 [a0] := (Keep.refl h0 [a0]).wr W2 (Or.inl (List.mem_of_getElem? (i := 0) rfl))
  show own_Ends _ _ _ _ _ _ _ (T2.setTop (mkF m 47 #[.val (.ref a0), .val (.int p1), .val (.int p2)] []))
  refine own_go (fun _ k => XS.aloadN X2.here hx rfl (hb hby d1_47) rfl rfl k) ?_
  show own_Ends _ _ _ _ _ _ _ (T2.setTop (mkF m 48 #[.val (.ref a0), .val (.int p1), .val (.int p2)] [(.ref a0)]))
  refine own_go (fun _ k => XS.iloadN X2.here hx rfl (hb hby d1_48) rfl k) ?_
  show own_Ends _ _ _ _ _ _ _ (T2.setTop (mkF m 49 #[.val (.ref a0), .val (.int p1), .val (.int p2)] [(.int p2), (.ref a0)]))
  obtain ⟨T8, h8, X8, e8, W8, st8⟩ := putF X2 hx hZ hown (host := "") (Or.inl (hw _ (List.mem_of_getElem? (i := 16) rfl))) Via.refl e2 F4 F3 (Or.inr ⟨(hw _ (List.mem_of_getElem? (i := 17) rfl)), rfl, hnm⟩) (hw _ (List.mem_of_getElem? (i := 1) rfl)) (ty := .int) (by decide) rfl rfl (g := (mkF m 49 #[.val (.ref a0), .val (.int p1), .val (.int p2)] [(.int p2), (.ref a0)])) rfl rfl (hb hby d1_49)
  refine own_go (fun _ k => st8 _ k) ?_
  have N8 := Fr.snoc X8 N2 g_a0
  have F9 : Exa Z h8 a0 "com/example/cumaea/cumaea/ArbitraryPassages" := (Exa.wr W8 F3)
  have F10 : Fld Z h8 a0 "com/example/cumaea/cumaea/ArbitraryPassages" "width" "I" (.int p1) := (Fld.other W8 F6 (Or.inr (slot_ne (Or.inr (hw _ (List.mem_of_getElem? (i := 15) rfl))) (Or.inr (hw _ (List.mem_of_getElem? (i := 17) rfl))) (by decide) (t := .int) (t' := .int) (by decide) (by decide))))
  have F11 : Old Z n0 h8 := (F5.wr W8 g_a0)
  have F12 : Fld Z h8 a0 "com/example/cumaea/cumaea/ArbitraryPassages" "step" "I" (.int p2) := Fld.same W8 F4
  have K13 : Keep h0 h8 [a0] := K7.wr W8 (Or.inl (List.mem_of_getElem? (i := 0) rfl))
  show own_Ends _ _ _ _ _ _ _ (T8.setTop (mkF m 52 #[.val (.ref a0), .val (.int p1), .val (.int p2)] []))
  exact own_retV X8 hx hlk Bd.returns (hb hby d1_52) (by decide) (by decide) (by rw [e8]; exact ⟨rfl, N8, K13, F9, F10, F12⟩)
theorem d4_0 : decode prog_1_method_2_code 0 = .ok (.iconst 1, 1) := by decide +kernel
theorem d4_1 : decode prog_1_method_2_code 1 = .ok (.istore_n 2, 1) := by decide +kernel
theorem d4_2 : decode prog_1_method_2_code 2 = .ok (.iload_n 1, 1) := by decide +kernel
theorem d4_3 : decode prog_1_method_2_code 3 = .ok (.aload_n 0, 1) := by decide +kernel
theorem d4_4 : decode prog_1_method_2_code 4 = .ok (.getfield 17, 3) := by decide +kernel
theorem d4_7 : decode prog_1_method_2_code 7 = .ok (.if_icmp .le 38, 3) := by decide +kernel
theorem d4_10 : decode prog_1_method_2_code 10 = .ok (.iload_n 1, 1) := by decide +kernel
theorem d4_11 : decode prog_1_method_2_code 11 = .ok (.aload_n 0, 1) := by decide +kernel
theorem d4_12 : decode prog_1_method_2_code 12 = .ok (.getfield 17, 3) := by decide +kernel
theorem d4_15 : decode prog_1_method_2_code 15 = .ok (.isub, 1) := by decide +kernel
theorem d4_16 : decode prog_1_method_2_code 16 = .ok (.aload_n 0, 1) := by decide +kernel
theorem d4_17 : decode prog_1_method_2_code 17 = .ok (.getfield 23, 3) := by decide +kernel
theorem d4_20 : decode prog_1_method_2_code 20 = .ok (.idiv, 1) := by decide +kernel
theorem d4_21 : decode prog_1_method_2_code 21 = .ok (.istore_n 3, 1) := by decide +kernel
theorem d4_22 : decode prog_1_method_2_code 22 = .ok (.iload_n 3, 1) := by decide +kernel
theorem d4_23 : decode prog_1_method_2_code 23 = .ok (.iload_n 3, 1) := by decide +kernel
theorem d4_24 : decode prog_1_method_2_code 24 = .ok (.aload_n 0, 1) := by decide +kernel
theorem d4_25 : decode prog_1_method_2_code 25 = .ok (.getfield 23, 3) := by decide +kernel
theorem d4_28 : decode prog_1_method_2_code 28 = .ok (.imul, 1) := by decide +kernel
theorem d4_29 : decode prog_1_method_2_code 29 = .ok (.aload_n 0, 1) := by decide +kernel
theorem d4_30 : decode prog_1_method_2_code 30 = .ok (.getfield 17, 3) := by decide +kernel
theorem d4_33 : decode prog_1_method_2_code 33 = .ok (.iadd, 1) := by decide +kernel
theorem d4_34 : decode prog_1_method_2_code 34 = .ok (.iload_n 1, 1) := by decide +kernel
theorem d4_35 : decode prog_1_method_2_code 35 = .ok (.if_icmp .ge 7, 3) := by decide +kernel
theorem d4_38 : decode prog_1_method_2_code 38 = .ok (.iconst 2, 1) := by decide +kernel
theorem d4_39 : decode prog_1_method_2_code 39 = .ok (.goto 4, 3) := by decide +kernel
theorem d4_42 : decode prog_1_method_2_code 42 = .ok (.iconst 1, 1) := by decide +kernel
theorem d4_43 : decode prog_1_method_2_code 43 = .ok (.iadd, 1) := by decide +kernel
theorem d4_44 : decode prog_1_method_2_code 44 = .ok (.istore_n 2, 1) := by decide +kernel
theorem d4_45 : decode prog_1_method_2_code 45 = .ok (.iload_n 2, 1) := by decide +kernel
theorem d4_46 : decode prog_1_method_2_code 46 = .ok (.ireturn, 1) := by decide +kernel
theorem pn4 : plainName "com/example/cumaea/cumaea/ArbitraryPassages" = true := by first | (simp [plainName, overriddenIn]; done) | decide +kernel
theorem ef4 (m : MethodId) (a0 : Addr) (p1 : Int32) : entryFrame m #[(.ref a0), (.int p1)] 4 = mkF m 0 #[.val (.ref a0), .val (.int p1), .unset, .unset] [] := by first | (simp [entryFrame, mkF, argsToLocals, Value.category]; done) | rfl
def f4 (a0 : Addr) (p1 : Int32) (v_width_a0 : Int32) (v_step_a0 : Int32) : Int32 := (if v_width_a0 < p1 then (let z5 : Int32 := ((p1 - v_width_a0) / v_step_a0); (let z8 : Int32 := (if ((z5 * v_step_a0) + v_width_a0) < p1 then (2 : Int32) else (1 : Int32)); (z5 + z8))) else (1 : Int32))
def Q4 (Z : State) (a0 : Addr) (p1 : Int32) (v_width_a0 : Int32) (v_step_a0 : Int32) (h0 : Heap) (n0 : Nat) (v : Option Value) (h : Heap) (L : List Loc) : Prop := v = some (.int (f4 a0 p1 v_width_a0 v_step_a0)) ∧ Fr n0 L ∧ h = h0
set_option maxRecDepth 65536 in
set_option maxHeartbeats 40000000 in
theorem rm4 (l : Launch) (Z : State) (ar : Array Value) (hw : ∀ d ∈ tables_1, d.before ar Z = true) (ws : List Jvm.Cond) (a0 : Addr) (p1 : Int32) (v_width_a0 : Int32) (v_step_a0 : Int32) (h0 : Heap) (n0 : Nat) (O0 : Old Z n0 h0) (hs : ¬ v_step_a0 = (0 : Int32)) (F_width_a0 : Fld Z h0 a0 "com/example/cumaea/cumaea/ArbitraryPassages" "width" "I" (.int v_width_a0)) (F_step_a0 : Fld Z h0 a0 "com/example/cumaea/cumaea/ArbitraryPassages" "step" "I" (.int v_step_a0)) :
    MetFree l (⟨"com/example/cumaea/cumaea/ArbitraryPassages", "count", "(I)I"⟩ : MethodName) (head1 (Jvm.Cond.code (⟨"com/example/cumaea/cumaea/ArbitraryPassages", "count", "(I)I"⟩ : MethodName) prog_1_method_2_code 4 (some .int) :: ws) ({ frames := 0, cells := 0, slots := 0, locals := 0 } : Room)) (fun a U => a = #[(.ref a0), (.int p1)] ∧ Z.Warmed39 U.vm ∧ U.heap = h0) (fun _ _ _ _ _ => True) (fun _ U o U' => ∃ v L, o = .returned v ∧ Q4 Z a0 p1 v_width_a0 v_step_a0 h0 n0 v U'.heap L ∧ FrameEnd U o U' L ({ frames := 0, cells := 0, slots := 0, locals := 0 } : Room).cells ({ frames := 0, cells := 0, slots := 0, locals := 0 } : Room).slots) := by
  refine MetFree.of_bodySF (plainFor_of_name pn4) hisR ?_
  intro p e s m args below meth c s₁ Bd hml0 hP hK
  obtain ⟨rfl, hZ, hh⟩ := hP
  have hx := Bd.exec
  have hby := Bd.bytes
  have hml : c.maxLocals = 4 := hml0
  have hown : s.vm.findClass "com/example/cumaea/cumaea/ArbitraryPassages" = some m.cls := findClass_of_methodNamed Bd.named
  have hnm := (name_of_methodNamed Bd.named Bd.method).1
  have hlk : meth.locks = false := BodyLoose.notSynchronized Bd
  have X0 : Stand p l e ({ frames := 0, cells := 0, slots := 0, locals := 0 } : Room) s m #[(.ref a0), (.int p1)] below meth c s₁ [] 0 0 := Stand.of_body Bd
  have e0 : s₁.heap = h0 := by rw [← hh, Bd.state]; rfl
  have N0 := Fr.nil n0
  suffices hmain : own_Ends p e below s (Q4 Z a0 p1 v_width_a0 v_step_a0 h0 n0) 0 0 (s₁.setTop (mkF m 0 #[.val (.ref a0), .val (.int p1), .unset, .unset] [])) by
    obtain ⟨U, o, h1, r⟩ := hmain
    exact ⟨U, o, castTop (ef4 m a0 p1) h1, r⟩
  show own_Ends _ _ _ _ _ _ _ (s₁.setTop (mkF m 0 #[.val (.ref a0), .val (.int p1), .unset, .unset] []))
  refine own_go (fun _ k => XS.iconst X0.here hx rfl (hb hby d4_0) k) ?_
  show own_Ends _ _ _ _ _ _ _ (s₁.setTop (mkF m 1 #[.val (.ref a0), .val (.int p1), .unset, .unset] [(.int (1 : Int32))]))
  refine own_go (fun _ k => XS.istoreN X0.here hx rfl (hb hby d4_1) rfl (l' := #[.val (.ref a0), .val (.int p1), .val (.int (1 : Int32)), .unset]) rfl k) ?_
  show own_Ends _ _ _ _ _ _ _ (s₁.setTop (mkF m 2 #[.val (.ref a0), .val (.int p1), .val (.int (1 : Int32)), .unset] []))
  refine own_go (fun _ k => XS.iloadN X0.here hx rfl (hb hby d4_2) rfl k) ?_
  show own_Ends _ _ _ _ _ _ _ (s₁.setTop (mkF m 3 #[.val (.ref a0), .val (.int p1), .val (.int (1 : Int32)), .unset] [(.int p1)]))
  refine own_go (fun _ k => XS.aloadN X0.here hx rfl (hb hby d4_3) rfl rfl k) ?_
  show own_Ends _ _ _ _ _ _ _ (s₁.setTop (mkF m 4 #[.val (.ref a0), .val (.int p1), .val (.int (1 : Int32)), .unset] [(.ref a0), (.int p1)]))
  obtain ⟨T1, X1, e1, st1⟩ := getF X0 hx hZ hown (host := "") (Or.inl (hw _ (List.mem_of_getElem? (i := 14) rfl))) Via.refl e0 F_width_a0 (g := (mkF m 4 #[.val (.ref a0), .val (.int p1), .val (.int (1 : Int32)), .unset] [(.ref a0), (.int p1)])) rfl rfl (hb hby d4_4)
  refine own_go (fun _ k => st1 _ k) ?_
  show own_Ends _ _ _ _ _ _ _ (T1.setTop (mkF m 7 #[.val (.ref a0), .val (.int p1), .val (.int (1 : Int32)), .unset] [(.int v_width_a0), (.int p1)]))
  by_cases hc2 : v_width_a0 < p1
  · refine own_go (fun _ k => XS.icmpNo X1.here hx rfl (hb hby d4_7) rfl (tlt hc2).2.2.2 k) ?_
    show own_Ends _ _ _ _ _ _ _ (T1.setTop (mkF m 10 #[.val (.ref a0), .val (.int p1), .val (.int (1 : Int32)), .unset] []))
    refine own_go (fun _ k => XS.iloadN X1.here hx rfl (hb hby d4_10) rfl k) ?_
    show own_Ends _ _ _ _ _ _ _ (T1.setTop (mkF m 11 #[.val (.ref a0), .val (.int p1), .val (.int (1 : Int32)), .unset] [(.int p1)]))
    refine own_go (fun _ k => XS.aloadN X1.here hx rfl (hb hby d4_11) rfl rfl k) ?_
    show own_Ends _ _ _ _ _ _ _ (T1.setTop (mkF m 12 #[.val (.ref a0), .val (.int p1), .val (.int (1 : Int32)), .unset] [(.ref a0), (.int p1)]))
    obtain ⟨T3, X3, e3, st3⟩ := getF X1 hx hZ hown (host := "") (Or.inl (hw _ (List.mem_of_getElem? (i := 14) rfl))) Via.refl e1 F_width_a0 (g := (mkF m 12 #[.val (.ref a0), .val (.int p1), .val (.int (1 : Int32)), .unset] [(.ref a0), (.int p1)])) rfl rfl (hb hby d4_12)
    refine own_go (fun _ k => st3 _ k) ?_
    show own_Ends _ _ _ _ _ _ _ (T3.setTop (mkF m 15 #[.val (.ref a0), .val (.int p1), .val (.int (1 : Int32)), .unset] [(.int v_width_a0), (.int p1)]))
    refine own_go (fun _ k => XS.isub X3.here hx rfl (hb hby d4_15) rfl k) ?_
    show own_Ends _ _ _ _ _ _ _ (T3.setTop (mkF m 16 #[.val (.ref a0), .val (.int p1), .val (.int (1 : Int32)), .unset] [(.int (p1 - v_width_a0))]))
    refine own_go (fun _ k => XS.aloadN X3.here hx rfl (hb hby d4_16) rfl rfl k) ?_
    show own_Ends _ _ _ _ _ _ _ (T3.setTop (mkF m 17 #[.val (.ref a0), .val (.int p1), .val (.int (1 : Int32)), .unset] [(.ref a0), (.int (p1 - v_width_a0))]))
    obtain ⟨T4, X4, e4, st4⟩ := getF X3 hx hZ hown (host := "") (Or.inl (hw _ (List.mem_of_getElem? (i := 16) rfl))) Via.refl e3 F_step_a0 (g := (mkF m 17 #[.val (.ref a0), .val (.int p1), .val (.int (1 : Int32)), .unset] [(.ref a0), (.int (p1 - v_width_a0))])) rfl rfl (hb hby d4_17)
    refine own_go (fun _ k => st4 _ k) ?_
    show own_Ends _ _ _ _ _ _ _ (T4.setTop (mkF m 20 #[.val (.ref a0), .val (.int p1), .val (.int (1 : Int32)), .unset] [(.int v_step_a0), (.int (p1 - v_width_a0))]))
    refine own_go (fun _ k => XS.idiv X4.here hx rfl (hb hby d4_20) rfl hs k) ?_
    show own_Ends _ _ _ _ _ _ _ (T4.setTop (mkF m 21 #[.val (.ref a0), .val (.int p1), .val (.int (1 : Int32)), .unset] [(.int ((p1 - v_width_a0) / v_step_a0))]))
    refine own_go (fun _ k => XS.istoreN X4.here hx rfl (hb hby d4_21) rfl (l' := #[.val (.ref a0), .val (.int p1), .val (.int (1 : Int32)), .val (.int ((p1 - v_width_a0) / v_step_a0))]) rfl k) ?_
    suffices hjz5 : ∀ z5 : Int32, z5 = ((p1 - v_width_a0) / v_step_a0) → own_Ends p e below s (Q4 Z a0 p1 v_width_a0 v_step_a0 h0 n0) 0 0 (T4.setTop (mkF m 22 #[.val (.ref a0), .val (.int p1), .val (.int (1 : Int32)), .val (.int z5)] [])) by exact hjz5 _ rfl
    intro z5 hz5
    show own_Ends _ _ _ _ _ _ _ (T4.setTop (mkF m 22 #[.val (.ref a0), .val (.int p1), .val (.int (1 : Int32)), .val (.int z5)] []))
    refine own_go (fun _ k => XS.iloadN X4.here hx rfl (hb hby d4_22) rfl k) ?_
    show own_Ends _ _ _ _ _ _ _ (T4.setTop (mkF m 23 #[.val (.ref a0), .val (.int p1), .val (.int (1 : Int32)), .val (.int z5)] [(.int z5)]))
    refine own_go (fun _ k => XS.iloadN X4.here hx rfl (hb hby d4_23) rfl k) ?_
    show own_Ends _ _ _ _ _ _ _ (T4.setTop (mkF m 24 #[.val (.ref a0), .val (.int p1), .val (.int (1 : Int32)), .val (.int z5)] [(.int z5), (.int z5)]))
    refine own_go (fun _ k => XS.aloadN X4.here hx rfl (hb hby d4_24) rfl rfl k) ?_
    show own_Ends _ _ _ _ _ _ _ (T4.setTop (mkF m 25 #[.val (.ref a0), .val (.int p1), .val (.int (1 : Int32)), .val (.int z5)] [(.ref a0), (.int z5), (.int z5)]))
    obtain ⟨T6, X6, e6, st6⟩ := getF X4 hx hZ hown (host := "") (Or.inl (hw _ (List.mem_of_getElem? (i := 16) rfl))) Via.refl e4 F_step_a0 (g := (mkF m 25 #[.val (.ref a0), .val (.int p1), .val (.int (1 : Int32)), .val (.int z5)] [(.ref a0), (.int z5), (.int z5)])) rfl rfl (hb hby d4_25)
    refine own_go (fun _ k => st6 _ k) ?_
    show own_Ends _ _ _ _ _ _ _ (T6.setTop (mkF m 28 #[.val (.ref a0), .val (.int p1), .val (.int (1 : Int32)), .val (.int z5)] [(.int v_step_a0), (.int z5), (.int z5)]))
    refine own_go (fun _ k => XS.imul X6.here hx rfl (hb hby d4_28) rfl k) ?_
    show own_Ends _ _ _ _ _ _ _ (T6.setTop (mkF m 29 #[.val (.ref a0), .val (.int p1), .val (.int (1 : Int32)), .val (.int z5)] [(.int (z5 * v_step_a0)), (.int z5)]))
    refine own_go (fun _ k => XS.aloadN X6.here hx rfl (hb hby d4_29) rfl rfl k) ?_
    show own_Ends _ _ _ _ _ _ _ (T6.setTop (mkF m 30 #[.val (.ref a0), .val (.int p1), .val (.int (1 : Int32)), .val (.int z5)] [(.ref a0), (.int (z5 * v_step_a0)), (.int z5)]))
    obtain ⟨T7, X7, e7, st7⟩ := getF X6 hx hZ hown (host := "") (Or.inl (hw _ (List.mem_of_getElem? (i := 14) rfl))) Via.refl e6 F_width_a0 (g := (mkF m 30 #[.val (.ref a0), .val (.int p1), .val (.int (1 : Int32)), .val (.int z5)] [(.ref a0), (.int (z5 * v_step_a0)), (.int z5)])) rfl rfl (hb hby d4_30)
    refine own_go (fun _ k => st7 _ k) ?_
    show own_Ends _ _ _ _ _ _ _ (T7.setTop (mkF m 33 #[.val (.ref a0), .val (.int p1), .val (.int (1 : Int32)), .val (.int z5)] [(.int v_width_a0), (.int (z5 * v_step_a0)), (.int z5)]))
    refine own_go (fun _ k => XS.iadd X7.here hx rfl (hb hby d4_33) rfl k) ?_
    show own_Ends _ _ _ _ _ _ _ (T7.setTop (mkF m 34 #[.val (.ref a0), .val (.int p1), .val (.int (1 : Int32)), .val (.int z5)] [(.int ((z5 * v_step_a0) + v_width_a0)), (.int z5)]))
    refine own_go (fun _ k => XS.iloadN X7.here hx rfl (hb hby d4_34) rfl k) ?_
    show own_Ends _ _ _ _ _ _ _ (T7.setTop (mkF m 35 #[.val (.ref a0), .val (.int p1), .val (.int (1 : Int32)), .val (.int z5)] [(.int p1), (.int ((z5 * v_step_a0) + v_width_a0)), (.int z5)]))
    suffices hj9 : ∀ z8 : Int32, z8 = (if ((z5 * v_step_a0) + v_width_a0) < p1 then (2 : Int32) else (1 : Int32)) → own_Ends p e below s (Q4 Z a0 p1 v_width_a0 v_step_a0 h0 n0) 0 0 (T7.setTop (mkF m 43 #[.val (.ref a0), .val (.int p1), .val (.int (1 : Int32)), .val (.int z5)] [(.int z8), (.int z5)])) by
      show own_Ends _ _ _ _ _ _ _ (T7.setTop (mkF m 35 #[.val (.ref a0), .val (.int p1), .val (.int (1 : Int32)), .val (.int z5)] [(.int p1), (.int ((z5 * v_step_a0) + v_width_a0)), (.int z5)]))
      by_cases hc10 : ((z5 * v_step_a0) + v_width_a0) < p1
      · refine own_go (fun _ k => XS.icmpNo X7.here hx rfl (hb hby d4_35) rfl (tlt hc10).2.1 k) ?_
        show own_Ends _ _ _ _ _ _ _ (T7.setTop (mkF m 38 #[.val (.ref a0), .val (.int p1), .val (.int (1 : Int32)), .val (.int z5)] [(.int z5)]))
        refine own_go (fun _ k => XS.iconst X7.here hx rfl (hb hby d4_38) k) ?_
        show own_Ends _ _ _ _ _ _ _ (T7.setTop (mkF m 39 #[.val (.ref a0), .val (.int p1), .val (.int (1 : Int32)), .val (.int z5)] [(.int (2 : Int32)), (.int z5)]))
        refine own_go (fun _ k => XS.goto X7.here hx rfl (pc0 := 39) (pc' := 43) rfl (hb hby d4_39) (by decide) (by decide) k) ?_
        exact hj9 _ ((if_pos hc10)).symm
      · refine own_go (fun _ k => XS.icmpYes X7.here hx rfl (pc0 := 35) (pc' := 42) rfl (hb hby d4_35) rfl (flt hc10).2.1 (by decide) (by decide) k) ?_
        show own_Ends _ _ _ _ _ _ _ (T7.setTop (mkF m 42 #[.val (.ref a0), .val (.int p1), .val (.int (1 : Int32)), .val (.int z5)] [(.int z5)]))
        refine own_go (fun _ k => XS.iconst X7.here hx rfl (hb hby d4_42) k) ?_
        exact hj9 _ ((if_neg hc10)).symm
    intro z8 hz8
    show own_Ends _ _ _ _ _ _ _ (T7.setTop (mkF m 43 #[.val (.ref a0), .val (.int p1), .val (.int (1 : Int32)), .val (.int z5)] [(.int z8), (.int z5)]))
    refine own_go (fun _ k => XS.iadd X7.here hx rfl (hb hby d4_43) rfl k) ?_
    show own_Ends _ _ _ _ _ _ _ (T7.setTop (mkF m 44 #[.val (.ref a0), .val (.int p1), .val (.int (1 : Int32)), .val (.int z5)] [(.int (z5 + z8))]))
    refine own_go (fun _ k => XS.istoreN X7.here hx rfl (hb hby d4_44) rfl (l' := #[.val (.ref a0), .val (.int p1), .val (.int (z5 + z8)), .val (.int z5)]) rfl k) ?_
    show own_Ends _ _ _ _ _ _ _ (T7.setTop (mkF m 45 #[.val (.ref a0), .val (.int p1), .val (.int (z5 + z8)), .val (.int z5)] []))
    refine own_go (fun _ k => XS.iloadN X7.here hx rfl (hb hby d4_45) rfl k) ?_
    show own_Ends _ _ _ _ _ _ _ (T7.setTop (mkF m 46 #[.val (.ref a0), .val (.int p1), .val (.int (z5 + z8)), .val (.int z5)] [(.int (z5 + z8))]))
    exact own_retI X7 hx hlk Bd.returns (hb hby d4_46) (by decide) (by decide) ⟨congrArg (fun z => some (Value.int z)) (by subst hz8 hz5; exact ((if_pos hc2)).symm), N0, e7⟩
  · refine own_go (fun _ k => XS.icmpYes X1.here hx rfl (pc0 := 7) (pc' := 45) rfl (hb hby d4_7) rfl (flt hc2).2.2.2 (by decide) (by decide) k) ?_
    show own_Ends _ _ _ _ _ _ _ (T1.setTop (mkF m 45 #[.val (.ref a0), .val (.int p1), .val (.int (1 : Int32)), .unset] []))
    refine own_go (fun _ k => XS.iloadN X1.here hx rfl (hb hby d4_45) rfl k) ?_
    show own_Ends _ _ _ _ _ _ _ (T1.setTop (mkF m 46 #[.val (.ref a0), .val (.int p1), .val (.int (1 : Int32)), .unset] [(.int (1 : Int32))]))
    exact own_retI X1 hx hlk Bd.returns (hb hby d4_46) (by decide) (by decide) ⟨congrArg (fun z => some (Value.int z)) (by exact ((if_neg hc2)).symm), N0, e1⟩
theorem d5_0 : decode jdk_29_method_65_code 0 = .ok (.iload_n 0, 1) := by decide +kernel
theorem d5_1 : decode jdk_29_method_65_code 1 = .ok (.iload_n 1, 1) := by decide +kernel
theorem d5_2 : decode jdk_29_method_65_code 2 = .ok (.if_icmp .lt 7, 3) := by decide +kernel
theorem d5_5 : decode jdk_29_method_65_code 5 = .ok (.iload_n 0, 1) := by decide +kernel
theorem d5_6 : decode jdk_29_method_65_code 6 = .ok (.goto 4, 3) := by decide +kernel
theorem d5_9 : decode jdk_29_method_65_code 9 = .ok (.iload_n 1, 1) := by decide +kernel
theorem d5_10 : decode jdk_29_method_65_code 10 = .ok (.ireturn, 1) := by decide +kernel
theorem ef5 (m : MethodId) (p0 : Int32) (p1 : Int32) : entryFrame m #[(.int p0), (.int p1)] 2 = mkF m 0 #[.val (.int p0), .val (.int p1)] [] := by first | (simp [entryFrame, mkF, argsToLocals, Value.category]; done) | rfl
def f5 (p0 : Int32) (p1 : Int32) : Int32 := (if p0 < p1 then p1 else p0)
def Q5 (Z : State) (p0 : Int32) (p1 : Int32) (h0 : Heap) (n0 : Nat) (v : Option Value) (h : Heap) (L : List Loc) : Prop := v = some (.int (f5 p0 p1)) ∧ Fr n0 L ∧ h = h0
set_option maxRecDepth 65536 in
set_option maxHeartbeats 40000000 in
theorem rm5 (l : Launch) (Z : State) (ar : Array Value) (hw : ∀ d ∈ tables_1, d.before ar Z = true) (ws : List Jvm.Cond) (p0 : Int32) (p1 : Int32) (h0 : Heap) (n0 : Nat) (O0 : Old Z n0 h0) :
    MetFree l (⟨"java/lang/Math", "max", "(II)I"⟩ : MethodName) (head1 (Jvm.Cond.code (⟨"java/lang/Math", "max", "(II)I"⟩ : MethodName) jdk_29_method_65_code 2 (some .int) :: ws) ({ frames := 0, cells := 0, slots := 0, locals := 0 } : Room)) (fun a U => a = #[(.int p0), (.int p1)] ∧ Z.Warmed39 U.vm ∧ U.heap = h0) (fun _ _ _ _ _ => True) (fun _ U o U' => ∃ v L, o = .returned v ∧ Q5 Z p0 p1 h0 n0 v U'.heap L ∧ FrameEnd U o U' L ({ frames := 0, cells := 0, slots := 0, locals := 0 } : Room).cells ({ frames := 0, cells := 0, slots := 0, locals := 0 } : Room).slots) := by
  refine MetFree.of_bodySF (Jvm.Free.JP.mathPlain rfl (by decide +kernel)) hisR ?_
  intro p e s m args below meth c s₁ Bd hml0 hP hK
  obtain ⟨rfl, hZ, hh⟩ := hP
  have hx := Bd.exec
  have hby := Bd.bytes
  have hml : c.maxLocals = 2 := hml0
  have hown : s.vm.findClass "java/lang/Math" = some m.cls := findClass_of_methodNamed Bd.named
  have hnm := (name_of_methodNamed Bd.named Bd.method).1
  have hlk : meth.locks = false := BodyLoose.notSynchronized Bd
  have X0 : Stand p l e ({ frames := 0, cells := 0, slots := 0, locals := 0 } : Room) s m #[(.int p0), (.int p1)] below meth c s₁ [] 0 0 := Stand.of_body Bd
  have e0 : s₁.heap = h0 := by rw [← hh, Bd.state]; rfl
  have N0 := Fr.nil n0
  suffices hmain : own_Ends p e below s (Q5 Z p0 p1 h0 n0) 0 0 (s₁.setTop (mkF m 0 #[.val (.int p0), .val (.int p1)] [])) by
    obtain ⟨U, o, h1, r⟩ := hmain
    exact ⟨U, o, castTop (ef5 m p0 p1) h1, r⟩
  show own_Ends _ _ _ _ _ _ _ (s₁.setTop (mkF m 0 #[.val (.int p0), .val (.int p1)] []))
  refine own_go (fun _ k => XS.iloadN X0.here hx rfl (hb hby d5_0) rfl k) ?_
  show own_Ends _ _ _ _ _ _ _ (s₁.setTop (mkF m 1 #[.val (.int p0), .val (.int p1)] [(.int p0)]))
  refine own_go (fun _ k => XS.iloadN X0.here hx rfl (hb hby d5_1) rfl k) ?_
  show own_Ends _ _ _ _ _ _ _ (s₁.setTop (mkF m 2 #[.val (.int p0), .val (.int p1)] [(.int p1), (.int p0)]))
  by_cases hc1 : p0 < p1
  · refine own_go (fun _ k => XS.icmpYes X0.here hx rfl (pc0 := 2) (pc' := 9) rfl (hb hby d5_2) rfl (tlt hc1).1 (by decide) (by decide) k) ?_
    show own_Ends _ _ _ _ _ _ _ (s₁.setTop (mkF m 9 #[.val (.int p0), .val (.int p1)] []))
    refine own_go (fun _ k => XS.iloadN X0.here hx rfl (hb hby d5_9) rfl k) ?_
    show own_Ends _ _ _ _ _ _ _ (s₁.setTop (mkF m 10 #[.val (.int p0), .val (.int p1)] [(.int p1)]))
    exact own_retI X0 hx hlk Bd.returns (hb hby d5_10) (by decide) (by decide) ⟨congrArg (fun z => some (Value.int z)) (by exact ((if_pos hc1)).symm), N0, e0⟩
  · refine own_go (fun _ k => XS.icmpNo X0.here hx rfl (hb hby d5_2) rfl (flt hc1).1 k) ?_
    show own_Ends _ _ _ _ _ _ _ (s₁.setTop (mkF m 5 #[.val (.int p0), .val (.int p1)] []))
    refine own_go (fun _ k => XS.iloadN X0.here hx rfl (hb hby d5_5) rfl k) ?_
    show own_Ends _ _ _ _ _ _ _ (s₁.setTop (mkF m 6 #[.val (.int p0), .val (.int p1)] [(.int p0)]))
    refine own_go (fun _ k => XS.goto X0.here hx rfl (pc0 := 6) (pc' := 10) rfl (hb hby d5_6) (by decide) (by decide) k) ?_
    show own_Ends _ _ _ _ _ _ _ (s₁.setTop (mkF m 10 #[.val (.int p0), .val (.int p1)] [(.int p0)]))
    exact own_retI X0 hx hlk Bd.returns (hb hby d5_10) (by decide) (by decide) ⟨congrArg (fun z => some (Value.int z)) (by exact ((if_neg hc1)).symm), N0, e0⟩
theorem own_w7 {p z : Int32} (h : z = (1 : Int32) + (p &&& 7)) : ¬ z < (1 : Int32) := by
  have e : (p &&& 7).toInt = p.toInt % 2 ^ 3 := Jvm.Kit.i32_mask p 7 (k := 3) (by decide) (by decide)
  have e1 : ((1 : Int32) + (p &&& 7)).toInt = 1 + (p &&& 7).toInt := Jvm.Kit.i32_add (by rw [show (1 : Int32).toInt = 1 by decide]; omega) (by rw [show (1 : Int32).toInt = 1 by decide]; omega)
  rw [h, Int32.lt_iff_toInt_lt, e1, show (1 : Int32).toInt = 1 by decide]; omega
theorem own_wM {p z : Int32} (h : z = f5 (1 : Int32) (p &&& 2147483647)) : ¬ z < (1 : Int32) := by
  rw [h, f5]
  split
  · rename_i q; rw [Int32.lt_iff_toInt_lt] at q ⊢; omega
  · decide
theorem own_nz {s : Int32} (h : ¬ s < (1 : Int32)) : ¬ s = (0 : Int32) := fun q => h (by rw [q]; decide)
theorem own_one {b : Addr} {len w s c : Int32} (hc : c = f4 b len w s) (h : ¬ w < len) : c = (1 : Int32) := by
  rw [hc, f4, if_neg h]
theorem own_ge1 {s : Int32} (h : ¬ s < (1 : Int32)) : 1 ≤ s.toInt := by
  rw [Int32.lt_iff_toInt_lt, show (1 : Int32).toInt = 1 by decide] at h; omega
/-- the long sum -/
theorem own_long (c s w : Int32) (k : Int64) (K : Int) (hk : k.toInt = K) (hK : 0 ≤ K ∧ K ≤ 2) (hc : 0 ≤ c.toInt) (hs : 1 ≤ s.toInt) (hw : 1 ≤ w.toInt) :
    (((c.toInt64 - k) * s.toInt64) + w.toInt64).toInt = (c.toInt - K) * s.toInt + w.toInt := by
  have c1 := Int32.toInt_lt c
  have s1 := Int32.toInt_lt s
  have w1 := Int32.toInt_lt w
  have e1 : (c.toInt64 - k).toInt = c.toInt - K := by
    rw [Int64.toInt_sub, Int32.toInt_toInt64, hk]; exact Int.bmod_eq_of_le (by omega) (by omega)
  have hm : ((c.toInt - K) * s.toInt).natAbs ≤ 2147483648 * 2147483648 := by
    rw [Int.natAbs_mul]; exact Nat.mul_le_mul (by omega) (by omega)
  have e2 : ((c.toInt64 - k) * s.toInt64).toInt = (c.toInt - K) * s.toInt := by
    rw [Int64.toInt_mul, e1, Int32.toInt_toInt64]; exact Int.bmod_eq_of_le (by omega) (by omega)
  rw [Int64.toInt_add, e2, Int32.toInt_toInt64]; exact Int.bmod_eq_of_le (by omega) (by omega)
theorem own_count {b : Addr} {len w s c : Int32} (hw : ¬ w < (1 : Int32)) (hs : ¬ s < (1 : Int32)) (hc : c = f4 b len w s) (h : w < len) :
    2 ≤ c.toInt ∧ ((c.toInt - 1) * s.toInt + w.toInt = len.toInt ∨ ((c.toInt - 2) * s.toInt + w.toInt < len.toInt ∧ len.toInt < (c.toInt - 1) * s.toInt + w.toInt)) := by
  have w0 := own_ge1 hw
  have s0 := own_ge1 hs
  have h0 := Int32.lt_iff_toInt_lt.mp h
  have l1 := Int32.toInt_lt len
  have s1 := Int32.toInt_lt s
  rw [hc, f4, if_pos h]
  have e1 : (len - w).toInt = len.toInt - w.toInt := by
    rw [Int32.toInt_sub]; exact Int.bmod_eq_of_le (by omega) (by omega)
  obtain ⟨q, hq⟩ : ∃ q : Int, q = (len.toInt - w.toInt) / s.toInt := ⟨_, rfl⟩
  have q0 : 0 ≤ q := by rw [hq]; exact Int.ediv_nonneg (by omega) (by omega)
  have q1 : q * s.toInt ≤ len.toInt - w.toInt := by rw [hq]; exact Int.ediv_mul_le _ (by omega)
  have q2 : len.toInt - w.toInt < q * s.toInt + s.toInt := by
    rw [hq]; have := Int.lt_ediv_add_one_mul_self (len.toInt - w.toInt) (show 0 < s.toInt by omega)
    rw [Int.add_mul, Int.one_mul] at this; exact this
  have q3 : q ≤ q * s.toInt := by
    have := Int.mul_le_mul_of_nonneg_left (show 1 ≤ s.toInt by omega) q0
    rw [Int.mul_one] at this; exact this
  have e2 : ((len - w) / s).toInt = q := by
    rw [Int32.toInt_div, e1, Int.tdiv_eq_ediv_of_nonneg (by omega), ← hq]
    exact Int.bmod_eq_of_le (by omega) (by omega)
  have e3 : (((len - w) / s) * s).toInt = q * s.toInt := by
    rw [Int32.toInt_mul, e2]; exact Int.bmod_eq_of_le (by omega) (by omega)
  have e4 : (((len - w) / s) * s + w).toInt = q * s.toInt + w.toInt := by
    rw [Int32.toInt_add, e3]; exact Int.bmod_eq_of_le (by omega) (by omega)
  by_cases hr : ((len - w) / s) * s + w < len
  · have hr' := Int32.lt_iff_toInt_lt.mp hr
    rw [e4] at hr'
    have s2 : 2 ≤ s.toInt := by
      rcases Int.lt_or_le s.toInt 2 with z | z
      · have z1 : s.toInt = 1 := by omega
        rw [z1, Int.mul_one] at hr' q2; omega
      · exact z
    have q4 : q + q ≤ q * s.toInt := by
      have := Int.mul_le_mul_of_nonneg_left s2 q0
      omega
    have ec : (let z5 : Int32 := ((len - w) / s); (let z8 : Int32 := (if ((z5 * s) + w) < len then (2 : Int32) else (1 : Int32)); (z5 + z8))).toInt = q + 2 := by
      show (((len - w) / s) + (if ((len - w) / s) * s + w < len then (2 : Int32) else (1 : Int32))).toInt = q + 2
      rw [if_pos hr, Int32.toInt_add, e2, show (2 : Int32).toInt = 2 by decide]; exact Int.bmod_eq_of_le (by omega) (by omega)
    rw [ec]
    have m1 : (q + 2 - 1) * s.toInt = q * s.toInt + s.toInt := by rw [show q + 2 - 1 = q + 1 by omega, Int.add_mul, Int.one_mul]
    have m2 : (q + 2 - 2) * s.toInt = q * s.toInt := by rw [show q + 2 - 2 = q by omega]
    rw [m1, m2]
    exact ⟨by omega, Or.inr ⟨by omega, by omega⟩⟩
  · have hr' : ¬ (q * s.toInt + w.toInt < len.toInt) := by rw [Int32.lt_iff_toInt_lt, e4] at hr; exact hr
    have ec : (let z5 : Int32 := ((len - w) / s); (let z8 : Int32 := (if ((z5 * s) + w) < len then (2 : Int32) else (1 : Int32)); (z5 + z8))).toInt = q + 1 := by
      show (((len - w) / s) + (if ((len - w) / s) * s + w < len then (2 : Int32) else (1 : Int32))).toInt = q + 1
      rw [if_neg hr, Int32.toInt_add, e2, show (1 : Int32).toInt = 1 by decide]; exact Int.bmod_eq_of_le (by omega) (by omega)
    rw [ec]
    have m1 : (q + 1 - 1) * s.toInt = q * s.toInt := by rw [show q + 1 - 1 = q by omega]
    rw [m1]
    have q5 : 1 ≤ q := by
      rcases Int.lt_or_le q 1 with z | z
      · have z1 : q = 0 := by omega
        rw [z1, Int.zero_mul] at hr'; omega
      · exact z
    exact ⟨by omega, Or.inl (by omega)⟩
theorem own_main {b : Addr} {len w s c : Int32} (hw : ¬ w < (1 : Int32)) (hs : ¬ s < (1 : Int32)) (hc : c = f4 b len w s) (h : w < len) :
    ¬ c < (2 : Int32) ∧ (¬ lcmpW (((c.toInt64 - (1 : Int64)) * s.toInt64) + w.toInt64) len.toInt64 = (0 : Int32) → lcmpW (((c.toInt64 - (2 : Int64)) * s.toInt64) + w.toInt64) len.toInt64 < (0 : Int32) ∧ lcmpW len.toInt64 (((c.toInt64 - (1 : Int64)) * s.toInt64) + w.toInt64) < (0 : Int32)) := by
  obtain ⟨c2, hm⟩ := own_count hw hs hc h
  have l1 := own_long c s w 1 1 (by decide) (by decide) (by omega) (own_ge1 hs) (own_ge1 hw)
  have l2 := own_long c s w 2 2 (by decide) (by decide) (by omega) (own_ge1 hs) (own_ge1 hw)
  refine ⟨by rw [Int32.lt_iff_toInt_lt, show (2 : Int32).toInt = 2 by decide]; omega, fun hne => ?_⟩
  rw [lcW, lc_eq, ← Int64.toInt_inj, l1, Int32.toInt_toInt64] at hne
  rw [lcW, lcW, lc_lt, lc_lt, Int64.lt_iff_toInt_lt, Int64.lt_iff_toInt_lt, l1, l2, Int32.toInt_toInt64]
  rcases hm with hm | hm
  · exact absurd hm hne
  · exact hm
theorem pn0 : plainName "com/example/cumaea/cumaea/ArbitraryPassagesCountPinLaw" = true := by first | (simp [plainName, overriddenIn]; done) | decide +kernel
theorem pd0_0 : parseMethodDescriptor "(II)I" = some ⟨[.int, .int], some .int⟩ := by decide +kernel
theorem pd0_1 : parseMethodDescriptor "(II)V" = some ⟨[.int, .int], none⟩ := by decide +kernel
theorem pd0_2 : parseMethodDescriptor "(I)I" = some ⟨[.int], some .int⟩ := by decide +kernel
theorem ef0 (m : MethodId) (p0 : Int32) (p1 : Int32) (p2 : Int32) (p3 : Int32) : entryFrame m #[(.int p0), (.int p1), (.int p2), (.int p3)] maxLocals = mkF m 0 #[.val (.int p0), .val (.int p1), .val (.int p2), .val (.int p3), .unset, .unset, .unset, .unset, .unset, .unset, .unset, .unset, .unset, .unset, .unset] [] := by first | (simp [entryFrame, mkF, argsToLocals, Value.category, maxLocals]; done) | rfl
def Q0 (Z : State) (p0 : Int32) (p1 : Int32) (p2 : Int32) (p3 : Int32) (h0 : Heap) (n0 : Nat) (v : Option Value) (h : Heap) (L : List Loc) : Prop := v = some (.int 1) ∧ Fr n0 L
set_option maxRecDepth 65536 in
set_option maxHeartbeats 40000000 in
theorem rm0 (l : Launch) (Z : State) (ar : Array Value) (hw : ∀ d ∈ tables_1, d.before ar Z = true) (ws : List Jvm.Cond) (p0 : Int32) (p1 : Int32) (p2 : Int32) (p3 : Int32) (h0 : Heap) (n0 : Nat) (O0 : Old Z n0 h0) :
    MetFree l x (head1 (Jvm.Cond.code x code maxLocals ret :: ws) room_1) (fun a U => a = #[(.int p0), (.int p1), (.int p2), (.int p3)] ∧ Z.Warmed39 U.vm ∧ U.heap = h0) (fun _ _ _ _ _ => True) (fun _ U o U' => ∃ v L, o = .returned v ∧ Q0 Z p0 p1 p2 p3 h0 n0 v U'.heap L ∧ FrameEnd U o U' L room_1.cells room_1.slots) := by
  refine MetFree.of_bodySF (plainFor_of_name pn0) hisR ?_
  intro p e s m args below meth c s₁ Bd hml0 hP hK
  obtain ⟨rfl, hZ, hh⟩ := hP
  have hx := Bd.exec
  have hby := Bd.bytes
  have hml : c.maxLocals = 15 := hml0
  have hown : s.vm.findClass "com/example/cumaea/cumaea/ArbitraryPassagesCountPinLaw" = some m.cls := findClass_of_methodNamed Bd.named
  have hnm := (name_of_methodNamed Bd.named Bd.method).1
  have hlk : meth.locks = false := BodyLoose.notSynchronized Bd
  have X0 : Stand p l e room_1 s m #[(.int p0), (.int p1), (.int p2), (.int p3)] below meth c s₁ [] 0 0 := Stand.of_body Bd
  have e0 : s₁.heap = h0 := by rw [← hh, Bd.state]; rfl
  have N0 := Fr.nil n0
  suffices hmain : own_Ends p e below s (Q0 Z p0 p1 p2 p3 h0 n0) 16 128 (s₁.setTop (mkF m 0 #[.val (.int p0), .val (.int p1), .val (.int p2), .val (.int p3), .unset, .unset, .unset, .unset, .unset, .unset, .unset, .unset, .unset, .unset, .unset] [])) by
    obtain ⟨U, o, h1, r⟩ := hmain
    exact ⟨U, o, castTop (ef0 m p0 p1 p2 p3) h1, r⟩
  show own_Ends _ _ _ _ _ _ _ (s₁.setTop (mkF m 0 #[.val (.int p0), .val (.int p1), .val (.int p2), .val (.int p3), .unset, .unset, .unset, .unset, .unset, .unset, .unset, .unset, .unset, .unset, .unset] []))
  refine own_go (fun _ k => XS.iloadN X0.here hx rfl (hb hby at_0) rfl k) ?_
  show own_Ends _ _ _ _ _ _ _ (s₁.setTop (mkF m 1 #[.val (.int p0), .val (.int p1), .val (.int p2), .val (.int p3), .unset, .unset, .unset, .unset, .unset, .unset, .unset, .unset, .unset, .unset, .unset] [(.int p3)]))
  refine own_go (fun _ k => XS.iconst X0.here hx rfl (hb hby at_1) k) ?_
  show own_Ends _ _ _ _ _ _ _ (s₁.setTop (mkF m 2 #[.val (.int p0), .val (.int p1), .val (.int p2), .val (.int p3), .unset, .unset, .unset, .unset, .unset, .unset, .unset, .unset, .unset, .unset, .unset] [(.int (1 : Int32)), (.int p3)]))
  refine own_go (fun _ k => XS.iand X0.here hx rfl (hb hby at_2) rfl k) ?_
  show own_Ends _ _ _ _ _ _ _ (s₁.setTop (mkF m 3 #[.val (.int p0), .val (.int p1), .val (.int p2), .val (.int p3), .unset, .unset, .unset, .unset, .unset, .unset, .unset, .unset, .unset, .unset, .unset] [(.int (p3 &&& (1 : Int32)))]))
  by_cases hc1 : (p3 &&& (1 : Int32)) = (0 : Int32)
  · refine own_go (fun _ k => XS.ifYes X0.here hx rfl (pc0 := 3) (pc' := 31) rfl (hb hby at_3) rfl ((if0 _ _).trans (teq hc1).1) (by decide) (by decide) k) ?_
    show own_Ends _ _ _ _ _ _ _ (s₁.setTop (mkF m 31 #[.val (.int p0), .val (.int p1), .val (.int p2), .val (.int p3), .unset, .unset, .unset, .unset, .unset, .unset, .unset, .unset, .unset, .unset, .unset] []))
    refine own_go (fun _ k => XS.iconst X0.here hx rfl (hb hby at_31) k) ?_
    show own_Ends _ _ _ _ _ _ _ (s₁.setTop (mkF m 32 #[.val (.int p0), .val (.int p1), .val (.int p2), .val (.int p3), .unset, .unset, .unset, .unset, .unset, .unset, .unset, .unset, .unset, .unset, .unset] [(.int (1 : Int32))]))
    refine own_go (fun _ k => XS.iloadN X0.here hx rfl (hb hby at_32) rfl k) ?_
    show own_Ends _ _ _ _ _ _ _ (s₁.setTop (mkF m 33 #[.val (.int p0), .val (.int p1), .val (.int p2), .val (.int p3), .unset, .unset, .unset, .unset, .unset, .unset, .unset, .unset, .unset, .unset, .unset] [(.int p0), (.int (1 : Int32))]))
    refine own_go (fun _ k => X0.ldcInt hx hown (mvT hZ (hw _ (List.mem_of_getElem? (i := 24) rfl))) (g := (mkF m 33 #[.val (.int p0), .val (.int p1), .val (.int p2), .val (.int p3), .unset, .unset, .unset, .unset, .unset, .unset, .unset, .unset, .unset, .unset, .unset] [(.int p0), (.int (1 : Int32))])) rfl (hb hby at_33) _ k) ?_
    show own_Ends _ _ _ _ _ _ _ (s₁.setTop (mkF m 35 #[.val (.int p0), .val (.int p1), .val (.int p2), .val (.int p3), .unset, .unset, .unset, .unset, .unset, .unset, .unset, .unset, .unset, .unset, .unset] [(.int (2147483647 : Int32)), (.int p0), (.int (1 : Int32))]))
    refine own_go (fun _ k => XS.iand X0.here hx rfl (hb hby at_35) rfl k) ?_
    show own_Ends _ _ _ _ _ _ _ (s₁.setTop (mkF m 36 #[.val (.int p0), .val (.int p1), .val (.int p2), .val (.int p3), .unset, .unset, .unset, .unset, .unset, .unset, .unset, .unset, .unset, .unset, .unset] [(.int (p0 &&& (2147483647 : Int32))), (.int (1 : Int32))]))
    obtain ⟨_, _, ⟨T2, L2, k2, n2⟩, -, X2, ⟨Lc2, hQ2, l2, y2, z2⟩, st2⟩ := Jvm.LawKit.callS X0 hx (y := (⟨"java/lang/Math", "max", "(II)I"⟩ : MethodName)) hown (mvT hZ (hw _ (List.mem_of_getElem? (i := 25) rfl))) (mvT hZ (hw _ (List.mem_of_getElem? (i := 26) rfl))) (mvT hZ (hw _ (List.mem_of_getElem? (i := 27) rfl))) (mvT hZ (hw _ (List.mem_of_getElem? (i := 28) rfl))) (by decide) (backOf (W := 0) (rm5 l Z ar hw [] (1 : Int32) (p0 &&& (2147483647 : Int32)) h0 n0 O0) hZ (hw _ (List.mem_of_getElem? (i := 28) rfl)) (hw _ (List.mem_of_getElem? (i := 27) rfl)) (by decide) (by decide)) (g := (mkF m 36 #[.val (.int p0), .val (.int p1), .val (.int p2), .val (.int p3), .unset, .unset, .unset, .unset, .unset, .unset, .unset, .unset, .unset, .unset, .unset] [(.int (p0 &&& (2147483647 : Int32))), (.int (1 : Int32))])) rfl (by rw [hml]; rfl) (argsL := [(.int (1 : Int32)), (.int (p0 &&& (2147483647 : Int32)))]) (rest := []) (lenOf pd0_0 rfl) rfl (by show 2 * 0 + _ ≤ _; exact Nat.le_of_eq rfl) (hb hby at_36) (fun _ _ => ⟨rfl, e0, (by decide : 0 + 0 ≤ _), (by decide : 0 + 0 ≤ _)⟩)
    dsimp only [Pt.U, Pt.locs, Pt.cells, Pt.slots] at X2 l2 y2 z2 st2 hQ2
    subst l2 y2 z2
    obtain ⟨rfl, N2q, eq2⟩ := hQ2
    have e2 : T2.heap = h0 := eq2
    have N2 := Fr.app N0 N2q
    refine own_go (fun _ k => st2 _ k) ?_
    show own_Ends _ _ _ _ _ _ _ (T2.setTop (mkF m 39 #[.val (.int p0), .val (.int p1), .val (.int p2), .val (.int p3), .unset, .unset, .unset, .unset, .unset, .unset, .unset, .unset, .unset, .unset, .unset] [(.int (f5 (1 : Int32) (p0 &&& (2147483647 : Int32))))]))
    refine own_go (fun _ k => XS.istore X2.here hx rfl (hb hby at_39) rfl (l' := #[.val (.int p0), .val (.int p1), .val (.int p2), .val (.int p3), .val (.int (f5 (1 : Int32) (p0 &&& (2147483647 : Int32)))), .unset, .unset, .unset, .unset, .unset, .unset, .unset, .unset, .unset, .unset]) rfl k) ?_
    suffices hjwB : ∀ wB : Int32, wB = (f5 (1 : Int32) (p0 &&& (2147483647 : Int32))) → own_Ends p e below s (Q0 Z p0 p1 p2 p3 h0 n0) 16 128 (T2.setTop (mkF m 41 #[.val (.int p0), .val (.int p1), .val (.int p2), .val (.int p3), .val (.int wB), .unset, .unset, .unset, .unset, .unset, .unset, .unset, .unset, .unset, .unset] [])) by exact hjwB _ rfl
    intro wB hwB
    have PwB := own_wM hwB
    show own_Ends _ _ _ _ _ _ _ (T2.setTop (mkF m 41 #[.val (.int p0), .val (.int p1), .val (.int p2), .val (.int p3), .val (.int wB), .unset, .unset, .unset, .unset, .unset, .unset, .unset, .unset, .unset, .unset] []))
    refine own_go (fun _ k => XS.iconst X2.here hx rfl (hb hby at_41) k) ?_
    show own_Ends _ _ _ _ _ _ _ (T2.setTop (mkF m 42 #[.val (.int p0), .val (.int p1), .val (.int p2), .val (.int p3), .val (.int wB), .unset, .unset, .unset, .unset, .unset, .unset, .unset, .unset, .unset, .unset] [(.int (1 : Int32))]))
    refine own_go (fun _ k => XS.iloadN X2.here hx rfl (hb hby at_42) rfl k) ?_
    show own_Ends _ _ _ _ _ _ _ (T2.setTop (mkF m 43 #[.val (.int p0), .val (.int p1), .val (.int p2), .val (.int p3), .val (.int wB), .unset, .unset, .unset, .unset, .unset, .unset, .unset, .unset, .unset, .unset] [(.int p1), (.int (1 : Int32))]))
    refine own_go (fun _ k => X2.ldcInt hx hown (mvT hZ (hw _ (List.mem_of_getElem? (i := 24) rfl))) (g := (mkF m 43 #[.val (.int p0), .val (.int p1), .val (.int p2), .val (.int p3), .val (.int wB), .unset, .unset, .unset, .unset, .unset, .unset, .unset, .unset, .unset, .unset] [(.int p1), (.int (1 : Int32))])) rfl (hb hby at_43) _ k) ?_
    show own_Ends _ _ _ _ _ _ _ (T2.setTop (mkF m 45 #[.val (.int p0), .val (.int p1), .val (.int p2), .val (.int p3), .val (.int wB), .unset, .unset, .unset, .unset, .unset, .unset, .unset, .unset, .unset, .unset] [(.int (2147483647 : Int32)), (.int p1), (.int (1 : Int32))]))
    refine own_go (fun _ k => XS.iand X2.here hx rfl (hb hby at_45) rfl k) ?_
    show own_Ends _ _ _ _ _ _ _ (T2.setTop (mkF m 46 #[.val (.int p0), .val (.int p1), .val (.int p2), .val (.int p3), .val (.int wB), .unset, .unset, .unset, .unset, .unset, .unset, .unset, .unset, .unset, .unset] [(.int (p1 &&& (2147483647 : Int32))), (.int (1 : Int32))]))
    obtain ⟨_, _, ⟨T3, L3, k3, n3⟩, -, X3, ⟨Lc3, hQ3, l3, y3, z3⟩, st3⟩ := Jvm.LawKit.callS X2 hx (y := (⟨"java/lang/Math", "max", "(II)I"⟩ : MethodName)) hown (mvT hZ (hw _ (List.mem_of_getElem? (i := 25) rfl))) (mvT hZ (hw _ (List.mem_of_getElem? (i := 26) rfl))) (mvT hZ (hw _ (List.mem_of_getElem? (i := 27) rfl))) (mvT hZ (hw _ (List.mem_of_getElem? (i := 28) rfl))) (by decide) (backOf (W := 0) (rm5 l Z ar hw [] (1 : Int32) (p1 &&& (2147483647 : Int32)) h0 n0 O0) hZ (hw _ (List.mem_of_getElem? (i := 28) rfl)) (hw _ (List.mem_of_getElem? (i := 27) rfl)) (by decide) (by decide)) (g := (mkF m 46 #[.val (.int p0), .val (.int p1), .val (.int p2), .val (.int p3), .val (.int wB), .unset, .unset, .unset, .unset, .unset, .unset, .unset, .unset, .unset, .unset] [(.int (p1 &&& (2147483647 : Int32))), (.int (1 : Int32))])) rfl (by rw [hml]; rfl) (argsL := [(.int (1 : Int32)), (.int (p1 &&& (2147483647 : Int32)))]) (rest := []) (lenOf pd0_0 rfl) rfl (by show 2 * 0 + _ ≤ _; exact Nat.le_of_eq rfl) (hb hby at_46) (fun _ _ => ⟨rfl, e2, (by decide : 0 + 0 ≤ _), (by decide : 0 + 0 ≤ _)⟩)
    dsimp only [Pt.U, Pt.locs, Pt.cells, Pt.slots] at X3 l3 y3 z3 st3 hQ3
    subst l3 y3 z3
    obtain ⟨rfl, N3q, eq3⟩ := hQ3
    have e3 : T3.heap = h0 := eq3
    have N3 := Fr.app N2 N3q
    refine own_go (fun _ k => st3 _ k) ?_
    show own_Ends _ _ _ _ _ _ _ (T3.setTop (mkF m 49 #[.val (.int p0), .val (.int p1), .val (.int p2), .val (.int p3), .val (.int wB), .unset, .unset, .unset, .unset, .unset, .unset, .unset, .unset, .unset, .unset] [(.int (f5 (1 : Int32) (p1 &&& (2147483647 : Int32))))]))
    refine own_go (fun _ k => XS.istore X3.here hx rfl (hb hby at_49) rfl (l' := #[.val (.int p0), .val (.int p1), .val (.int p2), .val (.int p3), .val (.int wB), .val (.int (f5 (1 : Int32) (p1 &&& (2147483647 : Int32)))), .unset, .unset, .unset, .unset, .unset, .unset, .unset, .unset, .unset]) rfl k) ?_
    suffices hjsB : ∀ sB : Int32, sB = (f5 (1 : Int32) (p1 &&& (2147483647 : Int32))) → own_Ends p e below s (Q0 Z p0 p1 p2 p3 h0 n0) 16 128 (T3.setTop (mkF m 51 #[.val (.int p0), .val (.int p1), .val (.int p2), .val (.int p3), .val (.int wB), .val (.int sB), .unset, .unset, .unset, .unset, .unset, .unset, .unset, .unset, .unset] [])) by exact hjsB _ rfl
    intro sB hsB
    have PsB := own_wM hsB
    show own_Ends _ _ _ _ _ _ _ (T3.setTop (mkF m 51 #[.val (.int p0), .val (.int p1), .val (.int p2), .val (.int p3), .val (.int wB), .val (.int sB), .unset, .unset, .unset, .unset, .unset, .unset, .unset, .unset, .unset] []))
    refine own_go (fun _ k => XS.iloadN X3.here hx rfl (hb hby at_51) rfl k) ?_
    show own_Ends _ _ _ _ _ _ _ (T3.setTop (mkF m 52 #[.val (.int p0), .val (.int p1), .val (.int p2), .val (.int p3), .val (.int wB), .val (.int sB), .unset, .unset, .unset, .unset, .unset, .unset, .unset, .unset, .unset] [(.int p2)]))
    refine own_go (fun _ k => XS.istore X3.here hx rfl (hb hby at_52) rfl (l' := #[.val (.int p0), .val (.int p1), .val (.int p2), .val (.int p3), .val (.int wB), .val (.int sB), .val (.int p2), .unset, .unset, .unset, .unset, .unset, .unset, .unset, .unset]) rfl k) ?_
    show own_Ends _ _ _ _ _ _ _ (T3.setTop (mkF m 54 #[.val (.int p0), .val (.int p1), .val (.int p2), .val (.int p3), .val (.int wB), .val (.int sB), .val (.int p2), .unset, .unset, .unset, .unset, .unset, .unset, .unset, .unset] []))
    obtain ⟨T4, h4, X4, e4, E4, A4, D4, -, st4⟩ := newO X3 hx hZ hown (hw _ (List.mem_of_getElem? (i := 0) rfl)) (hw _ (List.mem_of_getElem? (i := 1) rfl)) (hw _ (List.mem_of_getElem? (i := 2) rfl)) e3 (g := (mkF m 54 #[.val (.int p0), .val (.int p1), .val (.int p2), .val (.int p3), .val (.int wB), .val (.int sB), .val (.int p2), .unset, .unset, .unset, .unset, .unset, .unset, .unset, .unset] [])) rfl (hb hby at_54) (by decide) (by decide)
    obtain ⟨b4, q_b4⟩ : ∃ z, z = h0.size := ⟨_, rfl⟩
    rw [← q_b4] at A4 D4 st4
    have g_b4 : n0 ≤ b4 := Nat.le_trans (own_sz O0) (Nat.le_of_eq q_b4.symm)
    refine own_go (fun _ k => st4 _ k) ?_
    have F5 : Old Z n0 h4 := (O0.ext E4)
    have F6 : Fld Z h4 b4 "com/example/cumaea/cumaea/ArbitraryPassages" "width" "I" (.int (0 : Int32)) := D4 (Or.inr (hw _ (List.mem_of_getElem? (i := 15) rfl))) (ty := .int) (by decide)
    have F7 : Fld Z h4 b4 "com/example/cumaea/cumaea/ArbitraryPassages" "step" "I" (.int (0 : Int32)) := D4 (Or.inr (hw _ (List.mem_of_getElem? (i := 17) rfl))) (ty := .int) (by decide)
    show own_Ends _ _ _ _ _ _ _ (T4.setTop (mkF m 57 #[.val (.int p0), .val (.int p1), .val (.int p2), .val (.int p3), .val (.int wB), .val (.int sB), .val (.int p2), .unset, .unset, .unset, .unset, .unset, .unset, .unset, .unset] [(.ref b4)]))
    refine own_go (fun _ k => XS.dup X4.here hx rfl (hb hby at_57) rfl rfl k) ?_
    show own_Ends _ _ _ _ _ _ _ (T4.setTop (mkF m 58 #[.val (.int p0), .val (.int p1), .val (.int p2), .val (.int p3), .val (.int wB), .val (.int sB), .val (.int p2), .unset, .unset, .unset, .unset, .unset, .unset, .unset, .unset] [(.ref b4), (.ref b4)]))
    refine own_go (fun _ k => XS.iload X4.here hx rfl (hb hby at_58) rfl k) ?_
    show own_Ends _ _ _ _ _ _ _ (T4.setTop (mkF m 60 #[.val (.int p0), .val (.int p1), .val (.int p2), .val (.int p3), .val (.int wB), .val (.int sB), .val (.int p2), .unset, .unset, .unset, .unset, .unset, .unset, .unset, .unset] [(.int wB), (.ref b4), (.ref b4)]))
    refine own_go (fun _ k => XS.iload X4.here hx rfl (hb hby at_60) rfl k) ?_
    show own_Ends _ _ _ _ _ _ _ (T4.setTop (mkF m 62 #[.val (.int p0), .val (.int p1), .val (.int p2), .val (.int p3), .val (.int wB), .val (.int sB), .val (.int p2), .unset, .unset, .unset, .unset, .unset, .unset, .unset, .unset] [(.int sB), (.int wB), (.ref b4), (.ref b4)]))
    obtain ⟨_, _, ⟨T8, L8, k8, n8⟩, -, X8, ⟨Lc8, hQ8, l8, y8, z8⟩, st8⟩ := X4.specialBack hx (y := (⟨"com/example/cumaea/cumaea/ArbitraryPassages", "<init>", "(II)V"⟩ : MethodName)) rfl hown (mvT hZ (hw _ (List.mem_of_getElem? (i := 3) rfl))) (mvT hZ (hw _ (List.mem_of_getElem? (i := 4) rfl))) (mvT hZ (hw _ (List.mem_of_getElem? (i := 5) rfl))) (by decide) (backOf (W := 1) (rm1 l Z ar hw [] b4 wB sB ((.int (0 : Int32))) ((.int (0 : Int32))) h4 n0 F5 A4 g_b4 F6 F7 PwB PsB) hZ (hw _ (List.mem_of_getElem? (i := 5) rfl)) (hw _ (List.mem_of_getElem? (i := 2) rfl)) (by decide) (by decide)) (g := (mkF m 62 #[.val (.int p0), .val (.int p1), .val (.int p2), .val (.int p3), .val (.int wB), .val (.int sB), .val (.int p2), .unset, .unset, .unset, .unset, .unset, .unset, .unset, .unset] [(.int sB), (.int wB), (.ref b4), (.ref b4)])) rfl (by rw [hml]; rfl) (Steps.refl _) (a := b4) (argsL := [(.int wB), (.int sB)]) (rest := [(.ref b4)]) (lenOf pd0_1 rfl) rfl (by show 2 * 0 + _ ≤ _; exact Nat.le_of_eq rfl) (hb hby at_62) (fun _ _ => ⟨rfl, e4, (by decide : 1 + 0 ≤ _), (by decide : 2 + 0 ≤ _)⟩)
    dsimp only [Pt.U, Pt.locs, Pt.cells, Pt.slots] at X8 l8 y8 z8 st8 hQ8
    subst l8 y8 z8
    obtain ⟨rfl, N8q, K8, E8_0, F8_0, F8_1⟩ := hQ8
    have N8 := Fr.app N3 N8q
    have F9 : Old Z n0 T8.heap := (F5.keep K8 (allS g_b4 all0))
    refine own_go (fun _ k => st8.trans k) ?_
    show own_Ends _ _ _ _ _ _ _ (T8.setTop (mkF m 65 #[.val (.int p0), .val (.int p1), .val (.int p2), .val (.int p3), .val (.int wB), .val (.int sB), .val (.int p2), .unset, .unset, .unset, .unset, .unset, .unset, .unset, .unset] [(.ref b4)]))
    refine own_go (fun _ k => XS.astore X8.here hx rfl (hb hby at_65) rfl rfl (l' := #[.val (.int p0), .val (.int p1), .val (.int p2), .val (.int p3), .val (.int wB), .val (.int sB), .val (.int p2), .val (.ref b4), .unset, .unset, .unset, .unset, .unset, .unset, .unset]) rfl k) ?_
    show own_Ends _ _ _ _ _ _ _ (T8.setTop (mkF m 67 #[.val (.int p0), .val (.int p1), .val (.int p2), .val (.int p3), .val (.int wB), .val (.int sB), .val (.int p2), .val (.ref b4), .unset, .unset, .unset, .unset, .unset, .unset, .unset] []))
    refine own_go (fun _ k => XS.aload X8.here hx rfl (hb hby at_67) rfl rfl k) ?_
    show own_Ends _ _ _ _ _ _ _ (T8.setTop (mkF m 69 #[.val (.int p0), .val (.int p1), .val (.int p2), .val (.int p3), .val (.int wB), .val (.int sB), .val (.int p2), .val (.ref b4), .unset, .unset, .unset, .unset, .unset, .unset, .unset] [(.ref b4)]))
    refine own_go (fun _ k => XS.iload X8.here hx rfl (hb hby at_69) rfl k) ?_
    show own_Ends _ _ _ _ _ _ _ (T8.setTop (mkF m 71 #[.val (.int p0), .val (.int p1), .val (.int p2), .val (.int p3), .val (.int wB), .val (.int sB), .val (.int p2), .val (.ref b4), .unset, .unset, .unset, .unset, .unset, .unset, .unset] [(.int p2), (.ref b4)]))
    obtain ⟨cq10, kq10, q10a, q10b, q10c⟩ := isOf hZ rfl E8_0
    obtain ⟨_, _, ⟨T10, L10, k10, n10⟩, -, X10, ⟨Lc10, hQ10, l10, y10, z10⟩, st10⟩ := X8.virtualBack hx (y := (⟨"com/example/cumaea/cumaea/ArbitraryPassages", "count", "(I)I"⟩ : MethodName)) (z := (⟨"com/example/cumaea/cumaea/ArbitraryPassages", "count", "(I)I"⟩ : MethodName)) hown (mvT hZ (hw _ (List.mem_of_getElem? (i := 18) rfl))) (mvT hZ (hw _ (List.mem_of_getElem? (i := 19) rfl))) (notFace_of_selects (args := #[]) (mvT hZ (hw _ (List.mem_of_getElem? (i := 21) rfl)))) (mvT hZ (hw _ (List.mem_of_getElem? (i := 21) rfl))) (mvT hZ (hw _ (List.mem_of_getElem? (i := 20) rfl))) (by decide) (backOf (W := 0) (rm4 l Z ar hw [] b4 p2 wB sB T8.heap n0 F9 (own_nz PsB) F8_0 F8_1) hZ (hw _ (List.mem_of_getElem? (i := 22) rfl)) (hw _ (List.mem_of_getElem? (i := 2) rfl)) (by decide) (by decide)) q10a q10c (g := (mkF m 71 #[.val (.int p0), .val (.int p1), .val (.int p2), .val (.int p3), .val (.int wB), .val (.int sB), .val (.int p2), .val (.ref b4), .unset, .unset, .unset, .unset, .unset, .unset, .unset] [(.int p2), (.ref b4)])) rfl (by rw [hml]; rfl) (Steps.refl _) (argsL := [(.int p2)]) (rest := []) (lenOf pd0_2 rfl) rfl (by show 2 * 0 + _ ≤ _; exact Nat.le_of_eq rfl) (hb hby at_71) (fun _ _ => ⟨rfl, rfl, (by decide : 1 + 0 ≤ _), (by decide : 2 + 0 ≤ _)⟩)
    dsimp only [Pt.U, Pt.locs, Pt.cells, Pt.slots] at X10 l10 y10 z10 st10 hQ10
    subst l10 y10 z10
    obtain ⟨rfl, N10q, eq10⟩ := hQ10
    have e10 : T10.heap = T8.heap := eq10
    have N10 := Fr.app N8 N10q
    refine own_go (fun _ k => st10.trans k) ?_
    show own_Ends _ _ _ _ _ _ _ (T10.setTop (mkF m 74 #[.val (.int p0), .val (.int p1), .val (.int p2), .val (.int p3), .val (.int wB), .val (.int sB), .val (.int p2), .val (.ref b4), .unset, .unset, .unset, .unset, .unset, .unset, .unset] [(.int (f4 b4 p2 wB sB))]))
    refine own_go (fun _ k => XS.istore X10.here hx rfl (hb hby at_74) rfl (l' := #[.val (.int p0), .val (.int p1), .val (.int p2), .val (.int p3), .val (.int wB), .val (.int sB), .val (.int p2), .val (.ref b4), .val (.int (f4 b4 p2 wB sB)), .unset, .unset, .unset, .unset, .unset, .unset]) rfl k) ?_
    suffices hjzc : ∀ zc : Int32, zc = (f4 b4 p2 wB sB) → own_Ends p e below s (Q0 Z p0 p1 p2 p3 h0 n0) 16 128 (T10.setTop (mkF m 76 #[.val (.int p0), .val (.int p1), .val (.int p2), .val (.int p3), .val (.int wB), .val (.int sB), .val (.int p2), .val (.ref b4), .val (.int zc), .unset, .unset, .unset, .unset, .unset, .unset] [])) by exact hjzc _ rfl
    intro zc hzc
    show own_Ends _ _ _ _ _ _ _ (T10.setTop (mkF m 76 #[.val (.int p0), .val (.int p1), .val (.int p2), .val (.int p3), .val (.int wB), .val (.int sB), .val (.int p2), .val (.ref b4), .val (.int zc), .unset, .unset, .unset, .unset, .unset, .unset] []))
    refine own_go (fun _ k => XS.iload X10.here hx rfl (hb hby at_76) rfl k) ?_
    show own_Ends _ _ _ _ _ _ _ (T10.setTop (mkF m 78 #[.val (.int p0), .val (.int p1), .val (.int p2), .val (.int p3), .val (.int wB), .val (.int sB), .val (.int p2), .val (.ref b4), .val (.int zc), .unset, .unset, .unset, .unset, .unset, .unset] [(.int p2)]))
    refine own_go (fun _ k => XS.iload X10.here hx rfl (hb hby at_78) rfl k) ?_
    show own_Ends _ _ _ _ _ _ _ (T10.setTop (mkF m 80 #[.val (.int p0), .val (.int p1), .val (.int p2), .val (.int p3), .val (.int wB), .val (.int sB), .val (.int p2), .val (.ref b4), .val (.int zc), .unset, .unset, .unset, .unset, .unset, .unset] [(.int wB), (.int p2)]))
    by_cases hc11 : wB < p2
    · refine own_go (fun _ k => XS.icmpYes X10.here hx rfl (pc0 := 80) (pc' := 95) rfl (hb hby at_80) rfl (tlt hc11).2.2.1 (by decide) (by decide) k) ?_
      show own_Ends _ _ _ _ _ _ _ (T10.setTop (mkF m 95 #[.val (.int p0), .val (.int p1), .val (.int p2), .val (.int p3), .val (.int wB), .val (.int sB), .val (.int p2), .val (.ref b4), .val (.int zc), .unset, .unset, .unset, .unset, .unset, .unset] []))
      refine own_go (fun _ k => XS.iload X10.here hx rfl (hb hby at_95) rfl k) ?_
      show own_Ends _ _ _ _ _ _ _ (T10.setTop (mkF m 97 #[.val (.int p0), .val (.int p1), .val (.int p2), .val (.int p3), .val (.int wB), .val (.int sB), .val (.int p2), .val (.ref b4), .val (.int zc), .unset, .unset, .unset, .unset, .unset, .unset] [(.int zc)]))
      refine own_go (fun _ k => XS.i2l X10.here hx rfl (hb hby at_97) rfl k) ?_
      show own_Ends _ _ _ _ _ _ _ (T10.setTop (mkF m 98 #[.val (.int p0), .val (.int p1), .val (.int p2), .val (.int p3), .val (.int wB), .val (.int sB), .val (.int p2), .val (.ref b4), .val (.int zc), .unset, .unset, .unset, .unset, .unset, .unset] [(.long (zc.toInt64))]))
      refine own_go (fun _ k => XS.lconst X10.here hx rfl (hb hby at_98) k) ?_
      show own_Ends _ _ _ _ _ _ _ (T10.setTop (mkF m 99 #[.val (.int p0), .val (.int p1), .val (.int p2), .val (.int p3), .val (.int wB), .val (.int sB), .val (.int p2), .val (.ref b4), .val (.int zc), .unset, .unset, .unset, .unset, .unset, .unset] [(.long (1 : Int64)), (.long (zc.toInt64))]))
      refine own_go (fun _ k => XS.lsub X10.here hx rfl (hb hby at_99) rfl k) ?_
      show own_Ends _ _ _ _ _ _ _ (T10.setTop (mkF m 100 #[.val (.int p0), .val (.int p1), .val (.int p2), .val (.int p3), .val (.int wB), .val (.int sB), .val (.int p2), .val (.ref b4), .val (.int zc), .unset, .unset, .unset, .unset, .unset, .unset] [(.long ((zc.toInt64) - (1 : Int64)))]))
      refine own_go (fun _ k => XS.iload X10.here hx rfl (hb hby at_100) rfl k) ?_
      show own_Ends _ _ _ _ _ _ _ (T10.setTop (mkF m 102 #[.val (.int p0), .val (.int p1), .val (.int p2), .val (.int p3), .val (.int wB), .val (.int sB), .val (.int p2), .val (.ref b4), .val (.int zc), .unset, .unset, .unset, .unset, .unset, .unset] [(.int sB), (.long ((zc.toInt64) - (1 : Int64)))]))
      refine own_go (fun _ k => XS.i2l X10.here hx rfl (hb hby at_102) rfl k) ?_
      show own_Ends _ _ _ _ _ _ _ (T10.setTop (mkF m 103 #[.val (.int p0), .val (.int p1), .val (.int p2), .val (.int p3), .val (.int wB), .val (.int sB), .val (.int p2), .val (.ref b4), .val (.int zc), .unset, .unset, .unset, .unset, .unset, .unset] [(.long (sB.toInt64)), (.long ((zc.toInt64) - (1 : Int64)))]))
      refine own_go (fun _ k => XS.lmul X10.here hx rfl (hb hby at_103) rfl k) ?_
      show own_Ends _ _ _ _ _ _ _ (T10.setTop (mkF m 104 #[.val (.int p0), .val (.int p1), .val (.int p2), .val (.int p3), .val (.int wB), .val (.int sB), .val (.int p2), .val (.ref b4), .val (.int zc), .unset, .unset, .unset, .unset, .unset, .unset] [(.long (((zc.toInt64) - (1 : Int64)) * (sB.toInt64)))]))
      refine own_go (fun _ k => XS.iload X10.here hx rfl (hb hby at_104) rfl k) ?_
      show own_Ends _ _ _ _ _ _ _ (T10.setTop (mkF m 106 #[.val (.int p0), .val (.int p1), .val (.int p2), .val (.int p3), .val (.int wB), .val (.int sB), .val (.int p2), .val (.ref b4), .val (.int zc), .unset, .unset, .unset, .unset, .unset, .unset] [(.int wB), (.long (((zc.toInt64) - (1 : Int64)) * (sB.toInt64)))]))
      refine own_go (fun _ k => XS.i2l X10.here hx rfl (hb hby at_106) rfl k) ?_
      show own_Ends _ _ _ _ _ _ _ (T10.setTop (mkF m 107 #[.val (.int p0), .val (.int p1), .val (.int p2), .val (.int p3), .val (.int wB), .val (.int sB), .val (.int p2), .val (.ref b4), .val (.int zc), .unset, .unset, .unset, .unset, .unset, .unset] [(.long (wB.toInt64)), (.long (((zc.toInt64) - (1 : Int64)) * (sB.toInt64)))]))
      refine own_go (fun _ k => XS.ladd X10.here hx rfl (hb hby at_107) rfl k) ?_
      show own_Ends _ _ _ _ _ _ _ (T10.setTop (mkF m 108 #[.val (.int p0), .val (.int p1), .val (.int p2), .val (.int p3), .val (.int wB), .val (.int sB), .val (.int p2), .val (.ref b4), .val (.int zc), .unset, .unset, .unset, .unset, .unset, .unset] [(.long ((((zc.toInt64) - (1 : Int64)) * (sB.toInt64)) + (wB.toInt64)))]))
      refine own_go (fun _ k => XS.lstore X10.here hx rfl (hb hby at_108) rfl (l' := #[.val (.int p0), .val (.int p1), .val (.int p2), .val (.int p3), .val (.int wB), .val (.int sB), .val (.int p2), .val (.ref b4), .val (.int zc), .val (.long ((((zc.toInt64) - (1 : Int64)) * (sB.toInt64)) + (wB.toInt64))), .second, .unset, .unset, .unset, .unset]) rfl k) ?_
      show own_Ends _ _ _ _ _ _ _ (T10.setTop (mkF m 110 #[.val (.int p0), .val (.int p1), .val (.int p2), .val (.int p3), .val (.int wB), .val (.int sB), .val (.int p2), .val (.ref b4), .val (.int zc), .val (.long ((((zc.toInt64) - (1 : Int64)) * (sB.toInt64)) + (wB.toInt64))), .second, .unset, .unset, .unset, .unset] []))
      refine own_go (fun _ k => XS.iload X10.here hx rfl (hb hby at_110) rfl k) ?_
      show own_Ends _ _ _ _ _ _ _ (T10.setTop (mkF m 112 #[.val (.int p0), .val (.int p1), .val (.int p2), .val (.int p3), .val (.int wB), .val (.int sB), .val (.int p2), .val (.ref b4), .val (.int zc), .val (.long ((((zc.toInt64) - (1 : Int64)) * (sB.toInt64)) + (wB.toInt64))), .second, .unset, .unset, .unset, .unset] [(.int zc)]))
      refine own_go (fun _ k => XS.i2l X10.here hx rfl (hb hby at_112) rfl k) ?_
      show own_Ends _ _ _ _ _ _ _ (T10.setTop (mkF m 113 #[.val (.int p0), .val (.int p1), .val (.int p2), .val (.int p3), .val (.int wB), .val (.int sB), .val (.int p2), .val (.ref b4), .val (.int zc), .val (.long ((((zc.toInt64) - (1 : Int64)) * (sB.toInt64)) + (wB.toInt64))), .second, .unset, .unset, .unset, .unset] [(.long (zc.toInt64))]))
      refine own_go (fun _ k => X10.ldc2Long hx hown (mvT hZ (hw _ (List.mem_of_getElem? (i := 23) rfl))) (g := (mkF m 113 #[.val (.int p0), .val (.int p1), .val (.int p2), .val (.int p3), .val (.int wB), .val (.int sB), .val (.int p2), .val (.ref b4), .val (.int zc), .val (.long ((((zc.toInt64) - (1 : Int64)) * (sB.toInt64)) + (wB.toInt64))), .second, .unset, .unset, .unset, .unset] [(.long (zc.toInt64))])) rfl (hb hby at_113) _ k) ?_
      show own_Ends _ _ _ _ _ _ _ (T10.setTop (mkF m 116 #[.val (.int p0), .val (.int p1), .val (.int p2), .val (.int p3), .val (.int wB), .val (.int sB), .val (.int p2), .val (.ref b4), .val (.int zc), .val (.long ((((zc.toInt64) - (1 : Int64)) * (sB.toInt64)) + (wB.toInt64))), .second, .unset, .unset, .unset, .unset] [(.long (2 : Int64)), (.long (zc.toInt64))]))
      refine own_go (fun _ k => XS.lsub X10.here hx rfl (hb hby at_116) rfl k) ?_
      show own_Ends _ _ _ _ _ _ _ (T10.setTop (mkF m 117 #[.val (.int p0), .val (.int p1), .val (.int p2), .val (.int p3), .val (.int wB), .val (.int sB), .val (.int p2), .val (.ref b4), .val (.int zc), .val (.long ((((zc.toInt64) - (1 : Int64)) * (sB.toInt64)) + (wB.toInt64))), .second, .unset, .unset, .unset, .unset] [(.long ((zc.toInt64) - (2 : Int64)))]))
      refine own_go (fun _ k => XS.iload X10.here hx rfl (hb hby at_117) rfl k) ?_
      show own_Ends _ _ _ _ _ _ _ (T10.setTop (mkF m 119 #[.val (.int p0), .val (.int p1), .val (.int p2), .val (.int p3), .val (.int wB), .val (.int sB), .val (.int p2), .val (.ref b4), .val (.int zc), .val (.long ((((zc.toInt64) - (1 : Int64)) * (sB.toInt64)) + (wB.toInt64))), .second, .unset, .unset, .unset, .unset] [(.int sB), (.long ((zc.toInt64) - (2 : Int64)))]))
      refine own_go (fun _ k => XS.i2l X10.here hx rfl (hb hby at_119) rfl k) ?_
      show own_Ends _ _ _ _ _ _ _ (T10.setTop (mkF m 120 #[.val (.int p0), .val (.int p1), .val (.int p2), .val (.int p3), .val (.int wB), .val (.int sB), .val (.int p2), .val (.ref b4), .val (.int zc), .val (.long ((((zc.toInt64) - (1 : Int64)) * (sB.toInt64)) + (wB.toInt64))), .second, .unset, .unset, .unset, .unset] [(.long (sB.toInt64)), (.long ((zc.toInt64) - (2 : Int64)))]))
      refine own_go (fun _ k => XS.lmul X10.here hx rfl (hb hby at_120) rfl k) ?_
      show own_Ends _ _ _ _ _ _ _ (T10.setTop (mkF m 121 #[.val (.int p0), .val (.int p1), .val (.int p2), .val (.int p3), .val (.int wB), .val (.int sB), .val (.int p2), .val (.ref b4), .val (.int zc), .val (.long ((((zc.toInt64) - (1 : Int64)) * (sB.toInt64)) + (wB.toInt64))), .second, .unset, .unset, .unset, .unset] [(.long (((zc.toInt64) - (2 : Int64)) * (sB.toInt64)))]))
      refine own_go (fun _ k => XS.iload X10.here hx rfl (hb hby at_121) rfl k) ?_
      show own_Ends _ _ _ _ _ _ _ (T10.setTop (mkF m 123 #[.val (.int p0), .val (.int p1), .val (.int p2), .val (.int p3), .val (.int wB), .val (.int sB), .val (.int p2), .val (.ref b4), .val (.int zc), .val (.long ((((zc.toInt64) - (1 : Int64)) * (sB.toInt64)) + (wB.toInt64))), .second, .unset, .unset, .unset, .unset] [(.int wB), (.long (((zc.toInt64) - (2 : Int64)) * (sB.toInt64)))]))
      refine own_go (fun _ k => XS.i2l X10.here hx rfl (hb hby at_123) rfl k) ?_
      show own_Ends _ _ _ _ _ _ _ (T10.setTop (mkF m 124 #[.val (.int p0), .val (.int p1), .val (.int p2), .val (.int p3), .val (.int wB), .val (.int sB), .val (.int p2), .val (.ref b4), .val (.int zc), .val (.long ((((zc.toInt64) - (1 : Int64)) * (sB.toInt64)) + (wB.toInt64))), .second, .unset, .unset, .unset, .unset] [(.long (wB.toInt64)), (.long (((zc.toInt64) - (2 : Int64)) * (sB.toInt64)))]))
      refine own_go (fun _ k => XS.ladd X10.here hx rfl (hb hby at_124) rfl k) ?_
      show own_Ends _ _ _ _ _ _ _ (T10.setTop (mkF m 125 #[.val (.int p0), .val (.int p1), .val (.int p2), .val (.int p3), .val (.int wB), .val (.int sB), .val (.int p2), .val (.ref b4), .val (.int zc), .val (.long ((((zc.toInt64) - (1 : Int64)) * (sB.toInt64)) + (wB.toInt64))), .second, .unset, .unset, .unset, .unset] [(.long ((((zc.toInt64) - (2 : Int64)) * (sB.toInt64)) + (wB.toInt64)))]))
      refine own_go (fun _ k => XS.lstore X10.here hx rfl (hb hby at_125) rfl (l' := #[.val (.int p0), .val (.int p1), .val (.int p2), .val (.int p3), .val (.int wB), .val (.int sB), .val (.int p2), .val (.ref b4), .val (.int zc), .val (.long ((((zc.toInt64) - (1 : Int64)) * (sB.toInt64)) + (wB.toInt64))), .second, .val (.long ((((zc.toInt64) - (2 : Int64)) * (sB.toInt64)) + (wB.toInt64))), .second, .unset, .unset]) rfl k) ?_
      show own_Ends _ _ _ _ _ _ _ (T10.setTop (mkF m 127 #[.val (.int p0), .val (.int p1), .val (.int p2), .val (.int p3), .val (.int wB), .val (.int sB), .val (.int p2), .val (.ref b4), .val (.int zc), .val (.long ((((zc.toInt64) - (1 : Int64)) * (sB.toInt64)) + (wB.toInt64))), .second, .val (.long ((((zc.toInt64) - (2 : Int64)) * (sB.toInt64)) + (wB.toInt64))), .second, .unset, .unset] []))
      refine own_go (fun _ k => XS.iload X10.here hx rfl (hb hby at_127) rfl k) ?_
      show own_Ends _ _ _ _ _ _ _ (T10.setTop (mkF m 129 #[.val (.int p0), .val (.int p1), .val (.int p2), .val (.int p3), .val (.int wB), .val (.int sB), .val (.int p2), .val (.ref b4), .val (.int zc), .val (.long ((((zc.toInt64) - (1 : Int64)) * (sB.toInt64)) + (wB.toInt64))), .second, .val (.long ((((zc.toInt64) - (2 : Int64)) * (sB.toInt64)) + (wB.toInt64))), .second, .unset, .unset] [(.int p2)]))
      refine own_go (fun _ k => XS.i2l X10.here hx rfl (hb hby at_129) rfl k) ?_
      show own_Ends _ _ _ _ _ _ _ (T10.setTop (mkF m 130 #[.val (.int p0), .val (.int p1), .val (.int p2), .val (.int p3), .val (.int wB), .val (.int sB), .val (.int p2), .val (.ref b4), .val (.int zc), .val (.long ((((zc.toInt64) - (1 : Int64)) * (sB.toInt64)) + (wB.toInt64))), .second, .val (.long ((((zc.toInt64) - (2 : Int64)) * (sB.toInt64)) + (wB.toInt64))), .second, .unset, .unset] [(.long (p2.toInt64))]))
      refine own_go (fun _ k => XS.lstore X10.here hx rfl (hb hby at_130) rfl (l' := #[.val (.int p0), .val (.int p1), .val (.int p2), .val (.int p3), .val (.int wB), .val (.int sB), .val (.int p2), .val (.ref b4), .val (.int zc), .val (.long ((((zc.toInt64) - (1 : Int64)) * (sB.toInt64)) + (wB.toInt64))), .second, .val (.long ((((zc.toInt64) - (2 : Int64)) * (sB.toInt64)) + (wB.toInt64))), .second, .val (.long (p2.toInt64)), .second]) rfl k) ?_
      show own_Ends _ _ _ _ _ _ _ (T10.setTop (mkF m 132 #[.val (.int p0), .val (.int p1), .val (.int p2), .val (.int p3), .val (.int wB), .val (.int sB), .val (.int p2), .val (.ref b4), .val (.int zc), .val (.long ((((zc.toInt64) - (1 : Int64)) * (sB.toInt64)) + (wB.toInt64))), .second, .val (.long ((((zc.toInt64) - (2 : Int64)) * (sB.toInt64)) + (wB.toInt64))), .second, .val (.long (p2.toInt64)), .second] []))
      refine own_go (fun _ k => XS.iload X10.here hx rfl (hb hby at_132) rfl k) ?_
      show own_Ends _ _ _ _ _ _ _ (T10.setTop (mkF m 134 #[.val (.int p0), .val (.int p1), .val (.int p2), .val (.int p3), .val (.int wB), .val (.int sB), .val (.int p2), .val (.ref b4), .val (.int zc), .val (.long ((((zc.toInt64) - (1 : Int64)) * (sB.toInt64)) + (wB.toInt64))), .second, .val (.long ((((zc.toInt64) - (2 : Int64)) * (sB.toInt64)) + (wB.toInt64))), .second, .val (.long (p2.toInt64)), .second] [(.int zc)]))
      refine own_go (fun _ k => XS.iconst X10.here hx rfl (hb hby at_134) k) ?_
      show own_Ends _ _ _ _ _ _ _ (T10.setTop (mkF m 135 #[.val (.int p0), .val (.int p1), .val (.int p2), .val (.int p3), .val (.int wB), .val (.int sB), .val (.int p2), .val (.ref b4), .val (.int zc), .val (.long ((((zc.toInt64) - (1 : Int64)) * (sB.toInt64)) + (wB.toInt64))), .second, .val (.long ((((zc.toInt64) - (2 : Int64)) * (sB.toInt64)) + (wB.toInt64))), .second, .val (.long (p2.toInt64)), .second] [(.int (2 : Int32)), (.int zc)]))
      refine own_go (fun _ k => XS.icmpYes X10.here hx rfl (pc0 := 135) (pc' := 140) rfl (hb hby at_135) rfl (flt (own_main PwB PsB hzc hc11).1).2.1 (by decide) (by decide) k) ?_
      show own_Ends _ _ _ _ _ _ _ (T10.setTop (mkF m 140 #[.val (.int p0), .val (.int p1), .val (.int p2), .val (.int p3), .val (.int wB), .val (.int sB), .val (.int p2), .val (.ref b4), .val (.int zc), .val (.long ((((zc.toInt64) - (1 : Int64)) * (sB.toInt64)) + (wB.toInt64))), .second, .val (.long ((((zc.toInt64) - (2 : Int64)) * (sB.toInt64)) + (wB.toInt64))), .second, .val (.long (p2.toInt64)), .second] []))
      refine own_go (fun _ k => XS.lload X10.here hx rfl (hb hby at_140) rfl k) ?_
      show own_Ends _ _ _ _ _ _ _ (T10.setTop (mkF m 142 #[.val (.int p0), .val (.int p1), .val (.int p2), .val (.int p3), .val (.int wB), .val (.int sB), .val (.int p2), .val (.ref b4), .val (.int zc), .val (.long ((((zc.toInt64) - (1 : Int64)) * (sB.toInt64)) + (wB.toInt64))), .second, .val (.long ((((zc.toInt64) - (2 : Int64)) * (sB.toInt64)) + (wB.toInt64))), .second, .val (.long (p2.toInt64)), .second] [(.long ((((zc.toInt64) - (1 : Int64)) * (sB.toInt64)) + (wB.toInt64)))]))
      refine own_go (fun _ k => XS.lload X10.here hx rfl (hb hby at_142) rfl k) ?_
      show own_Ends _ _ _ _ _ _ _ (T10.setTop (mkF m 144 #[.val (.int p0), .val (.int p1), .val (.int p2), .val (.int p3), .val (.int wB), .val (.int sB), .val (.int p2), .val (.ref b4), .val (.int zc), .val (.long ((((zc.toInt64) - (1 : Int64)) * (sB.toInt64)) + (wB.toInt64))), .second, .val (.long ((((zc.toInt64) - (2 : Int64)) * (sB.toInt64)) + (wB.toInt64))), .second, .val (.long (p2.toInt64)), .second] [(.long (p2.toInt64)), (.long ((((zc.toInt64) - (1 : Int64)) * (sB.toInt64)) + (wB.toInt64)))]))
      refine own_go (fun _ k => XS.lcmp X10.here hx rfl (hb hby at_144) rfl k) ?_
      show own_Ends _ _ _ _ _ _ _ (T10.setTop (mkF m 145 #[.val (.int p0), .val (.int p1), .val (.int p2), .val (.int p3), .val (.int wB), .val (.int sB), .val (.int p2), .val (.ref b4), .val (.int zc), .val (.long ((((zc.toInt64) - (1 : Int64)) * (sB.toInt64)) + (wB.toInt64))), .second, .val (.long ((((zc.toInt64) - (2 : Int64)) * (sB.toInt64)) + (wB.toInt64))), .second, .val (.long (p2.toInt64)), .second] [(.int (lcmpW ((((zc.toInt64) - (1 : Int64)) * (sB.toInt64)) + (wB.toInt64)) (p2.toInt64)))]))
      by_cases hc12 : (lcmpW ((((zc.toInt64) - (1 : Int64)) * (sB.toInt64)) + (wB.toInt64)) (p2.toInt64)) = (0 : Int32)
      · refine own_go (fun _ k => XS.ifYes X10.here hx rfl (pc0 := 145) (pc' := 164) rfl (hb hby at_145) rfl ((if0 _ _).trans (teq hc12).1) (by decide) (by decide) k) ?_
        show own_Ends _ _ _ _ _ _ _ (T10.setTop (mkF m 164 #[.val (.int p0), .val (.int p1), .val (.int p2), .val (.int p3), .val (.int wB), .val (.int sB), .val (.int p2), .val (.ref b4), .val (.int zc), .val (.long ((((zc.toInt64) - (1 : Int64)) * (sB.toInt64)) + (wB.toInt64))), .second, .val (.long ((((zc.toInt64) - (2 : Int64)) * (sB.toInt64)) + (wB.toInt64))), .second, .val (.long (p2.toInt64)), .second] []))
        refine own_go (fun _ k => XS.iconst X10.here hx rfl (hb hby at_164) k) ?_
        show own_Ends _ _ _ _ _ _ _ (T10.setTop (mkF m 165 #[.val (.int p0), .val (.int p1), .val (.int p2), .val (.int p3), .val (.int wB), .val (.int sB), .val (.int p2), .val (.ref b4), .val (.int zc), .val (.long ((((zc.toInt64) - (1 : Int64)) * (sB.toInt64)) + (wB.toInt64))), .second, .val (.long ((((zc.toInt64) - (2 : Int64)) * (sB.toInt64)) + (wB.toInt64))), .second, .val (.long (p2.toInt64)), .second] [(.int (1 : Int32))]))
        refine own_go (fun _ k => XS.goto X10.here hx rfl (pc0 := 165) (pc' := 169) rfl (hb hby at_165) (by decide) (by decide) k) ?_
        show own_Ends _ _ _ _ _ _ _ (T10.setTop (mkF m 169 #[.val (.int p0), .val (.int p1), .val (.int p2), .val (.int p3), .val (.int wB), .val (.int sB), .val (.int p2), .val (.ref b4), .val (.int zc), .val (.long ((((zc.toInt64) - (1 : Int64)) * (sB.toInt64)) + (wB.toInt64))), .second, .val (.long ((((zc.toInt64) - (2 : Int64)) * (sB.toInt64)) + (wB.toInt64))), .second, .val (.long (p2.toInt64)), .second] [(.int (1 : Int32))]))
        exact own_retN X10 hx hlk (t := .boolean) Bd.returns (by simp) (hb hby at_169) (by decide) (by decide) ⟨rfl, N10⟩
      · refine own_go (fun _ k => XS.ifNo X10.here hx rfl (hb hby at_145) rfl ((if0 _ _).trans (feq hc12).1) k) ?_
        show own_Ends _ _ _ _ _ _ _ (T10.setTop (mkF m 148 #[.val (.int p0), .val (.int p1), .val (.int p2), .val (.int p3), .val (.int wB), .val (.int sB), .val (.int p2), .val (.ref b4), .val (.int zc), .val (.long ((((zc.toInt64) - (1 : Int64)) * (sB.toInt64)) + (wB.toInt64))), .second, .val (.long ((((zc.toInt64) - (2 : Int64)) * (sB.toInt64)) + (wB.toInt64))), .second, .val (.long (p2.toInt64)), .second] []))
        refine own_go (fun _ k => XS.lload X10.here hx rfl (hb hby at_148) rfl k) ?_
        show own_Ends _ _ _ _ _ _ _ (T10.setTop (mkF m 150 #[.val (.int p0), .val (.int p1), .val (.int p2), .val (.int p3), .val (.int wB), .val (.int sB), .val (.int p2), .val (.ref b4), .val (.int zc), .val (.long ((((zc.toInt64) - (1 : Int64)) * (sB.toInt64)) + (wB.toInt64))), .second, .val (.long ((((zc.toInt64) - (2 : Int64)) * (sB.toInt64)) + (wB.toInt64))), .second, .val (.long (p2.toInt64)), .second] [(.long ((((zc.toInt64) - (2 : Int64)) * (sB.toInt64)) + (wB.toInt64)))]))
        refine own_go (fun _ k => XS.lload X10.here hx rfl (hb hby at_150) rfl k) ?_
        show own_Ends _ _ _ _ _ _ _ (T10.setTop (mkF m 152 #[.val (.int p0), .val (.int p1), .val (.int p2), .val (.int p3), .val (.int wB), .val (.int sB), .val (.int p2), .val (.ref b4), .val (.int zc), .val (.long ((((zc.toInt64) - (1 : Int64)) * (sB.toInt64)) + (wB.toInt64))), .second, .val (.long ((((zc.toInt64) - (2 : Int64)) * (sB.toInt64)) + (wB.toInt64))), .second, .val (.long (p2.toInt64)), .second] [(.long (p2.toInt64)), (.long ((((zc.toInt64) - (2 : Int64)) * (sB.toInt64)) + (wB.toInt64)))]))
        refine own_go (fun _ k => XS.lcmp X10.here hx rfl (hb hby at_152) rfl k) ?_
        show own_Ends _ _ _ _ _ _ _ (T10.setTop (mkF m 153 #[.val (.int p0), .val (.int p1), .val (.int p2), .val (.int p3), .val (.int wB), .val (.int sB), .val (.int p2), .val (.ref b4), .val (.int zc), .val (.long ((((zc.toInt64) - (1 : Int64)) * (sB.toInt64)) + (wB.toInt64))), .second, .val (.long ((((zc.toInt64) - (2 : Int64)) * (sB.toInt64)) + (wB.toInt64))), .second, .val (.long (p2.toInt64)), .second] [(.int (lcmpW ((((zc.toInt64) - (2 : Int64)) * (sB.toInt64)) + (wB.toInt64)) (p2.toInt64)))]))
        refine own_go (fun _ k => XS.ifNo X10.here hx rfl (hb hby at_153) rfl ((if0 _ _).trans (tlt ((own_main PwB PsB hzc hc11).2 hc12).1).2.1) k) ?_
        show own_Ends _ _ _ _ _ _ _ (T10.setTop (mkF m 156 #[.val (.int p0), .val (.int p1), .val (.int p2), .val (.int p3), .val (.int wB), .val (.int sB), .val (.int p2), .val (.ref b4), .val (.int zc), .val (.long ((((zc.toInt64) - (1 : Int64)) * (sB.toInt64)) + (wB.toInt64))), .second, .val (.long ((((zc.toInt64) - (2 : Int64)) * (sB.toInt64)) + (wB.toInt64))), .second, .val (.long (p2.toInt64)), .second] []))
        refine own_go (fun _ k => XS.lload X10.here hx rfl (hb hby at_156) rfl k) ?_
        show own_Ends _ _ _ _ _ _ _ (T10.setTop (mkF m 158 #[.val (.int p0), .val (.int p1), .val (.int p2), .val (.int p3), .val (.int wB), .val (.int sB), .val (.int p2), .val (.ref b4), .val (.int zc), .val (.long ((((zc.toInt64) - (1 : Int64)) * (sB.toInt64)) + (wB.toInt64))), .second, .val (.long ((((zc.toInt64) - (2 : Int64)) * (sB.toInt64)) + (wB.toInt64))), .second, .val (.long (p2.toInt64)), .second] [(.long (p2.toInt64))]))
        refine own_go (fun _ k => XS.lload X10.here hx rfl (hb hby at_158) rfl k) ?_
        show own_Ends _ _ _ _ _ _ _ (T10.setTop (mkF m 160 #[.val (.int p0), .val (.int p1), .val (.int p2), .val (.int p3), .val (.int wB), .val (.int sB), .val (.int p2), .val (.ref b4), .val (.int zc), .val (.long ((((zc.toInt64) - (1 : Int64)) * (sB.toInt64)) + (wB.toInt64))), .second, .val (.long ((((zc.toInt64) - (2 : Int64)) * (sB.toInt64)) + (wB.toInt64))), .second, .val (.long (p2.toInt64)), .second] [(.long ((((zc.toInt64) - (1 : Int64)) * (sB.toInt64)) + (wB.toInt64))), (.long (p2.toInt64))]))
        refine own_go (fun _ k => XS.lcmp X10.here hx rfl (hb hby at_160) rfl k) ?_
        show own_Ends _ _ _ _ _ _ _ (T10.setTop (mkF m 161 #[.val (.int p0), .val (.int p1), .val (.int p2), .val (.int p3), .val (.int wB), .val (.int sB), .val (.int p2), .val (.ref b4), .val (.int zc), .val (.long ((((zc.toInt64) - (1 : Int64)) * (sB.toInt64)) + (wB.toInt64))), .second, .val (.long ((((zc.toInt64) - (2 : Int64)) * (sB.toInt64)) + (wB.toInt64))), .second, .val (.long (p2.toInt64)), .second] [(.int (lcmpW (p2.toInt64) ((((zc.toInt64) - (1 : Int64)) * (sB.toInt64)) + (wB.toInt64))))]))
        refine own_go (fun _ k => XS.ifNo X10.here hx rfl (hb hby at_161) rfl ((if0 _ _).trans (tlt ((own_main PwB PsB hzc hc11).2 hc12).2).2.1) k) ?_
        show own_Ends _ _ _ _ _ _ _ (T10.setTop (mkF m 164 #[.val (.int p0), .val (.int p1), .val (.int p2), .val (.int p3), .val (.int wB), .val (.int sB), .val (.int p2), .val (.ref b4), .val (.int zc), .val (.long ((((zc.toInt64) - (1 : Int64)) * (sB.toInt64)) + (wB.toInt64))), .second, .val (.long ((((zc.toInt64) - (2 : Int64)) * (sB.toInt64)) + (wB.toInt64))), .second, .val (.long (p2.toInt64)), .second] []))
        refine own_go (fun _ k => XS.iconst X10.here hx rfl (hb hby at_164) k) ?_
        show own_Ends _ _ _ _ _ _ _ (T10.setTop (mkF m 165 #[.val (.int p0), .val (.int p1), .val (.int p2), .val (.int p3), .val (.int wB), .val (.int sB), .val (.int p2), .val (.ref b4), .val (.int zc), .val (.long ((((zc.toInt64) - (1 : Int64)) * (sB.toInt64)) + (wB.toInt64))), .second, .val (.long ((((zc.toInt64) - (2 : Int64)) * (sB.toInt64)) + (wB.toInt64))), .second, .val (.long (p2.toInt64)), .second] [(.int (1 : Int32))]))
        refine own_go (fun _ k => XS.goto X10.here hx rfl (pc0 := 165) (pc' := 169) rfl (hb hby at_165) (by decide) (by decide) k) ?_
        show own_Ends _ _ _ _ _ _ _ (T10.setTop (mkF m 169 #[.val (.int p0), .val (.int p1), .val (.int p2), .val (.int p3), .val (.int wB), .val (.int sB), .val (.int p2), .val (.ref b4), .val (.int zc), .val (.long ((((zc.toInt64) - (1 : Int64)) * (sB.toInt64)) + (wB.toInt64))), .second, .val (.long ((((zc.toInt64) - (2 : Int64)) * (sB.toInt64)) + (wB.toInt64))), .second, .val (.long (p2.toInt64)), .second] [(.int (1 : Int32))]))
        exact own_retN X10 hx hlk (t := .boolean) Bd.returns (by simp) (hb hby at_169) (by decide) (by decide) ⟨rfl, N10⟩
    · refine own_go (fun _ k => XS.icmpNo X10.here hx rfl (hb hby at_80) rfl (flt hc11).2.2.1 k) ?_
      show own_Ends _ _ _ _ _ _ _ (T10.setTop (mkF m 83 #[.val (.int p0), .val (.int p1), .val (.int p2), .val (.int p3), .val (.int wB), .val (.int sB), .val (.int p2), .val (.ref b4), .val (.int zc), .unset, .unset, .unset, .unset, .unset, .unset] []))
      refine own_go (fun _ k => XS.iload X10.here hx rfl (hb hby at_83) rfl k) ?_
      show own_Ends _ _ _ _ _ _ _ (T10.setTop (mkF m 85 #[.val (.int p0), .val (.int p1), .val (.int p2), .val (.int p3), .val (.int wB), .val (.int sB), .val (.int p2), .val (.ref b4), .val (.int zc), .unset, .unset, .unset, .unset, .unset, .unset] [(.int zc)]))
      refine own_go (fun _ k => XS.iconst X10.here hx rfl (hb hby at_85) k) ?_
      show own_Ends _ _ _ _ _ _ _ (T10.setTop (mkF m 86 #[.val (.int p0), .val (.int p1), .val (.int p2), .val (.int p3), .val (.int wB), .val (.int sB), .val (.int p2), .val (.ref b4), .val (.int zc), .unset, .unset, .unset, .unset, .unset, .unset] [(.int (1 : Int32)), (.int zc)]))
      refine own_go (fun _ k => XS.icmpNo X10.here hx rfl (hb hby at_86) rfl (teq (own_one hzc hc11)).2 k) ?_
      show own_Ends _ _ _ _ _ _ _ (T10.setTop (mkF m 89 #[.val (.int p0), .val (.int p1), .val (.int p2), .val (.int p3), .val (.int wB), .val (.int sB), .val (.int p2), .val (.ref b4), .val (.int zc), .unset, .unset, .unset, .unset, .unset, .unset] []))
      refine own_go (fun _ k => XS.iconst X10.here hx rfl (hb hby at_89) k) ?_
      show own_Ends _ _ _ _ _ _ _ (T10.setTop (mkF m 90 #[.val (.int p0), .val (.int p1), .val (.int p2), .val (.int p3), .val (.int wB), .val (.int sB), .val (.int p2), .val (.ref b4), .val (.int zc), .unset, .unset, .unset, .unset, .unset, .unset] [(.int (1 : Int32))]))
      refine own_go (fun _ k => XS.goto X10.here hx rfl (pc0 := 90) (pc' := 94) rfl (hb hby at_90) (by decide) (by decide) k) ?_
      show own_Ends _ _ _ _ _ _ _ (T10.setTop (mkF m 94 #[.val (.int p0), .val (.int p1), .val (.int p2), .val (.int p3), .val (.int wB), .val (.int sB), .val (.int p2), .val (.ref b4), .val (.int zc), .unset, .unset, .unset, .unset, .unset, .unset] [(.int (1 : Int32))]))
      exact own_retN X10 hx hlk (t := .boolean) Bd.returns (by simp) (hb hby at_94) (by decide) (by decide) ⟨rfl, N10⟩
  · refine own_go (fun _ k => XS.ifNo X0.here hx rfl (hb hby at_3) rfl ((if0 _ _).trans (feq hc1).1) k) ?_
    show own_Ends _ _ _ _ _ _ _ (s₁.setTop (mkF m 6 #[.val (.int p0), .val (.int p1), .val (.int p2), .val (.int p3), .unset, .unset, .unset, .unset, .unset, .unset, .unset, .unset, .unset, .unset, .unset] []))
    refine own_go (fun _ k => XS.iconst X0.here hx rfl (hb hby at_6) k) ?_
    show own_Ends _ _ _ _ _ _ _ (s₁.setTop (mkF m 7 #[.val (.int p0), .val (.int p1), .val (.int p2), .val (.int p3), .unset, .unset, .unset, .unset, .unset, .unset, .unset, .unset, .unset, .unset, .unset] [(.int (1 : Int32))]))
    refine own_go (fun _ k => XS.iloadN X0.here hx rfl (hb hby at_7) rfl k) ?_
    show own_Ends _ _ _ _ _ _ _ (s₁.setTop (mkF m 8 #[.val (.int p0), .val (.int p1), .val (.int p2), .val (.int p3), .unset, .unset, .unset, .unset, .unset, .unset, .unset, .unset, .unset, .unset, .unset] [(.int p0), (.int (1 : Int32))]))
    refine own_go (fun _ k => XS.bipush X0.here hx rfl (hb hby at_8) k) ?_
    show own_Ends _ _ _ _ _ _ _ (s₁.setTop (mkF m 10 #[.val (.int p0), .val (.int p1), .val (.int p2), .val (.int p3), .unset, .unset, .unset, .unset, .unset, .unset, .unset, .unset, .unset, .unset, .unset] [(.int (7 : Int32)), (.int p0), (.int (1 : Int32))]))
    refine own_go (fun _ k => XS.iand X0.here hx rfl (hb hby at_10) rfl k) ?_
    show own_Ends _ _ _ _ _ _ _ (s₁.setTop (mkF m 11 #[.val (.int p0), .val (.int p1), .val (.int p2), .val (.int p3), .unset, .unset, .unset, .unset, .unset, .unset, .unset, .unset, .unset, .unset, .unset] [(.int (p0 &&& (7 : Int32))), (.int (1 : Int32))]))
    refine own_go (fun _ k => XS.iadd X0.here hx rfl (hb hby at_11) rfl k) ?_
    show own_Ends _ _ _ _ _ _ _ (s₁.setTop (mkF m 12 #[.val (.int p0), .val (.int p1), .val (.int p2), .val (.int p3), .unset, .unset, .unset, .unset, .unset, .unset, .unset, .unset, .unset, .unset, .unset] [(.int ((1 : Int32) + (p0 &&& (7 : Int32))))]))
    refine own_go (fun _ k => XS.istore X0.here hx rfl (hb hby at_12) rfl (l' := #[.val (.int p0), .val (.int p1), .val (.int p2), .val (.int p3), .val (.int ((1 : Int32) + (p0 &&& (7 : Int32)))), .unset, .unset, .unset, .unset, .unset, .unset, .unset, .unset, .unset, .unset]) rfl k) ?_
    suffices hjwA : ∀ wA : Int32, wA = ((1 : Int32) + (p0 &&& (7 : Int32))) → own_Ends p e below s (Q0 Z p0 p1 p2 p3 h0 n0) 16 128 (s₁.setTop (mkF m 14 #[.val (.int p0), .val (.int p1), .val (.int p2), .val (.int p3), .val (.int wA), .unset, .unset, .unset, .unset, .unset, .unset, .unset, .unset, .unset, .unset] [])) by exact hjwA _ rfl
    intro wA hwA
    have PwA := own_w7 hwA
    show own_Ends _ _ _ _ _ _ _ (s₁.setTop (mkF m 14 #[.val (.int p0), .val (.int p1), .val (.int p2), .val (.int p3), .val (.int wA), .unset, .unset, .unset, .unset, .unset, .unset, .unset, .unset, .unset, .unset] []))
    refine own_go (fun _ k => XS.iconst X0.here hx rfl (hb hby at_14) k) ?_
    show own_Ends _ _ _ _ _ _ _ (s₁.setTop (mkF m 15 #[.val (.int p0), .val (.int p1), .val (.int p2), .val (.int p3), .val (.int wA), .unset, .unset, .unset, .unset, .unset, .unset, .unset, .unset, .unset, .unset] [(.int (1 : Int32))]))
    refine own_go (fun _ k => XS.iloadN X0.here hx rfl (hb hby at_15) rfl k) ?_
    show own_Ends _ _ _ _ _ _ _ (s₁.setTop (mkF m 16 #[.val (.int p0), .val (.int p1), .val (.int p2), .val (.int p3), .val (.int wA), .unset, .unset, .unset, .unset, .unset, .unset, .unset, .unset, .unset, .unset] [(.int p1), (.int (1 : Int32))]))
    refine own_go (fun _ k => XS.bipush X0.here hx rfl (hb hby at_16) k) ?_
    show own_Ends _ _ _ _ _ _ _ (s₁.setTop (mkF m 18 #[.val (.int p0), .val (.int p1), .val (.int p2), .val (.int p3), .val (.int wA), .unset, .unset, .unset, .unset, .unset, .unset, .unset, .unset, .unset, .unset] [(.int (7 : Int32)), (.int p1), (.int (1 : Int32))]))
    refine own_go (fun _ k => XS.iand X0.here hx rfl (hb hby at_18) rfl k) ?_
    show own_Ends _ _ _ _ _ _ _ (s₁.setTop (mkF m 19 #[.val (.int p0), .val (.int p1), .val (.int p2), .val (.int p3), .val (.int wA), .unset, .unset, .unset, .unset, .unset, .unset, .unset, .unset, .unset, .unset] [(.int (p1 &&& (7 : Int32))), (.int (1 : Int32))]))
    refine own_go (fun _ k => XS.iadd X0.here hx rfl (hb hby at_19) rfl k) ?_
    show own_Ends _ _ _ _ _ _ _ (s₁.setTop (mkF m 20 #[.val (.int p0), .val (.int p1), .val (.int p2), .val (.int p3), .val (.int wA), .unset, .unset, .unset, .unset, .unset, .unset, .unset, .unset, .unset, .unset] [(.int ((1 : Int32) + (p1 &&& (7 : Int32))))]))
    refine own_go (fun _ k => XS.istore X0.here hx rfl (hb hby at_20) rfl (l' := #[.val (.int p0), .val (.int p1), .val (.int p2), .val (.int p3), .val (.int wA), .val (.int ((1 : Int32) + (p1 &&& (7 : Int32)))), .unset, .unset, .unset, .unset, .unset, .unset, .unset, .unset, .unset]) rfl k) ?_
    suffices hjsA : ∀ sA : Int32, sA = ((1 : Int32) + (p1 &&& (7 : Int32))) → own_Ends p e below s (Q0 Z p0 p1 p2 p3 h0 n0) 16 128 (s₁.setTop (mkF m 22 #[.val (.int p0), .val (.int p1), .val (.int p2), .val (.int p3), .val (.int wA), .val (.int sA), .unset, .unset, .unset, .unset, .unset, .unset, .unset, .unset, .unset] [])) by exact hjsA _ rfl
    intro sA hsA
    have PsA := own_w7 hsA
    show own_Ends _ _ _ _ _ _ _ (s₁.setTop (mkF m 22 #[.val (.int p0), .val (.int p1), .val (.int p2), .val (.int p3), .val (.int wA), .val (.int sA), .unset, .unset, .unset, .unset, .unset, .unset, .unset, .unset, .unset] []))
    refine own_go (fun _ k => XS.iloadN X0.here hx rfl (hb hby at_22) rfl k) ?_
    show own_Ends _ _ _ _ _ _ _ (s₁.setTop (mkF m 23 #[.val (.int p0), .val (.int p1), .val (.int p2), .val (.int p3), .val (.int wA), .val (.int sA), .unset, .unset, .unset, .unset, .unset, .unset, .unset, .unset, .unset] [(.int p2)]))
    refine own_go (fun _ k => XS.bipush X0.here hx rfl (hb hby at_23) k) ?_
    show own_Ends _ _ _ _ _ _ _ (s₁.setTop (mkF m 25 #[.val (.int p0), .val (.int p1), .val (.int p2), .val (.int p3), .val (.int wA), .val (.int sA), .unset, .unset, .unset, .unset, .unset, .unset, .unset, .unset, .unset] [(.int (63 : Int32)), (.int p2)]))
    refine own_go (fun _ k => XS.iand X0.here hx rfl (hb hby at_25) rfl k) ?_
    show own_Ends _ _ _ _ _ _ _ (s₁.setTop (mkF m 26 #[.val (.int p0), .val (.int p1), .val (.int p2), .val (.int p3), .val (.int wA), .val (.int sA), .unset, .unset, .unset, .unset, .unset, .unset, .unset, .unset, .unset] [(.int (p2 &&& (63 : Int32)))]))
    refine own_go (fun _ k => XS.istore X0.here hx rfl (hb hby at_26) rfl (l' := #[.val (.int p0), .val (.int p1), .val (.int p2), .val (.int p3), .val (.int wA), .val (.int sA), .val (.int (p2 &&& (63 : Int32))), .unset, .unset, .unset, .unset, .unset, .unset, .unset, .unset]) rfl k) ?_
    show own_Ends _ _ _ _ _ _ _ (s₁.setTop (mkF m 28 #[.val (.int p0), .val (.int p1), .val (.int p2), .val (.int p3), .val (.int wA), .val (.int sA), .val (.int (p2 &&& (63 : Int32))), .unset, .unset, .unset, .unset, .unset, .unset, .unset, .unset] []))
    refine own_go (fun _ k => XS.goto X0.here hx rfl (pc0 := 28) (pc' := 54) rfl (hb hby at_28) (by decide) (by decide) k) ?_
    show own_Ends _ _ _ _ _ _ _ (s₁.setTop (mkF m 54 #[.val (.int p0), .val (.int p1), .val (.int p2), .val (.int p3), .val (.int wA), .val (.int sA), .val (.int (p2 &&& (63 : Int32))), .unset, .unset, .unset, .unset, .unset, .unset, .unset, .unset] []))
    obtain ⟨T13, h13, X13, e13, E13, A13, D13, -, st13⟩ := newO X0 hx hZ hown (hw _ (List.mem_of_getElem? (i := 0) rfl)) (hw _ (List.mem_of_getElem? (i := 1) rfl)) (hw _ (List.mem_of_getElem? (i := 2) rfl)) e0 (g := (mkF m 54 #[.val (.int p0), .val (.int p1), .val (.int p2), .val (.int p3), .val (.int wA), .val (.int sA), .val (.int (p2 &&& (63 : Int32))), .unset, .unset, .unset, .unset, .unset, .unset, .unset, .unset] [])) rfl (hb hby at_54) (by decide) (by decide)
    obtain ⟨b13, q_b13⟩ : ∃ z, z = h0.size := ⟨_, rfl⟩
    rw [← q_b13] at A13 D13 st13
    have g_b13 : n0 ≤ b13 := Nat.le_trans (own_sz O0) (Nat.le_of_eq q_b13.symm)
    refine own_go (fun _ k => st13 _ k) ?_
    have F14 : Old Z n0 h13 := (O0.ext E13)
    have F15 : Fld Z h13 b13 "com/example/cumaea/cumaea/ArbitraryPassages" "width" "I" (.int (0 : Int32)) := D13 (Or.inr (hw _ (List.mem_of_getElem? (i := 15) rfl))) (ty := .int) (by decide)
    have F16 : Fld Z h13 b13 "com/example/cumaea/cumaea/ArbitraryPassages" "step" "I" (.int (0 : Int32)) := D13 (Or.inr (hw _ (List.mem_of_getElem? (i := 17) rfl))) (ty := .int) (by decide)
    show own_Ends _ _ _ _ _ _ _ (T13.setTop (mkF m 57 #[.val (.int p0), .val (.int p1), .val (.int p2), .val (.int p3), .val (.int wA), .val (.int sA), .val (.int (p2 &&& (63 : Int32))), .unset, .unset, .unset, .unset, .unset, .unset, .unset, .unset] [(.ref b13)]))
    refine own_go (fun _ k => XS.dup X13.here hx rfl (hb hby at_57) rfl rfl k) ?_
    show own_Ends _ _ _ _ _ _ _ (T13.setTop (mkF m 58 #[.val (.int p0), .val (.int p1), .val (.int p2), .val (.int p3), .val (.int wA), .val (.int sA), .val (.int (p2 &&& (63 : Int32))), .unset, .unset, .unset, .unset, .unset, .unset, .unset, .unset] [(.ref b13), (.ref b13)]))
    refine own_go (fun _ k => XS.iload X13.here hx rfl (hb hby at_58) rfl k) ?_
    show own_Ends _ _ _ _ _ _ _ (T13.setTop (mkF m 60 #[.val (.int p0), .val (.int p1), .val (.int p2), .val (.int p3), .val (.int wA), .val (.int sA), .val (.int (p2 &&& (63 : Int32))), .unset, .unset, .unset, .unset, .unset, .unset, .unset, .unset] [(.int wA), (.ref b13), (.ref b13)]))
    refine own_go (fun _ k => XS.iload X13.here hx rfl (hb hby at_60) rfl k) ?_
    show own_Ends _ _ _ _ _ _ _ (T13.setTop (mkF m 62 #[.val (.int p0), .val (.int p1), .val (.int p2), .val (.int p3), .val (.int wA), .val (.int sA), .val (.int (p2 &&& (63 : Int32))), .unset, .unset, .unset, .unset, .unset, .unset, .unset, .unset] [(.int sA), (.int wA), (.ref b13), (.ref b13)]))
    obtain ⟨_, _, ⟨T17, L17, k17, n17⟩, -, X17, ⟨Lc17, hQ17, l17, y17, z17⟩, st17⟩ := X13.specialBack hx (y := (⟨"com/example/cumaea/cumaea/ArbitraryPassages", "<init>", "(II)V"⟩ : MethodName)) rfl hown (mvT hZ (hw _ (List.mem_of_getElem? (i := 3) rfl))) (mvT hZ (hw _ (List.mem_of_getElem? (i := 4) rfl))) (mvT hZ (hw _ (List.mem_of_getElem? (i := 5) rfl))) (by decide) (backOf (W := 1) (rm1 l Z ar hw [] b13 wA sA ((.int (0 : Int32))) ((.int (0 : Int32))) h13 n0 F14 A13 g_b13 F15 F16 PwA PsA) hZ (hw _ (List.mem_of_getElem? (i := 5) rfl)) (hw _ (List.mem_of_getElem? (i := 2) rfl)) (by decide) (by decide)) (g := (mkF m 62 #[.val (.int p0), .val (.int p1), .val (.int p2), .val (.int p3), .val (.int wA), .val (.int sA), .val (.int (p2 &&& (63 : Int32))), .unset, .unset, .unset, .unset, .unset, .unset, .unset, .unset] [(.int sA), (.int wA), (.ref b13), (.ref b13)])) rfl (by rw [hml]; rfl) (Steps.refl _) (a := b13) (argsL := [(.int wA), (.int sA)]) (rest := [(.ref b13)]) (lenOf pd0_1 rfl) rfl (by show 2 * 0 + _ ≤ _; exact Nat.le_of_eq rfl) (hb hby at_62) (fun _ _ => ⟨rfl, e13, (by decide : 1 + 0 ≤ _), (by decide : 2 + 0 ≤ _)⟩)
    dsimp only [Pt.U, Pt.locs, Pt.cells, Pt.slots] at X17 l17 y17 z17 st17 hQ17
    subst l17 y17 z17
    obtain ⟨rfl, N17q, K17, E17_0, F17_0, F17_1⟩ := hQ17
    have N17 := Fr.app N0 N17q
    have F18 : Old Z n0 T17.heap := (F14.keep K17 (allS g_b13 all0))
    refine own_go (fun _ k => st17.trans k) ?_
    show own_Ends _ _ _ _ _ _ _ (T17.setTop (mkF m 65 #[.val (.int p0), .val (.int p1), .val (.int p2), .val (.int p3), .val (.int wA), .val (.int sA), .val (.int (p2 &&& (63 : Int32))), .unset, .unset, .unset, .unset, .unset, .unset, .unset, .unset] [(.ref b13)]))
    refine own_go (fun _ k => XS.astore X17.here hx rfl (hb hby at_65) rfl rfl (l' := #[.val (.int p0), .val (.int p1), .val (.int p2), .val (.int p3), .val (.int wA), .val (.int sA), .val (.int (p2 &&& (63 : Int32))), .val (.ref b13), .unset, .unset, .unset, .unset, .unset, .unset, .unset]) rfl k) ?_
    show own_Ends _ _ _ _ _ _ _ (T17.setTop (mkF m 67 #[.val (.int p0), .val (.int p1), .val (.int p2), .val (.int p3), .val (.int wA), .val (.int sA), .val (.int (p2 &&& (63 : Int32))), .val (.ref b13), .unset, .unset, .unset, .unset, .unset, .unset, .unset] []))
    refine own_go (fun _ k => XS.aload X17.here hx rfl (hb hby at_67) rfl rfl k) ?_
    show own_Ends _ _ _ _ _ _ _ (T17.setTop (mkF m 69 #[.val (.int p0), .val (.int p1), .val (.int p2), .val (.int p3), .val (.int wA), .val (.int sA), .val (.int (p2 &&& (63 : Int32))), .val (.ref b13), .unset, .unset, .unset, .unset, .unset, .unset, .unset] [(.ref b13)]))
    refine own_go (fun _ k => XS.iload X17.here hx rfl (hb hby at_69) rfl k) ?_
    show own_Ends _ _ _ _ _ _ _ (T17.setTop (mkF m 71 #[.val (.int p0), .val (.int p1), .val (.int p2), .val (.int p3), .val (.int wA), .val (.int sA), .val (.int (p2 &&& (63 : Int32))), .val (.ref b13), .unset, .unset, .unset, .unset, .unset, .unset, .unset] [(.int (p2 &&& (63 : Int32))), (.ref b13)]))
    obtain ⟨cq19, kq19, q19a, q19b, q19c⟩ := isOf hZ rfl E17_0
    obtain ⟨_, _, ⟨T19, L19, k19, n19⟩, -, X19, ⟨Lc19, hQ19, l19, y19, z19⟩, st19⟩ := X17.virtualBack hx (y := (⟨"com/example/cumaea/cumaea/ArbitraryPassages", "count", "(I)I"⟩ : MethodName)) (z := (⟨"com/example/cumaea/cumaea/ArbitraryPassages", "count", "(I)I"⟩ : MethodName)) hown (mvT hZ (hw _ (List.mem_of_getElem? (i := 18) rfl))) (mvT hZ (hw _ (List.mem_of_getElem? (i := 19) rfl))) (notFace_of_selects (args := #[]) (mvT hZ (hw _ (List.mem_of_getElem? (i := 21) rfl)))) (mvT hZ (hw _ (List.mem_of_getElem? (i := 21) rfl))) (mvT hZ (hw _ (List.mem_of_getElem? (i := 20) rfl))) (by decide) (backOf (W := 0) (rm4 l Z ar hw [] b13 (p2 &&& (63 : Int32)) wA sA T17.heap n0 F18 (own_nz PsA) F17_0 F17_1) hZ (hw _ (List.mem_of_getElem? (i := 22) rfl)) (hw _ (List.mem_of_getElem? (i := 2) rfl)) (by decide) (by decide)) q19a q19c (g := (mkF m 71 #[.val (.int p0), .val (.int p1), .val (.int p2), .val (.int p3), .val (.int wA), .val (.int sA), .val (.int (p2 &&& (63 : Int32))), .val (.ref b13), .unset, .unset, .unset, .unset, .unset, .unset, .unset] [(.int (p2 &&& (63 : Int32))), (.ref b13)])) rfl (by rw [hml]; rfl) (Steps.refl _) (argsL := [(.int (p2 &&& (63 : Int32)))]) (rest := []) (lenOf pd0_2 rfl) rfl (by show 2 * 0 + _ ≤ _; exact Nat.le_of_eq rfl) (hb hby at_71) (fun _ _ => ⟨rfl, rfl, (by decide : 1 + 0 ≤ _), (by decide : 2 + 0 ≤ _)⟩)
    dsimp only [Pt.U, Pt.locs, Pt.cells, Pt.slots] at X19 l19 y19 z19 st19 hQ19
    subst l19 y19 z19
    obtain ⟨rfl, N19q, eq19⟩ := hQ19
    have e19 : T19.heap = T17.heap := eq19
    have N19 := Fr.app N17 N19q
    refine own_go (fun _ k => st19.trans k) ?_
    show own_Ends _ _ _ _ _ _ _ (T19.setTop (mkF m 74 #[.val (.int p0), .val (.int p1), .val (.int p2), .val (.int p3), .val (.int wA), .val (.int sA), .val (.int (p2 &&& (63 : Int32))), .val (.ref b13), .unset, .unset, .unset, .unset, .unset, .unset, .unset] [(.int (f4 b13 (p2 &&& (63 : Int32)) wA sA))]))
    refine own_go (fun _ k => XS.istore X19.here hx rfl (hb hby at_74) rfl (l' := #[.val (.int p0), .val (.int p1), .val (.int p2), .val (.int p3), .val (.int wA), .val (.int sA), .val (.int (p2 &&& (63 : Int32))), .val (.ref b13), .val (.int (f4 b13 (p2 &&& (63 : Int32)) wA sA)), .unset, .unset, .unset, .unset, .unset, .unset]) rfl k) ?_
    suffices hjzc : ∀ zc : Int32, zc = (f4 b13 (p2 &&& (63 : Int32)) wA sA) → own_Ends p e below s (Q0 Z p0 p1 p2 p3 h0 n0) 16 128 (T19.setTop (mkF m 76 #[.val (.int p0), .val (.int p1), .val (.int p2), .val (.int p3), .val (.int wA), .val (.int sA), .val (.int (p2 &&& (63 : Int32))), .val (.ref b13), .val (.int zc), .unset, .unset, .unset, .unset, .unset, .unset] [])) by exact hjzc _ rfl
    intro zc hzc
    show own_Ends _ _ _ _ _ _ _ (T19.setTop (mkF m 76 #[.val (.int p0), .val (.int p1), .val (.int p2), .val (.int p3), .val (.int wA), .val (.int sA), .val (.int (p2 &&& (63 : Int32))), .val (.ref b13), .val (.int zc), .unset, .unset, .unset, .unset, .unset, .unset] []))
    refine own_go (fun _ k => XS.iload X19.here hx rfl (hb hby at_76) rfl k) ?_
    show own_Ends _ _ _ _ _ _ _ (T19.setTop (mkF m 78 #[.val (.int p0), .val (.int p1), .val (.int p2), .val (.int p3), .val (.int wA), .val (.int sA), .val (.int (p2 &&& (63 : Int32))), .val (.ref b13), .val (.int zc), .unset, .unset, .unset, .unset, .unset, .unset] [(.int (p2 &&& (63 : Int32)))]))
    refine own_go (fun _ k => XS.iload X19.here hx rfl (hb hby at_78) rfl k) ?_
    show own_Ends _ _ _ _ _ _ _ (T19.setTop (mkF m 80 #[.val (.int p0), .val (.int p1), .val (.int p2), .val (.int p3), .val (.int wA), .val (.int sA), .val (.int (p2 &&& (63 : Int32))), .val (.ref b13), .val (.int zc), .unset, .unset, .unset, .unset, .unset, .unset] [(.int wA), (.int (p2 &&& (63 : Int32)))]))
    by_cases hc20 : wA < (p2 &&& (63 : Int32))
    · refine own_go (fun _ k => XS.icmpYes X19.here hx rfl (pc0 := 80) (pc' := 95) rfl (hb hby at_80) rfl (tlt hc20).2.2.1 (by decide) (by decide) k) ?_
      show own_Ends _ _ _ _ _ _ _ (T19.setTop (mkF m 95 #[.val (.int p0), .val (.int p1), .val (.int p2), .val (.int p3), .val (.int wA), .val (.int sA), .val (.int (p2 &&& (63 : Int32))), .val (.ref b13), .val (.int zc), .unset, .unset, .unset, .unset, .unset, .unset] []))
      refine own_go (fun _ k => XS.iload X19.here hx rfl (hb hby at_95) rfl k) ?_
      show own_Ends _ _ _ _ _ _ _ (T19.setTop (mkF m 97 #[.val (.int p0), .val (.int p1), .val (.int p2), .val (.int p3), .val (.int wA), .val (.int sA), .val (.int (p2 &&& (63 : Int32))), .val (.ref b13), .val (.int zc), .unset, .unset, .unset, .unset, .unset, .unset] [(.int zc)]))
      refine own_go (fun _ k => XS.i2l X19.here hx rfl (hb hby at_97) rfl k) ?_
      show own_Ends _ _ _ _ _ _ _ (T19.setTop (mkF m 98 #[.val (.int p0), .val (.int p1), .val (.int p2), .val (.int p3), .val (.int wA), .val (.int sA), .val (.int (p2 &&& (63 : Int32))), .val (.ref b13), .val (.int zc), .unset, .unset, .unset, .unset, .unset, .unset] [(.long (zc.toInt64))]))
      refine own_go (fun _ k => XS.lconst X19.here hx rfl (hb hby at_98) k) ?_
      show own_Ends _ _ _ _ _ _ _ (T19.setTop (mkF m 99 #[.val (.int p0), .val (.int p1), .val (.int p2), .val (.int p3), .val (.int wA), .val (.int sA), .val (.int (p2 &&& (63 : Int32))), .val (.ref b13), .val (.int zc), .unset, .unset, .unset, .unset, .unset, .unset] [(.long (1 : Int64)), (.long (zc.toInt64))]))
      refine own_go (fun _ k => XS.lsub X19.here hx rfl (hb hby at_99) rfl k) ?_
      show own_Ends _ _ _ _ _ _ _ (T19.setTop (mkF m 100 #[.val (.int p0), .val (.int p1), .val (.int p2), .val (.int p3), .val (.int wA), .val (.int sA), .val (.int (p2 &&& (63 : Int32))), .val (.ref b13), .val (.int zc), .unset, .unset, .unset, .unset, .unset, .unset] [(.long ((zc.toInt64) - (1 : Int64)))]))
      refine own_go (fun _ k => XS.iload X19.here hx rfl (hb hby at_100) rfl k) ?_
      show own_Ends _ _ _ _ _ _ _ (T19.setTop (mkF m 102 #[.val (.int p0), .val (.int p1), .val (.int p2), .val (.int p3), .val (.int wA), .val (.int sA), .val (.int (p2 &&& (63 : Int32))), .val (.ref b13), .val (.int zc), .unset, .unset, .unset, .unset, .unset, .unset] [(.int sA), (.long ((zc.toInt64) - (1 : Int64)))]))
      refine own_go (fun _ k => XS.i2l X19.here hx rfl (hb hby at_102) rfl k) ?_
      show own_Ends _ _ _ _ _ _ _ (T19.setTop (mkF m 103 #[.val (.int p0), .val (.int p1), .val (.int p2), .val (.int p3), .val (.int wA), .val (.int sA), .val (.int (p2 &&& (63 : Int32))), .val (.ref b13), .val (.int zc), .unset, .unset, .unset, .unset, .unset, .unset] [(.long (sA.toInt64)), (.long ((zc.toInt64) - (1 : Int64)))]))
      refine own_go (fun _ k => XS.lmul X19.here hx rfl (hb hby at_103) rfl k) ?_
      show own_Ends _ _ _ _ _ _ _ (T19.setTop (mkF m 104 #[.val (.int p0), .val (.int p1), .val (.int p2), .val (.int p3), .val (.int wA), .val (.int sA), .val (.int (p2 &&& (63 : Int32))), .val (.ref b13), .val (.int zc), .unset, .unset, .unset, .unset, .unset, .unset] [(.long (((zc.toInt64) - (1 : Int64)) * (sA.toInt64)))]))
      refine own_go (fun _ k => XS.iload X19.here hx rfl (hb hby at_104) rfl k) ?_
      show own_Ends _ _ _ _ _ _ _ (T19.setTop (mkF m 106 #[.val (.int p0), .val (.int p1), .val (.int p2), .val (.int p3), .val (.int wA), .val (.int sA), .val (.int (p2 &&& (63 : Int32))), .val (.ref b13), .val (.int zc), .unset, .unset, .unset, .unset, .unset, .unset] [(.int wA), (.long (((zc.toInt64) - (1 : Int64)) * (sA.toInt64)))]))
      refine own_go (fun _ k => XS.i2l X19.here hx rfl (hb hby at_106) rfl k) ?_
      show own_Ends _ _ _ _ _ _ _ (T19.setTop (mkF m 107 #[.val (.int p0), .val (.int p1), .val (.int p2), .val (.int p3), .val (.int wA), .val (.int sA), .val (.int (p2 &&& (63 : Int32))), .val (.ref b13), .val (.int zc), .unset, .unset, .unset, .unset, .unset, .unset] [(.long (wA.toInt64)), (.long (((zc.toInt64) - (1 : Int64)) * (sA.toInt64)))]))
      refine own_go (fun _ k => XS.ladd X19.here hx rfl (hb hby at_107) rfl k) ?_
      show own_Ends _ _ _ _ _ _ _ (T19.setTop (mkF m 108 #[.val (.int p0), .val (.int p1), .val (.int p2), .val (.int p3), .val (.int wA), .val (.int sA), .val (.int (p2 &&& (63 : Int32))), .val (.ref b13), .val (.int zc), .unset, .unset, .unset, .unset, .unset, .unset] [(.long ((((zc.toInt64) - (1 : Int64)) * (sA.toInt64)) + (wA.toInt64)))]))
      refine own_go (fun _ k => XS.lstore X19.here hx rfl (hb hby at_108) rfl (l' := #[.val (.int p0), .val (.int p1), .val (.int p2), .val (.int p3), .val (.int wA), .val (.int sA), .val (.int (p2 &&& (63 : Int32))), .val (.ref b13), .val (.int zc), .val (.long ((((zc.toInt64) - (1 : Int64)) * (sA.toInt64)) + (wA.toInt64))), .second, .unset, .unset, .unset, .unset]) rfl k) ?_
      show own_Ends _ _ _ _ _ _ _ (T19.setTop (mkF m 110 #[.val (.int p0), .val (.int p1), .val (.int p2), .val (.int p3), .val (.int wA), .val (.int sA), .val (.int (p2 &&& (63 : Int32))), .val (.ref b13), .val (.int zc), .val (.long ((((zc.toInt64) - (1 : Int64)) * (sA.toInt64)) + (wA.toInt64))), .second, .unset, .unset, .unset, .unset] []))
      refine own_go (fun _ k => XS.iload X19.here hx rfl (hb hby at_110) rfl k) ?_
      show own_Ends _ _ _ _ _ _ _ (T19.setTop (mkF m 112 #[.val (.int p0), .val (.int p1), .val (.int p2), .val (.int p3), .val (.int wA), .val (.int sA), .val (.int (p2 &&& (63 : Int32))), .val (.ref b13), .val (.int zc), .val (.long ((((zc.toInt64) - (1 : Int64)) * (sA.toInt64)) + (wA.toInt64))), .second, .unset, .unset, .unset, .unset] [(.int zc)]))
      refine own_go (fun _ k => XS.i2l X19.here hx rfl (hb hby at_112) rfl k) ?_
      show own_Ends _ _ _ _ _ _ _ (T19.setTop (mkF m 113 #[.val (.int p0), .val (.int p1), .val (.int p2), .val (.int p3), .val (.int wA), .val (.int sA), .val (.int (p2 &&& (63 : Int32))), .val (.ref b13), .val (.int zc), .val (.long ((((zc.toInt64) - (1 : Int64)) * (sA.toInt64)) + (wA.toInt64))), .second, .unset, .unset, .unset, .unset] [(.long (zc.toInt64))]))
      refine own_go (fun _ k => X19.ldc2Long hx hown (mvT hZ (hw _ (List.mem_of_getElem? (i := 23) rfl))) (g := (mkF m 113 #[.val (.int p0), .val (.int p1), .val (.int p2), .val (.int p3), .val (.int wA), .val (.int sA), .val (.int (p2 &&& (63 : Int32))), .val (.ref b13), .val (.int zc), .val (.long ((((zc.toInt64) - (1 : Int64)) * (sA.toInt64)) + (wA.toInt64))), .second, .unset, .unset, .unset, .unset] [(.long (zc.toInt64))])) rfl (hb hby at_113) _ k) ?_
      show own_Ends _ _ _ _ _ _ _ (T19.setTop (mkF m 116 #[.val (.int p0), .val (.int p1), .val (.int p2), .val (.int p3), .val (.int wA), .val (.int sA), .val (.int (p2 &&& (63 : Int32))), .val (.ref b13), .val (.int zc), .val (.long ((((zc.toInt64) - (1 : Int64)) * (sA.toInt64)) + (wA.toInt64))), .second, .unset, .unset, .unset, .unset] [(.long (2 : Int64)), (.long (zc.toInt64))]))
      refine own_go (fun _ k => XS.lsub X19.here hx rfl (hb hby at_116) rfl k) ?_
      show own_Ends _ _ _ _ _ _ _ (T19.setTop (mkF m 117 #[.val (.int p0), .val (.int p1), .val (.int p2), .val (.int p3), .val (.int wA), .val (.int sA), .val (.int (p2 &&& (63 : Int32))), .val (.ref b13), .val (.int zc), .val (.long ((((zc.toInt64) - (1 : Int64)) * (sA.toInt64)) + (wA.toInt64))), .second, .unset, .unset, .unset, .unset] [(.long ((zc.toInt64) - (2 : Int64)))]))
      refine own_go (fun _ k => XS.iload X19.here hx rfl (hb hby at_117) rfl k) ?_
      show own_Ends _ _ _ _ _ _ _ (T19.setTop (mkF m 119 #[.val (.int p0), .val (.int p1), .val (.int p2), .val (.int p3), .val (.int wA), .val (.int sA), .val (.int (p2 &&& (63 : Int32))), .val (.ref b13), .val (.int zc), .val (.long ((((zc.toInt64) - (1 : Int64)) * (sA.toInt64)) + (wA.toInt64))), .second, .unset, .unset, .unset, .unset] [(.int sA), (.long ((zc.toInt64) - (2 : Int64)))]))
      refine own_go (fun _ k => XS.i2l X19.here hx rfl (hb hby at_119) rfl k) ?_
      show own_Ends _ _ _ _ _ _ _ (T19.setTop (mkF m 120 #[.val (.int p0), .val (.int p1), .val (.int p2), .val (.int p3), .val (.int wA), .val (.int sA), .val (.int (p2 &&& (63 : Int32))), .val (.ref b13), .val (.int zc), .val (.long ((((zc.toInt64) - (1 : Int64)) * (sA.toInt64)) + (wA.toInt64))), .second, .unset, .unset, .unset, .unset] [(.long (sA.toInt64)), (.long ((zc.toInt64) - (2 : Int64)))]))
      refine own_go (fun _ k => XS.lmul X19.here hx rfl (hb hby at_120) rfl k) ?_
      show own_Ends _ _ _ _ _ _ _ (T19.setTop (mkF m 121 #[.val (.int p0), .val (.int p1), .val (.int p2), .val (.int p3), .val (.int wA), .val (.int sA), .val (.int (p2 &&& (63 : Int32))), .val (.ref b13), .val (.int zc), .val (.long ((((zc.toInt64) - (1 : Int64)) * (sA.toInt64)) + (wA.toInt64))), .second, .unset, .unset, .unset, .unset] [(.long (((zc.toInt64) - (2 : Int64)) * (sA.toInt64)))]))
      refine own_go (fun _ k => XS.iload X19.here hx rfl (hb hby at_121) rfl k) ?_
      show own_Ends _ _ _ _ _ _ _ (T19.setTop (mkF m 123 #[.val (.int p0), .val (.int p1), .val (.int p2), .val (.int p3), .val (.int wA), .val (.int sA), .val (.int (p2 &&& (63 : Int32))), .val (.ref b13), .val (.int zc), .val (.long ((((zc.toInt64) - (1 : Int64)) * (sA.toInt64)) + (wA.toInt64))), .second, .unset, .unset, .unset, .unset] [(.int wA), (.long (((zc.toInt64) - (2 : Int64)) * (sA.toInt64)))]))
      refine own_go (fun _ k => XS.i2l X19.here hx rfl (hb hby at_123) rfl k) ?_
      show own_Ends _ _ _ _ _ _ _ (T19.setTop (mkF m 124 #[.val (.int p0), .val (.int p1), .val (.int p2), .val (.int p3), .val (.int wA), .val (.int sA), .val (.int (p2 &&& (63 : Int32))), .val (.ref b13), .val (.int zc), .val (.long ((((zc.toInt64) - (1 : Int64)) * (sA.toInt64)) + (wA.toInt64))), .second, .unset, .unset, .unset, .unset] [(.long (wA.toInt64)), (.long (((zc.toInt64) - (2 : Int64)) * (sA.toInt64)))]))
      refine own_go (fun _ k => XS.ladd X19.here hx rfl (hb hby at_124) rfl k) ?_
      show own_Ends _ _ _ _ _ _ _ (T19.setTop (mkF m 125 #[.val (.int p0), .val (.int p1), .val (.int p2), .val (.int p3), .val (.int wA), .val (.int sA), .val (.int (p2 &&& (63 : Int32))), .val (.ref b13), .val (.int zc), .val (.long ((((zc.toInt64) - (1 : Int64)) * (sA.toInt64)) + (wA.toInt64))), .second, .unset, .unset, .unset, .unset] [(.long ((((zc.toInt64) - (2 : Int64)) * (sA.toInt64)) + (wA.toInt64)))]))
      refine own_go (fun _ k => XS.lstore X19.here hx rfl (hb hby at_125) rfl (l' := #[.val (.int p0), .val (.int p1), .val (.int p2), .val (.int p3), .val (.int wA), .val (.int sA), .val (.int (p2 &&& (63 : Int32))), .val (.ref b13), .val (.int zc), .val (.long ((((zc.toInt64) - (1 : Int64)) * (sA.toInt64)) + (wA.toInt64))), .second, .val (.long ((((zc.toInt64) - (2 : Int64)) * (sA.toInt64)) + (wA.toInt64))), .second, .unset, .unset]) rfl k) ?_
      show own_Ends _ _ _ _ _ _ _ (T19.setTop (mkF m 127 #[.val (.int p0), .val (.int p1), .val (.int p2), .val (.int p3), .val (.int wA), .val (.int sA), .val (.int (p2 &&& (63 : Int32))), .val (.ref b13), .val (.int zc), .val (.long ((((zc.toInt64) - (1 : Int64)) * (sA.toInt64)) + (wA.toInt64))), .second, .val (.long ((((zc.toInt64) - (2 : Int64)) * (sA.toInt64)) + (wA.toInt64))), .second, .unset, .unset] []))
      refine own_go (fun _ k => XS.iload X19.here hx rfl (hb hby at_127) rfl k) ?_
      show own_Ends _ _ _ _ _ _ _ (T19.setTop (mkF m 129 #[.val (.int p0), .val (.int p1), .val (.int p2), .val (.int p3), .val (.int wA), .val (.int sA), .val (.int (p2 &&& (63 : Int32))), .val (.ref b13), .val (.int zc), .val (.long ((((zc.toInt64) - (1 : Int64)) * (sA.toInt64)) + (wA.toInt64))), .second, .val (.long ((((zc.toInt64) - (2 : Int64)) * (sA.toInt64)) + (wA.toInt64))), .second, .unset, .unset] [(.int (p2 &&& (63 : Int32)))]))
      refine own_go (fun _ k => XS.i2l X19.here hx rfl (hb hby at_129) rfl k) ?_
      show own_Ends _ _ _ _ _ _ _ (T19.setTop (mkF m 130 #[.val (.int p0), .val (.int p1), .val (.int p2), .val (.int p3), .val (.int wA), .val (.int sA), .val (.int (p2 &&& (63 : Int32))), .val (.ref b13), .val (.int zc), .val (.long ((((zc.toInt64) - (1 : Int64)) * (sA.toInt64)) + (wA.toInt64))), .second, .val (.long ((((zc.toInt64) - (2 : Int64)) * (sA.toInt64)) + (wA.toInt64))), .second, .unset, .unset] [(.long ((p2 &&& (63 : Int32)).toInt64))]))
      refine own_go (fun _ k => XS.lstore X19.here hx rfl (hb hby at_130) rfl (l' := #[.val (.int p0), .val (.int p1), .val (.int p2), .val (.int p3), .val (.int wA), .val (.int sA), .val (.int (p2 &&& (63 : Int32))), .val (.ref b13), .val (.int zc), .val (.long ((((zc.toInt64) - (1 : Int64)) * (sA.toInt64)) + (wA.toInt64))), .second, .val (.long ((((zc.toInt64) - (2 : Int64)) * (sA.toInt64)) + (wA.toInt64))), .second, .val (.long ((p2 &&& (63 : Int32)).toInt64)), .second]) rfl k) ?_
      show own_Ends _ _ _ _ _ _ _ (T19.setTop (mkF m 132 #[.val (.int p0), .val (.int p1), .val (.int p2), .val (.int p3), .val (.int wA), .val (.int sA), .val (.int (p2 &&& (63 : Int32))), .val (.ref b13), .val (.int zc), .val (.long ((((zc.toInt64) - (1 : Int64)) * (sA.toInt64)) + (wA.toInt64))), .second, .val (.long ((((zc.toInt64) - (2 : Int64)) * (sA.toInt64)) + (wA.toInt64))), .second, .val (.long ((p2 &&& (63 : Int32)).toInt64)), .second] []))
      refine own_go (fun _ k => XS.iload X19.here hx rfl (hb hby at_132) rfl k) ?_
      show own_Ends _ _ _ _ _ _ _ (T19.setTop (mkF m 134 #[.val (.int p0), .val (.int p1), .val (.int p2), .val (.int p3), .val (.int wA), .val (.int sA), .val (.int (p2 &&& (63 : Int32))), .val (.ref b13), .val (.int zc), .val (.long ((((zc.toInt64) - (1 : Int64)) * (sA.toInt64)) + (wA.toInt64))), .second, .val (.long ((((zc.toInt64) - (2 : Int64)) * (sA.toInt64)) + (wA.toInt64))), .second, .val (.long ((p2 &&& (63 : Int32)).toInt64)), .second] [(.int zc)]))
      refine own_go (fun _ k => XS.iconst X19.here hx rfl (hb hby at_134) k) ?_
      show own_Ends _ _ _ _ _ _ _ (T19.setTop (mkF m 135 #[.val (.int p0), .val (.int p1), .val (.int p2), .val (.int p3), .val (.int wA), .val (.int sA), .val (.int (p2 &&& (63 : Int32))), .val (.ref b13), .val (.int zc), .val (.long ((((zc.toInt64) - (1 : Int64)) * (sA.toInt64)) + (wA.toInt64))), .second, .val (.long ((((zc.toInt64) - (2 : Int64)) * (sA.toInt64)) + (wA.toInt64))), .second, .val (.long ((p2 &&& (63 : Int32)).toInt64)), .second] [(.int (2 : Int32)), (.int zc)]))
      refine own_go (fun _ k => XS.icmpYes X19.here hx rfl (pc0 := 135) (pc' := 140) rfl (hb hby at_135) rfl (flt (own_main PwA PsA hzc hc20).1).2.1 (by decide) (by decide) k) ?_
      show own_Ends _ _ _ _ _ _ _ (T19.setTop (mkF m 140 #[.val (.int p0), .val (.int p1), .val (.int p2), .val (.int p3), .val (.int wA), .val (.int sA), .val (.int (p2 &&& (63 : Int32))), .val (.ref b13), .val (.int zc), .val (.long ((((zc.toInt64) - (1 : Int64)) * (sA.toInt64)) + (wA.toInt64))), .second, .val (.long ((((zc.toInt64) - (2 : Int64)) * (sA.toInt64)) + (wA.toInt64))), .second, .val (.long ((p2 &&& (63 : Int32)).toInt64)), .second] []))
      refine own_go (fun _ k => XS.lload X19.here hx rfl (hb hby at_140) rfl k) ?_
      show own_Ends _ _ _ _ _ _ _ (T19.setTop (mkF m 142 #[.val (.int p0), .val (.int p1), .val (.int p2), .val (.int p3), .val (.int wA), .val (.int sA), .val (.int (p2 &&& (63 : Int32))), .val (.ref b13), .val (.int zc), .val (.long ((((zc.toInt64) - (1 : Int64)) * (sA.toInt64)) + (wA.toInt64))), .second, .val (.long ((((zc.toInt64) - (2 : Int64)) * (sA.toInt64)) + (wA.toInt64))), .second, .val (.long ((p2 &&& (63 : Int32)).toInt64)), .second] [(.long ((((zc.toInt64) - (1 : Int64)) * (sA.toInt64)) + (wA.toInt64)))]))
      refine own_go (fun _ k => XS.lload X19.here hx rfl (hb hby at_142) rfl k) ?_
      show own_Ends _ _ _ _ _ _ _ (T19.setTop (mkF m 144 #[.val (.int p0), .val (.int p1), .val (.int p2), .val (.int p3), .val (.int wA), .val (.int sA), .val (.int (p2 &&& (63 : Int32))), .val (.ref b13), .val (.int zc), .val (.long ((((zc.toInt64) - (1 : Int64)) * (sA.toInt64)) + (wA.toInt64))), .second, .val (.long ((((zc.toInt64) - (2 : Int64)) * (sA.toInt64)) + (wA.toInt64))), .second, .val (.long ((p2 &&& (63 : Int32)).toInt64)), .second] [(.long ((p2 &&& (63 : Int32)).toInt64)), (.long ((((zc.toInt64) - (1 : Int64)) * (sA.toInt64)) + (wA.toInt64)))]))
      refine own_go (fun _ k => XS.lcmp X19.here hx rfl (hb hby at_144) rfl k) ?_
      show own_Ends _ _ _ _ _ _ _ (T19.setTop (mkF m 145 #[.val (.int p0), .val (.int p1), .val (.int p2), .val (.int p3), .val (.int wA), .val (.int sA), .val (.int (p2 &&& (63 : Int32))), .val (.ref b13), .val (.int zc), .val (.long ((((zc.toInt64) - (1 : Int64)) * (sA.toInt64)) + (wA.toInt64))), .second, .val (.long ((((zc.toInt64) - (2 : Int64)) * (sA.toInt64)) + (wA.toInt64))), .second, .val (.long ((p2 &&& (63 : Int32)).toInt64)), .second] [(.int (lcmpW ((((zc.toInt64) - (1 : Int64)) * (sA.toInt64)) + (wA.toInt64)) ((p2 &&& (63 : Int32)).toInt64)))]))
      by_cases hc21 : (lcmpW ((((zc.toInt64) - (1 : Int64)) * (sA.toInt64)) + (wA.toInt64)) ((p2 &&& (63 : Int32)).toInt64)) = (0 : Int32)
      · refine own_go (fun _ k => XS.ifYes X19.here hx rfl (pc0 := 145) (pc' := 164) rfl (hb hby at_145) rfl ((if0 _ _).trans (teq hc21).1) (by decide) (by decide) k) ?_
        show own_Ends _ _ _ _ _ _ _ (T19.setTop (mkF m 164 #[.val (.int p0), .val (.int p1), .val (.int p2), .val (.int p3), .val (.int wA), .val (.int sA), .val (.int (p2 &&& (63 : Int32))), .val (.ref b13), .val (.int zc), .val (.long ((((zc.toInt64) - (1 : Int64)) * (sA.toInt64)) + (wA.toInt64))), .second, .val (.long ((((zc.toInt64) - (2 : Int64)) * (sA.toInt64)) + (wA.toInt64))), .second, .val (.long ((p2 &&& (63 : Int32)).toInt64)), .second] []))
        refine own_go (fun _ k => XS.iconst X19.here hx rfl (hb hby at_164) k) ?_
        show own_Ends _ _ _ _ _ _ _ (T19.setTop (mkF m 165 #[.val (.int p0), .val (.int p1), .val (.int p2), .val (.int p3), .val (.int wA), .val (.int sA), .val (.int (p2 &&& (63 : Int32))), .val (.ref b13), .val (.int zc), .val (.long ((((zc.toInt64) - (1 : Int64)) * (sA.toInt64)) + (wA.toInt64))), .second, .val (.long ((((zc.toInt64) - (2 : Int64)) * (sA.toInt64)) + (wA.toInt64))), .second, .val (.long ((p2 &&& (63 : Int32)).toInt64)), .second] [(.int (1 : Int32))]))
        refine own_go (fun _ k => XS.goto X19.here hx rfl (pc0 := 165) (pc' := 169) rfl (hb hby at_165) (by decide) (by decide) k) ?_
        show own_Ends _ _ _ _ _ _ _ (T19.setTop (mkF m 169 #[.val (.int p0), .val (.int p1), .val (.int p2), .val (.int p3), .val (.int wA), .val (.int sA), .val (.int (p2 &&& (63 : Int32))), .val (.ref b13), .val (.int zc), .val (.long ((((zc.toInt64) - (1 : Int64)) * (sA.toInt64)) + (wA.toInt64))), .second, .val (.long ((((zc.toInt64) - (2 : Int64)) * (sA.toInt64)) + (wA.toInt64))), .second, .val (.long ((p2 &&& (63 : Int32)).toInt64)), .second] [(.int (1 : Int32))]))
        exact own_retN X19 hx hlk (t := .boolean) Bd.returns (by simp) (hb hby at_169) (by decide) (by decide) ⟨rfl, N19⟩
      · refine own_go (fun _ k => XS.ifNo X19.here hx rfl (hb hby at_145) rfl ((if0 _ _).trans (feq hc21).1) k) ?_
        show own_Ends _ _ _ _ _ _ _ (T19.setTop (mkF m 148 #[.val (.int p0), .val (.int p1), .val (.int p2), .val (.int p3), .val (.int wA), .val (.int sA), .val (.int (p2 &&& (63 : Int32))), .val (.ref b13), .val (.int zc), .val (.long ((((zc.toInt64) - (1 : Int64)) * (sA.toInt64)) + (wA.toInt64))), .second, .val (.long ((((zc.toInt64) - (2 : Int64)) * (sA.toInt64)) + (wA.toInt64))), .second, .val (.long ((p2 &&& (63 : Int32)).toInt64)), .second] []))
        refine own_go (fun _ k => XS.lload X19.here hx rfl (hb hby at_148) rfl k) ?_
        show own_Ends _ _ _ _ _ _ _ (T19.setTop (mkF m 150 #[.val (.int p0), .val (.int p1), .val (.int p2), .val (.int p3), .val (.int wA), .val (.int sA), .val (.int (p2 &&& (63 : Int32))), .val (.ref b13), .val (.int zc), .val (.long ((((zc.toInt64) - (1 : Int64)) * (sA.toInt64)) + (wA.toInt64))), .second, .val (.long ((((zc.toInt64) - (2 : Int64)) * (sA.toInt64)) + (wA.toInt64))), .second, .val (.long ((p2 &&& (63 : Int32)).toInt64)), .second] [(.long ((((zc.toInt64) - (2 : Int64)) * (sA.toInt64)) + (wA.toInt64)))]))
        refine own_go (fun _ k => XS.lload X19.here hx rfl (hb hby at_150) rfl k) ?_
        show own_Ends _ _ _ _ _ _ _ (T19.setTop (mkF m 152 #[.val (.int p0), .val (.int p1), .val (.int p2), .val (.int p3), .val (.int wA), .val (.int sA), .val (.int (p2 &&& (63 : Int32))), .val (.ref b13), .val (.int zc), .val (.long ((((zc.toInt64) - (1 : Int64)) * (sA.toInt64)) + (wA.toInt64))), .second, .val (.long ((((zc.toInt64) - (2 : Int64)) * (sA.toInt64)) + (wA.toInt64))), .second, .val (.long ((p2 &&& (63 : Int32)).toInt64)), .second] [(.long ((p2 &&& (63 : Int32)).toInt64)), (.long ((((zc.toInt64) - (2 : Int64)) * (sA.toInt64)) + (wA.toInt64)))]))
        refine own_go (fun _ k => XS.lcmp X19.here hx rfl (hb hby at_152) rfl k) ?_
        show own_Ends _ _ _ _ _ _ _ (T19.setTop (mkF m 153 #[.val (.int p0), .val (.int p1), .val (.int p2), .val (.int p3), .val (.int wA), .val (.int sA), .val (.int (p2 &&& (63 : Int32))), .val (.ref b13), .val (.int zc), .val (.long ((((zc.toInt64) - (1 : Int64)) * (sA.toInt64)) + (wA.toInt64))), .second, .val (.long ((((zc.toInt64) - (2 : Int64)) * (sA.toInt64)) + (wA.toInt64))), .second, .val (.long ((p2 &&& (63 : Int32)).toInt64)), .second] [(.int (lcmpW ((((zc.toInt64) - (2 : Int64)) * (sA.toInt64)) + (wA.toInt64)) ((p2 &&& (63 : Int32)).toInt64)))]))
        refine own_go (fun _ k => XS.ifNo X19.here hx rfl (hb hby at_153) rfl ((if0 _ _).trans (tlt ((own_main PwA PsA hzc hc20).2 hc21).1).2.1) k) ?_
        show own_Ends _ _ _ _ _ _ _ (T19.setTop (mkF m 156 #[.val (.int p0), .val (.int p1), .val (.int p2), .val (.int p3), .val (.int wA), .val (.int sA), .val (.int (p2 &&& (63 : Int32))), .val (.ref b13), .val (.int zc), .val (.long ((((zc.toInt64) - (1 : Int64)) * (sA.toInt64)) + (wA.toInt64))), .second, .val (.long ((((zc.toInt64) - (2 : Int64)) * (sA.toInt64)) + (wA.toInt64))), .second, .val (.long ((p2 &&& (63 : Int32)).toInt64)), .second] []))
        refine own_go (fun _ k => XS.lload X19.here hx rfl (hb hby at_156) rfl k) ?_
        show own_Ends _ _ _ _ _ _ _ (T19.setTop (mkF m 158 #[.val (.int p0), .val (.int p1), .val (.int p2), .val (.int p3), .val (.int wA), .val (.int sA), .val (.int (p2 &&& (63 : Int32))), .val (.ref b13), .val (.int zc), .val (.long ((((zc.toInt64) - (1 : Int64)) * (sA.toInt64)) + (wA.toInt64))), .second, .val (.long ((((zc.toInt64) - (2 : Int64)) * (sA.toInt64)) + (wA.toInt64))), .second, .val (.long ((p2 &&& (63 : Int32)).toInt64)), .second] [(.long ((p2 &&& (63 : Int32)).toInt64))]))
        refine own_go (fun _ k => XS.lload X19.here hx rfl (hb hby at_158) rfl k) ?_
        show own_Ends _ _ _ _ _ _ _ (T19.setTop (mkF m 160 #[.val (.int p0), .val (.int p1), .val (.int p2), .val (.int p3), .val (.int wA), .val (.int sA), .val (.int (p2 &&& (63 : Int32))), .val (.ref b13), .val (.int zc), .val (.long ((((zc.toInt64) - (1 : Int64)) * (sA.toInt64)) + (wA.toInt64))), .second, .val (.long ((((zc.toInt64) - (2 : Int64)) * (sA.toInt64)) + (wA.toInt64))), .second, .val (.long ((p2 &&& (63 : Int32)).toInt64)), .second] [(.long ((((zc.toInt64) - (1 : Int64)) * (sA.toInt64)) + (wA.toInt64))), (.long ((p2 &&& (63 : Int32)).toInt64))]))
        refine own_go (fun _ k => XS.lcmp X19.here hx rfl (hb hby at_160) rfl k) ?_
        show own_Ends _ _ _ _ _ _ _ (T19.setTop (mkF m 161 #[.val (.int p0), .val (.int p1), .val (.int p2), .val (.int p3), .val (.int wA), .val (.int sA), .val (.int (p2 &&& (63 : Int32))), .val (.ref b13), .val (.int zc), .val (.long ((((zc.toInt64) - (1 : Int64)) * (sA.toInt64)) + (wA.toInt64))), .second, .val (.long ((((zc.toInt64) - (2 : Int64)) * (sA.toInt64)) + (wA.toInt64))), .second, .val (.long ((p2 &&& (63 : Int32)).toInt64)), .second] [(.int (lcmpW ((p2 &&& (63 : Int32)).toInt64) ((((zc.toInt64) - (1 : Int64)) * (sA.toInt64)) + (wA.toInt64))))]))
        refine own_go (fun _ k => XS.ifNo X19.here hx rfl (hb hby at_161) rfl ((if0 _ _).trans (tlt ((own_main PwA PsA hzc hc20).2 hc21).2).2.1) k) ?_
        show own_Ends _ _ _ _ _ _ _ (T19.setTop (mkF m 164 #[.val (.int p0), .val (.int p1), .val (.int p2), .val (.int p3), .val (.int wA), .val (.int sA), .val (.int (p2 &&& (63 : Int32))), .val (.ref b13), .val (.int zc), .val (.long ((((zc.toInt64) - (1 : Int64)) * (sA.toInt64)) + (wA.toInt64))), .second, .val (.long ((((zc.toInt64) - (2 : Int64)) * (sA.toInt64)) + (wA.toInt64))), .second, .val (.long ((p2 &&& (63 : Int32)).toInt64)), .second] []))
        refine own_go (fun _ k => XS.iconst X19.here hx rfl (hb hby at_164) k) ?_
        show own_Ends _ _ _ _ _ _ _ (T19.setTop (mkF m 165 #[.val (.int p0), .val (.int p1), .val (.int p2), .val (.int p3), .val (.int wA), .val (.int sA), .val (.int (p2 &&& (63 : Int32))), .val (.ref b13), .val (.int zc), .val (.long ((((zc.toInt64) - (1 : Int64)) * (sA.toInt64)) + (wA.toInt64))), .second, .val (.long ((((zc.toInt64) - (2 : Int64)) * (sA.toInt64)) + (wA.toInt64))), .second, .val (.long ((p2 &&& (63 : Int32)).toInt64)), .second] [(.int (1 : Int32))]))
        refine own_go (fun _ k => XS.goto X19.here hx rfl (pc0 := 165) (pc' := 169) rfl (hb hby at_165) (by decide) (by decide) k) ?_
        show own_Ends _ _ _ _ _ _ _ (T19.setTop (mkF m 169 #[.val (.int p0), .val (.int p1), .val (.int p2), .val (.int p3), .val (.int wA), .val (.int sA), .val (.int (p2 &&& (63 : Int32))), .val (.ref b13), .val (.int zc), .val (.long ((((zc.toInt64) - (1 : Int64)) * (sA.toInt64)) + (wA.toInt64))), .second, .val (.long ((((zc.toInt64) - (2 : Int64)) * (sA.toInt64)) + (wA.toInt64))), .second, .val (.long ((p2 &&& (63 : Int32)).toInt64)), .second] [(.int (1 : Int32))]))
        exact own_retN X19 hx hlk (t := .boolean) Bd.returns (by simp) (hb hby at_169) (by decide) (by decide) ⟨rfl, N19⟩
    · refine own_go (fun _ k => XS.icmpNo X19.here hx rfl (hb hby at_80) rfl (flt hc20).2.2.1 k) ?_
      show own_Ends _ _ _ _ _ _ _ (T19.setTop (mkF m 83 #[.val (.int p0), .val (.int p1), .val (.int p2), .val (.int p3), .val (.int wA), .val (.int sA), .val (.int (p2 &&& (63 : Int32))), .val (.ref b13), .val (.int zc), .unset, .unset, .unset, .unset, .unset, .unset] []))
      refine own_go (fun _ k => XS.iload X19.here hx rfl (hb hby at_83) rfl k) ?_
      show own_Ends _ _ _ _ _ _ _ (T19.setTop (mkF m 85 #[.val (.int p0), .val (.int p1), .val (.int p2), .val (.int p3), .val (.int wA), .val (.int sA), .val (.int (p2 &&& (63 : Int32))), .val (.ref b13), .val (.int zc), .unset, .unset, .unset, .unset, .unset, .unset] [(.int zc)]))
      refine own_go (fun _ k => XS.iconst X19.here hx rfl (hb hby at_85) k) ?_
      show own_Ends _ _ _ _ _ _ _ (T19.setTop (mkF m 86 #[.val (.int p0), .val (.int p1), .val (.int p2), .val (.int p3), .val (.int wA), .val (.int sA), .val (.int (p2 &&& (63 : Int32))), .val (.ref b13), .val (.int zc), .unset, .unset, .unset, .unset, .unset, .unset] [(.int (1 : Int32)), (.int zc)]))
      refine own_go (fun _ k => XS.icmpNo X19.here hx rfl (hb hby at_86) rfl (teq (own_one hzc hc20)).2 k) ?_
      show own_Ends _ _ _ _ _ _ _ (T19.setTop (mkF m 89 #[.val (.int p0), .val (.int p1), .val (.int p2), .val (.int p3), .val (.int wA), .val (.int sA), .val (.int (p2 &&& (63 : Int32))), .val (.ref b13), .val (.int zc), .unset, .unset, .unset, .unset, .unset, .unset] []))
      refine own_go (fun _ k => XS.iconst X19.here hx rfl (hb hby at_89) k) ?_
      show own_Ends _ _ _ _ _ _ _ (T19.setTop (mkF m 90 #[.val (.int p0), .val (.int p1), .val (.int p2), .val (.int p3), .val (.int wA), .val (.int sA), .val (.int (p2 &&& (63 : Int32))), .val (.ref b13), .val (.int zc), .unset, .unset, .unset, .unset, .unset, .unset] [(.int (1 : Int32))]))
      refine own_go (fun _ k => XS.goto X19.here hx rfl (pc0 := 90) (pc' := 94) rfl (hb hby at_90) (by decide) (by decide) k) ?_
      show own_Ends _ _ _ _ _ _ _ (T19.setTop (mkF m 94 #[.val (.int p0), .val (.int p1), .val (.int p2), .val (.int p3), .val (.int wA), .val (.int sA), .val (.int (p2 &&& (63 : Int32))), .val (.ref b13), .val (.int zc), .unset, .unset, .unset, .unset, .unset, .unset] [(.int (1 : Int32))]))
      exact own_retN X19 hx hlk (t := .boolean) Bd.returns (by simp) (hb hby at_94) (by decide) (by decide) ⟨rfl, N19⟩
set_option maxRecDepth 65536 in
set_option maxHeartbeats 40000000 in
theorem comes_1 {Post : Tables → Env → Array Value → State → Outcome → State → Prop} (hpost : ∀ tb e args s v u, (limb_1_1.after args s (.returned v) u = true ∧ limb_1_2.after args s (.returned v) u = true ∧ True) → FrameEnd s (.returned v) u (Jvm.fieldLocs frame_1_writes args s ++ Jvm.arrayLocs frame_1_arrays args s ++ Jvm.staticLocs frame_1_statics s) 16 128 → Post tb e args s (.returned v) u) :
    ArmFor flags0 classFile x code maxLocals ret World_1 tables_1 room_1 Calls_1 rest_1 Pre_1 Post := by
  intro l hfl _ _ p e ha hc hk s m args below hf hA hF happ hP
  obtain ⟨hcalls, hrest, hpre⟩ := hP
  obtain ⟨-, -, -, hnamed, -, -, -, hat⟩ := (Spec.applies_iff hf).mp happ
  obtain ⟨hg, hn⟩ := and_e (Cond.before_iff.mp (show (Jvm.Cond.and given_1 narrow_1).before args s = true from hpre))
  obtain ⟨hcount, hg0⟩ := and_e hg
  obtain ⟨ga0, hg1⟩ := and_e hg0
  obtain ⟨ga1, hg2⟩ := and_e hg1
  obtain ⟨ga2, hg3⟩ := and_e hg2
  obtain ⟨w0, w1, w2, w3, rfl⟩ : ∃ w0 w1 w2 w3 : Value, args = #[w0, w1, w2, w3] := by
    have hs : args.size = 4 := by simpa [Cond.value, given_1] using hcount
    obtain ⟨L⟩ := args
    match L, hs with
    | [w0, w1, w2, w3], _ => exact ⟨w0, w1, w2, w3, rfl⟩
  have hw := fun d (hd : d ∈ tables_1) => atoms_spec (ws := Jvm.Cond.code x code maxLocals ret :: tables_1) hat d (List.mem_cons_of_mem _ hd)
  have hfit : Fit s := fun {y c} hc i hi => by
    obtain ⟨ha, rfl⟩ := Array.getElem?_eq_some_iff.mp hc
    have q := List.all_eq_true.mp ((Array.all_eq_true_iff_forall_mem.mp hF) _ (Array.getElem_mem ha)) i (List.mem_range.mpr hi)
    simpa [Array.getElem?_eq_getElem hi] using q
  obtain ⟨p0, ei0⟩ := is_v ga0
  obtain rfl : w0 = (.int p0) := Option.some.inj ei0
  obtain ⟨p1, ei1⟩ := is_v ga1
  obtain rfl : w1 = (.int p1) := Option.some.inj ei1
  obtain ⟨p2, ei2⟩ := is_v ga2
  obtain rfl : w2 = (.int p2) := Option.some.inj ei2
  obtain ⟨p3, ei3⟩ := is_v hg3
  obtain rfl : w3 = (.int p3) := Option.some.inj ei3
  obtain ⟨n, o, h1, h2, h3, _, L, rfl, ⟨rfl, N⟩, hq⟩ := rm0 l s _ hw tables_1 p0 p1 p2 p3 s.heap s.heap.size (Old.start s) p e ha hc hk s m _ below hf ((Spec.applies_iff_loose hf).mp happ).1 ⟨rfl, State.Warmed39.refl s, rfl⟩ trivial
  refine ⟨n, _, h1, h2, h3, hpost _ _ _ _ _ _ ⟨Cond.after_iff.mpr rfl, Cond.after_iff.mpr (eq_i res_at (Term.int_eval (1)) rfl), trivial⟩ ⟨hq.1, hq.2.1, (hq.2.2.sift fun y hy => Or.inr (N y hy)).mono (by decide) (by decide)⟩⟩
theorem main_1_1 : Claimed_1_1 := comes_1 fun _ _ _ _ _ _ h hF => ⟨h.1, hF⟩
theorem main_1_2 : Claimed_1_2 := comes_1 fun _ _ _ _ _ _ h hF => ⟨h.2.1, hF⟩
end Jvm.Pilot.@@N@@
namespace Jvm.Pilot.@@N@@
open Jvm Jvm.ClassFile Sem Op Lib Jvm.Free Jvm.Stand Jvm.Pilot.@@N@@.Jvm.D
/-! MADE BY PROGRAM (witnessworld.py) out of the Statement's table words and the real class files: 12 classes; the members and pool entries that the words name. The judged class is class 1, her method 1. -/
namespace start1
open Jvm.ClassFile
def u (s : String) : CpInfo := .utf8 (stringToUtf16 s)
/-- a pool by its gaps: so many unusable entries, then the entry; so many at the end -/
def gap : Nat → List CpInfo → List CpInfo
  | 0, r => r
  | n + 1, r => .unusable :: gap n r
def poolList (es : List (Nat × CpInfo)) (last : Nat) : List CpInfo := es.foldr (fun e r => gap e.1 (e.2 :: r)) (gap last [])
def pool (es : List (Nat × CpInfo)) (last : Nat) : Array CpInfo := ⟨poolList es last⟩
def fileOf (pool : Array CpInfo) (this : Nat) (attrs : Array Attribute := #[]) (ms : Array MethodInfo := #[]) (fl : Nat := 33) (sup : Nat := 0) (ifs : Array Nat := #[]) (fds : Array FieldInfo := #[]) : ClassFile where
  minorVersion := 0
  majorVersion := 65
  constantPool := pool
  accessFlags := fl
  thisClass := this
  superClass := sup
  interfaces := ifs
  fields := fds
  methods := ms
  attributes := attrs
def plain (name : String) (sup : Option ClassId) : Class where
  name := name
  kind := .ordinary
  loader := none
  accessFlags := 33
  super := sup
  interfaces := #[]
  cf := none
  fields := #[]
  methods := #[]
  instanceTypes := #[]
  staticTypes := #[]
  resolved := #[]
  callSites := []
  init := .initialized
  statics := none
  mirror := none

def pool0 : Array CpInfo := pool [(5, u "<init>"), (0, u "()V"), (1, .class_ 10), (1, u "java/lang/Object")] 113

def k0c0 : Code := { maxStack := 0, maxLocals := 1, code := object_method_1_code, exceptionTable := #[], attributes := #[] }
def k0m0 : Method := { name := "<init>", desc := "()V", sig := { parameters := [], returnType := none }, accessFlags := 1, code := some k0c0 }
/-- java/lang/Object -/
def k0 : Class := { plain "java/lang/Object" none with
  accessFlags := 33
  interfaces := #[]
  cf := some (fileOf pool0 8 #[] #[{ accessFlags := 1, nameIndex := 5, descriptorIndex := 6, attributes := #[] }] 33 0 #[] #[])
  fields := #[]
  methods := #[k0m0]
  instanceTypes := #[]
  staticTypes := #[]
  resolved := Array.replicate 124 none
  statics := none }

def pool1 : Array CpInfo := pool [(2, .class_ 4), (1, u "java/lang/Object"), (0, u "<init>"), (0, u "()V"), (0, .integer 2147483647), (0, .methodref 9 10), (0, .class_ 11), (0, .nameAndType 12 13), (0, u "java/lang/Math"), (0, u "max"), (0, u "(II)I"), (0, .class_ 15), (0, u "com/example/cumaea/cumaea/ArbitraryPassages"), (0, .methodref 14 17), (0, .nameAndType 5 18), (0, u "(II)V"), (0, .methodref 14 20), (0, .nameAndType 21 22), (0, u "count"), (0, u "(I)I"), (0, .long 2), (1, .class_ 26), (0, u "com/example/cumaea/cumaea/ArbitraryPassagesCountPinLaw"), (2, u "law"), (0, u "(IIII)Z")] 3

def k1m0 : Method := { name := "<init>", desc := "()V", sig := { parameters := [], returnType := none }, accessFlags := 1, code := none }
def k1c1 : Code := { maxStack := 4, maxLocals := 15, code := code, exceptionTable := #[], attributes := #[] }
def k1m1 : Method := { name := "law", desc := "(IIII)Z", sig := { parameters := [.int, .int, .int, .int], returnType := some .boolean }, accessFlags := 9, code := some k1c1 }
/-- com/example/cumaea/cumaea/ArbitraryPassagesCountPinLaw -/
def k1 : Class := { plain "com/example/cumaea/cumaea/ArbitraryPassagesCountPinLaw" (some 0) with
  accessFlags := 49
  interfaces := #[]
  cf := some (fileOf pool1 25 #[] #[{ accessFlags := 1, nameIndex := 5, descriptorIndex := 6, attributes := #[] }, { accessFlags := 9, nameIndex := 29, descriptorIndex := 30, attributes := #[] }] 49 2 #[] #[])
  fields := #[]
  methods := #[k1m0, k1m1]
  instanceTypes := #[]
  staticTypes := #[]
  resolved := Array.replicate 34 none
  statics := none }

def pool2 : Array CpInfo := pool [(1, .methodref 2 3), (0, .class_ 4), (0, .nameAndType 5 6), (0, u "java/lang/Object"), (0, u "<init>"), (0, u "()V"), (0, .class_ 8), (0, u "java/lang/Record")] 13

def k2c0 : Code := { maxStack := 1, maxLocals := 1, code := jdk_30_method_1_code, exceptionTable := #[], attributes := #[] }
def k2m0 : Method := { name := "<init>", desc := "()V", sig := { parameters := [], returnType := none }, accessFlags := 4, code := some k2c0 }
/-- java/lang/Record -/
def k2 : Class := { plain "java/lang/Record" (some 0) with
  accessFlags := 1057
  interfaces := #[]
  cf := some (fileOf pool2 7 #[] #[{ accessFlags := 4, nameIndex := 5, descriptorIndex := 6, attributes := #[] }] 1057 2 #[] #[])
  fields := #[]
  methods := #[k2m0]
  instanceTypes := #[]
  staticTypes := #[]
  resolved := Array.replicate 22 none
  statics := none }

def pool3 : Array CpInfo := pool [(25, .class_ 27), (1, u "com/example/cumaea/cumaea/PassageKind"), (0, u "WHOLE_DOCUMENT"), (0, u "Lcom/example/cumaea/cumaea/PassageKind;"), (0, .class_ 31), (0, u "java/lang/Object"), (0, u "DEFAULT_START_STEP"), (0, u "I")] 34

/-- com/example/cumaea/cumaea/PassageKind -/
def k3 : Class := { plain "com/example/cumaea/cumaea/PassageKind" (some 0) with
  accessFlags := 1537
  interfaces := #[]
  cf := some (fileOf pool3 25 #[] #[] 1537 30 #[] #[{ accessFlags := 25, nameIndex := 28, descriptorIndex := 29, attributes := #[] }, { accessFlags := 25, nameIndex := 32, descriptorIndex := 33, attributes := #[] }])
  fields := #[{ name := "WHOLE_DOCUMENT", type := (.object "com/example/cumaea/cumaea/PassageKind"), accessFlags := 25, slot := 0, constantValue := 0 }, { name := "DEFAULT_START_STEP", type := .int, accessFlags := 25, slot := 1, constantValue := 0 }]
  methods := #[]
  instanceTypes := #[]
  staticTypes := #[(.object "com/example/cumaea/cumaea/PassageKind"), .int]
  resolved := Array.replicate 68 none
  statics := none }

def pool4 : Array CpInfo := pool [(1, .methodref 2 3), (0, .class_ 4), (0, .nameAndType 5 6), (0, u "java/lang/Record"), (0, u "<init>"), (0, u "()V"), (10, .fieldref 18 19), (0, .class_ 20), (0, .nameAndType 21 22), (0, u "com/example/cumaea/cumaea/ArbitraryPassages"), (0, u "width"), (0, u "I"), (0, .fieldref 18 24), (0, .nameAndType 25 22), (0, u "step"), (22, .class_ 49), (0, u "com/example/cumaea/cumaea/PassageKind"), (0, u "(II)V"), (4, u "count"), (0, u "(I)I")] 36

def k4c0 : Code := { maxStack := 3, maxLocals := 3, code := prog_1_method_1_code, exceptionTable := #[], attributes := #[] }
def k4m0 : Method := { name := "<init>", desc := "(II)V", sig := { parameters := [.int, .int], returnType := none }, accessFlags := 0, code := some k4c0 }
def k4c1 : Code := { maxStack := 3, maxLocals := 4, code := prog_1_method_2_code, exceptionTable := #[], attributes := #[] }
def k4m1 : Method := { name := "count", desc := "(I)I", sig := { parameters := [.int], returnType := some .int }, accessFlags := 1, code := some k4c1 }
/-- com/example/cumaea/cumaea/ArbitraryPassages -/
def k4 : Class := { plain "com/example/cumaea/cumaea/ArbitraryPassages" (some 2) with
  accessFlags := 48
  interfaces := #[3]
  cf := some (fileOf pool4 18 #[] #[{ accessFlags := 0, nameIndex := 5, descriptorIndex := 50, attributes := #[] }, { accessFlags := 1, nameIndex := 55, descriptorIndex := 56, attributes := #[] }] 48 2 #[48] #[{ accessFlags := 18, nameIndex := 21, descriptorIndex := 22, attributes := #[] }, { accessFlags := 18, nameIndex := 25, descriptorIndex := 22, attributes := #[] }])
  fields := #[{ name := "width", type := .int, accessFlags := 18, slot := 0, constantValue := 0 }, { name := "step", type := .int, accessFlags := 18, slot := 1, constantValue := 0 }]
  methods := #[k4m0, k4m1]
  instanceTypes := #[.int, .int]
  staticTypes := #[]
  resolved := Array.replicate 93 none
  statics := none }

def pool5 : Array CpInfo := pool [(1, .class_ 2), (0, u "java/lang/Math"), (1, .class_ 6), (1, u "java/lang/Object"), (0, u "<init>"), (0, u "()V"), (89, .class_ 100), (1, u "java/lang/Math$RandomNumberGeneratorHolder"), (71, u "negativeZeroFloatBits"), (0, u "J"), (2, u "negativeZeroDoubleBits"), (21, u "max"), (46, u "$assertionsDisabled"), (0, u "Z"), (88, u "(II)I"), (2, u "twoToTheDoubleScaleDown"), (0, u "D"), (4, u "twoToTheDoubleScaleUp"), (9, u "E"), (3, u "PI"), (2, u "TAU"), (2, u "DEGREES_TO_RADIANS"), (0, u "RADIANS_TO_DEGREES")] 94

def k5m0 : Method := { name := "<init>", desc := "()V", sig := { parameters := [], returnType := none }, accessFlags := 2, code := none }
def k5c1 : Code := { maxStack := 2, maxLocals := 2, code := jdk_29_method_65_code, exceptionTable := #[], attributes := #[] }
def k5m1 : Method := { name := "max", desc := "(II)I", sig := { parameters := [.int, .int], returnType := some .int }, accessFlags := 9, code := some k5c1 }
/-- java/lang/Math -/
def k5 : Class := { plain "java/lang/Math" (some 0) with
  accessFlags := 49
  interfaces := #[]
  cf := some (fileOf pool5 1 #[.nestMembers #[98]] #[{ accessFlags := 2, nameIndex := 7, descriptorIndex := 8, attributes := #[] }, { accessFlags := 9, nameIndex := 198, descriptorIndex := 335, attributes := #[] }] 49 4 #[] #[{ accessFlags := 25, nameIndex := 354, descriptorIndex := 339, attributes := #[] }, { accessFlags := 25, nameIndex := 358, descriptorIndex := 339, attributes := #[] }, { accessFlags := 25, nameIndex := 361, descriptorIndex := 339, attributes := #[] }, { accessFlags := 26, nameIndex := 364, descriptorIndex := 339, attributes := #[] }, { accessFlags := 26, nameIndex := 365, descriptorIndex := 339, attributes := #[] }, { accessFlags := 26, nameIndex := 172, descriptorIndex := 173, attributes := #[] }, { accessFlags := 26, nameIndex := 176, descriptorIndex := 173, attributes := #[] }, { accessFlags := 8, nameIndex := 344, descriptorIndex := 339, attributes := #[] }, { accessFlags := 8, nameIndex := 338, descriptorIndex := 339, attributes := #[] }, { accessFlags := 4120, nameIndex := 245, descriptorIndex := 246, attributes := #[] }])
  fields := #[{ name := "E", type := .double, accessFlags := 25, slot := 0, constantValue := 0 }, { name := "PI", type := .double, accessFlags := 25, slot := 1, constantValue := 0 }, { name := "TAU", type := .double, accessFlags := 25, slot := 2, constantValue := 0 }, { name := "DEGREES_TO_RADIANS", type := .double, accessFlags := 26, slot := 3, constantValue := 0 }, { name := "RADIANS_TO_DEGREES", type := .double, accessFlags := 26, slot := 4, constantValue := 0 }, { name := "negativeZeroFloatBits", type := .long, accessFlags := 26, slot := 5, constantValue := 0 }, { name := "negativeZeroDoubleBits", type := .long, accessFlags := 26, slot := 6, constantValue := 0 }, { name := "twoToTheDoubleScaleUp", type := .double, accessFlags := 8, slot := 7, constantValue := 0 }, { name := "twoToTheDoubleScaleDown", type := .double, accessFlags := 8, slot := 8, constantValue := 0 }, { name := "$assertionsDisabled", type := .boolean, accessFlags := 4120, slot := 9, constantValue := 0 }]
  methods := #[k5m0, k5m1]
  instanceTypes := #[]
  staticTypes := #[.double, .double, .double, .double, .double, .long, .long, .double, .double, .boolean]
  resolved := Array.replicate 460 none
  statics := none }

def pool6 : Array CpInfo := pool [(1, u "java/lang/Cloneable"), (0, .class_ 1), (0, u "java/lang/Object"), (0, .class_ 3)] 3

/-- java/lang/Cloneable -/
def k6 : Class := { plain "java/lang/Cloneable" (some 0) with
  accessFlags := 1537
  interfaces := #[]
  cf := some (fileOf pool6 2 #[] #[] 1537 4 #[] #[])
  fields := #[]
  methods := #[]
  instanceTypes := #[]
  staticTypes := #[]
  resolved := Array.replicate 8 none
  statics := none }

def pool7 : Array CpInfo := pool [(1, u "java/io/Serializable"), (0, .class_ 1), (0, u "java/lang/Object"), (0, .class_ 3)] 3

/-- java/io/Serializable -/
def k7 : Class := { plain "java/io/Serializable" (some 0) with
  accessFlags := 1537
  interfaces := #[]
  cf := some (fileOf pool7 2 #[] #[] 1537 4 #[] #[])
  fields := #[]
  methods := #[]
  instanceTypes := #[]
  staticTypes := #[]
  resolved := Array.replicate 8 none
  statics := none }

/-- the primitive byte -/
def k8 : Class := { plain "byte" none with kind := .primitive 'B', accessFlags := 0x411 }
/-- [B -/
def k9 : Class := { plain "[B" (some 0) with kind := .array 8 .byte, interfaces := #[6, 7], accessFlags := 1041 }

/-- the primitive int -/
def k10 : Class := { plain "int" none with kind := .primitive 'I', accessFlags := 0x411 }
/-- [I -/
def k11 : Class := { plain "[I" (some 0) with kind := .array 10 .int, interfaces := #[6, 7], accessFlags := 1041 }

def heap : Heap := #[]
def classes : Array Class := #[k0, k1, k2, k3, k4, k5, k6, k7, k8, k9, k10, k11]
def interned : List (Array UInt16 × Addr) := []
def slotsUsed : Nat := 0
def theMethod : MethodId := ⟨1, 1⟩
def args0 : Array Value := #[.int 5, .int 3, .int 20, .int 1]
def aboutOver (below : List Frame) : State where
  vm := { classes := classes, interned := interned.toArray }
  heap := heap
  slotsUsed := slotsUsed
  threads := #[{ frames := .invoking theMethod args0 :: below }]
def below0 : List Frame := [.native { method := ⟨0, 0⟩, args := #[] }]
def about1 : State := aboutOver below0
def p0 : Program := .bare "" "" ""
def e0 : Env := launch0.env 0 0 0
theorem w_frames : about1.frames = Frame.invoking theMethod args0 :: below0 := rfl
set_option maxRecDepth 65536 in
theorem w_args : argsFit about1.vm theMethod args0 = true := by decide +kernel
set_option maxRecDepth 65536 in
theorem w_heap : heapFits about1 = true := by decide +kernel
set_option maxRecDepth 65536 in
theorem w_runnable : about1.curStatus? = some .runnable := by decide +kernel
set_option maxRecDepth 65536 in
theorem w_alone : about1.alone = true := by decide +kernel
set_option maxRecDepth 65536 in
theorem w_named : about1.methodNamed? x = some theMethod := by decide +kernel
set_option maxRecDepth 65536 in
theorem w_hears : about1.hears theMethod below0 = true := by decide +kernel
set_option maxRecDepth 65536 in
theorem w_ripe : about1.ripe theMethod args0 below0 = true := by decide +kernel
theorem w_running : about1.status = .running := rfl
set_option maxRecDepth 65536 in
theorem w_room : about1.hasRoom e0.platform room_1 = true :=
  launch0.hasRoom_least _ room_1 (by decide +kernel) (by decide +kernel) (by decide +kernel) (by decide +kernel) (by decide +kernel) (by decide +kernel)
theorem allAtoms_all (ts : List Jvm.Cond) (a : Array Jvm.Value) (st : Jvm.State) : (allAtoms ts).before a st = ts.all (fun c => c.before a st) := by
  induction ts with
  | nil => rfl
  | cons c t ih =>
    show (Jvm.Cond.and c (allAtoms t)).before a st = _
    rw [Jvm.Cond.before_and, ih, List.all_cons]
def words1 : List Jvm.Cond := Jvm.Cond.code x code maxLocals ret :: tables_1
/-- a 'code' word, met by the world's own term for the bytes: nothing is compared byte by byte -/
theorem code_word {y : MethodName} {bytes : ByteArray} {mx : Nat} {rt : Option FieldType} {a : Array Value} {s : State} {m : MethodId} {meth : Method} {c : Code} (h1 : s.methodNamed? y = some m) (h2 : s.vm.method? m = some meth) (h3 : meth.code = some c) (h4 : c.code = bytes)
    (h5 : (c.maxLocals == mx && c.exceptionTable.isEmpty && decide (c.maxStack ≤ mostOperands) && decide (meth.sig.returnType = rt) && !meth.locks && decide (parseMethodDescriptor y.desc = some meth.sig)) = true) : (Jvm.Cond.code y bytes mx rt).before a s = true := by
  simp only [Bool.and_eq_true, beq_iff_eq, Bool.not_eq_true', decide_eq_true_eq] at h5
  obtain ⟨⟨⟨⟨⟨g1, g2⟩, g3⟩, g4⟩, g5⟩, g6⟩ := h5
  simp [Cond.before, Cond.holds, Cond.value, h1, h2, h3, h4, g1, g2, g3, g4, g5, g6]
def isCode : Jvm.Cond → Bool
  | .code _ _ _ _ => true
  | _ => false
theorem all_split {L : List Jvm.Cond} {P : Jvm.Cond → Bool} (h1 : L.all (fun c => isCode c || P c) = true) (h2 : ∀ c ∈ L.filter isCode, P c = true) : L.all P = true := by
  refine List.all_eq_true.mpr fun c hc => ?_
  have h := List.all_eq_true.mp h1 c hc
  rcases Bool.eq_false_or_eq_true (isCode c) with hi | hi
  · exact h2 c (List.mem_filter.mpr ⟨hc, hi⟩)
  · simpa [hi] using h
set_option maxRecDepth 65536 in
theorem w_c0 : (Jvm.Cond.code x code maxLocals ret).before args0 about1 = true := code_word (m := ⟨1, 1⟩) (meth := k1m1) (c := k1c1) (by decide +kernel) rfl rfl rfl (by decide +kernel)
set_option maxRecDepth 65536 in
theorem w_c1 : (Jvm.Cond.code ({ cls := "com/example/cumaea/cumaea/ArbitraryPassages", name := "<init>", desc := "(II)V" } : Jvm.MethodName) prog_1_method_1_code (3 : Nat) (Option.none : Option Jvm.ClassFile.FieldType)).before args0 about1 = true := code_word (m := ⟨4, 0⟩) (meth := k4m0) (c := k4c0) (by decide +kernel) rfl rfl rfl (by decide +kernel)
set_option maxRecDepth 65536 in
theorem w_c2 : (Jvm.Cond.code ({ cls := "java/lang/Record", name := "<init>", desc := "()V" } : Jvm.MethodName) jdk_30_method_1_code (1 : Nat) (Option.none : Option Jvm.ClassFile.FieldType)).before args0 about1 = true := code_word (m := ⟨2, 0⟩) (meth := k2m0) (c := k2c0) (by decide +kernel) rfl rfl rfl (by decide +kernel)
set_option maxRecDepth 65536 in
theorem w_c3 : (Jvm.Cond.code ({ cls := "java/lang/Object", name := "<init>", desc := "()V" } : Jvm.MethodName) object_method_1_code (1 : Nat) (Option.none : Option Jvm.ClassFile.FieldType)).before args0 about1 = true := code_word (m := ⟨0, 0⟩) (meth := k0m0) (c := k0c0) (by decide +kernel) rfl rfl rfl (by decide +kernel)
set_option maxRecDepth 65536 in
theorem w_c4 : (Jvm.Cond.code ({ cls := "com/example/cumaea/cumaea/ArbitraryPassages", name := "count", desc := "(I)I" } : Jvm.MethodName) prog_1_method_2_code (4 : Nat) (Option.some Jvm.ClassFile.FieldType.int)).before args0 about1 = true := code_word (m := ⟨4, 1⟩) (meth := k4m1) (c := k4c1) (by decide +kernel) rfl rfl rfl (by decide +kernel)
set_option maxRecDepth 65536 in
theorem w_c5 : (Jvm.Cond.code ({ cls := "java/lang/Math", name := "max", desc := "(II)I" } : Jvm.MethodName) jdk_29_method_65_code (2 : Nat) (Option.some Jvm.ClassFile.FieldType.int)).before args0 about1 = true := code_word (m := ⟨5, 1⟩) (meth := k5m1) (c := k5c1) (by decide +kernel) rfl rfl rfl (by decide +kernel)
def codes1 : List Jvm.Cond := [Jvm.Cond.code x code maxLocals ret, Jvm.Cond.code ({ cls := "com/example/cumaea/cumaea/ArbitraryPassages", name := "<init>", desc := "(II)V" } : Jvm.MethodName) prog_1_method_1_code (3 : Nat) (Option.none : Option Jvm.ClassFile.FieldType), Jvm.Cond.code ({ cls := "java/lang/Record", name := "<init>", desc := "()V" } : Jvm.MethodName) jdk_30_method_1_code (1 : Nat) (Option.none : Option Jvm.ClassFile.FieldType), Jvm.Cond.code ({ cls := "java/lang/Object", name := "<init>", desc := "()V" } : Jvm.MethodName) object_method_1_code (1 : Nat) (Option.none : Option Jvm.ClassFile.FieldType), Jvm.Cond.code ({ cls := "com/example/cumaea/cumaea/ArbitraryPassages", name := "count", desc := "(I)I" } : Jvm.MethodName) prog_1_method_2_code (4 : Nat) (Option.some Jvm.ClassFile.FieldType.int), Jvm.Cond.code ({ cls := "java/lang/Math", name := "max", desc := "(II)I" } : Jvm.MethodName) jdk_29_method_65_code (2 : Nat) (Option.some Jvm.ClassFile.FieldType.int)]
set_option maxRecDepth 65536 in
theorem codes_eq : words1.filter isCode = codes1 := rfl
theorem w_codes : ∀ c ∈ words1.filter isCode, c.before args0 about1 = true := by
  rw [codes_eq]
  intro c hc
  simp only [codes1, List.mem_cons, List.not_mem_nil, or_false] at hc
  rcases hc with rfl | rfl | rfl | rfl | rfl | rfl
  · exact w_c0
  · exact w_c1
  · exact w_c2
  · exact w_c3
  · exact w_c4
  · exact w_c5
set_option maxRecDepth 65536 in
theorem w_t1 : (words1.take 24).all (fun c => isCode c || c.before args0 about1) = true := by decide +kernel
set_option maxRecDepth 65536 in
theorem w_t2 : (words1.drop 24).all (fun c => isCode c || c.before args0 about1) = true := by decide +kernel
theorem w_tables : (allAtoms (Jvm.Cond.code x code maxLocals ret :: tables_1)).before args0 about1 = true := by
  rw [allAtoms_all]
  show words1.all (fun c => c.before args0 about1) = true
  refine all_split ?_ w_codes
  rw [← List.take_append_drop 24 words1, List.all_append, w_t1, w_t2]
  rfl
set_option maxRecDepth 65536 in
theorem w_case : (Jvm.Cond.and given_1 narrow_1).before args0 about1 = true := by decide +kernel
theorem w_applies : (headSpec (Jvm.Cond.code x code maxLocals ret :: tables_1) room_1).applies x e0.platform about1 = true :=
  (Spec.applies_iff w_frames).mpr ⟨w_running, w_runnable, w_alone, w_named, w_hears, w_ripe, w_room, w_tables⟩
theorem atStart : AtStart classFile x code maxLocals ret World_1 tables_1 room_1 Calls_1 rest_1 Pre_1 launch0 p0 e0 about1 theMethod args0 below0 :=
  ⟨lists_1, trivial, launch0.admits_env _ _ _, launch0.least_env, fairChoices_fair.cas, fairChoices_fair.clock, w_frames, w_args, w_heap, w_applies, trivial, trivial, w_case⟩
end start1
theorem witness_1 : WitnessClaimed_1 := ⟨start1.p0, start1.e0, start1.about1, start1.theMethod, start1.args0, start1.below0, start1.atStart⟩
end Jvm.Pilot.@@N@@
