import JvmDerived
import JvmDerived.Pilot.@@N@@Statement
import JvmDerived.Pilot.@@N@@Code
set_option linter.unusedVariables false
set_option linter.unusedSimpArgs false
@@BLOCK:NumsL.lean.txt@@
namespace Jvm.Pilot.@@N@@
open Jvm Jvm.ClassFile Sem Op Lib Jvm.Free Jvm.Stand Jvm.LawKit Jvm.RoadKit Bundle Jvm.Pilot.@@N@@.Jvm.D
theorem own_ne {k : Int32} {n : Int} (z : Int32) (hl : z.toInt = n) (h : ¬ k = z) : n ≠ k.toInt := fun e => h (Int32.toInt_inj.mp (by rw [hl]; exact e.symm))
theorem own_ext {Z : State} {n0 : Nat} {h : Heap} (O : Old Z n0 h) : Ext Z.heap h := O.2
theorem own_sz {Z : State} {n0 : Nat} {h : Heap} (O : Old Z n0 h) : n0 ≤ h.size := by have := O.2.1; rw [O.1] at this; exact this
def own_Ends (p : Program) (e : Env) (below : List Frame) (s : State) (Q : Option Value → Heap → List Loc → Prop) (k n : Nat) (A : State) : Prop :=
  ∃ (U : State) (o : Outcome), Steps p.tables e below A U ∧ U.status = .running ∧ Ended U below o ∧ ∃ v L, o = .returned v ∧ Q v U.heap L ∧ FrameEnd s o U L k n
section OwnKit
variable {p : Program} {l : Launch} {e : Env} {R : Room} {s : State} {m : MethodId} {args : Array Value} {below : List Frame} {meth : Method} {c : Code} {T : State} {locs : List Loc} {cells slots k n : Nat} {Q : Option Value → Heap → List Loc → Prop} {A B : State}
theorem own_go (h : ∀ t, Steps p.tables e below B t → Steps p.tables e below A t) (K : own_Ends p e below s Q k n B) : own_Ends p e below s Q k n A := by
  obtain ⟨U, o, h1, r⟩ := K
  exact ⟨U, o, h U h1, r⟩
theorem own_ret (X : Stand p l e R s m args below meth c T locs cells slots) (hx : p.tables.exec = Jvm.exec) (hlk : meth.locks = false) {pc : Nat} {Ls : Array Slot} {w : Value} {t : FieldType} {i : Instr} {rest : List Value} (hret : meth.sig.returnType = some t) (hn : narrow t w = w)
    (hi : (i = .ireturn ∧ (t = .int ∨ t = .boolean ∨ t = .byte ∨ t = .char ∨ t = .short) ∧ ∃ z, w = .int z) ∨ (i = .lreturn ∧ t = .long ∧ ∃ z, w = .long z) ∨ (i = .dreturn ∧ t = .double ∧ ∃ z, w = .double z) ∨ (i = .freturn ∧ t = .float ∧ ∃ z, w = .float z) ∨ (i = .areturn ∧ t.isReference = true ∧ w.isRef = true))
    (hd : decode c.code pc = .ok (i, 1)) (hk : cells ≤ k) (hs : slots ≤ n) (hQ : Q (some w) T.heap locs) : own_Ends p e below s Q k n (T.setTop (mkF m pc Ls (w :: rest))) := by
  obtain ⟨fs, hr, hrun, hended, hW, hsame⟩ := X.leave (v := some w) (fun h => by rw [hret] at h; cases h) hlk
  exact ⟨_, _, retOut X hx hret hn hi hd hr, hrun, hended, _, _, rfl, hQ, ⟨_, rfl⟩, hW, hsame.mono hk hs⟩
theorem own_retI (X : Stand p l e R s m args below meth c T locs cells slots) (hx : p.tables.exec = Jvm.exec) (hlk : meth.locks = false) {pc : Nat} {Ls : Array Slot} {z : Int32} {rest : List Value} (hret : meth.sig.returnType = some .int) (hd : decode c.code pc = .ok (.ireturn, 1)) (hk : cells ≤ k) (hs : slots ≤ n) (hQ : Q (some (.int z)) T.heap locs) : own_Ends p e below s Q k n (T.setTop (mkF m pc Ls (.int z :: rest))) :=
  own_ret X hx hlk hret rfl (Or.inl ⟨rfl, Or.inl rfl, _, rfl⟩) hd hk hs hQ
theorem own_retJ (X : Stand p l e R s m args below meth c T locs cells slots) (hx : p.tables.exec = Jvm.exec) (hlk : meth.locks = false) {pc : Nat} {Ls : Array Slot} {z : Int64} {rest : List Value} (hret : meth.sig.returnType = some .long) (hd : decode c.code pc = .ok (.lreturn, 1)) (hk : cells ≤ k) (hs : slots ≤ n) (hQ : Q (some (.long z)) T.heap locs) : own_Ends p e below s Q k n (T.setTop (mkF m pc Ls (.long z :: rest))) :=
  own_ret X hx hlk hret rfl (Or.inr (Or.inl ⟨rfl, rfl, _, rfl⟩)) hd hk hs hQ
theorem own_retD (X : Stand p l e R s m args below meth c T locs cells slots) (hx : p.tables.exec = Jvm.exec) (hlk : meth.locks = false) {pc : Nat} {Ls : Array Slot} {z : UInt64} {rest : List Value} (hret : meth.sig.returnType = some .double) (hd : decode c.code pc = .ok (.dreturn, 1)) (hk : cells ≤ k) (hs : slots ≤ n) (hQ : Q (some (.double z)) T.heap locs) : own_Ends p e below s Q k n (T.setTop (mkF m pc Ls (.double z :: rest))) :=
  own_ret X hx hlk hret rfl (Or.inr (Or.inr (Or.inl ⟨rfl, rfl, _, rfl⟩))) hd hk hs hQ
theorem own_retA (X : Stand p l e R s m args below meth c T locs cells slots) (hx : p.tables.exec = Jvm.exec) (hlk : meth.locks = false) {pc : Nat} {Ls : Array Slot} {w : Value} {t : FieldType} {rest : List Value} (hret : meth.sig.returnType = some t) (ht : t.isReference = true) (hw : w.isRef = true) (hn : narrow t w = w) (hd : decode c.code pc = .ok (.areturn, 1)) (hk : cells ≤ k) (hs : slots ≤ n) (hQ : Q (some w) T.heap locs) : own_Ends p e below s Q k n (T.setTop (mkF m pc Ls (w :: rest))) :=
  own_ret X hx hlk hret hn (Or.inr (Or.inr (Or.inr (Or.inr ⟨rfl, ht, hw⟩)))) hd hk hs hQ
theorem own_retN (X : Stand p l e R s m args below meth c T locs cells slots) (hx : p.tables.exec = Jvm.exec) (hlk : meth.locks = false) {pc : Nat} {Ls : Array Slot} {z : Int32} {t : FieldType} {rest : List Value} (hret : meth.sig.returnType = some t) (ht : t = .boolean ∨ t = .byte ∨ t = .char ∨ t = .short) (hd : decode c.code pc = .ok (.ireturn, 1)) (hk : cells ≤ k) (hs : slots ≤ n) (hQ : Q (some (.int (nar t z))) T.heap locs) : own_Ends p e below s Q k n (T.setTop (mkF m pc Ls (.int z :: rest))) := by
  obtain ⟨fs, hr, hrun, hended, hW, hsame⟩ := X.leave (v := some (.int (nar t z))) (fun h => by rw [hret] at h; cases h) hlk
  exact ⟨_, _, retN X hx hret ht hd hr, hrun, hended, _, _, rfl, hQ, ⟨_, rfl⟩, hW, hsame.mono hk hs⟩
theorem own_retV (X : Stand p l e R s m args below meth c T locs cells slots) (hx : p.tables.exec = Jvm.exec) (hlk : meth.locks = false) {pc : Nat} {Ls : Array Slot} (hret : meth.sig.returnType = none) (hd : decode c.code pc = .ok (.return_, 1)) (hk : cells ≤ k) (hs : slots ≤ n) (hQ : Q none T.heap locs) : own_Ends p e below s Q k n (T.setTop (mkF m pc Ls [])) := by
  obtain ⟨fs, hr, hrun, hended, hW, hsame⟩ := X.leave (v := none) (fun _ => rfl) hlk
  exact ⟨_, _, X.returnOut hx hret hd hr, hrun, hended, _, _, rfl, hQ, ⟨_, rfl⟩, hW, hsame.mono hk hs⟩
end OwnKit
theorem d1_0 : decode prog_135_method_6_code 0 = .ok (.iload_n 0, 1) := by decide +kernel
theorem d1_1 : decode prog_135_method_6_code 1 = .ok (.bipush 97, 2) := by decide +kernel
theorem d1_3 : decode prog_135_method_6_code 3 = .ok (.if_icmp .lt 9, 3) := by decide +kernel
theorem d1_6 : decode prog_135_method_6_code 6 = .ok (.iload_n 0, 1) := by decide +kernel
theorem d1_7 : decode prog_135_method_6_code 7 = .ok (.bipush 122, 2) := by decide +kernel
theorem d1_9 : decode prog_135_method_6_code 9 = .ok (.if_icmp .le 27, 3) := by decide +kernel
theorem d1_12 : decode prog_135_method_6_code 12 = .ok (.iload_n 0, 1) := by decide +kernel
theorem d1_13 : decode prog_135_method_6_code 13 = .ok (.bipush 65, 2) := by decide +kernel
theorem d1_15 : decode prog_135_method_6_code 15 = .ok (.if_icmp .lt 9, 3) := by decide +kernel
theorem d1_18 : decode prog_135_method_6_code 18 = .ok (.iload_n 0, 1) := by decide +kernel
theorem d1_19 : decode prog_135_method_6_code 19 = .ok (.bipush 90, 2) := by decide +kernel
theorem d1_21 : decode prog_135_method_6_code 21 = .ok (.if_icmp .le 15, 3) := by decide +kernel
theorem d1_24 : decode prog_135_method_6_code 24 = .ok (.iload_n 0, 1) := by decide +kernel
theorem d1_25 : decode prog_135_method_6_code 25 = .ok (.bipush 95, 2) := by decide +kernel
theorem d1_27 : decode prog_135_method_6_code 27 = .ok (.if_icmp .eq 9, 3) := by decide +kernel
theorem d1_30 : decode prog_135_method_6_code 30 = .ok (.iload_n 0, 1) := by decide +kernel
theorem d1_31 : decode prog_135_method_6_code 31 = .ok (.bipush 58, 2) := by decide +kernel
theorem d1_33 : decode prog_135_method_6_code 33 = .ok (.if_icmp .ne 7, 3) := by decide +kernel
theorem d1_36 : decode prog_135_method_6_code 36 = .ok (.iconst 1, 1) := by decide +kernel
theorem d1_37 : decode prog_135_method_6_code 37 = .ok (.goto 4, 3) := by decide +kernel
theorem d1_40 : decode prog_135_method_6_code 40 = .ok (.iconst 0, 1) := by decide +kernel
theorem d1_41 : decode prog_135_method_6_code 41 = .ok (.ireturn, 1) := by decide +kernel
theorem pn1 : plainName "com/example/helmsward/helmsward/store/SeriesKey" = true := by first | (simp [plainName, overriddenIn]; done) | decide +kernel
theorem ef1 (m : MethodId) (p0 : Int32) : entryFrame m #[(.int p0)] 1 = mkF m 0 #[.val (.int p0)] [] := by first | (simp [entryFrame, mkF, argsToLocals, Value.category]; done) | rfl
def f1 (p0 : Int32) : Int32 := (if p0 < (97 : Int32) then (if p0 < (65 : Int32) then (if p0 = (95 : Int32) then (1 : Int32) else (if p0 = (58 : Int32) then (1 : Int32) else (0 : Int32))) else (if (90 : Int32) < p0 then (if p0 = (95 : Int32) then (1 : Int32) else (if p0 = (58 : Int32) then (1 : Int32) else (0 : Int32))) else (1 : Int32))) else (if (122 : Int32) < p0 then (if p0 < (65 : Int32) then (if p0 = (95 : Int32) then (1 : Int32) else (if p0 = (58 : Int32) then (1 : Int32) else (0 : Int32))) else (if (90 : Int32) < p0 then (if p0 = (95 : Int32) then (1 : Int32) else (if p0 = (58 : Int32) then (1 : Int32) else (0 : Int32))) else (1 : Int32))) else (1 : Int32)))
def Q1 (Z : State) (p0 : Int32) (h0 : Heap) (n0 : Nat) (v : Option Value) (h : Heap) (L : List Loc) : Prop := v = some (.int (f1 p0)) ∧ Fr n0 L ∧ h = h0
set_option maxRecDepth 65536 in
set_option maxHeartbeats 40000000 in
theorem rm1 (l : Launch) (Z : State) (ar : Array Value) (hw : ∀ d ∈ tables_1, d.before ar Z = true) (ws : List Jvm.Cond) (p0 : Int32) (h0 : Heap) (n0 : Nat) (O0 : Old Z n0 h0) :
    MetFree l (⟨"com/example/helmsward/helmsward/store/SeriesKey", "isNameStart", "(C)Z"⟩ : MethodName) (head1 (Jvm.Cond.code (⟨"com/example/helmsward/helmsward/store/SeriesKey", "isNameStart", "(C)Z"⟩ : MethodName) prog_135_method_6_code 1 (some .boolean) :: ws) ({ frames := 0, cells := 0, slots := 0, locals := 0 } : Room)) (fun a U => a = #[(.int p0)] ∧ Z.Warmed39 U.vm ∧ U.heap = h0) (fun _ _ _ _ _ => True) (fun _ U o U' => ∃ v L, o = .returned v ∧ Q1 Z p0 h0 n0 v U'.heap L ∧ FrameEnd U o U' L ({ frames := 0, cells := 0, slots := 0, locals := 0 } : Room).cells ({ frames := 0, cells := 0, slots := 0, locals := 0 } : Room).slots) := by
  refine MetFree.of_bodySF (plainFor_of_name pn1) hisR ?_
  intro p e s m args below meth c s₁ Bd hml0 hP hK
  obtain ⟨rfl, hZ, hh⟩ := hP
  have hx := Bd.exec
  have hby := Bd.bytes
  have hml : c.maxLocals = 1 := hml0
  have hown : s.vm.findClass "com/example/helmsward/helmsward/store/SeriesKey" = some m.cls := findClass_of_methodNamed Bd.named
  have hnm := (name_of_methodNamed Bd.named Bd.method).1
  have hlk : meth.locks = false := BodyLoose.notSynchronized Bd
  have X0 : Stand p l e ({ frames := 0, cells := 0, slots := 0, locals := 0 } : Room) s m #[(.int p0)] below meth c s₁ [] 0 0 := Stand.of_body Bd
  have e0 : s₁.heap = h0 := by rw [← hh, Bd.state]; rfl
  have N0 := Fr.nil n0
  suffices hmain : own_Ends p e below s (Q1 Z p0 h0 n0) 0 0 (s₁.setTop (mkF m 0 #[.val (.int p0)] [])) by
    obtain ⟨U, o, h1, r⟩ := hmain
    exact ⟨U, o, castTop (ef1 m p0) h1, r⟩
  show own_Ends _ _ _ _ _ _ _ (s₁.setTop (mkF m 0 #[.val (.int p0)] []))
  refine own_go (fun _ k => XS.iloadN X0.here hx rfl (hb hby d1_0) rfl k) ?_
  show own_Ends _ _ _ _ _ _ _ (s₁.setTop (mkF m 1 #[.val (.int p0)] [(.int p0)]))
  refine own_go (fun _ k => XS.bipush X0.here hx rfl (hb hby d1_1) k) ?_
  show own_Ends _ _ _ _ _ _ _ (s₁.setTop (mkF m 3 #[.val (.int p0)] [(.int (97 : Int32)), (.int p0)]))
  by_cases hc1 : p0 < (97 : Int32)
  · refine own_go (fun _ k => XS.icmpYes X0.here hx rfl (pc0 := 3) (pc' := 12) rfl (hb hby d1_3) rfl (tlt hc1).1 (by decide) (by decide) k) ?_
    show own_Ends _ _ _ _ _ _ _ (s₁.setTop (mkF m 12 #[.val (.int p0)] []))
    refine own_go (fun _ k => XS.iloadN X0.here hx rfl (hb hby d1_12) rfl k) ?_
    show own_Ends _ _ _ _ _ _ _ (s₁.setTop (mkF m 13 #[.val (.int p0)] [(.int p0)]))
    refine own_go (fun _ k => XS.bipush X0.here hx rfl (hb hby d1_13) k) ?_
    show own_Ends _ _ _ _ _ _ _ (s₁.setTop (mkF m 15 #[.val (.int p0)] [(.int (65 : Int32)), (.int p0)]))
    by_cases hc2 : p0 < (65 : Int32)
    · refine own_go (fun _ k => XS.icmpYes X0.here hx rfl (pc0 := 15) (pc' := 24) rfl (hb hby d1_15) rfl (tlt hc2).1 (by decide) (by decide) k) ?_
      show own_Ends _ _ _ _ _ _ _ (s₁.setTop (mkF m 24 #[.val (.int p0)] []))
      refine own_go (fun _ k => XS.iloadN X0.here hx rfl (hb hby d1_24) rfl k) ?_
      show own_Ends _ _ _ _ _ _ _ (s₁.setTop (mkF m 25 #[.val (.int p0)] [(.int p0)]))
      refine own_go (fun _ k => XS.bipush X0.here hx rfl (hb hby d1_25) k) ?_
      show own_Ends _ _ _ _ _ _ _ (s₁.setTop (mkF m 27 #[.val (.int p0)] [(.int (95 : Int32)), (.int p0)]))
      by_cases hc3 : p0 = (95 : Int32)
      · refine own_go (fun _ k => XS.icmpYes X0.here hx rfl (pc0 := 27) (pc' := 36) rfl (hb hby d1_27) rfl (teq hc3).1 (by decide) (by decide) k) ?_
        show own_Ends _ _ _ _ _ _ _ (s₁.setTop (mkF m 36 #[.val (.int p0)] []))
        refine own_go (fun _ k => XS.iconst X0.here hx rfl (hb hby d1_36) k) ?_
        show own_Ends _ _ _ _ _ _ _ (s₁.setTop (mkF m 37 #[.val (.int p0)] [(.int (1 : Int32))]))
        refine own_go (fun _ k => XS.goto X0.here hx rfl (pc0 := 37) (pc' := 41) rfl (hb hby d1_37) (by decide) (by decide) k) ?_
        show own_Ends _ _ _ _ _ _ _ (s₁.setTop (mkF m 41 #[.val (.int p0)] [(.int (1 : Int32))]))
        exact own_retN X0 hx hlk (t := .boolean) Bd.returns (by simp) (hb hby d1_41) (by decide) (by decide) ⟨congrArg (fun z => some (Value.int z)) ((by decide : nar .boolean (1 : Int32) = (1 : Int32)).trans (by exact ((((if_pos hc1).trans (if_pos hc2)).trans (if_pos hc3))).symm)), N0, e0⟩
      · refine own_go (fun _ k => XS.icmpNo X0.here hx rfl (hb hby d1_27) rfl (feq hc3).1 k) ?_
        show own_Ends _ _ _ _ _ _ _ (s₁.setTop (mkF m 30 #[.val (.int p0)] []))
        refine own_go (fun _ k => XS.iloadN X0.here hx rfl (hb hby d1_30) rfl k) ?_
        show own_Ends _ _ _ _ _ _ _ (s₁.setTop (mkF m 31 #[.val (.int p0)] [(.int p0)]))
        refine own_go (fun _ k => XS.bipush X0.here hx rfl (hb hby d1_31) k) ?_
        show own_Ends _ _ _ _ _ _ _ (s₁.setTop (mkF m 33 #[.val (.int p0)] [(.int (58 : Int32)), (.int p0)]))
        by_cases hc4 : p0 = (58 : Int32)
        · refine own_go (fun _ k => XS.icmpNo X0.here hx rfl (hb hby d1_33) rfl (teq hc4).2 k) ?_
          show own_Ends _ _ _ _ _ _ _ (s₁.setTop (mkF m 36 #[.val (.int p0)] []))
          refine own_go (fun _ k => XS.iconst X0.here hx rfl (hb hby d1_36) k) ?_
          show own_Ends _ _ _ _ _ _ _ (s₁.setTop (mkF m 37 #[.val (.int p0)] [(.int (1 : Int32))]))
          refine own_go (fun _ k => XS.goto X0.here hx rfl (pc0 := 37) (pc' := 41) rfl (hb hby d1_37) (by decide) (by decide) k) ?_
          show own_Ends _ _ _ _ _ _ _ (s₁.setTop (mkF m 41 #[.val (.int p0)] [(.int (1 : Int32))]))
          exact own_retN X0 hx hlk (t := .boolean) Bd.returns (by simp) (hb hby d1_41) (by decide) (by decide) ⟨congrArg (fun z => some (Value.int z)) ((by decide : nar .boolean (1 : Int32) = (1 : Int32)).trans (by exact (((((if_pos hc1).trans (if_pos hc2)).trans (if_neg hc3)).trans (if_pos hc4))).symm)), N0, e0⟩
        · refine own_go (fun _ k => XS.icmpYes X0.here hx rfl (pc0 := 33) (pc' := 40) rfl (hb hby d1_33) rfl (feq hc4).2 (by decide) (by decide) k) ?_
          show own_Ends _ _ _ _ _ _ _ (s₁.setTop (mkF m 40 #[.val (.int p0)] []))
          refine own_go (fun _ k => XS.iconst X0.here hx rfl (hb hby d1_40) k) ?_
          show own_Ends _ _ _ _ _ _ _ (s₁.setTop (mkF m 41 #[.val (.int p0)] [(.int (0 : Int32))]))
          exact own_retN X0 hx hlk (t := .boolean) Bd.returns (by simp) (hb hby d1_41) (by decide) (by decide) ⟨congrArg (fun z => some (Value.int z)) ((by decide : nar .boolean (0 : Int32) = (0 : Int32)).trans (by exact (((((if_pos hc1).trans (if_pos hc2)).trans (if_neg hc3)).trans (if_neg hc4))).symm)), N0, e0⟩
    · refine own_go (fun _ k => XS.icmpNo X0.here hx rfl (hb hby d1_15) rfl (flt hc2).1 k) ?_
      show own_Ends _ _ _ _ _ _ _ (s₁.setTop (mkF m 18 #[.val (.int p0)] []))
      refine own_go (fun _ k => XS.iloadN X0.here hx rfl (hb hby d1_18) rfl k) ?_
      show own_Ends _ _ _ _ _ _ _ (s₁.setTop (mkF m 19 #[.val (.int p0)] [(.int p0)]))
      refine own_go (fun _ k => XS.bipush X0.here hx rfl (hb hby d1_19) k) ?_
      show own_Ends _ _ _ _ _ _ _ (s₁.setTop (mkF m 21 #[.val (.int p0)] [(.int (90 : Int32)), (.int p0)]))
      by_cases hc5 : (90 : Int32) < p0
      · refine own_go (fun _ k => XS.icmpNo X0.here hx rfl (hb hby d1_21) rfl (tlt hc5).2.2.2 k) ?_
        show own_Ends _ _ _ _ _ _ _ (s₁.setTop (mkF m 24 #[.val (.int p0)] []))
        refine own_go (fun _ k => XS.iloadN X0.here hx rfl (hb hby d1_24) rfl k) ?_
        show own_Ends _ _ _ _ _ _ _ (s₁.setTop (mkF m 25 #[.val (.int p0)] [(.int p0)]))
        refine own_go (fun _ k => XS.bipush X0.here hx rfl (hb hby d1_25) k) ?_
        show own_Ends _ _ _ _ _ _ _ (s₁.setTop (mkF m 27 #[.val (.int p0)] [(.int (95 : Int32)), (.int p0)]))
        by_cases hc6 : p0 = (95 : Int32)
        · refine own_go (fun _ k => XS.icmpYes X0.here hx rfl (pc0 := 27) (pc' := 36) rfl (hb hby d1_27) rfl (teq hc6).1 (by decide) (by decide) k) ?_
          show own_Ends _ _ _ _ _ _ _ (s₁.setTop (mkF m 36 #[.val (.int p0)] []))
          refine own_go (fun _ k => XS.iconst X0.here hx rfl (hb hby d1_36) k) ?_
          show own_Ends _ _ _ _ _ _ _ (s₁.setTop (mkF m 37 #[.val (.int p0)] [(.int (1 : Int32))]))
          refine own_go (fun _ k => XS.goto X0.here hx rfl (pc0 := 37) (pc' := 41) rfl (hb hby d1_37) (by decide) (by decide) k) ?_
          show own_Ends _ _ _ _ _ _ _ (s₁.setTop (mkF m 41 #[.val (.int p0)] [(.int (1 : Int32))]))
          exact own_retN X0 hx hlk (t := .boolean) Bd.returns (by simp) (hb hby d1_41) (by decide) (by decide) ⟨congrArg (fun z => some (Value.int z)) ((by decide : nar .boolean (1 : Int32) = (1 : Int32)).trans (by exact (((((if_pos hc1).trans (if_neg hc2)).trans (if_pos hc5)).trans (if_pos hc6))).symm)), N0, e0⟩
        · refine own_go (fun _ k => XS.icmpNo X0.here hx rfl (hb hby d1_27) rfl (feq hc6).1 k) ?_
          show own_Ends _ _ _ _ _ _ _ (s₁.setTop (mkF m 30 #[.val (.int p0)] []))
          refine own_go (fun _ k => XS.iloadN X0.here hx rfl (hb hby d1_30) rfl k) ?_
          show own_Ends _ _ _ _ _ _ _ (s₁.setTop (mkF m 31 #[.val (.int p0)] [(.int p0)]))
          refine own_go (fun _ k => XS.bipush X0.here hx rfl (hb hby d1_31) k) ?_
          show own_Ends _ _ _ _ _ _ _ (s₁.setTop (mkF m 33 #[.val (.int p0)] [(.int (58 : Int32)), (.int p0)]))
          by_cases hc7 : p0 = (58 : Int32)
          · refine own_go (fun _ k => XS.icmpNo X0.here hx rfl (hb hby d1_33) rfl (teq hc7).2 k) ?_
            show own_Ends _ _ _ _ _ _ _ (s₁.setTop (mkF m 36 #[.val (.int p0)] []))
            refine own_go (fun _ k => XS.iconst X0.here hx rfl (hb hby d1_36) k) ?_
            show own_Ends _ _ _ _ _ _ _ (s₁.setTop (mkF m 37 #[.val (.int p0)] [(.int (1 : Int32))]))
            refine own_go (fun _ k => XS.goto X0.here hx rfl (pc0 := 37) (pc' := 41) rfl (hb hby d1_37) (by decide) (by decide) k) ?_
            show own_Ends _ _ _ _ _ _ _ (s₁.setTop (mkF m 41 #[.val (.int p0)] [(.int (1 : Int32))]))
            exact own_retN X0 hx hlk (t := .boolean) Bd.returns (by simp) (hb hby d1_41) (by decide) (by decide) ⟨congrArg (fun z => some (Value.int z)) ((by decide : nar .boolean (1 : Int32) = (1 : Int32)).trans (by exact ((((((if_pos hc1).trans (if_neg hc2)).trans (if_pos hc5)).trans (if_neg hc6)).trans (if_pos hc7))).symm)), N0, e0⟩
          · refine own_go (fun _ k => XS.icmpYes X0.here hx rfl (pc0 := 33) (pc' := 40) rfl (hb hby d1_33) rfl (feq hc7).2 (by decide) (by decide) k) ?_
            show own_Ends _ _ _ _ _ _ _ (s₁.setTop (mkF m 40 #[.val (.int p0)] []))
            refine own_go (fun _ k => XS.iconst X0.here hx rfl (hb hby d1_40) k) ?_
            show own_Ends _ _ _ _ _ _ _ (s₁.setTop (mkF m 41 #[.val (.int p0)] [(.int (0 : Int32))]))
            exact own_retN X0 hx hlk (t := .boolean) Bd.returns (by simp) (hb hby d1_41) (by decide) (by decide) ⟨congrArg (fun z => some (Value.int z)) ((by decide : nar .boolean (0 : Int32) = (0 : Int32)).trans (by exact ((((((if_pos hc1).trans (if_neg hc2)).trans (if_pos hc5)).trans (if_neg hc6)).trans (if_neg hc7))).symm)), N0, e0⟩
      · refine own_go (fun _ k => XS.icmpYes X0.here hx rfl (pc0 := 21) (pc' := 36) rfl (hb hby d1_21) rfl (flt hc5).2.2.2 (by decide) (by decide) k) ?_
        show own_Ends _ _ _ _ _ _ _ (s₁.setTop (mkF m 36 #[.val (.int p0)] []))
        refine own_go (fun _ k => XS.iconst X0.here hx rfl (hb hby d1_36) k) ?_
        show own_Ends _ _ _ _ _ _ _ (s₁.setTop (mkF m 37 #[.val (.int p0)] [(.int (1 : Int32))]))
        refine own_go (fun _ k => XS.goto X0.here hx rfl (pc0 := 37) (pc' := 41) rfl (hb hby d1_37) (by decide) (by decide) k) ?_
        show own_Ends _ _ _ _ _ _ _ (s₁.setTop (mkF m 41 #[.val (.int p0)] [(.int (1 : Int32))]))
        exact own_retN X0 hx hlk (t := .boolean) Bd.returns (by simp) (hb hby d1_41) (by decide) (by decide) ⟨congrArg (fun z => some (Value.int z)) ((by decide : nar .boolean (1 : Int32) = (1 : Int32)).trans (by exact ((((if_pos hc1).trans (if_neg hc2)).trans (if_neg hc5))).symm)), N0, e0⟩
  · refine own_go (fun _ k => XS.icmpNo X0.here hx rfl (hb hby d1_3) rfl (flt hc1).1 k) ?_
    show own_Ends _ _ _ _ _ _ _ (s₁.setTop (mkF m 6 #[.val (.int p0)] []))
    refine own_go (fun _ k => XS.iloadN X0.here hx rfl (hb hby d1_6) rfl k) ?_
    show own_Ends _ _ _ _ _ _ _ (s₁.setTop (mkF m 7 #[.val (.int p0)] [(.int p0)]))
    refine own_go (fun _ k => XS.bipush X0.here hx rfl (hb hby d1_7) k) ?_
    show own_Ends _ _ _ _ _ _ _ (s₁.setTop (mkF m 9 #[.val (.int p0)] [(.int (122 : Int32)), (.int p0)]))
    by_cases hc8 : (122 : Int32) < p0
    · refine own_go (fun _ k => XS.icmpNo X0.here hx rfl (hb hby d1_9) rfl (tlt hc8).2.2.2 k) ?_
      show own_Ends _ _ _ _ _ _ _ (s₁.setTop (mkF m 12 #[.val (.int p0)] []))
      refine own_go (fun _ k => XS.iloadN X0.here hx rfl (hb hby d1_12) rfl k) ?_
      show own_Ends _ _ _ _ _ _ _ (s₁.setTop (mkF m 13 #[.val (.int p0)] [(.int p0)]))
      refine own_go (fun _ k => XS.bipush X0.here hx rfl (hb hby d1_13) k) ?_
      show own_Ends _ _ _ _ _ _ _ (s₁.setTop (mkF m 15 #[.val (.int p0)] [(.int (65 : Int32)), (.int p0)]))
      by_cases hc9 : p0 < (65 : Int32)
      · refine own_go (fun _ k => XS.icmpYes X0.here hx rfl (pc0 := 15) (pc' := 24) rfl (hb hby d1_15) rfl (tlt hc9).1 (by decide) (by decide) k) ?_
        show own_Ends _ _ _ _ _ _ _ (s₁.setTop (mkF m 24 #[.val (.int p0)] []))
        refine own_go (fun _ k => XS.iloadN X0.here hx rfl (hb hby d1_24) rfl k) ?_
        show own_Ends _ _ _ _ _ _ _ (s₁.setTop (mkF m 25 #[.val (.int p0)] [(.int p0)]))
        refine own_go (fun _ k => XS.bipush X0.here hx rfl (hb hby d1_25) k) ?_
        show own_Ends _ _ _ _ _ _ _ (s₁.setTop (mkF m 27 #[.val (.int p0)] [(.int (95 : Int32)), (.int p0)]))
        by_cases hc10 : p0 = (95 : Int32)
        · refine own_go (fun _ k => XS.icmpYes X0.here hx rfl (pc0 := 27) (pc' := 36) rfl (hb hby d1_27) rfl (teq hc10).1 (by decide) (by decide) k) ?_
          show own_Ends _ _ _ _ _ _ _ (s₁.setTop (mkF m 36 #[.val (.int p0)] []))
          refine own_go (fun _ k => XS.iconst X0.here hx rfl (hb hby d1_36) k) ?_
          show own_Ends _ _ _ _ _ _ _ (s₁.setTop (mkF m 37 #[.val (.int p0)] [(.int (1 : Int32))]))
          refine own_go (fun _ k => XS.goto X0.here hx rfl (pc0 := 37) (pc' := 41) rfl (hb hby d1_37) (by decide) (by decide) k) ?_
          show own_Ends _ _ _ _ _ _ _ (s₁.setTop (mkF m 41 #[.val (.int p0)] [(.int (1 : Int32))]))
          exact own_retN X0 hx hlk (t := .boolean) Bd.returns (by simp) (hb hby d1_41) (by decide) (by decide) ⟨congrArg (fun z => some (Value.int z)) ((by decide : nar .boolean (1 : Int32) = (1 : Int32)).trans (by exact (((((if_neg hc1).trans (if_pos hc8)).trans (if_pos hc9)).trans (if_pos hc10))).symm)), N0, e0⟩
        · refine own_go (fun _ k => XS.icmpNo X0.here hx rfl (hb hby d1_27) rfl (feq hc10).1 k) ?_
          show own_Ends _ _ _ _ _ _ _ (s₁.setTop (mkF m 30 #[.val (.int p0)] []))
          refine own_go (fun _ k => XS.iloadN X0.here hx rfl (hb hby d1_30) rfl k) ?_
          show own_Ends _ _ _ _ _ _ _ (s₁.setTop (mkF m 31 #[.val (.int p0)] [(.int p0)]))
          refine own_go (fun _ k => XS.bipush X0.here hx rfl (hb hby d1_31) k) ?_
          show own_Ends _ _ _ _ _ _ _ (s₁.setTop (mkF m 33 #[.val (.int p0)] [(.int (58 : Int32)), (.int p0)]))
          by_cases hc11 : p0 = (58 : Int32)
          · refine own_go (fun _ k => XS.icmpNo X0.here hx rfl (hb hby d1_33) rfl (teq hc11).2 k) ?_
            show own_Ends _ _ _ _ _ _ _ (s₁.setTop (mkF m 36 #[.val (.int p0)] []))
            refine own_go (fun _ k => XS.iconst X0.here hx rfl (hb hby d1_36) k) ?_
            show own_Ends _ _ _ _ _ _ _ (s₁.setTop (mkF m 37 #[.val (.int p0)] [(.int (1 : Int32))]))
            refine own_go (fun _ k => XS.goto X0.here hx rfl (pc0 := 37) (pc' := 41) rfl (hb hby d1_37) (by decide) (by decide) k) ?_
            show own_Ends _ _ _ _ _ _ _ (s₁.setTop (mkF m 41 #[.val (.int p0)] [(.int (1 : Int32))]))
            exact own_retN X0 hx hlk (t := .boolean) Bd.returns (by simp) (hb hby d1_41) (by decide) (by decide) ⟨congrArg (fun z => some (Value.int z)) ((by decide : nar .boolean (1 : Int32) = (1 : Int32)).trans (by exact ((((((if_neg hc1).trans (if_pos hc8)).trans (if_pos hc9)).trans (if_neg hc10)).trans (if_pos hc11))).symm)), N0, e0⟩
          · refine own_go (fun _ k => XS.icmpYes X0.here hx rfl (pc0 := 33) (pc' := 40) rfl (hb hby d1_33) rfl (feq hc11).2 (by decide) (by decide) k) ?_
            show own_Ends _ _ _ _ _ _ _ (s₁.setTop (mkF m 40 #[.val (.int p0)] []))
            refine own_go (fun _ k => XS.iconst X0.here hx rfl (hb hby d1_40) k) ?_
            show own_Ends _ _ _ _ _ _ _ (s₁.setTop (mkF m 41 #[.val (.int p0)] [(.int (0 : Int32))]))
            exact own_retN X0 hx hlk (t := .boolean) Bd.returns (by simp) (hb hby d1_41) (by decide) (by decide) ⟨congrArg (fun z => some (Value.int z)) ((by decide : nar .boolean (0 : Int32) = (0 : Int32)).trans (by exact ((((((if_neg hc1).trans (if_pos hc8)).trans (if_pos hc9)).trans (if_neg hc10)).trans (if_neg hc11))).symm)), N0, e0⟩
      · refine own_go (fun _ k => XS.icmpNo X0.here hx rfl (hb hby d1_15) rfl (flt hc9).1 k) ?_
        show own_Ends _ _ _ _ _ _ _ (s₁.setTop (mkF m 18 #[.val (.int p0)] []))
        refine own_go (fun _ k => XS.iloadN X0.here hx rfl (hb hby d1_18) rfl k) ?_
        show own_Ends _ _ _ _ _ _ _ (s₁.setTop (mkF m 19 #[.val (.int p0)] [(.int p0)]))
        refine own_go (fun _ k => XS.bipush X0.here hx rfl (hb hby d1_19) k) ?_
        show own_Ends _ _ _ _ _ _ _ (s₁.setTop (mkF m 21 #[.val (.int p0)] [(.int (90 : Int32)), (.int p0)]))
        by_cases hc12 : (90 : Int32) < p0
        · refine own_go (fun _ k => XS.icmpNo X0.here hx rfl (hb hby d1_21) rfl (tlt hc12).2.2.2 k) ?_
          show own_Ends _ _ _ _ _ _ _ (s₁.setTop (mkF m 24 #[.val (.int p0)] []))
          refine own_go (fun _ k => XS.iloadN X0.here hx rfl (hb hby d1_24) rfl k) ?_
          show own_Ends _ _ _ _ _ _ _ (s₁.setTop (mkF m 25 #[.val (.int p0)] [(.int p0)]))
          refine own_go (fun _ k => XS.bipush X0.here hx rfl (hb hby d1_25) k) ?_
          show own_Ends _ _ _ _ _ _ _ (s₁.setTop (mkF m 27 #[.val (.int p0)] [(.int (95 : Int32)), (.int p0)]))
          by_cases hc13 : p0 = (95 : Int32)
          · refine own_go (fun _ k => XS.icmpYes X0.here hx rfl (pc0 := 27) (pc' := 36) rfl (hb hby d1_27) rfl (teq hc13).1 (by decide) (by decide) k) ?_
            show own_Ends _ _ _ _ _ _ _ (s₁.setTop (mkF m 36 #[.val (.int p0)] []))
            refine own_go (fun _ k => XS.iconst X0.here hx rfl (hb hby d1_36) k) ?_
            show own_Ends _ _ _ _ _ _ _ (s₁.setTop (mkF m 37 #[.val (.int p0)] [(.int (1 : Int32))]))
            refine own_go (fun _ k => XS.goto X0.here hx rfl (pc0 := 37) (pc' := 41) rfl (hb hby d1_37) (by decide) (by decide) k) ?_
            show own_Ends _ _ _ _ _ _ _ (s₁.setTop (mkF m 41 #[.val (.int p0)] [(.int (1 : Int32))]))
            exact own_retN X0 hx hlk (t := .boolean) Bd.returns (by simp) (hb hby d1_41) (by decide) (by decide) ⟨congrArg (fun z => some (Value.int z)) ((by decide : nar .boolean (1 : Int32) = (1 : Int32)).trans (by exact ((((((if_neg hc1).trans (if_pos hc8)).trans (if_neg hc9)).trans (if_pos hc12)).trans (if_pos hc13))).symm)), N0, e0⟩
          · refine own_go (fun _ k => XS.icmpNo X0.here hx rfl (hb hby d1_27) rfl (feq hc13).1 k) ?_
            show own_Ends _ _ _ _ _ _ _ (s₁.setTop (mkF m 30 #[.val (.int p0)] []))
            refine own_go (fun _ k => XS.iloadN X0.here hx rfl (hb hby d1_30) rfl k) ?_
            show own_Ends _ _ _ _ _ _ _ (s₁.setTop (mkF m 31 #[.val (.int p0)] [(.int p0)]))
            refine own_go (fun _ k => XS.bipush X0.here hx rfl (hb hby d1_31) k) ?_
            show own_Ends _ _ _ _ _ _ _ (s₁.setTop (mkF m 33 #[.val (.int p0)] [(.int (58 : Int32)), (.int p0)]))
            by_cases hc14 : p0 = (58 : Int32)
            · refine own_go (fun _ k => XS.icmpNo X0.here hx rfl (hb hby d1_33) rfl (teq hc14).2 k) ?_
              show own_Ends _ _ _ _ _ _ _ (s₁.setTop (mkF m 36 #[.val (.int p0)] []))
              refine own_go (fun _ k => XS.iconst X0.here hx rfl (hb hby d1_36) k) ?_
              show own_Ends _ _ _ _ _ _ _ (s₁.setTop (mkF m 37 #[.val (.int p0)] [(.int (1 : Int32))]))
              refine own_go (fun _ k => XS.goto X0.here hx rfl (pc0 := 37) (pc' := 41) rfl (hb hby d1_37) (by decide) (by decide) k) ?_
              show own_Ends _ _ _ _ _ _ _ (s₁.setTop (mkF m 41 #[.val (.int p0)] [(.int (1 : Int32))]))
              exact own_retN X0 hx hlk (t := .boolean) Bd.returns (by simp) (hb hby d1_41) (by decide) (by decide) ⟨congrArg (fun z => some (Value.int z)) ((by decide : nar .boolean (1 : Int32) = (1 : Int32)).trans (by exact (((((((if_neg hc1).trans (if_pos hc8)).trans (if_neg hc9)).trans (if_pos hc12)).trans (if_neg hc13)).trans (if_pos hc14))).symm)), N0, e0⟩
            · refine own_go (fun _ k => XS.icmpYes X0.here hx rfl (pc0 := 33) (pc' := 40) rfl (hb hby d1_33) rfl (feq hc14).2 (by decide) (by decide) k) ?_
              show own_Ends _ _ _ _ _ _ _ (s₁.setTop (mkF m 40 #[.val (.int p0)] []))
              refine own_go (fun _ k => XS.iconst X0.here hx rfl (hb hby d1_40) k) ?_
              show own_Ends _ _ _ _ _ _ _ (s₁.setTop (mkF m 41 #[.val (.int p0)] [(.int (0 : Int32))]))
              exact own_retN X0 hx hlk (t := .boolean) Bd.returns (by simp) (hb hby d1_41) (by decide) (by decide) ⟨congrArg (fun z => some (Value.int z)) ((by decide : nar .boolean (0 : Int32) = (0 : Int32)).trans (by exact (((((((if_neg hc1).trans (if_pos hc8)).trans (if_neg hc9)).trans (if_pos hc12)).trans (if_neg hc13)).trans (if_neg hc14))).symm)), N0, e0⟩
        · refine own_go (fun _ k => XS.icmpYes X0.here hx rfl (pc0 := 21) (pc' := 36) rfl (hb hby d1_21) rfl (flt hc12).2.2.2 (by decide) (by decide) k) ?_
          show own_Ends _ _ _ _ _ _ _ (s₁.setTop (mkF m 36 #[.val (.int p0)] []))
          refine own_go (fun _ k => XS.iconst X0.here hx rfl (hb hby d1_36) k) ?_
          show own_Ends _ _ _ _ _ _ _ (s₁.setTop (mkF m 37 #[.val (.int p0)] [(.int (1 : Int32))]))
          refine own_go (fun _ k => XS.goto X0.here hx rfl (pc0 := 37) (pc' := 41) rfl (hb hby d1_37) (by decide) (by decide) k) ?_
          show own_Ends _ _ _ _ _ _ _ (s₁.setTop (mkF m 41 #[.val (.int p0)] [(.int (1 : Int32))]))
          exact own_retN X0 hx hlk (t := .boolean) Bd.returns (by simp) (hb hby d1_41) (by decide) (by decide) ⟨congrArg (fun z => some (Value.int z)) ((by decide : nar .boolean (1 : Int32) = (1 : Int32)).trans (by exact (((((if_neg hc1).trans (if_pos hc8)).trans (if_neg hc9)).trans (if_neg hc12))).symm)), N0, e0⟩
    · refine own_go (fun _ k => XS.icmpYes X0.here hx rfl (pc0 := 9) (pc' := 36) rfl (hb hby d1_9) rfl (flt hc8).2.2.2 (by decide) (by decide) k) ?_
      show own_Ends _ _ _ _ _ _ _ (s₁.setTop (mkF m 36 #[.val (.int p0)] []))
      refine own_go (fun _ k => XS.iconst X0.here hx rfl (hb hby d1_36) k) ?_
      show own_Ends _ _ _ _ _ _ _ (s₁.setTop (mkF m 37 #[.val (.int p0)] [(.int (1 : Int32))]))
      refine own_go (fun _ k => XS.goto X0.here hx rfl (pc0 := 37) (pc' := 41) rfl (hb hby d1_37) (by decide) (by decide) k) ?_
      show own_Ends _ _ _ _ _ _ _ (s₁.setTop (mkF m 41 #[.val (.int p0)] [(.int (1 : Int32))]))
      exact own_retN X0 hx hlk (t := .boolean) Bd.returns (by simp) (hb hby d1_41) (by decide) (by decide) ⟨congrArg (fun z => some (Value.int z)) ((by decide : nar .boolean (1 : Int32) = (1 : Int32)).trans (by exact (((if_neg hc1).trans (if_neg hc8))).symm)), N0, e0⟩
theorem d2_0 : decode method_2_code 0 = .ok (.iload_n 0, 1) := by decide +kernel
theorem d2_1 : decode method_2_code 1 = .ok (.bipush 64, 2) := by decide +kernel
theorem d2_3 : decode method_2_code 3 = .ok (.if_icmp .ge 21, 3) := by decide +kernel
theorem d2_6 : decode method_2_code 6 = .ok (.ldc2_w 9, 3) := by decide +kernel
theorem d2_9 : decode method_2_code 9 = .ok (.iload_n 0, 1) := by decide +kernel
theorem d2_10 : decode method_2_code 10 = .ok (.lushr, 1) := by decide +kernel
theorem d2_11 : decode method_2_code 11 = .ok (.lconst 1, 1) := by decide +kernel
theorem d2_12 : decode method_2_code 12 = .ok (.land, 1) := by decide +kernel
theorem d2_13 : decode method_2_code 13 = .ok (.lconst 0, 1) := by decide +kernel
theorem d2_14 : decode method_2_code 14 = .ok (.lcmp, 1) := by decide +kernel
theorem d2_15 : decode method_2_code 15 = .ok (.ifCond .eq 7, 3) := by decide +kernel
theorem d2_18 : decode method_2_code 18 = .ok (.iconst 1, 1) := by decide +kernel
theorem d2_19 : decode method_2_code 19 = .ok (.goto 4, 3) := by decide +kernel
theorem d2_22 : decode method_2_code 22 = .ok (.iconst 0, 1) := by decide +kernel
theorem d2_23 : decode method_2_code 23 = .ok (.ireturn, 1) := by decide +kernel
theorem d2_24 : decode method_2_code 24 = .ok (.iload_n 0, 1) := by decide +kernel
theorem d2_25 : decode method_2_code 25 = .ok (.sipush 128, 3) := by decide +kernel
theorem d2_28 : decode method_2_code 28 = .ok (.if_icmp .ge 24, 3) := by decide +kernel
theorem d2_31 : decode method_2_code 31 = .ok (.ldc2_w 11, 3) := by decide +kernel
theorem d2_34 : decode method_2_code 34 = .ok (.iload_n 0, 1) := by decide +kernel
theorem d2_35 : decode method_2_code 35 = .ok (.bipush 64, 2) := by decide +kernel
theorem d2_37 : decode method_2_code 37 = .ok (.isub, 1) := by decide +kernel
theorem d2_38 : decode method_2_code 38 = .ok (.lushr, 1) := by decide +kernel
theorem d2_39 : decode method_2_code 39 = .ok (.lconst 1, 1) := by decide +kernel
theorem d2_40 : decode method_2_code 40 = .ok (.land, 1) := by decide +kernel
theorem d2_41 : decode method_2_code 41 = .ok (.lconst 0, 1) := by decide +kernel
theorem d2_42 : decode method_2_code 42 = .ok (.lcmp, 1) := by decide +kernel
theorem d2_43 : decode method_2_code 43 = .ok (.ifCond .eq 7, 3) := by decide +kernel
theorem d2_46 : decode method_2_code 46 = .ok (.iconst 1, 1) := by decide +kernel
theorem d2_47 : decode method_2_code 47 = .ok (.goto 4, 3) := by decide +kernel
theorem d2_50 : decode method_2_code 50 = .ok (.iconst 0, 1) := by decide +kernel
theorem d2_51 : decode method_2_code 51 = .ok (.ireturn, 1) := by decide +kernel
theorem d2_52 : decode method_2_code 52 = .ok (.iconst 0, 1) := by decide +kernel
theorem d2_53 : decode method_2_code 53 = .ok (.ireturn, 1) := by decide +kernel
theorem pn2 : plainName "com/example/helmsward/helmsward/store/SeriesKeyIsNameStartPinLaw" = true := by first | (simp [plainName, overriddenIn]; done) | decide +kernel
theorem ef2 (m : MethodId) (p0 : Int32) : entryFrame m #[(.int p0)] 1 = mkF m 0 #[.val (.int p0)] [] := by first | (simp [entryFrame, mkF, argsToLocals, Value.category]; done) | rfl
def f2 (p0 : Int32) : Int32 := (if p0 < (64 : Int32) then (if (lcmpW ((((288230376151711744 : Int64).toUInt64 >>> (p0 &&& 0x3f).toInt64.toUInt64).toInt64) &&& (1 : Int64)) (0 : Int64)) = (0 : Int32) then (0 : Int32) else (1 : Int32)) else (if p0 < (128 : Int32) then (if (lcmpW ((((576460745995190270 : Int64).toUInt64 >>> ((p0 - (64 : Int32)) &&& 0x3f).toInt64.toUInt64).toInt64) &&& (1 : Int64)) (0 : Int64)) = (0 : Int32) then (0 : Int32) else (1 : Int32)) else (0 : Int32)))
def Q2 (Z : State) (p0 : Int32) (h0 : Heap) (n0 : Nat) (v : Option Value) (h : Heap) (L : List Loc) : Prop := v = some (.int (f2 p0)) ∧ Fr n0 L ∧ h = h0
set_option maxRecDepth 65536 in
set_option maxHeartbeats 40000000 in
theorem rm2 (l : Launch) (Z : State) (ar : Array Value) (hw : ∀ d ∈ tables_1, d.before ar Z = true) (ws : List Jvm.Cond) (p0 : Int32) (h0 : Heap) (n0 : Nat) (O0 : Old Z n0 h0) :
    MetFree l (⟨"com/example/helmsward/helmsward/store/SeriesKeyIsNameStartPinLaw", "expected", "(I)Z"⟩ : MethodName) (head1 (Jvm.Cond.code (⟨"com/example/helmsward/helmsward/store/SeriesKeyIsNameStartPinLaw", "expected", "(I)Z"⟩ : MethodName) method_2_code 1 (some .boolean) :: ws) ({ frames := 0, cells := 0, slots := 0, locals := 0 } : Room)) (fun a U => a = #[(.int p0)] ∧ Z.Warmed39 U.vm ∧ U.heap = h0) (fun _ _ _ _ _ => True) (fun _ U o U' => ∃ v L, o = .returned v ∧ Q2 Z p0 h0 n0 v U'.heap L ∧ FrameEnd U o U' L ({ frames := 0, cells := 0, slots := 0, locals := 0 } : Room).cells ({ frames := 0, cells := 0, slots := 0, locals := 0 } : Room).slots) := by
  refine MetFree.of_bodySF (plainFor_of_name pn2) hisR ?_
  intro p e s m args below meth c s₁ Bd hml0 hP hK
  obtain ⟨rfl, hZ, hh⟩ := hP
  have hx := Bd.exec
  have hby := Bd.bytes
  have hml : c.maxLocals = 1 := hml0
  have hown : s.vm.findClass "com/example/helmsward/helmsward/store/SeriesKeyIsNameStartPinLaw" = some m.cls := findClass_of_methodNamed Bd.named
  have hnm := (name_of_methodNamed Bd.named Bd.method).1
  have hlk : meth.locks = false := BodyLoose.notSynchronized Bd
  have X0 : Stand p l e ({ frames := 0, cells := 0, slots := 0, locals := 0 } : Room) s m #[(.int p0)] below meth c s₁ [] 0 0 := Stand.of_body Bd
  have e0 : s₁.heap = h0 := by rw [← hh, Bd.state]; rfl
  have N0 := Fr.nil n0
  suffices hmain : own_Ends p e below s (Q2 Z p0 h0 n0) 0 0 (s₁.setTop (mkF m 0 #[.val (.int p0)] [])) by
    obtain ⟨U, o, h1, r⟩ := hmain
    exact ⟨U, o, castTop (ef2 m p0) h1, r⟩
  show own_Ends _ _ _ _ _ _ _ (s₁.setTop (mkF m 0 #[.val (.int p0)] []))
  refine own_go (fun _ k => XS.iloadN X0.here hx rfl (hb hby d2_0) rfl k) ?_
  show own_Ends _ _ _ _ _ _ _ (s₁.setTop (mkF m 1 #[.val (.int p0)] [(.int p0)]))
  refine own_go (fun _ k => XS.bipush X0.here hx rfl (hb hby d2_1) k) ?_
  show own_Ends _ _ _ _ _ _ _ (s₁.setTop (mkF m 3 #[.val (.int p0)] [(.int (64 : Int32)), (.int p0)]))
  by_cases hc1 : p0 < (64 : Int32)
  · refine own_go (fun _ k => XS.icmpNo X0.here hx rfl (hb hby d2_3) rfl (tlt hc1).2.1 k) ?_
    show own_Ends _ _ _ _ _ _ _ (s₁.setTop (mkF m 6 #[.val (.int p0)] []))
    refine own_go (fun _ k => X0.ldc2Long hx hown (mvT hZ (hw _ (List.mem_of_getElem? (i := 8) rfl))) (g := (mkF m 6 #[.val (.int p0)] [])) rfl (hb hby d2_6) _ k) ?_
    show own_Ends _ _ _ _ _ _ _ (s₁.setTop (mkF m 9 #[.val (.int p0)] [(.long (288230376151711744 : Int64))]))
    refine own_go (fun _ k => XS.iloadN X0.here hx rfl (hb hby d2_9) rfl k) ?_
    show own_Ends _ _ _ _ _ _ _ (s₁.setTop (mkF m 10 #[.val (.int p0)] [(.int p0), (.long (288230376151711744 : Int64))]))
    refine own_go (fun _ k => XS.lushr X0.here hx rfl (hb hby d2_10) rfl k) ?_
    show own_Ends _ _ _ _ _ _ _ (s₁.setTop (mkF m 11 #[.val (.int p0)] [(.long (((288230376151711744 : Int64).toUInt64 >>> (p0 &&& 0x3f).toInt64.toUInt64).toInt64))]))
    refine own_go (fun _ k => XS.lconst X0.here hx rfl (hb hby d2_11) k) ?_
    show own_Ends _ _ _ _ _ _ _ (s₁.setTop (mkF m 12 #[.val (.int p0)] [(.long (1 : Int64)), (.long (((288230376151711744 : Int64).toUInt64 >>> (p0 &&& 0x3f).toInt64.toUInt64).toInt64))]))
    refine own_go (fun _ k => XS.land X0.here hx rfl (hb hby d2_12) rfl k) ?_
    show own_Ends _ _ _ _ _ _ _ (s₁.setTop (mkF m 13 #[.val (.int p0)] [(.long ((((288230376151711744 : Int64).toUInt64 >>> (p0 &&& 0x3f).toInt64.toUInt64).toInt64) &&& (1 : Int64)))]))
    refine own_go (fun _ k => XS.lconst X0.here hx rfl (hb hby d2_13) k) ?_
    show own_Ends _ _ _ _ _ _ _ (s₁.setTop (mkF m 14 #[.val (.int p0)] [(.long (0 : Int64)), (.long ((((288230376151711744 : Int64).toUInt64 >>> (p0 &&& 0x3f).toInt64.toUInt64).toInt64) &&& (1 : Int64)))]))
    refine own_go (fun _ k => XS.lcmp X0.here hx rfl (hb hby d2_14) rfl k) ?_
    show own_Ends _ _ _ _ _ _ _ (s₁.setTop (mkF m 15 #[.val (.int p0)] [(.int (lcmpW ((((288230376151711744 : Int64).toUInt64 >>> (p0 &&& 0x3f).toInt64.toUInt64).toInt64) &&& (1 : Int64)) (0 : Int64)))]))
    by_cases hc2 : (lcmpW ((((288230376151711744 : Int64).toUInt64 >>> (p0 &&& 0x3f).toInt64.toUInt64).toInt64) &&& (1 : Int64)) (0 : Int64)) = (0 : Int32)
    · refine own_go (fun _ k => XS.ifYes X0.here hx rfl (pc0 := 15) (pc' := 22) rfl (hb hby d2_15) rfl ((if0 _ _).trans (teq hc2).1) (by decide) (by decide) k) ?_
      show own_Ends _ _ _ _ _ _ _ (s₁.setTop (mkF m 22 #[.val (.int p0)] []))
      refine own_go (fun _ k => XS.iconst X0.here hx rfl (hb hby d2_22) k) ?_
      show own_Ends _ _ _ _ _ _ _ (s₁.setTop (mkF m 23 #[.val (.int p0)] [(.int (0 : Int32))]))
      exact own_retN X0 hx hlk (t := .boolean) Bd.returns (by simp) (hb hby d2_23) (by decide) (by decide) ⟨congrArg (fun z => some (Value.int z)) ((by decide : nar .boolean (0 : Int32) = (0 : Int32)).trans (by exact (((if_pos hc1).trans (if_pos hc2))).symm)), N0, e0⟩
    · refine own_go (fun _ k => XS.ifNo X0.here hx rfl (hb hby d2_15) rfl ((if0 _ _).trans (feq hc2).1) k) ?_
      show own_Ends _ _ _ _ _ _ _ (s₁.setTop (mkF m 18 #[.val (.int p0)] []))
      refine own_go (fun _ k => XS.iconst X0.here hx rfl (hb hby d2_18) k) ?_
      show own_Ends _ _ _ _ _ _ _ (s₁.setTop (mkF m 19 #[.val (.int p0)] [(.int (1 : Int32))]))
      refine own_go (fun _ k => XS.goto X0.here hx rfl (pc0 := 19) (pc' := 23) rfl (hb hby d2_19) (by decide) (by decide) k) ?_
      show own_Ends _ _ _ _ _ _ _ (s₁.setTop (mkF m 23 #[.val (.int p0)] [(.int (1 : Int32))]))
      exact own_retN X0 hx hlk (t := .boolean) Bd.returns (by simp) (hb hby d2_23) (by decide) (by decide) ⟨congrArg (fun z => some (Value.int z)) ((by decide : nar .boolean (1 : Int32) = (1 : Int32)).trans (by exact (((if_pos hc1).trans (if_neg hc2))).symm)), N0, e0⟩
  · refine own_go (fun _ k => XS.icmpYes X0.here hx rfl (pc0 := 3) (pc' := 24) rfl (hb hby d2_3) rfl (flt hc1).2.1 (by decide) (by decide) k) ?_
    show own_Ends _ _ _ _ _ _ _ (s₁.setTop (mkF m 24 #[.val (.int p0)] []))
    refine own_go (fun _ k => XS.iloadN X0.here hx rfl (hb hby d2_24) rfl k) ?_
    show own_Ends _ _ _ _ _ _ _ (s₁.setTop (mkF m 25 #[.val (.int p0)] [(.int p0)]))
    refine own_go (fun _ k => XS.sipush X0.here hx rfl (hb hby d2_25) k) ?_
    show own_Ends _ _ _ _ _ _ _ (s₁.setTop (mkF m 28 #[.val (.int p0)] [(.int (128 : Int32)), (.int p0)]))
    by_cases hc3 : p0 < (128 : Int32)
    · refine own_go (fun _ k => XS.icmpNo X0.here hx rfl (hb hby d2_28) rfl (tlt hc3).2.1 k) ?_
      show own_Ends _ _ _ _ _ _ _ (s₁.setTop (mkF m 31 #[.val (.int p0)] []))
      refine own_go (fun _ k => X0.ldc2Long hx hown (mvT hZ (hw _ (List.mem_of_getElem? (i := 9) rfl))) (g := (mkF m 31 #[.val (.int p0)] [])) rfl (hb hby d2_31) _ k) ?_
      show own_Ends _ _ _ _ _ _ _ (s₁.setTop (mkF m 34 #[.val (.int p0)] [(.long (576460745995190270 : Int64))]))
      refine own_go (fun _ k => XS.iloadN X0.here hx rfl (hb hby d2_34) rfl k) ?_
      show own_Ends _ _ _ _ _ _ _ (s₁.setTop (mkF m 35 #[.val (.int p0)] [(.int p0), (.long (576460745995190270 : Int64))]))
      refine own_go (fun _ k => XS.bipush X0.here hx rfl (hb hby d2_35) k) ?_
      show own_Ends _ _ _ _ _ _ _ (s₁.setTop (mkF m 37 #[.val (.int p0)] [(.int (64 : Int32)), (.int p0), (.long (576460745995190270 : Int64))]))
      refine own_go (fun _ k => XS.isub X0.here hx rfl (hb hby d2_37) rfl k) ?_
      show own_Ends _ _ _ _ _ _ _ (s₁.setTop (mkF m 38 #[.val (.int p0)] [(.int (p0 - (64 : Int32))), (.long (576460745995190270 : Int64))]))
      refine own_go (fun _ k => XS.lushr X0.here hx rfl (hb hby d2_38) rfl k) ?_
      show own_Ends _ _ _ _ _ _ _ (s₁.setTop (mkF m 39 #[.val (.int p0)] [(.long (((576460745995190270 : Int64).toUInt64 >>> ((p0 - (64 : Int32)) &&& 0x3f).toInt64.toUInt64).toInt64))]))
      refine own_go (fun _ k => XS.lconst X0.here hx rfl (hb hby d2_39) k) ?_
      show own_Ends _ _ _ _ _ _ _ (s₁.setTop (mkF m 40 #[.val (.int p0)] [(.long (1 : Int64)), (.long (((576460745995190270 : Int64).toUInt64 >>> ((p0 - (64 : Int32)) &&& 0x3f).toInt64.toUInt64).toInt64))]))
      refine own_go (fun _ k => XS.land X0.here hx rfl (hb hby d2_40) rfl k) ?_
      show own_Ends _ _ _ _ _ _ _ (s₁.setTop (mkF m 41 #[.val (.int p0)] [(.long ((((576460745995190270 : Int64).toUInt64 >>> ((p0 - (64 : Int32)) &&& 0x3f).toInt64.toUInt64).toInt64) &&& (1 : Int64)))]))
      refine own_go (fun _ k => XS.lconst X0.here hx rfl (hb hby d2_41) k) ?_
      show own_Ends _ _ _ _ _ _ _ (s₁.setTop (mkF m 42 #[.val (.int p0)] [(.long (0 : Int64)), (.long ((((576460745995190270 : Int64).toUInt64 >>> ((p0 - (64 : Int32)) &&& 0x3f).toInt64.toUInt64).toInt64) &&& (1 : Int64)))]))
      refine own_go (fun _ k => XS.lcmp X0.here hx rfl (hb hby d2_42) rfl k) ?_
      show own_Ends _ _ _ _ _ _ _ (s₁.setTop (mkF m 43 #[.val (.int p0)] [(.int (lcmpW ((((576460745995190270 : Int64).toUInt64 >>> ((p0 - (64 : Int32)) &&& 0x3f).toInt64.toUInt64).toInt64) &&& (1 : Int64)) (0 : Int64)))]))
      by_cases hc4 : (lcmpW ((((576460745995190270 : Int64).toUInt64 >>> ((p0 - (64 : Int32)) &&& 0x3f).toInt64.toUInt64).toInt64) &&& (1 : Int64)) (0 : Int64)) = (0 : Int32)
      · refine own_go (fun _ k => XS.ifYes X0.here hx rfl (pc0 := 43) (pc' := 50) rfl (hb hby d2_43) rfl ((if0 _ _).trans (teq hc4).1) (by decide) (by decide) k) ?_
        show own_Ends _ _ _ _ _ _ _ (s₁.setTop (mkF m 50 #[.val (.int p0)] []))
        refine own_go (fun _ k => XS.iconst X0.here hx rfl (hb hby d2_50) k) ?_
        show own_Ends _ _ _ _ _ _ _ (s₁.setTop (mkF m 51 #[.val (.int p0)] [(.int (0 : Int32))]))
        exact own_retN X0 hx hlk (t := .boolean) Bd.returns (by simp) (hb hby d2_51) (by decide) (by decide) ⟨congrArg (fun z => some (Value.int z)) ((by decide : nar .boolean (0 : Int32) = (0 : Int32)).trans (by exact ((((if_neg hc1).trans (if_pos hc3)).trans (if_pos hc4))).symm)), N0, e0⟩
      · refine own_go (fun _ k => XS.ifNo X0.here hx rfl (hb hby d2_43) rfl ((if0 _ _).trans (feq hc4).1) k) ?_
        show own_Ends _ _ _ _ _ _ _ (s₁.setTop (mkF m 46 #[.val (.int p0)] []))
        refine own_go (fun _ k => XS.iconst X0.here hx rfl (hb hby d2_46) k) ?_
        show own_Ends _ _ _ _ _ _ _ (s₁.setTop (mkF m 47 #[.val (.int p0)] [(.int (1 : Int32))]))
        refine own_go (fun _ k => XS.goto X0.here hx rfl (pc0 := 47) (pc' := 51) rfl (hb hby d2_47) (by decide) (by decide) k) ?_
        show own_Ends _ _ _ _ _ _ _ (s₁.setTop (mkF m 51 #[.val (.int p0)] [(.int (1 : Int32))]))
        exact own_retN X0 hx hlk (t := .boolean) Bd.returns (by simp) (hb hby d2_51) (by decide) (by decide) ⟨congrArg (fun z => some (Value.int z)) ((by decide : nar .boolean (1 : Int32) = (1 : Int32)).trans (by exact ((((if_neg hc1).trans (if_pos hc3)).trans (if_neg hc4))).symm)), N0, e0⟩
    · refine own_go (fun _ k => XS.icmpYes X0.here hx rfl (pc0 := 28) (pc' := 52) rfl (hb hby d2_28) rfl (flt hc3).2.1 (by decide) (by decide) k) ?_
      show own_Ends _ _ _ _ _ _ _ (s₁.setTop (mkF m 52 #[.val (.int p0)] []))
      refine own_go (fun _ k => XS.iconst X0.here hx rfl (hb hby d2_52) k) ?_
      show own_Ends _ _ _ _ _ _ _ (s₁.setTop (mkF m 53 #[.val (.int p0)] [(.int (0 : Int32))]))
      exact own_retN X0 hx hlk (t := .boolean) Bd.returns (by simp) (hb hby d2_53) (by decide) (by decide) ⟨congrArg (fun z => some (Value.int z)) ((by decide : nar .boolean (0 : Int32) = (0 : Int32)).trans (by exact (((if_neg hc1).trans (if_neg hc3))).symm)), N0, e0⟩
theorem own_char (x : Int32) : 0 ≤ (x.toUInt32.toUInt16.toUInt32.toInt32).toInt ∧ (x.toUInt32.toUInt16.toUInt32.toInt32).toInt < 65536 := by
  generalize x.toUInt32.toUInt16 = u
  have h : (u.toUInt32.toInt32).toInt = (u.toNat : Int) := by
    show (u.toUInt32.toBitVec).toInt = _
    rw [BitVec.toInt_eq_toNat_of_lt]
    · rfl
    · show 2 * u.toUInt32.toNat < 2 ^ 32
      have := u.toNat_lt
      rw [UInt16.toNat_toUInt32]; omega
  have := u.toNat_lt
  rw [h]; omega
theorem own_small : ∀ n : Fin 128, f1 (Int32.ofNat n.val) = f2 (Int32.ofNat n.val) := by decide +kernel
theorem own_law (x : Int32) (h0 : 0 ≤ x.toInt) (h1 : x.toInt < 65536) : f1 x = f2 x := by
  by_cases h : x.toInt < 128
  · have hx : Int32.ofNat x.toInt.toNat = x := by
      apply Int32.toInt_inj.mp
      rw [Int32.toInt_ofNat_of_lt (by omega)]; omega
    have := own_small ⟨x.toInt.toNat, by omega⟩
    rw [hx] at this; exact this
  · have a1 : ¬ x < (97 : Int32) := by rw [Int32.lt_iff_toInt_lt, show (97 : Int32).toInt = 97 by decide]; omega
    have a2 : (122 : Int32) < x := by rw [Int32.lt_iff_toInt_lt, show (122 : Int32).toInt = 122 by decide]; omega
    have a3 : ¬ x < (65 : Int32) := by rw [Int32.lt_iff_toInt_lt, show (65 : Int32).toInt = 65 by decide]; omega
    have a4 : (90 : Int32) < x := by rw [Int32.lt_iff_toInt_lt, show (90 : Int32).toInt = 90 by decide]; omega
    have a5 : ¬ x = (95 : Int32) := fun q => by rw [q] at h; exact h (by decide)
    have a6 : ¬ x = (58 : Int32) := fun q => by rw [q] at h; exact h (by decide)
    have a7 : ¬ x < (64 : Int32) := by rw [Int32.lt_iff_toInt_lt, show (64 : Int32).toInt = 64 by decide]; omega
    have a8 : ¬ x < (128 : Int32) := by rw [Int32.lt_iff_toInt_lt, show (128 : Int32).toInt = 128 by decide]; omega
    simp only [f1, f2, if_neg a1, if_pos a2, if_neg a3, if_pos a4, if_neg a5, if_neg a6, if_neg a7, if_neg a8]
theorem pn0 : plainName "com/example/helmsward/helmsward/store/SeriesKeyIsNameStartPinLaw" = true := by first | (simp [plainName, overriddenIn]; done) | decide +kernel
theorem pd0_0 : parseMethodDescriptor "(C)Z" = some ⟨[.char], some .boolean⟩ := by decide +kernel
theorem pd0_1 : parseMethodDescriptor "(I)Z" = some ⟨[.int], some .boolean⟩ := by decide +kernel
theorem ef0 (m : MethodId) (p0 : Int32) : entryFrame m #[(.int p0)] maxLocals = mkF m 0 #[.val (.int p0), .unset, .unset] [] := by first | (simp [entryFrame, mkF, argsToLocals, Value.category, maxLocals]; done) | rfl
def Q0 (Z : State) (p0 : Int32) (h0 : Heap) (n0 : Nat) (v : Option Value) (h : Heap) (L : List Loc) : Prop := v = some (.int 1) ∧ Fr n0 L
set_option maxRecDepth 65536 in
set_option maxHeartbeats 40000000 in
theorem rm0 (l : Launch) (Z : State) (ar : Array Value) (hw : ∀ d ∈ tables_1, d.before ar Z = true) (ws : List Jvm.Cond) (p0 : Int32) (h0 : Heap) (n0 : Nat) (O0 : Old Z n0 h0) :
    MetFree l x (head1 (Jvm.Cond.code x code maxLocals ret :: ws) room_1) (fun a U => a = #[(.int p0)] ∧ Z.Warmed39 U.vm ∧ U.heap = h0) (fun _ _ _ _ _ => True) (fun _ U o U' => ∃ v L, o = .returned v ∧ Q0 Z p0 h0 n0 v U'.heap L ∧ FrameEnd U o U' L room_1.cells room_1.slots) := by
  refine MetFree.of_bodySF (plainFor_of_name pn0) hisR ?_
  intro p e s m args below meth c s₁ Bd hml0 hP hK
  obtain ⟨rfl, hZ, hh⟩ := hP
  have hx := Bd.exec
  have hby := Bd.bytes
  have hml : c.maxLocals = 3 := hml0
  have hown : s.vm.findClass "com/example/helmsward/helmsward/store/SeriesKeyIsNameStartPinLaw" = some m.cls := findClass_of_methodNamed Bd.named
  have hnm := (name_of_methodNamed Bd.named Bd.method).1
  have hlk : meth.locks = false := BodyLoose.notSynchronized Bd
  have X0 : Stand p l e room_1 s m #[(.int p0)] below meth c s₁ [] 0 0 := Stand.of_body Bd
  have e0 : s₁.heap = h0 := by rw [← hh, Bd.state]; rfl
  have N0 := Fr.nil n0
  suffices hmain : own_Ends p e below s (Q0 Z p0 h0 n0) 0 0 (s₁.setTop (mkF m 0 #[.val (.int p0), .unset, .unset] [])) by
    obtain ⟨U, o, h1, r⟩ := hmain
    exact ⟨U, o, castTop (ef0 m p0) h1, r⟩
  show own_Ends _ _ _ _ _ _ _ (s₁.setTop (mkF m 0 #[.val (.int p0), .unset, .unset] []))
  refine own_go (fun _ k => XS.iloadN X0.here hx rfl (hb hby at_0) rfl k) ?_
  show own_Ends _ _ _ _ _ _ _ (s₁.setTop (mkF m 1 #[.val (.int p0), .unset, .unset] [(.int p0)]))
  refine own_go (fun _ k => XS.i2c X0.here hx rfl (hb hby at_1) rfl k) ?_
  show own_Ends _ _ _ _ _ _ _ (s₁.setTop (mkF m 2 #[.val (.int p0), .unset, .unset] [(.int (p0.toUInt32.toUInt16.toUInt32.toInt32))]))
  refine own_go (fun _ k => XS.istoreN X0.here hx rfl (hb hby at_2) rfl (l' := #[.val (.int p0), .val (.int (p0.toUInt32.toUInt16.toUInt32.toInt32)), .unset]) rfl k) ?_
  show own_Ends _ _ _ _ _ _ _ (s₁.setTop (mkF m 3 #[.val (.int p0), .val (.int (p0.toUInt32.toUInt16.toUInt32.toInt32)), .unset] []))
  refine own_go (fun _ k => XS.iloadN X0.here hx rfl (hb hby at_3) rfl k) ?_
  show own_Ends _ _ _ _ _ _ _ (s₁.setTop (mkF m 4 #[.val (.int p0), .val (.int (p0.toUInt32.toUInt16.toUInt32.toInt32)), .unset] [(.int (p0.toUInt32.toUInt16.toUInt32.toInt32))]))
  refine own_go (fun _ k => XS.istoreN X0.here hx rfl (hb hby at_4) rfl (l' := #[.val (.int p0), .val (.int (p0.toUInt32.toUInt16.toUInt32.toInt32)), .val (.int (p0.toUInt32.toUInt16.toUInt32.toInt32))]) rfl k) ?_
  show own_Ends _ _ _ _ _ _ _ (s₁.setTop (mkF m 5 #[.val (.int p0), .val (.int (p0.toUInt32.toUInt16.toUInt32.toInt32)), .val (.int (p0.toUInt32.toUInt16.toUInt32.toInt32))] []))
  refine own_go (fun _ k => XS.iloadN X0.here hx rfl (hb hby at_5) rfl k) ?_
  show own_Ends _ _ _ _ _ _ _ (s₁.setTop (mkF m 6 #[.val (.int p0), .val (.int (p0.toUInt32.toUInt16.toUInt32.toInt32)), .val (.int (p0.toUInt32.toUInt16.toUInt32.toInt32))] [(.int (p0.toUInt32.toUInt16.toUInt32.toInt32))]))
  obtain ⟨_, _, ⟨T1, L1, k1, n1⟩, -, X1, ⟨Lc1, hQ1, l1, y1, z1⟩, st1⟩ := Jvm.LawKit.callS X0 hx (y := (⟨"com/example/helmsward/helmsward/store/SeriesKey", "isNameStart", "(C)Z"⟩ : MethodName)) hown (mvT hZ (hw _ (List.mem_of_getElem? (i := 0) rfl))) (mvT hZ (hw _ (List.mem_of_getElem? (i := 1) rfl))) (mvT hZ (hw _ (List.mem_of_getElem? (i := 2) rfl))) (mvT hZ (hw _ (List.mem_of_getElem? (i := 3) rfl))) (by decide) (backOf (W := 0) (rm1 l Z ar hw [] (p0.toUInt32.toUInt16.toUInt32.toInt32) h0 n0 O0) hZ (hw _ (List.mem_of_getElem? (i := 3) rfl)) (hw _ (List.mem_of_getElem? (i := 2) rfl)) (by decide) (by decide)) (g := (mkF m 6 #[.val (.int p0), .val (.int (p0.toUInt32.toUInt16.toUInt32.toInt32)), .val (.int (p0.toUInt32.toUInt16.toUInt32.toInt32))] [(.int (p0.toUInt32.toUInt16.toUInt32.toInt32))])) rfl (by rw [hml]; rfl) (argsL := [(.int (p0.toUInt32.toUInt16.toUInt32.toInt32))]) (rest := []) (lenOf pd0_0 rfl) rfl (by show 2 * 0 + _ ≤ _; exact Nat.le_of_eq rfl) (hb hby at_6) (fun _ _ => ⟨rfl, e0, (by decide : 0 + 0 ≤ _), (by decide : 0 + 0 ≤ _)⟩)
  dsimp only [Pt.U, Pt.locs, Pt.cells, Pt.slots] at X1 l1 y1 z1 st1 hQ1
  subst l1 y1 z1
  obtain ⟨rfl, N1q, eq1⟩ := hQ1
  have e1 : T1.heap = h0 := eq1
  have N1 := Fr.app N0 N1q
  refine own_go (fun _ k => st1 _ k) ?_
  show own_Ends _ _ _ _ _ _ _ (T1.setTop (mkF m 9 #[.val (.int p0), .val (.int (p0.toUInt32.toUInt16.toUInt32.toInt32)), .val (.int (p0.toUInt32.toUInt16.toUInt32.toInt32))] [(.int (f1 (p0.toUInt32.toUInt16.toUInt32.toInt32)))]))
  refine own_go (fun _ k => XS.iloadN X1.here hx rfl (hb hby at_9) rfl k) ?_
  show own_Ends _ _ _ _ _ _ _ (T1.setTop (mkF m 10 #[.val (.int p0), .val (.int (p0.toUInt32.toUInt16.toUInt32.toInt32)), .val (.int (p0.toUInt32.toUInt16.toUInt32.toInt32))] [(.int (p0.toUInt32.toUInt16.toUInt32.toInt32)), (.int (f1 (p0.toUInt32.toUInt16.toUInt32.toInt32)))]))
  obtain ⟨_, _, ⟨T2, L2, k2, n2⟩, -, X2, ⟨Lc2, hQ2, l2, y2, z2⟩, st2⟩ := Jvm.LawKit.callS X1 hx (y := (⟨"com/example/helmsward/helmsward/store/SeriesKeyIsNameStartPinLaw", "expected", "(I)Z"⟩ : MethodName)) hown (mvT hZ (hw _ (List.mem_of_getElem? (i := 4) rfl))) (mvT hZ (hw _ (List.mem_of_getElem? (i := 5) rfl))) (mvT hZ (hw _ (List.mem_of_getElem? (i := 6) rfl))) (mvT hZ (hw _ (List.mem_of_getElem? (i := 7) rfl))) (by decide) (backOf (W := 1) (rm2 l Z ar hw [] (p0.toUInt32.toUInt16.toUInt32.toInt32) h0 n0 O0) hZ (hw _ (List.mem_of_getElem? (i := 7) rfl)) (hw _ (List.mem_of_getElem? (i := 6) rfl)) (by decide) (by decide)) (g := (mkF m 10 #[.val (.int p0), .val (.int (p0.toUInt32.toUInt16.toUInt32.toInt32)), .val (.int (p0.toUInt32.toUInt16.toUInt32.toInt32))] [(.int (p0.toUInt32.toUInt16.toUInt32.toInt32)), (.int (f1 (p0.toUInt32.toUInt16.toUInt32.toInt32)))])) rfl (by rw [hml]; rfl) (argsL := [(.int (p0.toUInt32.toUInt16.toUInt32.toInt32))]) (rest := [(.int (f1 (p0.toUInt32.toUInt16.toUInt32.toInt32)))]) (lenOf pd0_1 rfl) rfl (by show 2 * 0 + _ ≤ _; exact Nat.le_of_eq rfl) (hb hby at_10) (fun _ _ => ⟨rfl, e1, (by decide : 0 + 0 ≤ _), (by decide : 0 + 0 ≤ _)⟩)
  dsimp only [Pt.U, Pt.locs, Pt.cells, Pt.slots] at X2 l2 y2 z2 st2 hQ2
  subst l2 y2 z2
  obtain ⟨rfl, N2q, eq2⟩ := hQ2
  have e2 : T2.heap = h0 := eq2
  have N2 := Fr.app N1 N2q
  refine own_go (fun _ k => st2 _ k) ?_
  show own_Ends _ _ _ _ _ _ _ (T2.setTop (mkF m 13 #[.val (.int p0), .val (.int (p0.toUInt32.toUInt16.toUInt32.toInt32)), .val (.int (p0.toUInt32.toUInt16.toUInt32.toInt32))] [(.int (f2 (p0.toUInt32.toUInt16.toUInt32.toInt32))), (.int (f1 (p0.toUInt32.toUInt16.toUInt32.toInt32)))]))
  refine own_go (fun _ k => XS.icmpNo X2.here hx rfl (hb hby at_13) rfl (teq (own_law (p0.toUInt32.toUInt16.toUInt32.toInt32) (own_char p0).1 (own_char p0).2)).2 k) ?_
  show own_Ends _ _ _ _ _ _ _ (T2.setTop (mkF m 16 #[.val (.int p0), .val (.int (p0.toUInt32.toUInt16.toUInt32.toInt32)), .val (.int (p0.toUInt32.toUInt16.toUInt32.toInt32))] []))
  refine own_go (fun _ k => XS.iconst X2.here hx rfl (hb hby at_16) k) ?_
  show own_Ends _ _ _ _ _ _ _ (T2.setTop (mkF m 17 #[.val (.int p0), .val (.int (p0.toUInt32.toUInt16.toUInt32.toInt32)), .val (.int (p0.toUInt32.toUInt16.toUInt32.toInt32))] [(.int (1 : Int32))]))
  refine own_go (fun _ k => XS.goto X2.here hx rfl (pc0 := 17) (pc' := 21) rfl (hb hby at_17) (by decide) (by decide) k) ?_
  show own_Ends _ _ _ _ _ _ _ (T2.setTop (mkF m 21 #[.val (.int p0), .val (.int (p0.toUInt32.toUInt16.toUInt32.toInt32)), .val (.int (p0.toUInt32.toUInt16.toUInt32.toInt32))] [(.int (1 : Int32))]))
  exact own_retN X2 hx hlk (t := .boolean) Bd.returns (by simp) (hb hby at_21) (by decide) (by decide) ⟨rfl, N2⟩
set_option maxRecDepth 65536 in
set_option maxHeartbeats 40000000 in
theorem comes_1 {Post : Tables → Env → Array Value → State → Outcome → State → Prop} (hpost : ∀ tb e args s v u, (limb_1_1.after args s (.returned v) u = true ∧ limb_1_2.after args s (.returned v) u = true ∧ True) → FrameEnd s (.returned v) u (Jvm.fieldLocs frame_1_writes args s ++ Jvm.arrayLocs frame_1_arrays args s ++ Jvm.staticLocs frame_1_statics s) 0 0 → Post tb e args s (.returned v) u) :
    ArmFor flags0 classFile x code maxLocals ret World_1 tables_1 room_1 Calls_1 rest_1 Pre_1 Post := by
  intro l hfl _ _ p e ha hc hk s m args below hf hA hF happ hP
  obtain ⟨hcalls, hrest, hpre⟩ := hP
  obtain ⟨-, -, -, hnamed, -, -, -, hat⟩ := (Spec.applies_iff hf).mp happ
  obtain ⟨hg, hn⟩ := and_e (Cond.before_iff.mp (show (Jvm.Cond.and given_1 narrow_1).before args s = true from hpre))
  obtain ⟨hcount, hg0⟩ := and_e hg
  obtain ⟨w0, rfl⟩ : ∃ w0 : Value, args = #[w0] := by
    have hs : args.size = 1 := by simpa [Cond.value, given_1] using hcount
    obtain ⟨L⟩ := args
    match L, hs with
    | [w0], _ => exact ⟨w0, rfl⟩
  have hw := fun d (hd : d ∈ tables_1) => atoms_spec (ws := Jvm.Cond.code x code maxLocals ret :: tables_1) hat d (List.mem_cons_of_mem _ hd)
  have hfit : Fit s := fun {y c} hc i hi => by
    obtain ⟨ha, rfl⟩ := Array.getElem?_eq_some_iff.mp hc
    have q := List.all_eq_true.mp ((Array.all_eq_true_iff_forall_mem.mp hF) _ (Array.getElem_mem ha)) i (List.mem_range.mpr hi)
    simpa [Array.getElem?_eq_getElem hi] using q
  obtain ⟨p0, ei0⟩ := is_v hg0
  obtain rfl : w0 = (.int p0) := Option.some.inj ei0
  obtain ⟨n, o, h1, h2, h3, _, L, rfl, ⟨rfl, N⟩, hq⟩ := rm0 l s _ hw tables_1 p0 s.heap s.heap.size (Old.start s) p e ha hc hk s m _ below hf ((Spec.applies_iff_loose hf).mp happ).1 ⟨rfl, State.Warmed39.refl s, rfl⟩ trivial
  refine ⟨n, _, h1, h2, h3, hpost _ _ _ _ _ _ ⟨Cond.after_iff.mpr rfl, Cond.after_iff.mpr (eq_i res_at (Term.int_eval (1)) rfl), trivial⟩ ⟨hq.1, hq.2.1, (hq.2.2.sift fun y hy => Or.inr (N y hy)).mono (by decide) (by decide)⟩⟩
theorem main_1_1 : Claimed_1_1 := comes_1 fun _ _ _ _ _ _ h hF => ⟨h.1, hF⟩
theorem main_1_2 : Claimed_1_2 := comes_1 fun _ _ _ _ _ _ h hF => ⟨h.2.1, hF⟩
end Jvm.Pilot.@@N@@
namespace Jvm.Pilot.@@N@@
open Jvm Jvm.ClassFile Sem Op Lib Jvm.Free Jvm.Stand Jvm.Pilot.@@N@@.Jvm.D
/-! MADE BY PROGRAM (witnessworld.py) out of the Statement's table words and the real class files: 10 classes; the members and pool entries that the words name. The judged class is class 1, her method 2. -/
namespace start1
open Jvm.ClassFile
def u (s : String) : CpInfo := .utf8 (stringToUtf16 s)
/-- a pool by its gaps: so many unusable entries, then the entry; so many at the end -/
def gap : Nat → List CpInfo → List CpInfo
  | 0, r => r
  | n + 1, r => .unusable :: gap n r
def poolList (es : List (Nat × CpInfo)) (last : Nat) : List CpInfo := es.foldr (fun e r => gap e.1 (e.2 :: r)) (gap last [])
def pool (es : List (Nat × CpInfo)) (last : Nat) : Array CpInfo := ⟨poolList es last⟩
def fileOf (pool : Array CpInfo) (this : Nat) (attrs : Array Attribute := #[]) (ms : Array MethodInfo := #[]) (fl : Nat := 33) (sup : Nat := 0) (ifs : Array Nat := #[]) (fds : Array FieldInfo := #[]) : ClassFile where
  minorVersion := 0
  majorVersion := 65
  constantPool := pool
  accessFlags := fl
  thisClass := this
  superClass := sup
  interfaces := ifs
  fields := fds
  methods := ms
  attributes := attrs
def plain (name : String) (sup : Option ClassId) : Class where
  name := name
  kind := .ordinary
  loader := none
  accessFlags := 33
  super := sup
  interfaces := #[]
  cf := none
  fields := #[]
  methods := #[]
  instanceTypes := #[]
  staticTypes := #[]
  resolved := #[]
  callSites := []
  init := .initialized
  statics := none
  mirror := none

def pool0 : Array CpInfo := pool [(5, u "<init>"), (0, u "()V"), (1, .class_ 10), (1, u "java/lang/Object")] 113

def k0m0 : Method := { name := "<init>", desc := "()V", sig := { parameters := [], returnType := none }, accessFlags := 1, code := none }
/-- java/lang/Object -/
def k0 : Class := { plain "java/lang/Object" none with
  accessFlags := 33
  interfaces := #[]
  cf := some (fileOf pool0 8 #[] #[{ accessFlags := 1, nameIndex := 5, descriptorIndex := 6, attributes := #[] }] 33 0 #[] #[])
  fields := #[]
  methods := #[k0m0]
  instanceTypes := #[]
  staticTypes := #[]
  resolved := Array.replicate 124 none
  statics := none }

def pool1 : Array CpInfo := pool [(2, .class_ 4), (1, u "java/lang/Object"), (0, u "<init>"), (0, u "()V"), (0, .class_ 8), (0, u "com/example/helmsward/helmsward/store/SeriesKeyIsNameStartPinLaw"), (0, .long 288230376151711744), (1, .long 576460745995190270), (1, .methodref 14 15), (0, .class_ 16), (0, .nameAndType 17 18), (0, u "com/example/helmsward/helmsward/store/SeriesKey"), (0, u "isNameStart"), (0, u "(C)Z"), (0, .methodref 7 20), (0, .nameAndType 21 22), (0, u "expected"), (0, u "(I)Z"), (0, u "LOW"), (0, u "J"), (1, u "HIGH"), (3, u "law")] 2

def k1m0 : Method := { name := "<init>", desc := "()V", sig := { parameters := [], returnType := none }, accessFlags := 1, code := none }
def k1c1 : Code := { maxStack := 4, maxLocals := 1, code := method_2_code, exceptionTable := #[], attributes := #[] }
def k1m1 : Method := { name := "expected", desc := "(I)Z", sig := { parameters := [.int], returnType := some .boolean }, accessFlags := 10, code := some k1c1 }
def k1c2 : Code := { maxStack := 2, maxLocals := 3, code := code, exceptionTable := #[], attributes := #[] }
def k1m2 : Method := { name := "law", desc := "(I)Z", sig := { parameters := [.int], returnType := some .boolean }, accessFlags := 9, code := some k1c2 }
/-- com/example/helmsward/helmsward/store/SeriesKeyIsNameStartPinLaw -/
def k1 : Class := { plain "com/example/helmsward/helmsward/store/SeriesKeyIsNameStartPinLaw" (some 0) with
  accessFlags := 49
  interfaces := #[]
  cf := some (fileOf pool1 7 #[] #[{ accessFlags := 1, nameIndex := 5, descriptorIndex := 6, attributes := #[] }, { accessFlags := 10, nameIndex := 21, descriptorIndex := 22, attributes := #[] }, { accessFlags := 9, nameIndex := 30, descriptorIndex := 22, attributes := #[] }] 49 2 #[] #[{ accessFlags := 26, nameIndex := 23, descriptorIndex := 24, attributes := #[] }, { accessFlags := 26, nameIndex := 26, descriptorIndex := 24, attributes := #[] }])
  fields := #[{ name := "LOW", type := .long, accessFlags := 26, slot := 0, constantValue := 0 }, { name := "HIGH", type := .long, accessFlags := 26, slot := 1, constantValue := 0 }]
  methods := #[k1m0, k1m1, k1m2]
  instanceTypes := #[]
  staticTypes := #[.long, .long]
  resolved := Array.replicate 33 none
  statics := none }

def pool2 : Array CpInfo := pool [(2, .class_ 4), (1, u "java/lang/Object"), (0, u "<init>"), (0, u "()V"), (0, .class_ 8), (0, u "java/lang/Record")] 13

def k2m0 : Method := { name := "<init>", desc := "()V", sig := { parameters := [], returnType := none }, accessFlags := 4, code := none }
/-- java/lang/Record -/
def k2 : Class := { plain "java/lang/Record" (some 0) with
  accessFlags := 1057
  interfaces := #[]
  cf := some (fileOf pool2 7 #[] #[{ accessFlags := 4, nameIndex := 5, descriptorIndex := 6, attributes := #[] }] 1057 2 #[] #[])
  fields := #[]
  methods := #[k2m0]
  instanceTypes := #[]
  staticTypes := #[]
  resolved := Array.replicate 22 none
  statics := none }

def pool3 : Array CpInfo := pool [(2, .class_ 4), (1, u "java/lang/Record"), (14, .class_ 21), (1, u "com/example/helmsward/helmsward/store/SeriesKey"), (56, u "metric"), (0, u "Ljava/lang/String;"), (2, u "attributes"), (0, u "Ljava/util/SortedMap;"), (13, u "isNameStart"), (0, u "(C)Z")] 72

def k3c0 : Code := { maxStack := 2, maxLocals := 1, code := prog_135_method_6_code, exceptionTable := #[], attributes := #[] }
def k3m0 : Method := { name := "isNameStart", desc := "(C)Z", sig := { parameters := [.char], returnType := some .boolean }, accessFlags := 9, code := some k3c0 }
/-- com/example/helmsward/helmsward/store/SeriesKey -/
def k3 : Class := { plain "com/example/helmsward/helmsward/store/SeriesKey" (some 2) with
  accessFlags := 49
  interfaces := #[]
  cf := some (fileOf pool3 19 #[] #[{ accessFlags := 9, nameIndex := 97, descriptorIndex := 98, attributes := #[] }] 49 2 #[] #[{ accessFlags := 18, nameIndex := 78, descriptorIndex := 79, attributes := #[] }, { accessFlags := 18, nameIndex := 82, descriptorIndex := 83, attributes := #[] }])
  fields := #[{ name := "metric", type := (.object "java/lang/String"), accessFlags := 18, slot := 0, constantValue := 0 }, { name := "attributes", type := (.object "java/util/SortedMap"), accessFlags := 18, slot := 1, constantValue := 0 }]
  methods := #[k3m0]
  instanceTypes := #[(.object "java/lang/String"), (.object "java/util/SortedMap")]
  staticTypes := #[]
  resolved := Array.replicate 171 none
  statics := none }

def pool4 : Array CpInfo := pool [(1, u "java/lang/Cloneable"), (0, .class_ 1), (0, u "java/lang/Object"), (0, .class_ 3)] 3

/-- java/lang/Cloneable -/
def k4 : Class := { plain "java/lang/Cloneable" (some 0) with
  accessFlags := 1537
  interfaces := #[]
  cf := some (fileOf pool4 2 #[] #[] 1537 4 #[] #[])
  fields := #[]
  methods := #[]
  instanceTypes := #[]
  staticTypes := #[]
  resolved := Array.replicate 8 none
  statics := none }

def pool5 : Array CpInfo := pool [(1, u "java/io/Serializable"), (0, .class_ 1), (0, u "java/lang/Object"), (0, .class_ 3)] 3

/-- java/io/Serializable -/
def k5 : Class := { plain "java/io/Serializable" (some 0) with
  accessFlags := 1537
  interfaces := #[]
  cf := some (fileOf pool5 2 #[] #[] 1537 4 #[] #[])
  fields := #[]
  methods := #[]
  instanceTypes := #[]
  staticTypes := #[]
  resolved := Array.replicate 8 none
  statics := none }

/-- the primitive byte -/
def k6 : Class := { plain "byte" none with kind := .primitive 'B', accessFlags := 0x411 }
/-- [B -/
def k7 : Class := { plain "[B" (some 0) with kind := .array 6 .byte, interfaces := #[4, 5], accessFlags := 1041 }

/-- the primitive int -/
def k8 : Class := { plain "int" none with kind := .primitive 'I', accessFlags := 0x411 }
/-- [I -/
def k9 : Class := { plain "[I" (some 0) with kind := .array 8 .int, interfaces := #[4, 5], accessFlags := 1041 }

def heap : Heap := #[]
def classes : Array Class := #[k0, k1, k2, k3, k4, k5, k6, k7, k8, k9]
def interned : List (Array UInt16 × Addr) := []
def slotsUsed : Nat := 0
def theMethod : MethodId := ⟨1, 2⟩
def args0 : Array Value := #[.int 97]
def aboutOver (below : List Frame) : State where
  vm := { classes := classes, interned := interned.toArray }
  heap := heap
  slotsUsed := slotsUsed
  threads := #[{ frames := .invoking theMethod args0 :: below }]
def below0 : List Frame := [.native { method := ⟨0, 0⟩, args := #[] }]
def about1 : State := aboutOver below0
def p0 : Program := .bare "" "" ""
def e0 : Env := launch0.env 0 0 0
theorem w_frames : about1.frames = Frame.invoking theMethod args0 :: below0 := rfl
set_option maxRecDepth 65536 in
theorem w_args : argsFit about1.vm theMethod args0 = true := by decide +kernel
set_option maxRecDepth 65536 in
theorem w_heap : heapFits about1 = true := by decide +kernel
set_option maxRecDepth 65536 in
theorem w_runnable : about1.curStatus? = some .runnable := by decide +kernel
set_option maxRecDepth 65536 in
theorem w_alone : about1.alone = true := by decide +kernel
set_option maxRecDepth 65536 in
theorem w_named : about1.methodNamed? x = some theMethod := by decide +kernel
set_option maxRecDepth 65536 in
theorem w_hears : about1.hears theMethod below0 = true := by decide +kernel
set_option maxRecDepth 65536 in
theorem w_ripe : about1.ripe theMethod args0 below0 = true := by decide +kernel
theorem w_running : about1.status = .running := rfl
set_option maxRecDepth 65536 in
theorem w_room : about1.hasRoom e0.platform room_1 = true :=
  launch0.hasRoom_least _ room_1 (by decide +kernel) (by decide +kernel) (by decide +kernel) (by decide +kernel) (by decide +kernel) (by decide +kernel)
theorem allAtoms_all (ts : List Jvm.Cond) (a : Array Jvm.Value) (st : Jvm.State) : (allAtoms ts).before a st = ts.all (fun c => c.before a st) := by
  induction ts with
  | nil => rfl
  | cons c t ih =>
    show (Jvm.Cond.and c (allAtoms t)).before a st = _
    rw [Jvm.Cond.before_and, ih, List.all_cons]
def words1 : List Jvm.Cond := Jvm.Cond.code x code maxLocals ret :: tables_1
/-- a 'code' word, met by the world's own term for the bytes: nothing is compared byte by byte -/
theorem code_word {y : MethodName} {bytes : ByteArray} {mx : Nat} {rt : Option FieldType} {a : Array Value} {s : State} {m : MethodId} {meth : Method} {c : Code} (h1 : s.methodNamed? y = some m) (h2 : s.vm.method? m = some meth) (h3 : meth.code = some c) (h4 : c.code = bytes)
    (h5 : (c.maxLocals == mx && c.exceptionTable.isEmpty && decide (c.maxStack ≤ mostOperands) && decide (meth.sig.returnType = rt) && !meth.locks && decide (parseMethodDescriptor y.desc = some meth.sig)) = true) : (Jvm.Cond.code y bytes mx rt).before a s = true := by
  simp only [Bool.and_eq_true, beq_iff_eq, Bool.not_eq_true', decide_eq_true_eq] at h5
  obtain ⟨⟨⟨⟨⟨g1, g2⟩, g3⟩, g4⟩, g5⟩, g6⟩ := h5
  simp [Cond.before, Cond.holds, Cond.value, h1, h2, h3, h4, g1, g2, g3, g4, g5, g6]
def isCode : Jvm.Cond → Bool
  | .code _ _ _ _ => true
  | _ => false
theorem all_split {L : List Jvm.Cond} {P : Jvm.Cond → Bool} (h1 : L.all (fun c => isCode c || P c) = true) (h2 : ∀ c ∈ L.filter isCode, P c = true) : L.all P = true := by
  refine List.all_eq_true.mpr fun c hc => ?_
  have h := List.all_eq_true.mp h1 c hc
  rcases Bool.eq_false_or_eq_true (isCode c) with hi | hi
  · exact h2 c (List.mem_filter.mpr ⟨hc, hi⟩)
  · simpa [hi] using h
set_option maxRecDepth 65536 in
theorem w_c0 : (Jvm.Cond.code x code maxLocals ret).before args0 about1 = true := code_word (m := ⟨1, 2⟩) (meth := k1m2) (c := k1c2) (by decide +kernel) rfl rfl rfl (by decide +kernel)
set_option maxRecDepth 65536 in
theorem w_c1 : (Jvm.Cond.code ({ cls := "com/example/helmsward/helmsward/store/SeriesKey", name := "isNameStart", desc := "(C)Z" } : Jvm.MethodName) prog_135_method_6_code (1 : Nat) (Option.some Jvm.ClassFile.FieldType.boolean)).before args0 about1 = true := code_word (m := ⟨3, 0⟩) (meth := k3m0) (c := k3c0) (by decide +kernel) rfl rfl rfl (by decide +kernel)
set_option maxRecDepth 65536 in
theorem w_c2 : (Jvm.Cond.code ({ cls := "com/example/helmsward/helmsward/store/SeriesKeyIsNameStartPinLaw", name := "expected", desc := "(I)Z" } : Jvm.MethodName) method_2_code (1 : Nat) (Option.some Jvm.ClassFile.FieldType.boolean)).before args0 about1 = true := code_word (m := ⟨1, 1⟩) (meth := k1m1) (c := k1c1) (by decide +kernel) rfl rfl rfl (by decide +kernel)
def codes1 : List Jvm.Cond := [Jvm.Cond.code x code maxLocals ret, Jvm.Cond.code ({ cls := "com/example/helmsward/helmsward/store/SeriesKey", name := "isNameStart", desc := "(C)Z" } : Jvm.MethodName) prog_135_method_6_code (1 : Nat) (Option.some Jvm.ClassFile.FieldType.boolean), Jvm.Cond.code ({ cls := "com/example/helmsward/helmsward/store/SeriesKeyIsNameStartPinLaw", name := "expected", desc := "(I)Z" } : Jvm.MethodName) method_2_code (1 : Nat) (Option.some Jvm.ClassFile.FieldType.boolean)]
set_option maxRecDepth 65536 in
theorem codes_eq : words1.filter isCode = codes1 := rfl
theorem w_codes : ∀ c ∈ words1.filter isCode, c.before args0 about1 = true := by
  rw [codes_eq]
  intro c hc
  simp only [codes1, List.mem_cons, List.not_mem_nil, or_false] at hc
  rcases hc with rfl | rfl | rfl
  · exact w_c0
  · exact w_c1
  · exact w_c2
set_option maxRecDepth 65536 in
theorem w_t1 : words1.all (fun c => isCode c || c.before args0 about1) = true := by decide +kernel
theorem w_tables : (allAtoms (Jvm.Cond.code x code maxLocals ret :: tables_1)).before args0 about1 = true := by
  rw [allAtoms_all]
  show words1.all (fun c => c.before args0 about1) = true
  refine all_split ?_ w_codes
  rw [w_t1]
set_option maxRecDepth 65536 in
theorem w_case : (Jvm.Cond.and given_1 narrow_1).before args0 about1 = true := by decide +kernel
theorem w_applies : (headSpec (Jvm.Cond.code x code maxLocals ret :: tables_1) room_1).applies x e0.platform about1 = true :=
  (Spec.applies_iff w_frames).mpr ⟨w_running, w_runnable, w_alone, w_named, w_hears, w_ripe, w_room, w_tables⟩
theorem atStart : AtStart classFile x code maxLocals ret World_1 tables_1 room_1 Calls_1 rest_1 Pre_1 launch0 p0 e0 about1 theMethod args0 below0 :=
  ⟨lists_1, trivial, launch0.admits_env _ _ _, launch0.least_env, fairChoices_fair.cas, fairChoices_fair.clock, w_frames, w_args, w_heap, w_applies, trivial, trivial, w_case⟩
end start1
theorem witness_1 : WitnessClaimed_1 := ⟨start1.p0, start1.e0, start1.about1, start1.theMethod, start1.args0, start1.below0, start1.atStart⟩
end Jvm.Pilot.@@N@@
