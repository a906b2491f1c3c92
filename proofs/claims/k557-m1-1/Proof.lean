import JvmDerived
import JvmDerived.Pilot.@@N@@Statement
import JvmDerived.Pilot.@@N@@Code
set_option linter.unusedVariables false
set_option linter.unusedSimpArgs false
namespace Jvm.RoadKit
open Sem ClassFile Op Lib Jvm.Stand Jvm.Free Jvm.LawKit
section New
variable {p : Program} {l : Launch} {e : Env} {R : Room} {s : State} {m : MethodId} {args : Array Value} {below : List Frame} {meth : Method} {c : Code} {T : State} {locs : List Loc} {cells slots : Nat}
theorem retI (X : Stand p l e R s m args below meth c T locs cells slots) (hx : p.tables.exec = Jvm.exec) {pc : Nat} {Ls : Array Slot} {z : Int32} {rest : List Value} (hret : meth.sig.returnType = some .int) (hd : decode c.code pc = .ok (.ireturn, 1)) {fs : List Frame}
    (hl : ∀ (f : JFrame) (acts : List Action), f.method = m → f.locked = none → f.entered = [] → (doReturn e (T.setTop f) acts (some (.int z))).1 = T.setFrames fs) : Steps p.tables e below (T.setTop (mkF m pc Ls (.int z :: rest))) (T.setFrames fs) := by
  have hm' : T.vm.method? m = some meth := X.method'
  have hn : narrow .int (.int z) = .int z := rfl
  show Steps p.tables e below (T.setTop { method := m, pc := pc, locals := Ls, stack := _ :: rest, locked := none }) _
  jvm_step X.here [X.here.top, hx, hd, hm', hret, hn]
  first | (intro acts; rw [hl _ acts rfl rfl rfl]) | rw [hl _ _ rfl rfl rfl]
  exact Steps.refl _
/-- from here the run ends and leaves what Q says -/
def Go (p : Program) (e : Env) (below : List Frame) (s : State) (Q : Option Value → Heap → List Loc → Prop) (C N : Nat) (S : State) : Prop :=
  ∃ s₂ o, Steps p.tables e below S s₂ ∧ s₂.status = .running ∧ Ended s₂ below o ∧ ∃ v L, o = .returned v ∧ Q v s₂.heap L ∧ FrameEnd s o s₂ L C N
variable {Q : Option Value → Heap → List Loc → Prop} {C N : Nat}
theorem Go.step {S S' : State} (k : ∀ t, Steps p.tables e below S' t → Steps p.tables e below S t) (g : Go p e below s Q C N S') : Go p e below s Q C N S := by
  obtain ⟨s2, o, h1, h2⟩ := g
  exact ⟨s2, o, k _ h1, h2⟩
theorem Go.retN (X : Stand p l e R s m args below meth c T locs cells slots) (hx : p.tables.exec = Jvm.exec) {pc : Nat} {Ls : Array Slot} {z : Int32} {t : FieldType} {rest : List Value} (hret : meth.sig.returnType = some t) (ht : t = .boolean ∨ t = .byte ∨ t = .char ∨ t = .short) (hlk : meth.locks = false) (hd : decode c.code pc = .ok (.ireturn, 1))
    (hq : Q (some (.int (nar t z))) T.heap locs) (hc : cells ≤ C) (hs : slots ≤ N) : Go p e below s Q C N (T.setTop (mkF m pc Ls (.int z :: rest))) := by
  obtain ⟨fs, hr, hrun, hended, hW, hsame⟩ := X.leave (v := some (.int (nar t z))) (fun h => by rw [hret] at h; cases h) hlk
  exact ⟨_, _, Jvm.RoadKit.retN X hx (t := t) hret ht hd hr, hrun, hended, _, _, rfl, hq, ⟨_, rfl⟩, hW, hsame.mono hc hs⟩
theorem Go.retI (X : Stand p l e R s m args below meth c T locs cells slots) (hx : p.tables.exec = Jvm.exec) {pc : Nat} {Ls : Array Slot} {z : Int32} {rest : List Value} (hret : meth.sig.returnType = some .int) (hlk : meth.locks = false) (hd : decode c.code pc = .ok (.ireturn, 1))
    (hq : Q (some (.int z)) T.heap locs) (hc : cells ≤ C) (hs : slots ≤ N) : Go p e below s Q C N (T.setTop (mkF m pc Ls (.int z :: rest))) := by
  obtain ⟨fs, hr, hrun, hended, hW, hsame⟩ := X.leave (v := some (.int z)) (fun h => by rw [hret] at h; cases h) hlk
  exact ⟨_, _, Jvm.RoadKit.retI X hx hret hd hr, hrun, hended, _, _, rfl, hq, ⟨_, rfl⟩, hW, hsame.mono hc hs⟩
theorem Go.retA (X : Stand p l e R s m args below meth c T locs cells slots) (hx : p.tables.exec = Jvm.exec) {pc : Nat} {Ls : Array Slot} {v : Value} {rest : List Value} {t : FieldType} (hret : meth.sig.returnType = some t) (ht : t.isReference = true) (hv : v.isRef = true) (hlk : meth.locks = false) (hd : decode c.code pc = .ok (.areturn, 1))
    (hq : Q (some v) T.heap locs) (hc : cells ≤ C) (hs : slots ≤ N) : Go p e below s Q C N (T.setTop (mkF m pc Ls (v :: rest))) := by
  obtain ⟨fs, hr, hrun, hended, hW, hsame⟩ := X.leave (v := some v) (fun h => by rw [hret] at h; cases h) hlk
  refine ⟨_, _, ?_, hrun, hended, _, _, rfl, hq, ⟨_, rfl⟩, hW, hsame.mono hc hs⟩
  have hm' : T.vm.method? m = some meth := X.method'
  show Steps p.tables e below (T.setTop { method := m, pc := pc, locals := Ls, stack := v :: rest, locked := none }) _
  jvm_step X.here [X.here.top, hx, hd, hm', hret, hv, ht]
  first | (intro acts; rw [hr _ acts rfl rfl rfl]) | rw [hr _ _ rfl rfl rfl]
  exact Steps.refl _
theorem own_ne {x k : Int32} {z : Int} (hz : k.toInt = z) (h : ¬ x = k) : x.toInt ≠ z := fun q => h (Int32.toInt_inj.mp (q.trans hz.symm))
end New
end Jvm.RoadKit
namespace Jvm.Pilot.@@N@@
open Jvm Jvm.ClassFile Sem Op Lib Jvm.Free Jvm.Stand Jvm.LawKit Jvm.RoadKit Bundle Jvm.Pilot.@@N@@.Jvm.D
theorem d1_0 : decode prog_58_method_2_code 0 = .ok (.iload_n 0, 1) := by decide +kernel
theorem d1_1 : decode prog_58_method_2_code 1 = .ok (.bipush 32, 2) := by decide +kernel
theorem d1_3 : decode prog_58_method_2_code 3 = .ok (.if_icmp .eq 21, 3) := by decide +kernel
theorem d1_6 : decode prog_58_method_2_code 6 = .ok (.iload_n 0, 1) := by decide +kernel
theorem d1_7 : decode prog_58_method_2_code 7 = .ok (.bipush 9, 2) := by decide +kernel
theorem d1_9 : decode prog_58_method_2_code 9 = .ok (.if_icmp .eq 15, 3) := by decide +kernel
theorem d1_12 : decode prog_58_method_2_code 12 = .ok (.iload_n 0, 1) := by decide +kernel
theorem d1_13 : decode prog_58_method_2_code 13 = .ok (.bipush 10, 2) := by decide +kernel
theorem d1_15 : decode prog_58_method_2_code 15 = .ok (.if_icmp .eq 9, 3) := by decide +kernel
theorem d1_18 : decode prog_58_method_2_code 18 = .ok (.iload_n 0, 1) := by decide +kernel
theorem d1_19 : decode prog_58_method_2_code 19 = .ok (.bipush 13, 2) := by decide +kernel
theorem d1_21 : decode prog_58_method_2_code 21 = .ok (.if_icmp .ne 7, 3) := by decide +kernel
theorem d1_24 : decode prog_58_method_2_code 24 = .ok (.iconst 1, 1) := by decide +kernel
theorem d1_25 : decode prog_58_method_2_code 25 = .ok (.goto 4, 3) := by decide +kernel
theorem d1_28 : decode prog_58_method_2_code 28 = .ok (.iconst 0, 1) := by decide +kernel
theorem d1_29 : decode prog_58_method_2_code 29 = .ok (.ireturn, 1) := by decide +kernel
theorem pn0 : plainName "com/example/elemint/elemint/tree/ElementContentWhitespaceNode" = true := by first | (simp [plainName, overriddenIn]; done) | decide +kernel
theorem pd0 : parseMethodDescriptor "(C)Z" = some ⟨[.char], some .boolean⟩ := by decide +kernel
theorem ef1 (m : MethodId) (x0 : Int32) : entryFrame m #[(.int x0)] 1 = mkF m 0 #[.val (.int x0)] [] := by first | (simp [entryFrame, mkF, argsToLocals, Value.category]; done) | rfl
def f1 (x0 : Int32) : Int32 := (if x0 = (32 : Int32) then (1 : Int32) else (if x0 = (9 : Int32) then (1 : Int32) else (if x0 = (10 : Int32) then (1 : Int32) else (if x0 = (13 : Int32) then (1 : Int32) else (0 : Int32)))))
def Q1 (x0 : Int32) (h0 : Heap) (n0 : Nat) (v : Option Value) (h : Heap) (L : List Loc) : Prop := v = some (.int (f1 x0)) ∧ Fr n0 L ∧ h = h0
set_option maxRecDepth 65536 in
set_option maxHeartbeats 40000000 in
theorem rm1 (l : Launch) (Z : State) (a0 : Array Value) (hw : ∀ d ∈ tables_1, d.before a0 Z = true) (ws : List Jvm.Cond) (x0 : Int32) (h0 : Heap) (n0 : Nat) (Z0 : n0 ≤ h0.size) :
    MetFree l (⟨"com/example/elemint/elemint/tree/ElementContentWhitespaceNode", "isWhitespace", "(C)Z"⟩ : MethodName) (head1 (Jvm.Cond.code (⟨"com/example/elemint/elemint/tree/ElementContentWhitespaceNode", "isWhitespace", "(C)Z"⟩ : MethodName) prog_58_method_2_code 1 (some .boolean) :: ws) ({ frames := 0, cells := 0, slots := 0, locals := 0 } : Room)) (fun a U => a = #[(.int x0)] ∧ Z.Warmed39 U.vm ∧ U.heap = h0) (fun _ _ _ _ _ => True) (fun _ U o U' => ∃ v L, o = .returned v ∧ Q1 x0 h0 n0 v U'.heap L ∧ FrameEnd U o U' L ({ frames := 0, cells := 0, slots := 0, locals := 0 } : Room).cells ({ frames := 0, cells := 0, slots := 0, locals := 0 } : Room).slots) := by
  refine MetFree.of_bodySF (plainFor_of_name pn0) hisR ?_
  intro p e s m args below meth c s₁ Bd hml0 hP hK
  obtain ⟨rfl, hZ, hh⟩ := hP
  have hx := Bd.exec
  have hby := Bd.bytes
  have hml : c.maxLocals = 1 := hml0
  have hown : s.vm.findClass "com/example/elemint/elemint/tree/ElementContentWhitespaceNode" = some m.cls := findClass_of_methodNamed Bd.named
  have X0 : Stand p l e ({ frames := 0, cells := 0, slots := 0, locals := 0 } : Room) s m #[(.int x0)] below meth c s₁ [] 0 0 := Stand.of_body Bd
  have e0 : s₁.heap = h0 := by rw [← hh, Bd.state]; rfl
  obtain ⟨r, hr0⟩ : ∃ r, f1 x0 = r := ⟨_, rfl⟩
  have B0 : ∀  (T : State) (locs : List Loc) (X : Stand p l e ({ frames := 0, cells := 0, slots := 0, locals := 0 } : Room) s m #[(.int x0)] below meth c T locs 0 0) (eT : T.heap = h0) (NF : Fr n0 locs) (hr : f1 x0 = r), Go p e below s (Q1 x0 h0 n0) ({ frames := 0, cells := 0, slots := 0, locals := 0 } : Room).cells ({ frames := 0, cells := 0, slots := 0, locals := 0 } : Room).slots (T.setTop (mkF m 0 #[.val (.int x0)] [])) := by
    intro  T locs X eT NF hr
    unfold f1 at hr
    refine Go.step (S' := T.setTop (mkF m 1 #[.val (.int x0)] [(.int x0)])) (fun t k => XS.iloadN X.here hx rfl (hb hby d1_0) rfl k) ?_
    refine Go.step (S' := T.setTop (mkF m 3 #[.val (.int x0)] [(.int (32 : Int32)), (.int x0)])) (fun t k => XS.bipush X.here hx rfl (hb hby d1_1) k) ?_
    by_cases hc1 : x0 = (32 : Int32)
    · rw [if_pos hc1] at hr
      refine Go.step (S' := T.setTop (mkF m 24 #[.val (.int x0)] [])) (fun t k => XS.icmpYes X.here hx rfl (pc0 := 3) (pc' := 24) rfl (hb hby d1_3) rfl (teq hc1).1 (by decide) (by decide) k) ?_
      refine Go.step (S' := T.setTop (mkF m 25 #[.val (.int x0)] [(.int (1 : Int32))])) (fun t k => XS.iconst X.here hx rfl (hb hby d1_24) k) ?_
      refine Go.step (S' := T.setTop (mkF m 29 #[.val (.int x0)] [(.int (1 : Int32))])) (fun t k => XS.goto X.here hx rfl (pc0 := 25) (pc' := 29) rfl (hb hby d1_25) (by decide) (by decide) k) ?_
      exact Go.retN X hx (t := .boolean) Bd.returns (by simp) Bd.notSynchronized (hb hby d1_29) ⟨by rw [hr0, ← hr]; first | done | rfl, NF, eT⟩ (by decide) (by decide)
    · rw [if_neg hc1] at hr
      refine Go.step (S' := T.setTop (mkF m 6 #[.val (.int x0)] [])) (fun t k => XS.icmpNo X.here hx rfl (hb hby d1_3) rfl (feq hc1).1 k) ?_
      refine Go.step (S' := T.setTop (mkF m 7 #[.val (.int x0)] [(.int x0)])) (fun t k => XS.iloadN X.here hx rfl (hb hby d1_6) rfl k) ?_
      refine Go.step (S' := T.setTop (mkF m 9 #[.val (.int x0)] [(.int (9 : Int32)), (.int x0)])) (fun t k => XS.bipush X.here hx rfl (hb hby d1_7) k) ?_
      by_cases hc2 : x0 = (9 : Int32)
      · rw [if_pos hc2] at hr
        refine Go.step (S' := T.setTop (mkF m 24 #[.val (.int x0)] [])) (fun t k => XS.icmpYes X.here hx rfl (pc0 := 9) (pc' := 24) rfl (hb hby d1_9) rfl (teq hc2).1 (by decide) (by decide) k) ?_
        refine Go.step (S' := T.setTop (mkF m 25 #[.val (.int x0)] [(.int (1 : Int32))])) (fun t k => XS.iconst X.here hx rfl (hb hby d1_24) k) ?_
        refine Go.step (S' := T.setTop (mkF m 29 #[.val (.int x0)] [(.int (1 : Int32))])) (fun t k => XS.goto X.here hx rfl (pc0 := 25) (pc' := 29) rfl (hb hby d1_25) (by decide) (by decide) k) ?_
        exact Go.retN X hx (t := .boolean) Bd.returns (by simp) Bd.notSynchronized (hb hby d1_29) ⟨by rw [hr0, ← hr]; first | done | rfl, NF, eT⟩ (by decide) (by decide)
      · rw [if_neg hc2] at hr
        refine Go.step (S' := T.setTop (mkF m 12 #[.val (.int x0)] [])) (fun t k => XS.icmpNo X.here hx rfl (hb hby d1_9) rfl (feq hc2).1 k) ?_
        refine Go.step (S' := T.setTop (mkF m 13 #[.val (.int x0)] [(.int x0)])) (fun t k => XS.iloadN X.here hx rfl (hb hby d1_12) rfl k) ?_
        refine Go.step (S' := T.setTop (mkF m 15 #[.val (.int x0)] [(.int (10 : Int32)), (.int x0)])) (fun t k => XS.bipush X.here hx rfl (hb hby d1_13) k) ?_
        by_cases hc3 : x0 = (10 : Int32)
        · rw [if_pos hc3] at hr
          refine Go.step (S' := T.setTop (mkF m 24 #[.val (.int x0)] [])) (fun t k => XS.icmpYes X.here hx rfl (pc0 := 15) (pc' := 24) rfl (hb hby d1_15) rfl (teq hc3).1 (by decide) (by decide) k) ?_
          refine Go.step (S' := T.setTop (mkF m 25 #[.val (.int x0)] [(.int (1 : Int32))])) (fun t k => XS.iconst X.here hx rfl (hb hby d1_24) k) ?_
          refine Go.step (S' := T.setTop (mkF m 29 #[.val (.int x0)] [(.int (1 : Int32))])) (fun t k => XS.goto X.here hx rfl (pc0 := 25) (pc' := 29) rfl (hb hby d1_25) (by decide) (by decide) k) ?_
          exact Go.retN X hx (t := .boolean) Bd.returns (by simp) Bd.notSynchronized (hb hby d1_29) ⟨by rw [hr0, ← hr]; first | done | rfl, NF, eT⟩ (by decide) (by decide)
        · rw [if_neg hc3] at hr
          refine Go.step (S' := T.setTop (mkF m 18 #[.val (.int x0)] [])) (fun t k => XS.icmpNo X.here hx rfl (hb hby d1_15) rfl (feq hc3).1 k) ?_
          refine Go.step (S' := T.setTop (mkF m 19 #[.val (.int x0)] [(.int x0)])) (fun t k => XS.iloadN X.here hx rfl (hb hby d1_18) rfl k) ?_
          refine Go.step (S' := T.setTop (mkF m 21 #[.val (.int x0)] [(.int (13 : Int32)), (.int x0)])) (fun t k => XS.bipush X.here hx rfl (hb hby d1_19) k) ?_
          by_cases hc4 : x0 = (13 : Int32)
          · rw [if_pos hc4] at hr
            refine Go.step (S' := T.setTop (mkF m 24 #[.val (.int x0)] [])) (fun t k => XS.icmpNo X.here hx rfl (hb hby d1_21) rfl (teq hc4).2 k) ?_
            refine Go.step (S' := T.setTop (mkF m 25 #[.val (.int x0)] [(.int (1 : Int32))])) (fun t k => XS.iconst X.here hx rfl (hb hby d1_24) k) ?_
            refine Go.step (S' := T.setTop (mkF m 29 #[.val (.int x0)] [(.int (1 : Int32))])) (fun t k => XS.goto X.here hx rfl (pc0 := 25) (pc' := 29) rfl (hb hby d1_25) (by decide) (by decide) k) ?_
            exact Go.retN X hx (t := .boolean) Bd.returns (by simp) Bd.notSynchronized (hb hby d1_29) ⟨by rw [hr0, ← hr]; first | done | rfl, NF, eT⟩ (by decide) (by decide)
          · rw [if_neg hc4] at hr
            refine Go.step (S' := T.setTop (mkF m 28 #[.val (.int x0)] [])) (fun t k => XS.icmpYes X.here hx rfl (pc0 := 21) (pc' := 28) rfl (hb hby d1_21) rfl (feq hc4).2 (by decide) (by decide) k) ?_
            refine Go.step (S' := T.setTop (mkF m 29 #[.val (.int x0)] [(.int (0 : Int32))])) (fun t k => XS.iconst X.here hx rfl (hb hby d1_28) k) ?_
            exact Go.retN X hx (t := .boolean) Bd.returns (by simp) Bd.notSynchronized (hb hby d1_29) ⟨by rw [hr0, ← hr]; first | done | rfl, NF, eT⟩ (by decide) (by decide)
  show Go p e below s (Q1 x0 h0 n0) ({ frames := 0, cells := 0, slots := 0, locals := 0 } : Room).cells ({ frames := 0, cells := 0, slots := 0, locals := 0 } : Room).slots (s₁.setTop (entryFrame m #[(.int x0)] 1))
  rw [ef1]
  exact B0 s₁ [] X0 e0 (Fr.nil n0) hr0
theorem d2_0 : decode method_2_code 0 = .ok (.iload_n 0, 1) := by decide +kernel
theorem d2_1 : decode method_2_code 1 = .ok (.istore_n 1, 1) := by decide +kernel
theorem d2_2 : decode method_2_code 2 = .ok (.iload_n 1, 1) := by decide +kernel
theorem d2_3 : decode method_2_code 3 = .ok (.bipush 32, 2) := by decide +kernel
theorem d2_5 : decode method_2_code 5 = .ok (.if_icmp .le 5, 3) := by decide +kernel
theorem d2_8 : decode method_2_code 8 = .ok (.iconst 0, 1) := by decide +kernel
theorem d2_9 : decode method_2_code 9 = .ok (.ireturn, 1) := by decide +kernel
theorem d2_10 : decode method_2_code 10 = .ok (.ldc2_w 9, 3) := by decide +kernel
theorem d2_13 : decode method_2_code 13 = .ok (.iload_n 1, 1) := by decide +kernel
theorem d2_14 : decode method_2_code 14 = .ok (.lushr, 1) := by decide +kernel
theorem d2_15 : decode method_2_code 15 = .ok (.lconst 1, 1) := by decide +kernel
theorem d2_16 : decode method_2_code 16 = .ok (.land, 1) := by decide +kernel
theorem d2_17 : decode method_2_code 17 = .ok (.lconst 0, 1) := by decide +kernel
theorem d2_18 : decode method_2_code 18 = .ok (.lcmp, 1) := by decide +kernel
theorem d2_19 : decode method_2_code 19 = .ok (.ifCond .eq 7, 3) := by decide +kernel
theorem d2_22 : decode method_2_code 22 = .ok (.iconst 1, 1) := by decide +kernel
theorem d2_23 : decode method_2_code 23 = .ok (.goto 4, 3) := by decide +kernel
theorem d2_26 : decode method_2_code 26 = .ok (.iconst 0, 1) := by decide +kernel
theorem d2_27 : decode method_2_code 27 = .ok (.ireturn, 1) := by decide +kernel
theorem pn1 : plainName "com/example/elemint/elemint/tree/ElementContentWhitespaceNodeIsWhitespacePinLaw" = true := by first | (simp [plainName, overriddenIn]; done) | decide +kernel
theorem ef2 (m : MethodId) (x0 : Int32) : entryFrame m #[(.int x0)] 2 = mkF m 0 #[.val (.int x0), .unset] [] := by first | (simp [entryFrame, mkF, argsToLocals, Value.category]; done) | rfl
def f2 (x0 : Int32) : Int32 := (if (32 : Int32) < x0 then (0 : Int32) else (if (lcmpW ((((4294977024 : Int64).toUInt64 >>> (x0 &&& 0x3f).toInt64.toUInt64).toInt64) &&& (1 : Int64)) (0 : Int64)) = (0 : Int32) then (0 : Int32) else (1 : Int32)))
def Q2 (x0 : Int32) (h0 : Heap) (n0 : Nat) (v : Option Value) (h : Heap) (L : List Loc) : Prop := v = some (.int (f2 x0)) ∧ Fr n0 L ∧ h = h0
set_option maxRecDepth 65536 in
set_option maxHeartbeats 40000000 in
theorem rm2 (l : Launch) (Z : State) (a0 : Array Value) (hw : ∀ d ∈ tables_1, d.before a0 Z = true) (ws : List Jvm.Cond) (x0 : Int32) (h0 : Heap) (n0 : Nat) (Z0 : n0 ≤ h0.size) :
    MetFree l (⟨"com/example/elemint/elemint/tree/ElementContentWhitespaceNodeIsWhitespacePinLaw", "expected", "(C)Z"⟩ : MethodName) (head1 (Jvm.Cond.code (⟨"com/example/elemint/elemint/tree/ElementContentWhitespaceNodeIsWhitespacePinLaw", "expected", "(C)Z"⟩ : MethodName) method_2_code 2 (some .boolean) :: ws) ({ frames := 0, cells := 0, slots := 0, locals := 0 } : Room)) (fun a U => a = #[(.int x0)] ∧ Z.Warmed39 U.vm ∧ U.heap = h0) (fun _ _ _ _ _ => True) (fun _ U o U' => ∃ v L, o = .returned v ∧ Q2 x0 h0 n0 v U'.heap L ∧ FrameEnd U o U' L ({ frames := 0, cells := 0, slots := 0, locals := 0 } : Room).cells ({ frames := 0, cells := 0, slots := 0, locals := 0 } : Room).slots) := by
  refine MetFree.of_bodySF (plainFor_of_name pn1) hisR ?_
  intro p e s m args below meth c s₁ Bd hml0 hP hK
  obtain ⟨rfl, hZ, hh⟩ := hP
  have hx := Bd.exec
  have hby := Bd.bytes
  have hml : c.maxLocals = 2 := hml0
  have hown : s.vm.findClass "com/example/elemint/elemint/tree/ElementContentWhitespaceNodeIsWhitespacePinLaw" = some m.cls := findClass_of_methodNamed Bd.named
  have X0 : Stand p l e ({ frames := 0, cells := 0, slots := 0, locals := 0 } : Room) s m #[(.int x0)] below meth c s₁ [] 0 0 := Stand.of_body Bd
  have e0 : s₁.heap = h0 := by rw [← hh, Bd.state]; rfl
  obtain ⟨r, hr0⟩ : ∃ r, f2 x0 = r := ⟨_, rfl⟩
  have B0 : ∀  (T : State) (locs : List Loc) (X : Stand p l e ({ frames := 0, cells := 0, slots := 0, locals := 0 } : Room) s m #[(.int x0)] below meth c T locs 0 0) (eT : T.heap = h0) (NF : Fr n0 locs) (hr : f2 x0 = r), Go p e below s (Q2 x0 h0 n0) ({ frames := 0, cells := 0, slots := 0, locals := 0 } : Room).cells ({ frames := 0, cells := 0, slots := 0, locals := 0 } : Room).slots (T.setTop (mkF m 0 #[.val (.int x0), .unset] [])) := by
    intro  T locs X eT NF hr
    unfold f2 at hr
    refine Go.step (S' := T.setTop (mkF m 1 #[.val (.int x0), .unset] [(.int x0)])) (fun t k => XS.iloadN X.here hx rfl (hb hby d2_0) rfl k) ?_
    refine Go.step (S' := T.setTop (mkF m 2 #[.val (.int x0), .val (.int x0)] [])) (fun t k => XS.istoreN X.here hx rfl (hb hby d2_1) rfl (l' := #[.val (.int x0), .val (.int x0)]) rfl k) ?_
    refine Go.step (S' := T.setTop (mkF m 3 #[.val (.int x0), .val (.int x0)] [(.int x0)])) (fun t k => XS.iloadN X.here hx rfl (hb hby d2_2) rfl k) ?_
    refine Go.step (S' := T.setTop (mkF m 5 #[.val (.int x0), .val (.int x0)] [(.int (32 : Int32)), (.int x0)])) (fun t k => XS.bipush X.here hx rfl (hb hby d2_3) k) ?_
    by_cases hc1 : (32 : Int32) < x0
    · rw [if_pos hc1] at hr
      refine Go.step (S' := T.setTop (mkF m 8 #[.val (.int x0), .val (.int x0)] [])) (fun t k => XS.icmpNo X.here hx rfl (hb hby d2_5) rfl (tlt hc1).2.2.2 k) ?_
      refine Go.step (S' := T.setTop (mkF m 9 #[.val (.int x0), .val (.int x0)] [(.int (0 : Int32))])) (fun t k => XS.iconst X.here hx rfl (hb hby d2_8) k) ?_
      exact Go.retN X hx (t := .boolean) Bd.returns (by simp) Bd.notSynchronized (hb hby d2_9) ⟨by rw [hr0, ← hr]; first | done | rfl, NF, eT⟩ (by decide) (by decide)
    · rw [if_neg hc1] at hr
      refine Go.step (S' := T.setTop (mkF m 10 #[.val (.int x0), .val (.int x0)] [])) (fun t k => XS.icmpYes X.here hx rfl (pc0 := 5) (pc' := 10) rfl (hb hby d2_5) rfl (flt hc1).2.2.2 (by decide) (by decide) k) ?_
      refine Go.step (S' := T.setTop (mkF m 13 #[.val (.int x0), .val (.int x0)] [(.long (4294977024 : Int64))])) (fun t k => X.ldc2Long hx hown (mvT hZ (hw _ (List.mem_of_getElem? (i := 8) rfl))) (g := (mkF m 10 #[.val (.int x0), .val (.int x0)] [])) rfl (hb hby d2_10) _ k) ?_
      refine Go.step (S' := T.setTop (mkF m 14 #[.val (.int x0), .val (.int x0)] [(.int x0), (.long (4294977024 : Int64))])) (fun t k => XS.iloadN X.here hx rfl (hb hby d2_13) rfl k) ?_
      refine Go.step (S' := T.setTop (mkF m 15 #[.val (.int x0), .val (.int x0)] [(.long (((4294977024 : Int64).toUInt64 >>> (x0 &&& 0x3f).toInt64.toUInt64).toInt64))])) (fun t k => XS.lushr X.here hx rfl (hb hby d2_14) rfl k) ?_
      refine Go.step (S' := T.setTop (mkF m 16 #[.val (.int x0), .val (.int x0)] [(.long (1 : Int64)), (.long (((4294977024 : Int64).toUInt64 >>> (x0 &&& 0x3f).toInt64.toUInt64).toInt64))])) (fun t k => XS.lconst X.here hx rfl (hb hby d2_15) k) ?_
      refine Go.step (S' := T.setTop (mkF m 17 #[.val (.int x0), .val (.int x0)] [(.long ((((4294977024 : Int64).toUInt64 >>> (x0 &&& 0x3f).toInt64.toUInt64).toInt64) &&& (1 : Int64)))])) (fun t k => XS.land X.here hx rfl (hb hby d2_16) rfl k) ?_
      refine Go.step (S' := T.setTop (mkF m 18 #[.val (.int x0), .val (.int x0)] [(.long (0 : Int64)), (.long ((((4294977024 : Int64).toUInt64 >>> (x0 &&& 0x3f).toInt64.toUInt64).toInt64) &&& (1 : Int64)))])) (fun t k => XS.lconst X.here hx rfl (hb hby d2_17) k) ?_
      refine Go.step (S' := T.setTop (mkF m 19 #[.val (.int x0), .val (.int x0)] [(.int (lcmpW ((((4294977024 : Int64).toUInt64 >>> (x0 &&& 0x3f).toInt64.toUInt64).toInt64) &&& (1 : Int64)) (0 : Int64)))])) (fun t k => XS.lcmp X.here hx rfl (hb hby d2_18) rfl k) ?_
      by_cases hc2 : (lcmpW ((((4294977024 : Int64).toUInt64 >>> (x0 &&& 0x3f).toInt64.toUInt64).toInt64) &&& (1 : Int64)) (0 : Int64)) = (0 : Int32)
      · rw [if_pos hc2] at hr
        refine Go.step (S' := T.setTop (mkF m 26 #[.val (.int x0), .val (.int x0)] [])) (fun t k => XS.ifYes X.here hx rfl (pc0 := 19) (pc' := 26) rfl (hb hby d2_19) rfl ((if0 _ _).trans (teq hc2).1) (by decide) (by decide) k) ?_
        refine Go.step (S' := T.setTop (mkF m 27 #[.val (.int x0), .val (.int x0)] [(.int (0 : Int32))])) (fun t k => XS.iconst X.here hx rfl (hb hby d2_26) k) ?_
        exact Go.retN X hx (t := .boolean) Bd.returns (by simp) Bd.notSynchronized (hb hby d2_27) ⟨by rw [hr0, ← hr]; first | done | rfl, NF, eT⟩ (by decide) (by decide)
      · rw [if_neg hc2] at hr
        refine Go.step (S' := T.setTop (mkF m 22 #[.val (.int x0), .val (.int x0)] [])) (fun t k => XS.ifNo X.here hx rfl (hb hby d2_19) rfl ((if0 _ _).trans (feq hc2).1) k) ?_
        refine Go.step (S' := T.setTop (mkF m 23 #[.val (.int x0), .val (.int x0)] [(.int (1 : Int32))])) (fun t k => XS.iconst X.here hx rfl (hb hby d2_22) k) ?_
        refine Go.step (S' := T.setTop (mkF m 27 #[.val (.int x0), .val (.int x0)] [(.int (1 : Int32))])) (fun t k => XS.goto X.here hx rfl (pc0 := 23) (pc' := 27) rfl (hb hby d2_23) (by decide) (by decide) k) ?_
        exact Go.retN X hx (t := .boolean) Bd.returns (by simp) Bd.notSynchronized (hb hby d2_27) ⟨by rw [hr0, ← hr]; first | done | rfl, NF, eT⟩ (by decide) (by decide)
  show Go p e below s (Q2 x0 h0 n0) ({ frames := 0, cells := 0, slots := 0, locals := 0 } : Room).cells ({ frames := 0, cells := 0, slots := 0, locals := 0 } : Room).slots (s₁.setTop (entryFrame m #[(.int x0)] 2))
  rw [ef2]
  exact B0 s₁ [] X0 e0 (Fr.nil n0) hr0
theorem pd1 : parseMethodDescriptor "(I)Z" = some ⟨[.int], some .boolean⟩ := by decide +kernel
theorem ef0 (m : MethodId) (x0 : Int32) : entryFrame m #[(.int x0)] maxLocals = mkF m 0 #[.val (.int x0), .unset, .unset] [] := by first | (simp [entryFrame, mkF, argsToLocals, Value.category, maxLocals]; done) | rfl
def f0 (x0 : Int32) : Int32 := (if (f1 (x0.toUInt32.toUInt16.toUInt32.toInt32)) = (f2 (x0.toUInt32.toUInt16.toUInt32.toInt32)) then (1 : Int32) else (0 : Int32))
def Q0 (x0 : Int32) (h0 : Heap) (n0 : Nat) (v : Option Value) (h : Heap) (L : List Loc) : Prop := v = some (.int (f0 x0)) ∧ Fr n0 L ∧ h = h0
set_option maxRecDepth 65536 in
set_option maxHeartbeats 40000000 in
theorem rm0 (l : Launch) (Z : State) (a0 : Array Value) (hw : ∀ d ∈ tables_1, d.before a0 Z = true) (ws : List Jvm.Cond) (x0 : Int32) (h0 : Heap) (n0 : Nat) (Z0 : n0 ≤ h0.size) :
    MetFree l x (head1 (Jvm.Cond.code x code maxLocals ret :: ws) room_1) (fun a U => a = #[(.int x0)] ∧ Z.Warmed39 U.vm ∧ U.heap = h0) (fun _ _ _ _ _ => True) (fun _ U o U' => ∃ v L, o = .returned v ∧ Q0 x0 h0 n0 v U'.heap L ∧ FrameEnd U o U' L room_1.cells room_1.slots) := by
  refine MetFree.of_bodySF (plainFor_of_name pn1) hisR ?_
  intro p e s m args below meth c s₁ Bd hml0 hP hK
  obtain ⟨rfl, hZ, hh⟩ := hP
  have hx := Bd.exec
  have hby := Bd.bytes
  have hml : c.maxLocals = 3 := hml0
  have hown : s.vm.findClass "com/example/elemint/elemint/tree/ElementContentWhitespaceNodeIsWhitespacePinLaw" = some m.cls := findClass_of_methodNamed Bd.named
  have X0 : Stand p l e room_1 s m #[(.int x0)] below meth c s₁ [] 0 0 := Stand.of_body Bd
  have e0 : s₁.heap = h0 := by rw [← hh, Bd.state]; rfl
  obtain ⟨r, hr0⟩ : ∃ r, f0 x0 = r := ⟨_, rfl⟩
  have B0 : ∀  (T : State) (locs : List Loc) (X : Stand p l e room_1 s m #[(.int x0)] below meth c T locs 0 0) (eT : T.heap = h0) (NF : Fr n0 locs) (hr : f0 x0 = r), Go p e below s (Q0 x0 h0 n0) room_1.cells room_1.slots (T.setTop (mkF m 0 #[.val (.int x0), .unset, .unset] [])) := by
    intro  T locs X eT NF hr
    unfold f0 at hr
    refine Go.step (S' := T.setTop (mkF m 1 #[.val (.int x0), .unset, .unset] [(.int x0)])) (fun t k => XS.iloadN X.here hx rfl (hb hby at_0) rfl k) ?_
    refine Go.step (S' := T.setTop (mkF m 2 #[.val (.int x0), .unset, .unset] [(.int (x0.toUInt32.toUInt16.toUInt32.toInt32))])) (fun t k => XS.i2c X.here hx rfl (hb hby at_1) rfl k) ?_
    refine Go.step (S' := T.setTop (mkF m 3 #[.val (.int x0), .val (.int (x0.toUInt32.toUInt16.toUInt32.toInt32)), .unset] [])) (fun t k => XS.istoreN X.here hx rfl (hb hby at_2) rfl (l' := #[.val (.int x0), .val (.int (x0.toUInt32.toUInt16.toUInt32.toInt32)), .unset]) rfl k) ?_
    refine Go.step (S' := T.setTop (mkF m 4 #[.val (.int x0), .val (.int (x0.toUInt32.toUInt16.toUInt32.toInt32)), .unset] [(.int (x0.toUInt32.toUInt16.toUInt32.toInt32))])) (fun t k => XS.iloadN X.here hx rfl (hb hby at_3) rfl k) ?_
    obtain ⟨_, _, ⟨T1, L1, k1, n1⟩, -, X1, ⟨Lc1, hQ1, l1, y1, z1⟩, st1⟩ := Jvm.LawKit.callS X hx (y := (⟨"com/example/elemint/elemint/tree/ElementContentWhitespaceNode", "isWhitespace", "(C)Z"⟩ : MethodName)) hown (mvT hZ (hw _ (List.mem_of_getElem? (i := 0) rfl))) (mvT hZ (hw _ (List.mem_of_getElem? (i := 1) rfl))) (mvT hZ (hw _ (List.mem_of_getElem? (i := 2) rfl))) (mvT hZ (hw _ (List.mem_of_getElem? (i := 3) rfl))) (by decide) (backOf (W := 0) (rm1 l Z a0 hw [] (x0.toUInt32.toUInt16.toUInt32.toInt32) h0 n0 Z0) hZ (hw _ (List.mem_of_getElem? (i := 3) rfl)) (hw _ (List.mem_of_getElem? (i := 2) rfl)) (by decide) (by decide)) (g := (mkF m 4 #[.val (.int x0), .val (.int (x0.toUInt32.toUInt16.toUInt32.toInt32)), .unset] [(.int (x0.toUInt32.toUInt16.toUInt32.toInt32))])) rfl (by rw [hml]; rfl) (argsL := [(.int (x0.toUInt32.toUInt16.toUInt32.toInt32))]) (rest := []) (lenOf pd0 rfl) rfl (by show 2 * 0 + _ ≤ _; exact Nat.le_of_eq rfl) (hb hby at_4) (fun _ _ => ⟨rfl, eT, (by decide : 0 + 0 ≤ _), (by decide : 0 + 0 ≤ _)⟩)
    dsimp only [Pt.U, Pt.locs, Pt.cells, Pt.slots] at X1 l1 y1 z1 st1 hQ1
    subst l1 y1 z1
    obtain ⟨rfl, Nq1, e1⟩ := hQ1
    have N1 := Fr.app NF Nq1
    refine Go.step (S' := T1.setTop (mkF m 7 #[.val (.int x0), .val (.int (x0.toUInt32.toUInt16.toUInt32.toInt32)), .unset] [(.int (f1 (x0.toUInt32.toUInt16.toUInt32.toInt32)))])) (fun t k => st1 t k) ?_
    refine Go.step (S' := T1.setTop (mkF m 8 #[.val (.int x0), .val (.int (x0.toUInt32.toUInt16.toUInt32.toInt32)), .val (.int (f1 (x0.toUInt32.toUInt16.toUInt32.toInt32)))] [])) (fun t k => XS.istoreN X1.here hx rfl (hb hby at_7) rfl (l' := #[.val (.int x0), .val (.int (x0.toUInt32.toUInt16.toUInt32.toInt32)), .val (.int (f1 (x0.toUInt32.toUInt16.toUInt32.toInt32)))]) rfl k) ?_
    refine Go.step (S' := T1.setTop (mkF m 9 #[.val (.int x0), .val (.int (x0.toUInt32.toUInt16.toUInt32.toInt32)), .val (.int (f1 (x0.toUInt32.toUInt16.toUInt32.toInt32)))] [(.int (f1 (x0.toUInt32.toUInt16.toUInt32.toInt32)))])) (fun t k => XS.iloadN X1.here hx rfl (hb hby at_8) rfl k) ?_
    refine Go.step (S' := T1.setTop (mkF m 10 #[.val (.int x0), .val (.int (x0.toUInt32.toUInt16.toUInt32.toInt32)), .val (.int (f1 (x0.toUInt32.toUInt16.toUInt32.toInt32)))] [(.int (x0.toUInt32.toUInt16.toUInt32.toInt32)), (.int (f1 (x0.toUInt32.toUInt16.toUInt32.toInt32)))])) (fun t k => XS.iloadN X1.here hx rfl (hb hby at_9) rfl k) ?_
    obtain ⟨_, _, ⟨T2, L2, k2, n2⟩, -, X2, ⟨Lc2, hQ2, l2, y2, z2⟩, st2⟩ := Jvm.LawKit.callS X1 hx (y := (⟨"com/example/elemint/elemint/tree/ElementContentWhitespaceNodeIsWhitespacePinLaw", "expected", "(C)Z"⟩ : MethodName)) hown (mvT hZ (hw _ (List.mem_of_getElem? (i := 4) rfl))) (mvT hZ (hw _ (List.mem_of_getElem? (i := 5) rfl))) (mvT hZ (hw _ (List.mem_of_getElem? (i := 6) rfl))) (mvT hZ (hw _ (List.mem_of_getElem? (i := 7) rfl))) (by decide) (backOf (W := 1) (rm2 l Z a0 hw [] (x0.toUInt32.toUInt16.toUInt32.toInt32) h0 n0 Z0) hZ (hw _ (List.mem_of_getElem? (i := 7) rfl)) (hw _ (List.mem_of_getElem? (i := 6) rfl)) (by decide) (by decide)) (g := (mkF m 10 #[.val (.int x0), .val (.int (x0.toUInt32.toUInt16.toUInt32.toInt32)), .val (.int (f1 (x0.toUInt32.toUInt16.toUInt32.toInt32)))] [(.int (x0.toUInt32.toUInt16.toUInt32.toInt32)), (.int (f1 (x0.toUInt32.toUInt16.toUInt32.toInt32)))])) rfl (by rw [hml]; rfl) (argsL := [(.int (x0.toUInt32.toUInt16.toUInt32.toInt32))]) (rest := [(.int (f1 (x0.toUInt32.toUInt16.toUInt32.toInt32)))]) (lenOf pd0 rfl) rfl (by show 2 * 0 + _ ≤ _; exact Nat.le_of_eq rfl) (hb hby at_10) (fun _ _ => ⟨rfl, e1, (by decide : 0 + 0 ≤ _), (by decide : 0 + 0 ≤ _)⟩)
    dsimp only [Pt.U, Pt.locs, Pt.cells, Pt.slots] at X2 l2 y2 z2 st2 hQ2
    subst l2 y2 z2
    obtain ⟨rfl, Nq2, e2⟩ := hQ2
    have N2 := Fr.app N1 Nq2
    refine Go.step (S' := T2.setTop (mkF m 13 #[.val (.int x0), .val (.int (x0.toUInt32.toUInt16.toUInt32.toInt32)), .val (.int (f1 (x0.toUInt32.toUInt16.toUInt32.toInt32)))] [(.int (f2 (x0.toUInt32.toUInt16.toUInt32.toInt32))), (.int (f1 (x0.toUInt32.toUInt16.toUInt32.toInt32)))])) (fun t k => st2 t k) ?_
    by_cases hc3 : (f1 (x0.toUInt32.toUInt16.toUInt32.toInt32)) = (f2 (x0.toUInt32.toUInt16.toUInt32.toInt32))
    · rw [if_pos hc3] at hr
      refine Go.step (S' := T2.setTop (mkF m 16 #[.val (.int x0), .val (.int (x0.toUInt32.toUInt16.toUInt32.toInt32)), .val (.int (f1 (x0.toUInt32.toUInt16.toUInt32.toInt32)))] [])) (fun t k => XS.icmpNo X2.here hx rfl (hb hby at_13) rfl (teq hc3).2 k) ?_
      refine Go.step (S' := T2.setTop (mkF m 17 #[.val (.int x0), .val (.int (x0.toUInt32.toUInt16.toUInt32.toInt32)), .val (.int (f1 (x0.toUInt32.toUInt16.toUInt32.toInt32)))] [(.int (1 : Int32))])) (fun t k => XS.iconst X2.here hx rfl (hb hby at_16) k) ?_
      refine Go.step (S' := T2.setTop (mkF m 21 #[.val (.int x0), .val (.int (x0.toUInt32.toUInt16.toUInt32.toInt32)), .val (.int (f1 (x0.toUInt32.toUInt16.toUInt32.toInt32)))] [(.int (1 : Int32))])) (fun t k => XS.goto X2.here hx rfl (pc0 := 17) (pc' := 21) rfl (hb hby at_17) (by decide) (by decide) k) ?_
      exact Go.retN X2 hx (t := .boolean) Bd.returns (by simp) Bd.notSynchronized (hb hby at_21) ⟨by rw [hr0, ← hr]; first | done | rfl, N2, e2⟩ (by decide) (by decide)
    · rw [if_neg hc3] at hr
      refine Go.step (S' := T2.setTop (mkF m 20 #[.val (.int x0), .val (.int (x0.toUInt32.toUInt16.toUInt32.toInt32)), .val (.int (f1 (x0.toUInt32.toUInt16.toUInt32.toInt32)))] [])) (fun t k => XS.icmpYes X2.here hx rfl (pc0 := 13) (pc' := 20) rfl (hb hby at_13) rfl (feq hc3).2 (by decide) (by decide) k) ?_
      refine Go.step (S' := T2.setTop (mkF m 21 #[.val (.int x0), .val (.int (x0.toUInt32.toUInt16.toUInt32.toInt32)), .val (.int (f1 (x0.toUInt32.toUInt16.toUInt32.toInt32)))] [(.int (0 : Int32))])) (fun t k => XS.iconst X2.here hx rfl (hb hby at_20) k) ?_
      exact Go.retN X2 hx (t := .boolean) Bd.returns (by simp) Bd.notSynchronized (hb hby at_21) ⟨by rw [hr0, ← hr]; first | done | rfl, N2, e2⟩ (by decide) (by decide)
  show Go p e below s (Q0 x0 h0 n0) room_1.cells room_1.slots (s₁.setTop (entryFrame m #[(.int x0)] maxLocals))
  rw [ef0]
  exact B0 s₁ [] X0 e0 (Fr.nil n0) hr0
theorem own_small : ∀ n : Fin 33, f1 (Int32.ofNat n.val) = f2 (Int32.ofNat n.val) := by decide +kernel
theorem own_char (x : Int32) : 0 ≤ (x.toUInt32.toUInt16.toUInt32.toInt32).toInt := by
  have h : ∀ u : UInt16, (u.toUInt32.toInt32).toInt = u.toNat := fun u => by
    have hu := u.toNat_lt
    show (u.toUInt32.toBitVec).toInt = _
    rw [BitVec.toInt_eq_toNat_of_lt (by show 2 * u.toNat < _; omega)]; rfl
  rw [h]; omega
theorem own_eq (c : Int32) (h : 0 ≤ c.toInt) : f1 c = f2 c := by
  by_cases h2 : (32 : Int32) < c
  · have e : f2 c = 0 := by unfold f2; rw [if_pos h2]
    rw [e]
    rw [Int32.lt_iff_toInt_lt] at h2
    have k (z : Int32) (hz : z.toInt ≤ 32) : ¬ c = z := fun q => by subst q; have : (32 : Int32).toInt = 32 := by decide
                                                                    omega
    unfold f1
    rw [if_neg (k 32 (by decide)), if_neg (k 9 (by decide)), if_neg (k 10 (by decide)), if_neg (k 13 (by decide))]
  · have h3 : c.toInt ≤ 32 := by
      rw [Int32.lt_iff_toInt_lt] at h2
      have : (32 : Int32).toInt = 32 := by decide
      omega
    have e : c = Int32.ofNat c.toInt.toNat := by
      apply Int32.toInt.inj
      rw [Int32.toInt_ofNat']
      have e : ((c.toInt.toNat : Nat) : Int) = c.toInt := by omega
      rw [e]; exact (Int.bmod_eq_of_le (by show -(2147483648 : Int) ≤ _; omega) (by show _ < (2147483648 : Int); omega)).symm
    have := own_small ⟨c.toInt.toNat, by omega⟩
    rw [e]; exact this
theorem own_law (x0 : Int32) : f0 x0 = 1 := by
  unfold f0
  rw [if_pos (own_eq _ (own_char x0))]
set_option maxRecDepth 65536 in
set_option maxHeartbeats 40000000 in
theorem comes_1 {Post : Tables → Env → Array Value → State → Outcome → State → Prop} (hpost : ∀ tb e args s v u, (limb_1_1.after args s (.returned v) u = true ∧ limb_1_2.after args s (.returned v) u = true ∧ True) → FrameEnd s (.returned v) u (Jvm.fieldLocs frame_1_writes args s ++ Jvm.arrayLocs frame_1_arrays args s ++ Jvm.staticLocs frame_1_statics s) 0 0 → Post tb e args s (.returned v) u) :
    ArmFor flags0 classFile x code maxLocals ret World_1 tables_1 room_1 Calls_1 rest_1 Pre_1 Post := by
  intro l hfl _ _ p e ha hc hk s m args below hf hA hF happ hP
  obtain ⟨hcalls, hrest, hpre⟩ := hP
  obtain ⟨-, -, -, hnamed, -, -, -, hat⟩ := (Spec.applies_iff hf).mp happ
  obtain ⟨hg, hn⟩ := and_e (Cond.before_iff.mp (show (Jvm.Cond.and given_1 narrow_1).before args s = true from hpre))
  obtain ⟨hcount, hg⟩ := and_e hg
  obtain ⟨w0, rfl⟩ : ∃ w0 : Value, args = #[w0] := by
    have hs : args.size = 1 := by simpa [Cond.value, given_1] using hcount
    obtain ⟨L⟩ := args
    match L, hs with
    | [w0], _ => exact ⟨w0, rfl⟩
  have hw := fun d (hd : d ∈ tables_1) => atoms_spec (ws := Jvm.Cond.code x code maxLocals ret :: tables_1) hat d (List.mem_cons_of_mem _ hd)
  obtain ⟨i0, ei0⟩ := is_v hg
  obtain rfl : w0 = (.int i0) := Option.some.inj ei0
  obtain ⟨n, o, h1, h2, h3, v, L, rfl, ⟨hv, N, -⟩, hq⟩ := rm0 l s _ hw tables_1 i0 s.heap s.heap.size (Nat.le_refl _) p e ha hc hk s m _ below hf ((Spec.applies_iff_loose hf).mp happ).1 ⟨rfl, State.Warmed39.refl s, rfl⟩ trivial
  rw [own_law i0] at hv
  subst hv
  refine ⟨n, _, h1, h2, h3, hpost _ _ _ _ _ _ ⟨Cond.after_iff.mpr rfl, Cond.after_iff.mpr (eq_i res_at (Term.int_eval (1)) rfl), trivial⟩ ⟨hq.1, hq.2.1, (hq.2.2.sift fun y hy => Or.inr (N y hy)).mono (by decide) (by decide)⟩⟩
theorem main_1_1 : Claimed_1_1 := comes_1 fun _ _ _ _ _ _ h hF => ⟨h.1, hF⟩
theorem main_1_2 : Claimed_1_2 := comes_1 fun _ _ _ _ _ _ h hF => ⟨h.2.1, hF⟩
end Jvm.Pilot.@@N@@
namespace Jvm.Pilot.@@N@@
open Jvm Jvm.ClassFile Sem Op Lib Jvm.Free Jvm.Stand Jvm.Pilot.@@N@@.Jvm.D
/-! MADE BY PROGRAM (witnessworld.py) out of the Statement's table words and the real class files: 13 classes; the members and pool entries that the words name. The judged class is class 1, her method 2. -/
namespace start1
open Jvm.ClassFile
def u (s : String) : CpInfo := .utf8 (stringToUtf16 s)
/-- a pool by its gaps: so many unusable entries, then the entry; so many at the end -/
def gap : Nat → List CpInfo → List CpInfo
  | 0, r => r
  | n + 1, r => .unusable :: gap n r
def poolList (es : List (Nat × CpInfo)) (last : Nat) : List CpInfo := es.foldr (fun e r => gap e.1 (e.2 :: r)) (gap last [])
def pool (es : List (Nat × CpInfo)) (last : Nat) : Array CpInfo := ⟨poolList es last⟩
def fileOf (pool : Array CpInfo) (this : Nat) (attrs : Array Attribute := #[]) (ms : Array MethodInfo := #[]) (fl : Nat := 33) (sup : Nat := 0) (ifs : Array Nat := #[]) (fds : Array FieldInfo := #[]) : ClassFile where
  minorVersion := 0
  majorVersion := 65
  constantPool := pool
  accessFlags := fl
  thisClass := this
  superClass := sup
  interfaces := ifs
  fields := fds
  methods := ms
  attributes := attrs
def plain (name : String) (sup : Option ClassId) : Class where
  name := name
  kind := .ordinary
  loader := none
  accessFlags := 33
  super := sup
  interfaces := #[]
  cf := none
  fields := #[]
  methods := #[]
  instanceTypes := #[]
  staticTypes := #[]
  resolved := #[]
  callSites := []
  init := .initialized
  statics := none
  mirror := none

def pool0 : Array CpInfo := pool [(5, u "<init>"), (0, u "()V"), (1, .class_ 10), (1, u "java/lang/Object")] 113

def k0m0 : Method := { name := "<init>", desc := "()V", sig := { parameters := [], returnType := none }, accessFlags := 1, code := none }
/-- java/lang/Object -/
def k0 : Class := { plain "java/lang/Object" none with
  accessFlags := 33
  interfaces := #[]
  cf := some (fileOf pool0 8 #[] #[{ accessFlags := 1, nameIndex := 5, descriptorIndex := 6, attributes := #[] }] 33 0 #[] #[])
  fields := #[]
  methods := #[k0m0]
  instanceTypes := #[]
  staticTypes := #[]
  resolved := Array.replicate 124 none
  statics := none }

def pool1 : Array CpInfo := pool [(2, .class_ 4), (1, u "java/lang/Object"), (0, u "<init>"), (0, u "()V"), (0, .class_ 8), (0, u "com/example/elemint/elemint/tree/ElementContentWhitespaceNodeIsWhitespacePinLaw"), (0, .long 4294977024), (1, .methodref 12 13), (0, .class_ 14), (0, .nameAndType 15 16), (0, u "com/example/elemint/elemint/tree/ElementContentWhitespaceNode"), (0, u "isWhitespace"), (0, u "(C)Z"), (0, .methodref 7 18), (0, .nameAndType 19 16), (0, u "expected"), (0, u "XML_SPACE_TABLE"), (0, u "J"), (4, u "law"), (0, u "(I)Z")] 2

def k1m0 : Method := { name := "<init>", desc := "()V", sig := { parameters := [], returnType := none }, accessFlags := 2, code := none }
def k1c1 : Code := { maxStack := 4, maxLocals := 2, code := method_2_code, exceptionTable := #[], attributes := #[] }
def k1m1 : Method := { name := "expected", desc := "(C)Z", sig := { parameters := [.char], returnType := some .boolean }, accessFlags := 10, code := some k1c1 }
def k1c2 : Code := { maxStack := 2, maxLocals := 3, code := code, exceptionTable := #[], attributes := #[] }
def k1m2 : Method := { name := "law", desc := "(I)Z", sig := { parameters := [.int], returnType := some .boolean }, accessFlags := 9, code := some k1c2 }
/-- com/example/elemint/elemint/tree/ElementContentWhitespaceNodeIsWhitespacePinLaw -/
def k1 : Class := { plain "com/example/elemint/elemint/tree/ElementContentWhitespaceNodeIsWhitespacePinLaw" (some 0) with
  accessFlags := 49
  interfaces := #[]
  cf := some (fileOf pool1 7 #[] #[{ accessFlags := 2, nameIndex := 5, descriptorIndex := 6, attributes := #[] }, { accessFlags := 10, nameIndex := 19, descriptorIndex := 16, attributes := #[] }, { accessFlags := 9, nameIndex := 26, descriptorIndex := 27, attributes := #[] }] 49 2 #[] #[{ accessFlags := 26, nameIndex := 20, descriptorIndex := 21, attributes := #[] }])
  fields := #[{ name := "XML_SPACE_TABLE", type := .long, accessFlags := 26, slot := 0, constantValue := 0 }]
  methods := #[k1m0, k1m1, k1m2]
  instanceTypes := #[]
  staticTypes := #[.long]
  resolved := Array.replicate 30 none
  statics := none }

def pool2 : Array CpInfo := pool [(1, .class_ 2), (0, u "org/w3c/dom/Node"), (0, .class_ 4), (0, u "java/lang/Object")] 0

/-- org/w3c/dom/Node -/
def k2 : Class := { plain "org/w3c/dom/Node" (some 0) with
  accessFlags := 1537
  interfaces := #[]
  cf := some (fileOf pool2 1 #[] #[] 1537 3 #[] #[])
  fields := #[]
  methods := #[]
  instanceTypes := #[]
  staticTypes := #[]
  resolved := Array.replicate 5 none
  statics := none }

def pool3 : Array CpInfo := pool [(2, .class_ 4), (1, u "java/lang/Object"), (3, .class_ 10), (1, u "com/example/elemint/elemint/tree/TreeNode"), (0, u "owner"), (0, u "Lcom/example/elemint/elemint/tree/DocumentNode;"), (12, u "parent"), (0, u "Lcom/example/elemint/elemint/tree/ParentNode;"), (2, u "next"), (0, u "Lcom/example/elemint/elemint/tree/TreeNode;"), (47, u "previous"), (79, .class_ 159), (0, u "org/w3c/dom/Node"), (50, .class_ 211), (0, u "com/example/elemint/elemint/tree/TreeNode$Copying")] 20

/-- com/example/elemint/elemint/tree/TreeNode -/
def k3 : Class := { plain "com/example/elemint/elemint/tree/TreeNode" (some 0) with
  accessFlags := 1056
  interfaces := #[2]
  cf := some (fileOf pool3 8 #[.nestMembers #[210]] #[] 1056 2 #[158] #[{ accessFlags := 2, nameIndex := 11, descriptorIndex := 12, attributes := #[] }, { accessFlags := 0, nameIndex := 25, descriptorIndex := 26, attributes := #[] }, { accessFlags := 0, nameIndex := 29, descriptorIndex := 30, attributes := #[] }, { accessFlags := 0, nameIndex := 78, descriptorIndex := 30, attributes := #[] }])
  fields := #[{ name := "owner", type := (.object "com/example/elemint/elemint/tree/DocumentNode"), accessFlags := 2, slot := 0, constantValue := 0 }, { name := "parent", type := (.object "com/example/elemint/elemint/tree/ParentNode"), accessFlags := 0, slot := 1, constantValue := 0 }, { name := "next", type := (.object "com/example/elemint/elemint/tree/TreeNode"), accessFlags := 0, slot := 2, constantValue := 0 }, { name := "previous", type := (.object "com/example/elemint/elemint/tree/TreeNode"), accessFlags := 0, slot := 3, constantValue := 0 }]
  methods := #[]
  instanceTypes := #[(.object "com/example/elemint/elemint/tree/DocumentNode"), (.object "com/example/elemint/elemint/tree/ParentNode"), (.object "com/example/elemint/elemint/tree/TreeNode"), (.object "com/example/elemint/elemint/tree/TreeNode")]
  staticTypes := #[]
  resolved := Array.replicate 232 none
  statics := none }

def pool4 : Array CpInfo := pool [(1, .class_ 2), (0, u "org/w3c/dom/CharacterData"), (0, .class_ 4), (0, u "java/lang/Object")] 0

/-- org/w3c/dom/CharacterData -/
def k4 : Class := { plain "org/w3c/dom/CharacterData" (some 0) with
  accessFlags := 1537
  interfaces := #[]
  cf := some (fileOf pool4 1 #[] #[] 1537 3 #[] #[])
  fields := #[]
  methods := #[]
  instanceTypes := #[]
  staticTypes := #[]
  resolved := Array.replicate 5 none
  statics := none }

def pool5 : Array CpInfo := pool [(2, .class_ 4), (1, u "com/example/elemint/elemint/tree/TreeNode"), (3, .class_ 10), (1, u "com/example/elemint/elemint/tree/CharacterDataNode"), (4, u "data"), (0, u "Ljava/lang/String;"), (58, .class_ 76), (0, u "org/w3c/dom/CharacterData")] 34

/-- com/example/elemint/elemint/tree/CharacterDataNode -/
def k5 : Class := { plain "com/example/elemint/elemint/tree/CharacterDataNode" (some 3) with
  accessFlags := 1056
  interfaces := #[4]
  cf := some (fileOf pool5 8 #[] #[] 1056 2 #[75] #[{ accessFlags := 2, nameIndex := 15, descriptorIndex := 16, attributes := #[] }])
  fields := #[{ name := "data", type := (.object "java/lang/String"), accessFlags := 2, slot := 4, constantValue := 0 }]
  methods := #[]
  instanceTypes := #[(.object "com/example/elemint/elemint/tree/DocumentNode"), (.object "com/example/elemint/elemint/tree/ParentNode"), (.object "com/example/elemint/elemint/tree/TreeNode"), (.object "com/example/elemint/elemint/tree/TreeNode"), (.object "java/lang/String")]
  staticTypes := #[]
  resolved := Array.replicate 111 none
  statics := none }

def pool6 : Array CpInfo := pool [(1, .class_ 2), (0, u "org/w3c/dom/Text"), (0, .class_ 4), (0, u "java/lang/Object")] 0

/-- org/w3c/dom/Text -/
def k6 : Class := { plain "org/w3c/dom/Text" (some 0) with
  accessFlags := 1537
  interfaces := #[]
  cf := some (fileOf pool6 1 #[] #[] 1537 3 #[] #[])
  fields := #[]
  methods := #[]
  instanceTypes := #[]
  staticTypes := #[]
  resolved := Array.replicate 5 none
  statics := none }

def pool7 : Array CpInfo := pool [(2, .class_ 4), (1, u "com/example/elemint/elemint/tree/CharacterDataNode"), (5, .class_ 11), (0, u "com/example/elemint/elemint/tree/TextNode"), (156, .class_ 169), (0, u "org/w3c/dom/Text")] 30

/-- com/example/elemint/elemint/tree/TextNode -/
def k7 : Class := { plain "com/example/elemint/elemint/tree/TextNode" (some 5) with
  accessFlags := 32
  interfaces := #[6]
  cf := some (fileOf pool7 10 #[] #[] 32 2 #[168] #[])
  fields := #[]
  methods := #[]
  instanceTypes := #[(.object "com/example/elemint/elemint/tree/DocumentNode"), (.object "com/example/elemint/elemint/tree/ParentNode"), (.object "com/example/elemint/elemint/tree/TreeNode"), (.object "com/example/elemint/elemint/tree/TreeNode"), (.object "java/lang/String")]
  staticTypes := #[]
  resolved := Array.replicate 200 none
  statics := none }

def pool8 : Array CpInfo := pool [(2, .class_ 4), (1, u "com/example/elemint/elemint/tree/TextNode"), (2, .class_ 8), (0, u "com/example/elemint/elemint/tree/ElementContentWhitespaceNode"), (17, u "isWhitespace"), (0, u "(C)Z")] 14

def k8c0 : Code := { maxStack := 2, maxLocals := 1, code := prog_58_method_2_code, exceptionTable := #[], attributes := #[] }
def k8m0 : Method := { name := "isWhitespace", desc := "(C)Z", sig := { parameters := [.char], returnType := some .boolean }, accessFlags := 8, code := some k8c0 }
/-- com/example/elemint/elemint/tree/ElementContentWhitespaceNode -/
def k8 : Class := { plain "com/example/elemint/elemint/tree/ElementContentWhitespaceNode" (some 7) with
  accessFlags := 48
  interfaces := #[]
  cf := some (fileOf pool8 7 #[] #[{ accessFlags := 8, nameIndex := 26, descriptorIndex := 27, attributes := #[] }] 48 2 #[] #[])
  fields := #[]
  methods := #[k8m0]
  instanceTypes := #[(.object "com/example/elemint/elemint/tree/DocumentNode"), (.object "com/example/elemint/elemint/tree/ParentNode"), (.object "com/example/elemint/elemint/tree/TreeNode"), (.object "com/example/elemint/elemint/tree/TreeNode"), (.object "java/lang/String")]
  staticTypes := #[]
  resolved := Array.replicate 42 none
  statics := none }

def pool9 : Array CpInfo := pool [(1, u "java/lang/Cloneable"), (0, .class_ 1), (0, u "java/lang/Object"), (0, .class_ 3)] 3

/-- java/lang/Cloneable -/
def k9 : Class := { plain "java/lang/Cloneable" (some 0) with
  accessFlags := 1537
  interfaces := #[]
  cf := some (fileOf pool9 2 #[] #[] 1537 4 #[] #[])
  fields := #[]
  methods := #[]
  instanceTypes := #[]
  staticTypes := #[]
  resolved := Array.replicate 8 none
  statics := none }

def pool10 : Array CpInfo := pool [(1, u "java/io/Serializable"), (0, .class_ 1), (0, u "java/lang/Object"), (0, .class_ 3)] 3

/-- java/io/Serializable -/
def k10 : Class := { plain "java/io/Serializable" (some 0) with
  accessFlags := 1537
  interfaces := #[]
  cf := some (fileOf pool10 2 #[] #[] 1537 4 #[] #[])
  fields := #[]
  methods := #[]
  instanceTypes := #[]
  staticTypes := #[]
  resolved := Array.replicate 8 none
  statics := none }

/-- the primitive byte -/
def k11 : Class := { plain "byte" none with kind := .primitive 'B', accessFlags := 0x411 }
/-- [B -/
def k12 : Class := { plain "[B" (some 0) with kind := .array 11 .byte, interfaces := #[9, 10], accessFlags := 1041 }

def heap : Heap := #[]
def classes : Array Class := #[k0, k1, k2, k3, k4, k5, k6, k7, k8, k9, k10, k11, k12]
def interned : List (Array UInt16 × Addr) := []
def slotsUsed : Nat := 0
def theMethod : MethodId := ⟨1, 2⟩
def args0 : Array Value := #[.int 5]
def aboutOver (below : List Frame) : State where
  vm := { classes := classes, interned := interned.toArray }
  heap := heap
  slotsUsed := slotsUsed
  threads := #[{ frames := .invoking theMethod args0 :: below }]
def below0 : List Frame := [.native { method := ⟨0, 0⟩, args := #[] }]
def about1 : State := aboutOver below0
def p0 : Program := .bare "" "" ""
def e0 : Env := launch0.env 0 0 0
theorem w_frames : about1.frames = Frame.invoking theMethod args0 :: below0 := rfl
set_option maxRecDepth 65536 in
theorem w_args : argsFit about1.vm theMethod args0 = true := by decide +kernel
set_option maxRecDepth 65536 in
theorem w_heap : heapFits about1 = true := by decide +kernel
set_option maxRecDepth 65536 in
theorem w_runnable : about1.curStatus? = some .runnable := by decide +kernel
set_option maxRecDepth 65536 in
theorem w_alone : about1.alone = true := by decide +kernel
set_option maxRecDepth 65536 in
theorem w_named : about1.methodNamed? x = some theMethod := by decide +kernel
set_option maxRecDepth 65536 in
theorem w_hears : about1.hears theMethod below0 = true := by decide +kernel
set_option maxRecDepth 65536 in
theorem w_ripe : about1.ripe theMethod args0 below0 = true := by decide +kernel
theorem w_running : about1.status = .running := rfl
set_option maxRecDepth 65536 in
theorem w_room : about1.hasRoom e0.platform room_1 = true :=
  launch0.hasRoom_least _ room_1 (by decide +kernel) (by decide +kernel) (by decide +kernel) (by decide +kernel) (by decide +kernel) (by decide +kernel)
theorem allAtoms_all (ts : List Jvm.Cond) (a : Array Jvm.Value) (st : Jvm.State) : (allAtoms ts).before a st = ts.all (fun c => c.before a st) := by
  induction ts with
  | nil => rfl
  | cons c t ih =>
    show (Jvm.Cond.and c (allAtoms t)).before a st = _
    rw [Jvm.Cond.before_and, ih, List.all_cons]
def words1 : List Jvm.Cond := Jvm.Cond.code x code maxLocals ret :: tables_1
/-- a 'code' word, met by the world's own term for the bytes: nothing is compared byte by byte -/
theorem code_word {y : MethodName} {bytes : ByteArray} {mx : Nat} {rt : Option FieldType} {a : Array Value} {s : State} {m : MethodId} {meth : Method} {c : Code} (h1 : s.methodNamed? y = some m) (h2 : s.vm.method? m = some meth) (h3 : meth.code = some c) (h4 : c.code = bytes)
    (h5 : (c.maxLocals == mx && c.exceptionTable.isEmpty && decide (c.maxStack ≤ mostOperands) && decide (meth.sig.returnType = rt) && !meth.locks && decide (parseMethodDescriptor y.desc = some meth.sig)) = true) : (Jvm.Cond.code y bytes mx rt).before a s = true := by
  simp only [Bool.and_eq_true, beq_iff_eq, Bool.not_eq_true', decide_eq_true_eq] at h5
  obtain ⟨⟨⟨⟨⟨g1, g2⟩, g3⟩, g4⟩, g5⟩, g6⟩ := h5
  simp [Cond.before, Cond.holds, Cond.value, h1, h2, h3, h4, g1, g2, g3, g4, g5, g6]
def isCode : Jvm.Cond → Bool
  | .code _ _ _ _ => true
  | _ => false
theorem all_split {L : List Jvm.Cond} {P : Jvm.Cond → Bool} (h1 : L.all (fun c => isCode c || P c) = true) (h2 : ∀ c ∈ L.filter isCode, P c = true) : L.all P = true := by
  refine List.all_eq_true.mpr fun c hc => ?_
  have h := List.all_eq_true.mp h1 c hc
  rcases Bool.eq_false_or_eq_true (isCode c) with hi | hi
  · exact h2 c (List.mem_filter.mpr ⟨hc, hi⟩)
  · simpa [hi] using h
set_option maxRecDepth 65536 in
theorem w_c0 : (Jvm.Cond.code x code maxLocals ret).before args0 about1 = true := code_word (m := ⟨1, 2⟩) (meth := k1m2) (c := k1c2) (by decide +kernel) rfl rfl rfl (by decide +kernel)
set_option maxRecDepth 65536 in
theorem w_c1 : (Jvm.Cond.code ({ cls := "com/example/elemint/elemint/tree/ElementContentWhitespaceNode", name := "isWhitespace", desc := "(C)Z" } : Jvm.MethodName) prog_58_method_2_code (1 : Nat) (Option.some Jvm.ClassFile.FieldType.boolean)).before args0 about1 = true := code_word (m := ⟨8, 0⟩) (meth := k8m0) (c := k8c0) (by decide +kernel) rfl rfl rfl (by decide +kernel)
set_option maxRecDepth 65536 in
theorem w_c2 : (Jvm.Cond.code ({ cls := "com/example/elemint/elemint/tree/ElementContentWhitespaceNodeIsWhitespacePinLaw", name := "expected", desc := "(C)Z" } : Jvm.MethodName) method_2_code (2 : Nat) (Option.some Jvm.ClassFile.FieldType.boolean)).before args0 about1 = true := code_word (m := ⟨1, 1⟩) (meth := k1m1) (c := k1c1) (by decide +kernel) rfl rfl rfl (by decide +kernel)
def codes1 : List Jvm.Cond := [Jvm.Cond.code x code maxLocals ret, Jvm.Cond.code ({ cls := "com/example/elemint/elemint/tree/ElementContentWhitespaceNode", name := "isWhitespace", desc := "(C)Z" } : Jvm.MethodName) prog_58_method_2_code (1 : Nat) (Option.some Jvm.ClassFile.FieldType.boolean), Jvm.Cond.code ({ cls := "com/example/elemint/elemint/tree/ElementContentWhitespaceNodeIsWhitespacePinLaw", name := "expected", desc := "(C)Z" } : Jvm.MethodName) method_2_code (2 : Nat) (Option.some Jvm.ClassFile.FieldType.boolean)]
set_option maxRecDepth 65536 in
theorem codes_eq : words1.filter isCode = codes1 := rfl
theorem w_codes : ∀ c ∈ words1.filter isCode, c.before args0 about1 = true := by
  rw [codes_eq]
  intro c hc
  simp only [codes1, List.mem_cons, List.not_mem_nil, or_false] at hc
  rcases hc with rfl | rfl | rfl
  · exact w_c0
  · exact w_c1
  · exact w_c2
set_option maxRecDepth 65536 in
theorem w_t1 : words1.all (fun c => isCode c || c.before args0 about1) = true := by decide +kernel
theorem w_tables : (allAtoms (Jvm.Cond.code x code maxLocals ret :: tables_1)).before args0 about1 = true := by
  rw [allAtoms_all]
  show words1.all (fun c => c.before args0 about1) = true
  refine all_split ?_ w_codes
  rw [w_t1]
set_option maxRecDepth 65536 in
theorem w_case : (Jvm.Cond.and given_1 narrow_1).before args0 about1 = true := by decide +kernel
theorem w_applies : (headSpec (Jvm.Cond.code x code maxLocals ret :: tables_1) room_1).applies x e0.platform about1 = true :=
  (Spec.applies_iff w_frames).mpr ⟨w_running, w_runnable, w_alone, w_named, w_hears, w_ripe, w_room, w_tables⟩
theorem atStart : AtStart classFile x code maxLocals ret World_1 tables_1 room_1 Calls_1 rest_1 Pre_1 launch0 p0 e0 about1 theMethod args0 below0 :=
  ⟨lists_1, trivial, launch0.admits_env _ _ _, launch0.least_env, fairChoices_fair.cas, fairChoices_fair.clock, w_frames, w_args, w_heap, w_applies, trivial, trivial, w_case⟩
end start1
theorem witness_1 : WitnessClaimed_1 := ⟨start1.p0, start1.e0, start1.about1, start1.theMethod, start1.args0, start1.below0, start1.atStart⟩
end Jvm.Pilot.@@N@@
