import JvmDerived
import JvmDerived.Pilot.@@N@@Statement
import JvmDerived.Pilot.@@N@@Code
set_option linter.unusedVariables false
set_option linter.unusedSimpArgs false
namespace Jvm.RoadKit
open Sem ClassFile Op Lib Jvm.Stand Jvm.Free Jvm.LawKit
section New
variable {p : Program} {l : Launch} {e : Env} {R : Room} {s : State} {m : MethodId} {args : Array Value} {below : List Frame} {meth : Method} {c : Code} {T : State} {locs : List Loc} {cells slots : Nat}
theorem retI (X : Stand p l e R s m args below meth c T locs cells slots) (hx : p.tables.exec = Jvm.exec) {pc : Nat} {Ls : Array Slot} {z : Int32} {rest : List Value} (hret : meth.sig.returnType = some .int) (hd : decode c.code pc = .ok (.ireturn, 1)) {fs : List Frame}
    (hl : ∀ (f : JFrame) (acts : List Action), f.method = m → f.locked = none → f.entered = [] → (doReturn e (T.setTop f) acts (some (.int z))).1 = T.setFrames fs) : Steps p.tables e below (T.setTop (mkF m pc Ls (.int z :: rest))) (T.setFrames fs) := by
  have hm' : T.vm.method? m = some meth := X.method'
  have hn : narrow .int (.int z) = .int z := rfl
  show Steps p.tables e below (T.setTop { method := m, pc := pc, locals := Ls, stack := _ :: rest, locked := none }) _
  jvm_step X.here [X.here.top, hx, hd, hm', hret, hn]
  first | (intro acts; rw [hl _ acts rfl rfl rfl]) | rw [hl _ _ rfl rfl rfl]
  exact Steps.refl _
/-- from here the run ends and leaves what Q says -/
def Go (p : Program) (e : Env) (below : List Frame) (s : State) (Q : Option Value → Heap → List Loc → Prop) (C N : Nat) (S : State) : Prop :=
  ∃ s₂ o, Steps p.tables e below S s₂ ∧ s₂.status = .running ∧ Ended s₂ below o ∧ ∃ v L, o = .returned v ∧ Q v s₂.heap L ∧ FrameEnd s o s₂ L C N
variable {Q : Option Value → Heap → List Loc → Prop} {C N : Nat}
theorem Go.step {S S' : State} (k : ∀ t, Steps p.tables e below S' t → Steps p.tables e below S t) (g : Go p e below s Q C N S') : Go p e below s Q C N S := by
  obtain ⟨s2, o, h1, h2⟩ := g
  exact ⟨s2, o, k _ h1, h2⟩
theorem Go.retN (X : Stand p l e R s m args below meth c T locs cells slots) (hx : p.tables.exec = Jvm.exec) {pc : Nat} {Ls : Array Slot} {z : Int32} {t : FieldType} {rest : List Value} (hret : meth.sig.returnType = some t) (ht : t = .boolean ∨ t = .byte ∨ t = .char ∨ t = .short) (hlk : meth.locks = false) (hd : decode c.code pc = .ok (.ireturn, 1))
    (hq : Q (some (.int (nar t z))) T.heap locs) (hc : cells ≤ C) (hs : slots ≤ N) : Go p e below s Q C N (T.setTop (mkF m pc Ls (.int z :: rest))) := by
  obtain ⟨fs, hr, hrun, hended, hW, hsame⟩ := X.leave (v := some (.int (nar t z))) (fun h => by rw [hret] at h; cases h) hlk
  exact ⟨_, _, Jvm.RoadKit.retN X hx (t := t) hret ht hd hr, hrun, hended, _, _, rfl, hq, ⟨_, rfl⟩, hW, hsame.mono hc hs⟩
theorem Go.retI (X : Stand p l e R s m args below meth c T locs cells slots) (hx : p.tables.exec = Jvm.exec) {pc : Nat} {Ls : Array Slot} {z : Int32} {rest : List Value} (hret : meth.sig.returnType = some .int) (hlk : meth.locks = false) (hd : decode c.code pc = .ok (.ireturn, 1))
    (hq : Q (some (.int z)) T.heap locs) (hc : cells ≤ C) (hs : slots ≤ N) : Go p e below s Q C N (T.setTop (mkF m pc Ls (.int z :: rest))) := by
  obtain ⟨fs, hr, hrun, hended, hW, hsame⟩ := X.leave (v := some (.int z)) (fun h => by rw [hret] at h; cases h) hlk
  exact ⟨_, _, Jvm.RoadKit.retI X hx hret hd hr, hrun, hended, _, _, rfl, hq, ⟨_, rfl⟩, hW, hsame.mono hc hs⟩
theorem Go.retA (X : Stand p l e R s m args below meth c T locs cells slots) (hx : p.tables.exec = Jvm.exec) {pc : Nat} {Ls : Array Slot} {v : Value} {rest : List Value} {t : FieldType} (hret : meth.sig.returnType = some t) (ht : t.isReference = true) (hv : v.isRef = true) (hlk : meth.locks = false) (hd : decode c.code pc = .ok (.areturn, 1))
    (hq : Q (some v) T.heap locs) (hc : cells ≤ C) (hs : slots ≤ N) : Go p e below s Q C N (T.setTop (mkF m pc Ls (v :: rest))) := by
  obtain ⟨fs, hr, hrun, hended, hW, hsame⟩ := X.leave (v := some v) (fun h => by rw [hret] at h; cases h) hlk
  refine ⟨_, _, ?_, hrun, hended, _, _, rfl, hq, ⟨_, rfl⟩, hW, hsame.mono hc hs⟩
  have hm' : T.vm.method? m = some meth := X.method'
  show Steps p.tables e below (T.setTop { method := m, pc := pc, locals := Ls, stack := v :: rest, locked := none }) _
  jvm_step X.here [X.here.top, hx, hd, hm', hret, hv, ht]
  first | (intro acts; rw [hr _ acts rfl rfl rfl]) | rw [hr _ _ rfl rfl rfl]
  exact Steps.refl _
theorem own_ne {x k : Int32} {z : Int} (hz : k.toInt = z) (h : ¬ x = k) : x.toInt ≠ z := fun q => h (Int32.toInt_inj.mp (q.trans hz.symm))
end New
end Jvm.RoadKit
namespace Jvm.Pilot.@@N@@
open Jvm Jvm.ClassFile Sem Op Lib Jvm.Free Jvm.Stand Jvm.LawKit Jvm.RoadKit Bundle Jvm.Pilot.@@N@@.Jvm.D
theorem d1_0 : decode method_2_code 0 = .ok (.iload_n 0, 1) := by decide +kernel
theorem d1_1 : decode method_2_code 1 = .ok (.tableswitch 135 0 14 #[75, 79, 83, 87, 91, 95, 99, 103, 107, 111, 115, 119, 123, 127, 131], 75) := by decide +kernel
theorem d1_76 : decode method_2_code 76 = .ok (.getstatic 7, 3) := by decide +kernel
theorem d1_79 : decode method_2_code 79 = .ok (.areturn, 1) := by decide +kernel
theorem d1_80 : decode method_2_code 80 = .ok (.getstatic 13, 3) := by decide +kernel
theorem d1_83 : decode method_2_code 83 = .ok (.areturn, 1) := by decide +kernel
theorem d1_84 : decode method_2_code 84 = .ok (.getstatic 16, 3) := by decide +kernel
theorem d1_87 : decode method_2_code 87 = .ok (.areturn, 1) := by decide +kernel
theorem d1_88 : decode method_2_code 88 = .ok (.getstatic 19, 3) := by decide +kernel
theorem d1_91 : decode method_2_code 91 = .ok (.areturn, 1) := by decide +kernel
theorem d1_92 : decode method_2_code 92 = .ok (.getstatic 22, 3) := by decide +kernel
theorem d1_95 : decode method_2_code 95 = .ok (.areturn, 1) := by decide +kernel
theorem d1_96 : decode method_2_code 96 = .ok (.getstatic 25, 3) := by decide +kernel
theorem d1_99 : decode method_2_code 99 = .ok (.areturn, 1) := by decide +kernel
theorem d1_100 : decode method_2_code 100 = .ok (.getstatic 28, 3) := by decide +kernel
theorem d1_103 : decode method_2_code 103 = .ok (.areturn, 1) := by decide +kernel
theorem d1_104 : decode method_2_code 104 = .ok (.getstatic 31, 3) := by decide +kernel
theorem d1_107 : decode method_2_code 107 = .ok (.areturn, 1) := by decide +kernel
theorem d1_108 : decode method_2_code 108 = .ok (.getstatic 34, 3) := by decide +kernel
theorem d1_111 : decode method_2_code 111 = .ok (.areturn, 1) := by decide +kernel
theorem d1_112 : decode method_2_code 112 = .ok (.getstatic 37, 3) := by decide +kernel
theorem d1_115 : decode method_2_code 115 = .ok (.areturn, 1) := by decide +kernel
theorem d1_116 : decode method_2_code 116 = .ok (.getstatic 40, 3) := by decide +kernel
theorem d1_119 : decode method_2_code 119 = .ok (.areturn, 1) := by decide +kernel
theorem d1_120 : decode method_2_code 120 = .ok (.getstatic 43, 3) := by decide +kernel
theorem d1_123 : decode method_2_code 123 = .ok (.areturn, 1) := by decide +kernel
theorem d1_124 : decode method_2_code 124 = .ok (.getstatic 46, 3) := by decide +kernel
theorem d1_127 : decode method_2_code 127 = .ok (.areturn, 1) := by decide +kernel
theorem d1_128 : decode method_2_code 128 = .ok (.getstatic 49, 3) := by decide +kernel
theorem d1_131 : decode method_2_code 131 = .ok (.areturn, 1) := by decide +kernel
theorem d1_132 : decode method_2_code 132 = .ok (.getstatic 52, 3) := by decide +kernel
theorem d1_135 : decode method_2_code 135 = .ok (.areturn, 1) := by decide +kernel
theorem d1_136 : decode method_2_code 136 = .ok (.getstatic 55, 3) := by decide +kernel
theorem d1_139 : decode method_2_code 139 = .ok (.areturn, 1) := by decide +kernel
theorem pn0 : plainName "com/example/triplewell/triplewell/model/OperatorTakesPinLaw" = true := by first | (simp [plainName, overriddenIn]; done) | decide +kernel
theorem pd0 : parseMethodDescriptor "(I)Lcom/example/triplewell/triplewell/model/Operator;" = some ⟨[.int], some (.object "com/example/triplewell/triplewell/model/Operator")⟩ := by decide +kernel
theorem ef1 (m : MethodId) (x0 : Int32) : entryFrame m #[(.int x0)] 1 = mkF m 0 #[.val (.int x0)] [] := by first | (simp [entryFrame, mkF, argsToLocals, Value.category]; done) | rfl
def f1 (x0 : Int32) (w : Nat → Addr) : Addr := (if x0 = (0 : Int32) then (w 0) else (if x0 = (1 : Int32) then (w 1) else (if x0 = (2 : Int32) then (w 2) else (if x0 = (3 : Int32) then (w 3) else (if x0 = (4 : Int32) then (w 4) else (if x0 = (5 : Int32) then (w 5) else (if x0 = (6 : Int32) then (w 6) else (if x0 = (7 : Int32) then (w 7) else (if x0 = (8 : Int32) then (w 8) else (if x0 = (9 : Int32) then (w 9) else (if x0 = (10 : Int32) then (w 10) else (if x0 = (11 : Int32) then (w 11) else (if x0 = (12 : Int32) then (w 12) else (if x0 = (13 : Int32) then (w 13) else (if x0 = (14 : Int32) then (w 14) else (w 15))))))))))))))))
def Q1 (x0 : Int32) (w : Nat → Addr) (h0 : Heap) (n0 : Nat) (v : Option Value) (h : Heap) (L : List Loc) : Prop := v = some (.ref (f1 x0 w)) ∧ Fr n0 L ∧ h = h0
set_option maxRecDepth 65536 in
set_option maxHeartbeats 40000000 in
theorem rm1 (l : Launch) (Z : State) (a0 : Array Value) (hw : ∀ d ∈ tables_1, d.before a0 Z = true) (ws : List Jvm.Cond) (x0 : Int32) (w : Nat → Addr) (h0 : Heap) (n0 : Nat) (Z0 : n0 ≤ h0.size) (S_UUID : Sta Z h0 "com/example/triplewell/triplewell/model/Operator" "UUID" "Lcom/example/triplewell/triplewell/model/Operator;" (.ref (w 0))) (S_NOT : Sta Z h0 "com/example/triplewell/triplewell/model/Operator" "NOT" "Lcom/example/triplewell/triplewell/model/Operator;" (.ref (w 1))) (S_OR : Sta Z h0 "com/example/triplewell/triplewell/model/Operator" "OR" "Lcom/example/triplewell/triplewell/model/Operator;" (.ref (w 2))) (S_IF : Sta Z h0 "com/example/triplewell/triplewell/model/Operator" "IF" "Lcom/example/triplewell/triplewell/model/Operator;" (.ref (w 3))) (S_BNODE : Sta Z h0 "com/example/triplewell/triplewell/model/Operator" "BNODE" "Lcom/example/triplewell/triplewell/model/Operator;" (.ref (w 4))) (S_IRI : Sta Z h0 "com/example/triplewell/triplewell/model/Operator" "IRI" "Lcom/example/triplewell/triplewell/model/Operator;" (.ref (w 5))) (S_REGEX : Sta Z h0 "com/example/triplewell/triplewell/model/Operator" "REGEX" "Lcom/example/triplewell/triplewell/model/Operator;" (.ref (w 6))) (S_REPLACE : Sta Z h0 "com/example/triplewell/triplewell/model/Operator" "REPLACE" "Lcom/example/triplewell/triplewell/model/Operator;" (.ref (w 7))) (S_COALESCE : Sta Z h0 "com/example/triplewell/triplewell/model/Operator" "COALESCE" "Lcom/example/triplewell/triplewell/model/Operator;" (.ref (w 8))) (S_IN : Sta Z h0 "com/example/triplewell/triplewell/model/Operator" "IN" "Lcom/example/triplewell/triplewell/model/Operator;" (.ref (w 9))) (S_CONCAT : Sta Z h0 "com/example/triplewell/triplewell/model/Operator" "CONCAT" "Lcom/example/triplewell/triplewell/model/Operator;" (.ref (w 10))) (S_SUBSTR : Sta Z h0 "com/example/triplewell/triplewell/model/Operator" "SUBSTR" "Lcom/example/triplewell/triplewell/model/Operator;" (.ref (w 11))) (S_SAME_TERM : Sta Z h0 "com/example/triplewell/triplewell/model/Operator" "SAME_TERM" "Lcom/example/triplewell/triplewell/model/Operator;" (.ref (w 12))) (S_STRLEN : Sta Z h0 "com/example/triplewell/triplewell/model/Operator" "STRLEN" "Lcom/example/triplewell/triplewell/model/Operator;" (.ref (w 13))) (S_RAND : Sta Z h0 "com/example/triplewell/triplewell/model/Operator" "RAND" "Lcom/example/triplewell/triplewell/model/Operator;" (.ref (w 14))) (S_STRDT : Sta Z h0 "com/example/triplewell/triplewell/model/Operator" "STRDT" "Lcom/example/triplewell/triplewell/model/Operator;" (.ref (w 15))) :
    MetFree l (⟨"com/example/triplewell/triplewell/model/OperatorTakesPinLaw", "op", "(I)Lcom/example/triplewell/triplewell/model/Operator;"⟩ : MethodName) (head1 (Jvm.Cond.code (⟨"com/example/triplewell/triplewell/model/OperatorTakesPinLaw", "op", "(I)Lcom/example/triplewell/triplewell/model/Operator;"⟩ : MethodName) method_2_code 1 (some (.object "com/example/triplewell/triplewell/model/Operator")) :: ws) ({ frames := 0, cells := 0, slots := 0, locals := 0 } : Room)) (fun a U => a = #[(.int x0)] ∧ Z.Warmed39 U.vm ∧ U.heap = h0) (fun _ _ _ _ _ => True) (fun _ U o U' => ∃ v L, o = .returned v ∧ Q1 x0 w h0 n0 v U'.heap L ∧ FrameEnd U o U' L ({ frames := 0, cells := 0, slots := 0, locals := 0 } : Room).cells ({ frames := 0, cells := 0, slots := 0, locals := 0 } : Room).slots) := by
  refine MetFree.of_bodySF (plainFor_of_name pn0) hisR ?_
  intro p e s m args below meth c s₁ Bd hml0 hP hK
  obtain ⟨rfl, hZ, hh⟩ := hP
  have hx := Bd.exec
  have hby := Bd.bytes
  have hml : c.maxLocals = 1 := hml0
  have hown : s.vm.findClass "com/example/triplewell/triplewell/model/OperatorTakesPinLaw" = some m.cls := findClass_of_methodNamed Bd.named
  have X0 : Stand p l e ({ frames := 0, cells := 0, slots := 0, locals := 0 } : Room) s m #[(.int x0)] below meth c s₁ [] 0 0 := Stand.of_body Bd
  have e0 : s₁.heap = h0 := by rw [← hh, Bd.state]; rfl
  obtain ⟨r, hr0⟩ : ∃ r, f1 x0 w = r := ⟨_, rfl⟩
  have B0 : ∀  (T : State) (locs : List Loc) (X : Stand p l e ({ frames := 0, cells := 0, slots := 0, locals := 0 } : Room) s m #[(.int x0)] below meth c T locs 0 0) (eT : T.heap = h0) (NF : Fr n0 locs) (hr : f1 x0 w = r), Go p e below s (Q1 x0 w h0 n0) ({ frames := 0, cells := 0, slots := 0, locals := 0 } : Room).cells ({ frames := 0, cells := 0, slots := 0, locals := 0 } : Room).slots (T.setTop (mkF m 0 #[.val (.int x0)] [])) := by
    intro  T locs X eT NF hr
    unfold f1 at hr
    refine Go.step (S' := T.setTop (mkF m 1 #[.val (.int x0)] [(.int x0)])) (fun t k => XS.iloadN X.here hx rfl (hb hby d1_0) rfl k) ?_
    by_cases hc1 : x0 = (0 : Int32)
    · rw [if_pos hc1] at hr
      refine Go.step (S' := T.setTop (mkF m 76 #[.val (.int x0)] [])) (fun t k => XS.tswIn X.here hx rfl (pc0 := 1) (pc' := 76) (o := 75) rfl (hb hby d1_1) rfl (by rw [hc1]; decide) (by rw [hc1]; rfl) (by decide) (by decide) k) ?_
      obtain ⟨T2, X2, e2, st2⟩ := getS2 X hx hZ hown (host := "") (Or.inl (hw _ (List.mem_of_getElem? (i := 4) rfl))) Via.refl eT S_UUID (g := (mkF m 76 #[.val (.int x0)] [])) rfl (hb hby d1_76)
      refine Go.step (S' := T2.setTop (mkF m 79 #[.val (.int x0)] [(.ref (w 0))])) (fun t k => st2 t k) ?_
      exact Go.retA X2 hx Bd.returns rfl rfl Bd.notSynchronized (hb hby d1_79) ⟨by rw [hr0, ← hr]; first | done | rfl, NF, e2⟩ (by decide) (by decide)
    · rw [if_neg hc1] at hr
      by_cases hc3 : x0 = (1 : Int32)
      · rw [if_pos hc3] at hr
        refine Go.step (S' := T.setTop (mkF m 80 #[.val (.int x0)] [])) (fun t k => XS.tswIn X.here hx rfl (pc0 := 1) (pc' := 80) (o := 79) rfl (hb hby d1_1) rfl (by rw [hc3]; decide) (by rw [hc3]; rfl) (by decide) (by decide) k) ?_
        obtain ⟨T4, X4, e4, st4⟩ := getS2 X hx hZ hown (host := "") (Or.inl (hw _ (List.mem_of_getElem? (i := 40) rfl))) Via.refl eT S_NOT (g := (mkF m 80 #[.val (.int x0)] [])) rfl (hb hby d1_80)
        refine Go.step (S' := T4.setTop (mkF m 83 #[.val (.int x0)] [(.ref (w 1))])) (fun t k => st4 t k) ?_
        exact Go.retA X4 hx Bd.returns rfl rfl Bd.notSynchronized (hb hby d1_83) ⟨by rw [hr0, ← hr]; first | done | rfl, NF, e4⟩ (by decide) (by decide)
      · rw [if_neg hc3] at hr
        by_cases hc5 : x0 = (2 : Int32)
        · rw [if_pos hc5] at hr
          refine Go.step (S' := T.setTop (mkF m 84 #[.val (.int x0)] [])) (fun t k => XS.tswIn X.here hx rfl (pc0 := 1) (pc' := 84) (o := 83) rfl (hb hby d1_1) rfl (by rw [hc5]; decide) (by rw [hc5]; rfl) (by decide) (by decide) k) ?_
          obtain ⟨T6, X6, e6, st6⟩ := getS2 X hx hZ hown (host := "") (Or.inl (hw _ (List.mem_of_getElem? (i := 44) rfl))) Via.refl eT S_OR (g := (mkF m 84 #[.val (.int x0)] [])) rfl (hb hby d1_84)
          refine Go.step (S' := T6.setTop (mkF m 87 #[.val (.int x0)] [(.ref (w 2))])) (fun t k => st6 t k) ?_
          exact Go.retA X6 hx Bd.returns rfl rfl Bd.notSynchronized (hb hby d1_87) ⟨by rw [hr0, ← hr]; first | done | rfl, NF, e6⟩ (by decide) (by decide)
        · rw [if_neg hc5] at hr
          by_cases hc7 : x0 = (3 : Int32)
          · rw [if_pos hc7] at hr
            refine Go.step (S' := T.setTop (mkF m 88 #[.val (.int x0)] [])) (fun t k => XS.tswIn X.here hx rfl (pc0 := 1) (pc' := 88) (o := 87) rfl (hb hby d1_1) rfl (by rw [hc7]; decide) (by rw [hc7]; rfl) (by decide) (by decide) k) ?_
            obtain ⟨T8, X8, e8, st8⟩ := getS2 X hx hZ hown (host := "") (Or.inl (hw _ (List.mem_of_getElem? (i := 36) rfl))) Via.refl eT S_IF (g := (mkF m 88 #[.val (.int x0)] [])) rfl (hb hby d1_88)
            refine Go.step (S' := T8.setTop (mkF m 91 #[.val (.int x0)] [(.ref (w 3))])) (fun t k => st8 t k) ?_
            exact Go.retA X8 hx Bd.returns rfl rfl Bd.notSynchronized (hb hby d1_91) ⟨by rw [hr0, ← hr]; first | done | rfl, NF, e8⟩ (by decide) (by decide)
          · rw [if_neg hc7] at hr
            by_cases hc9 : x0 = (4 : Int32)
            · rw [if_pos hc9] at hr
              refine Go.step (S' := T.setTop (mkF m 92 #[.val (.int x0)] [])) (fun t k => XS.tswIn X.here hx rfl (pc0 := 1) (pc' := 92) (o := 91) rfl (hb hby d1_1) rfl (by rw [hc9]; decide) (by rw [hc9]; rfl) (by decide) (by decide) k) ?_
              obtain ⟨T10, X10, e10, st10⟩ := getS2 X hx hZ hown (host := "") (Or.inl (hw _ (List.mem_of_getElem? (i := 52) rfl))) Via.refl eT S_BNODE (g := (mkF m 92 #[.val (.int x0)] [])) rfl (hb hby d1_92)
              refine Go.step (S' := T10.setTop (mkF m 95 #[.val (.int x0)] [(.ref (w 4))])) (fun t k => st10 t k) ?_
              exact Go.retA X10 hx Bd.returns rfl rfl Bd.notSynchronized (hb hby d1_95) ⟨by rw [hr0, ← hr]; first | done | rfl, NF, e10⟩ (by decide) (by decide)
            · rw [if_neg hc9] at hr
              by_cases hc11 : x0 = (5 : Int32)
              · rw [if_pos hc11] at hr
                refine Go.step (S' := T.setTop (mkF m 96 #[.val (.int x0)] [])) (fun t k => XS.tswIn X.here hx rfl (pc0 := 1) (pc' := 96) (o := 95) rfl (hb hby d1_1) rfl (by rw [hc11]; decide) (by rw [hc11]; rfl) (by decide) (by decide) k) ?_
                obtain ⟨T12, X12, e12, st12⟩ := getS2 X hx hZ hown (host := "") (Or.inl (hw _ (List.mem_of_getElem? (i := 42) rfl))) Via.refl eT S_IRI (g := (mkF m 96 #[.val (.int x0)] [])) rfl (hb hby d1_96)
                refine Go.step (S' := T12.setTop (mkF m 99 #[.val (.int x0)] [(.ref (w 5))])) (fun t k => st12 t k) ?_
                exact Go.retA X12 hx Bd.returns rfl rfl Bd.notSynchronized (hb hby d1_99) ⟨by rw [hr0, ← hr]; first | done | rfl, NF, e12⟩ (by decide) (by decide)
              · rw [if_neg hc11] at hr
                by_cases hc13 : x0 = (6 : Int32)
                · rw [if_pos hc13] at hr
                  refine Go.step (S' := T.setTop (mkF m 100 #[.val (.int x0)] [])) (fun t k => XS.tswIn X.here hx rfl (pc0 := 1) (pc' := 100) (o := 99) rfl (hb hby d1_1) rfl (by rw [hc13]; decide) (by rw [hc13]; rfl) (by decide) (by decide) k) ?_
                  obtain ⟨T14, X14, e14, st14⟩ := getS2 X hx hZ hown (host := "") (Or.inl (hw _ (List.mem_of_getElem? (i := 32) rfl))) Via.refl eT S_REGEX (g := (mkF m 100 #[.val (.int x0)] [])) rfl (hb hby d1_100)
                  refine Go.step (S' := T14.setTop (mkF m 103 #[.val (.int x0)] [(.ref (w 6))])) (fun t k => st14 t k) ?_
                  exact Go.retA X14 hx Bd.returns rfl rfl Bd.notSynchronized (hb hby d1_103) ⟨by rw [hr0, ← hr]; first | done | rfl, NF, e14⟩ (by decide) (by decide)
                · rw [if_neg hc13] at hr
                  by_cases hc15 : x0 = (7 : Int32)
                  · rw [if_pos hc15] at hr
                    refine Go.step (S' := T.setTop (mkF m 104 #[.val (.int x0)] [])) (fun t k => XS.tswIn X.here hx rfl (pc0 := 1) (pc' := 104) (o := 103) rfl (hb hby d1_1) rfl (by rw [hc15]; decide) (by rw [hc15]; rfl) (by decide) (by decide) k) ?_
                    obtain ⟨T16, X16, e16, st16⟩ := getS2 X hx hZ hown (host := "") (Or.inl (hw _ (List.mem_of_getElem? (i := 34) rfl))) Via.refl eT S_REPLACE (g := (mkF m 104 #[.val (.int x0)] [])) rfl (hb hby d1_104)
                    refine Go.step (S' := T16.setTop (mkF m 107 #[.val (.int x0)] [(.ref (w 7))])) (fun t k => st16 t k) ?_
                    exact Go.retA X16 hx Bd.returns rfl rfl Bd.notSynchronized (hb hby d1_107) ⟨by rw [hr0, ← hr]; first | done | rfl, NF, e16⟩ (by decide) (by decide)
                  · rw [if_neg hc15] at hr
                    by_cases hc17 : x0 = (8 : Int32)
                    · rw [if_pos hc17] at hr
                      refine Go.step (S' := T.setTop (mkF m 108 #[.val (.int x0)] [])) (fun t k => XS.tswIn X.here hx rfl (pc0 := 1) (pc' := 108) (o := 107) rfl (hb hby d1_1) rfl (by rw [hc17]; decide) (by rw [hc17]; rfl) (by decide) (by decide) k) ?_
                      obtain ⟨T18, X18, e18, st18⟩ := getS2 X hx hZ hown (host := "") (Or.inl (hw _ (List.mem_of_getElem? (i := 28) rfl))) Via.refl eT S_COALESCE (g := (mkF m 108 #[.val (.int x0)] [])) rfl (hb hby d1_108)
                      refine Go.step (S' := T18.setTop (mkF m 111 #[.val (.int x0)] [(.ref (w 8))])) (fun t k => st18 t k) ?_
                      exact Go.retA X18 hx Bd.returns rfl rfl Bd.notSynchronized (hb hby d1_111) ⟨by rw [hr0, ← hr]; first | done | rfl, NF, e18⟩ (by decide) (by decide)
                    · rw [if_neg hc17] at hr
                      by_cases hc19 : x0 = (9 : Int32)
                      · rw [if_pos hc19] at hr
                        refine Go.step (S' := T.setTop (mkF m 112 #[.val (.int x0)] [])) (fun t k => XS.tswIn X.here hx rfl (pc0 := 1) (pc' := 112) (o := 111) rfl (hb hby d1_1) rfl (by rw [hc19]; decide) (by rw [hc19]; rfl) (by decide) (by decide) k) ?_
                        obtain ⟨T20, X20, e20, st20⟩ := getS2 X hx hZ hown (host := "") (Or.inl (hw _ (List.mem_of_getElem? (i := 50) rfl))) Via.refl eT S_IN (g := (mkF m 112 #[.val (.int x0)] [])) rfl (hb hby d1_112)
                        refine Go.step (S' := T20.setTop (mkF m 115 #[.val (.int x0)] [(.ref (w 9))])) (fun t k => st20 t k) ?_
                        exact Go.retA X20 hx Bd.returns rfl rfl Bd.notSynchronized (hb hby d1_115) ⟨by rw [hr0, ← hr]; first | done | rfl, NF, e20⟩ (by decide) (by decide)
                      · rw [if_neg hc19] at hr
                        by_cases hc21 : x0 = (10 : Int32)
                        · rw [if_pos hc21] at hr
                          refine Go.step (S' := T.setTop (mkF m 116 #[.val (.int x0)] [])) (fun t k => XS.tswIn X.here hx rfl (pc0 := 1) (pc' := 116) (o := 115) rfl (hb hby d1_1) rfl (by rw [hc21]; decide) (by rw [hc21]; rfl) (by decide) (by decide) k) ?_
                          obtain ⟨T22, X22, e22, st22⟩ := getS2 X hx hZ hown (host := "") (Or.inl (hw _ (List.mem_of_getElem? (i := 46) rfl))) Via.refl eT S_CONCAT (g := (mkF m 116 #[.val (.int x0)] [])) rfl (hb hby d1_116)
                          refine Go.step (S' := T22.setTop (mkF m 119 #[.val (.int x0)] [(.ref (w 10))])) (fun t k => st22 t k) ?_
                          exact Go.retA X22 hx Bd.returns rfl rfl Bd.notSynchronized (hb hby d1_119) ⟨by rw [hr0, ← hr]; first | done | rfl, NF, e22⟩ (by decide) (by decide)
                        · rw [if_neg hc21] at hr
                          by_cases hc23 : x0 = (11 : Int32)
                          · rw [if_pos hc23] at hr
                            refine Go.step (S' := T.setTop (mkF m 120 #[.val (.int x0)] [])) (fun t k => XS.tswIn X.here hx rfl (pc0 := 1) (pc' := 120) (o := 119) rfl (hb hby d1_1) rfl (by rw [hc23]; decide) (by rw [hc23]; rfl) (by decide) (by decide) k) ?_
                            obtain ⟨T24, X24, e24, st24⟩ := getS2 X hx hZ hown (host := "") (Or.inl (hw _ (List.mem_of_getElem? (i := 48) rfl))) Via.refl eT S_SUBSTR (g := (mkF m 120 #[.val (.int x0)] [])) rfl (hb hby d1_120)
                            refine Go.step (S' := T24.setTop (mkF m 123 #[.val (.int x0)] [(.ref (w 11))])) (fun t k => st24 t k) ?_
                            exact Go.retA X24 hx Bd.returns rfl rfl Bd.notSynchronized (hb hby d1_123) ⟨by rw [hr0, ← hr]; first | done | rfl, NF, e24⟩ (by decide) (by decide)
                          · rw [if_neg hc23] at hr
                            by_cases hc25 : x0 = (12 : Int32)
                            · rw [if_pos hc25] at hr
                              refine Go.step (S' := T.setTop (mkF m 124 #[.val (.int x0)] [])) (fun t k => XS.tswIn X.here hx rfl (pc0 := 1) (pc' := 124) (o := 123) rfl (hb hby d1_1) rfl (by rw [hc25]; decide) (by rw [hc25]; rfl) (by decide) (by decide) k) ?_
                              obtain ⟨T26, X26, e26, st26⟩ := getS2 X hx hZ hown (host := "") (Or.inl (hw _ (List.mem_of_getElem? (i := 26) rfl))) Via.refl eT S_SAME_TERM (g := (mkF m 124 #[.val (.int x0)] [])) rfl (hb hby d1_124)
                              refine Go.step (S' := T26.setTop (mkF m 127 #[.val (.int x0)] [(.ref (w 12))])) (fun t k => st26 t k) ?_
                              exact Go.retA X26 hx Bd.returns rfl rfl Bd.notSynchronized (hb hby d1_127) ⟨by rw [hr0, ← hr]; first | done | rfl, NF, e26⟩ (by decide) (by decide)
                            · rw [if_neg hc25] at hr
                              by_cases hc27 : x0 = (13 : Int32)
                              · rw [if_pos hc27] at hr
                                refine Go.step (S' := T.setTop (mkF m 128 #[.val (.int x0)] [])) (fun t k => XS.tswIn X.here hx rfl (pc0 := 1) (pc' := 128) (o := 127) rfl (hb hby d1_1) rfl (by rw [hc27]; decide) (by rw [hc27]; rfl) (by decide) (by decide) k) ?_
                                obtain ⟨T28, X28, e28, st28⟩ := getS2 X hx hZ hown (host := "") (Or.inl (hw _ (List.mem_of_getElem? (i := 30) rfl))) Via.refl eT S_STRLEN (g := (mkF m 128 #[.val (.int x0)] [])) rfl (hb hby d1_128)
                                refine Go.step (S' := T28.setTop (mkF m 131 #[.val (.int x0)] [(.ref (w 13))])) (fun t k => st28 t k) ?_
                                exact Go.retA X28 hx Bd.returns rfl rfl Bd.notSynchronized (hb hby d1_131) ⟨by rw [hr0, ← hr]; first | done | rfl, NF, e28⟩ (by decide) (by decide)
                              · rw [if_neg hc27] at hr
                                by_cases hc29 : x0 = (14 : Int32)
                                · rw [if_pos hc29] at hr
                                  refine Go.step (S' := T.setTop (mkF m 132 #[.val (.int x0)] [])) (fun t k => XS.tswIn X.here hx rfl (pc0 := 1) (pc' := 132) (o := 131) rfl (hb hby d1_1) rfl (by rw [hc29]; decide) (by rw [hc29]; rfl) (by decide) (by decide) k) ?_
                                  obtain ⟨T30, X30, e30, st30⟩ := getS2 X hx hZ hown (host := "") (Or.inl (hw _ (List.mem_of_getElem? (i := 24) rfl))) Via.refl eT S_RAND (g := (mkF m 132 #[.val (.int x0)] [])) rfl (hb hby d1_132)
                                  refine Go.step (S' := T30.setTop (mkF m 135 #[.val (.int x0)] [(.ref (w 14))])) (fun t k => st30 t k) ?_
                                  exact Go.retA X30 hx Bd.returns rfl rfl Bd.notSynchronized (hb hby d1_135) ⟨by rw [hr0, ← hr]; first | done | rfl, NF, e30⟩ (by decide) (by decide)
                                · rw [if_neg hc29] at hr
                                  refine Go.step (S' := T.setTop (mkF m 136 #[.val (.int x0)] [])) (fun t k => XS.tswOut X.here hx rfl (pc0 := 1) (pc' := 136) rfl (hb hby d1_1) rfl (by have q0 := own_ne (z := 0) (by decide) hc1; have q1 := own_ne (z := 1) (by decide) hc3; have q2 := own_ne (z := 2) (by decide) hc5; have q3 := own_ne (z := 3) (by decide) hc7; have q4 := own_ne (z := 4) (by decide) hc9; have q5 := own_ne (z := 5) (by decide) hc11; have q6 := own_ne (z := 6) (by decide) hc13; have q7 := own_ne (z := 7) (by decide) hc15; have q8 := own_ne (z := 8) (by decide) hc17; have q9 := own_ne (z := 9) (by decide) hc19; have q10 := own_ne (z := 10) (by decide) hc21; have q11 := own_ne (z := 11) (by decide) hc23; have q12 := own_ne (z := 12) (by decide) hc25; have q13 := own_ne (z := 13) (by decide) hc27; have q14 := own_ne (z := 14) (by decide) hc29; omega) (by decide) (by decide) k) ?_
                                  obtain ⟨T31, X31, e31, st31⟩ := getS2 X hx hZ hown (host := "") (Or.inl (hw _ (List.mem_of_getElem? (i := 38) rfl))) Via.refl eT S_STRDT (g := (mkF m 136 #[.val (.int x0)] [])) rfl (hb hby d1_136)
                                  refine Go.step (S' := T31.setTop (mkF m 139 #[.val (.int x0)] [(.ref (w 15))])) (fun t k => st31 t k) ?_
                                  exact Go.retA X31 hx Bd.returns rfl rfl Bd.notSynchronized (hb hby d1_139) ⟨by rw [hr0, ← hr]; first | done | rfl, NF, e31⟩ (by decide) (by decide)
  show Go p e below s (Q1 x0 w h0 n0) ({ frames := 0, cells := 0, slots := 0, locals := 0 } : Room).cells ({ frames := 0, cells := 0, slots := 0, locals := 0 } : Room).slots (s₁.setTop (entryFrame m #[(.int x0)] 1))
  rw [ef1]
  exact B0 s₁ [] X0 e0 (Fr.nil n0) hr0
theorem d2_0 : decode method_3_code 0 = .ok (.iload_n 0, 1) := by decide +kernel
theorem d2_1 : decode method_3_code 1 = .ok (.tableswitch 105 0 14 #[75, 77, 79, 81, 83, 85, 87, 89, 91, 93, 95, 97, 99, 101, 103], 75) := by decide +kernel
theorem d2_76 : decode method_3_code 76 = .ok (.iconst 0, 1) := by decide +kernel
theorem d2_77 : decode method_3_code 77 = .ok (.ireturn, 1) := by decide +kernel
theorem d2_78 : decode method_3_code 78 = .ok (.iconst 1, 1) := by decide +kernel
theorem d2_79 : decode method_3_code 79 = .ok (.ireturn, 1) := by decide +kernel
theorem d2_80 : decode method_3_code 80 = .ok (.iconst 2, 1) := by decide +kernel
theorem d2_81 : decode method_3_code 81 = .ok (.ireturn, 1) := by decide +kernel
theorem d2_82 : decode method_3_code 82 = .ok (.iconst 3, 1) := by decide +kernel
theorem d2_83 : decode method_3_code 83 = .ok (.ireturn, 1) := by decide +kernel
theorem d2_84 : decode method_3_code 84 = .ok (.iconst 0, 1) := by decide +kernel
theorem d2_85 : decode method_3_code 85 = .ok (.ireturn, 1) := by decide +kernel
theorem d2_86 : decode method_3_code 86 = .ok (.iconst 1, 1) := by decide +kernel
theorem d2_87 : decode method_3_code 87 = .ok (.ireturn, 1) := by decide +kernel
theorem d2_88 : decode method_3_code 88 = .ok (.iconst 2, 1) := by decide +kernel
theorem d2_89 : decode method_3_code 89 = .ok (.ireturn, 1) := by decide +kernel
theorem d2_90 : decode method_3_code 90 = .ok (.iconst 3, 1) := by decide +kernel
theorem d2_91 : decode method_3_code 91 = .ok (.ireturn, 1) := by decide +kernel
theorem d2_92 : decode method_3_code 92 = .ok (.iconst 0, 1) := by decide +kernel
theorem d2_93 : decode method_3_code 93 = .ok (.ireturn, 1) := by decide +kernel
theorem d2_94 : decode method_3_code 94 = .ok (.iconst 1, 1) := by decide +kernel
theorem d2_95 : decode method_3_code 95 = .ok (.ireturn, 1) := by decide +kernel
theorem d2_96 : decode method_3_code 96 = .ok (.iconst 0, 1) := by decide +kernel
theorem d2_97 : decode method_3_code 97 = .ok (.ireturn, 1) := by decide +kernel
theorem d2_98 : decode method_3_code 98 = .ok (.iconst 2, 1) := by decide +kernel
theorem d2_99 : decode method_3_code 99 = .ok (.ireturn, 1) := by decide +kernel
theorem d2_100 : decode method_3_code 100 = .ok (.iconst 2, 1) := by decide +kernel
theorem d2_101 : decode method_3_code 101 = .ok (.ireturn, 1) := by decide +kernel
theorem d2_102 : decode method_3_code 102 = .ok (.iconst 1, 1) := by decide +kernel
theorem d2_103 : decode method_3_code 103 = .ok (.ireturn, 1) := by decide +kernel
theorem d2_104 : decode method_3_code 104 = .ok (.iconst 0, 1) := by decide +kernel
theorem d2_105 : decode method_3_code 105 = .ok (.ireturn, 1) := by decide +kernel
theorem d2_106 : decode method_3_code 106 = .ok (.iconst 2, 1) := by decide +kernel
theorem d2_107 : decode method_3_code 107 = .ok (.ireturn, 1) := by decide +kernel
theorem pd1 : parseMethodDescriptor "(I)I" = some ⟨[.int], some .int⟩ := by decide +kernel
theorem ef2 (m : MethodId) (x0 : Int32) : entryFrame m #[(.int x0)] 1 = mkF m 0 #[.val (.int x0)] [] := by first | (simp [entryFrame, mkF, argsToLocals, Value.category]; done) | rfl
def f2 (x0 : Int32) : Int32 := (if x0 = (0 : Int32) then (0 : Int32) else (if x0 = (1 : Int32) then (1 : Int32) else (if x0 = (2 : Int32) then (2 : Int32) else (if x0 = (3 : Int32) then (3 : Int32) else (if x0 = (4 : Int32) then (0 : Int32) else (if x0 = (5 : Int32) then (1 : Int32) else (if x0 = (6 : Int32) then (2 : Int32) else (if x0 = (7 : Int32) then (3 : Int32) else (if x0 = (8 : Int32) then (0 : Int32) else (if x0 = (9 : Int32) then (1 : Int32) else (if x0 = (10 : Int32) then (0 : Int32) else (if x0 = (11 : Int32) then (2 : Int32) else (if x0 = (12 : Int32) then (2 : Int32) else (if x0 = (13 : Int32) then (1 : Int32) else (if x0 = (14 : Int32) then (0 : Int32) else (2 : Int32))))))))))))))))
def Q2 (x0 : Int32) (h0 : Heap) (n0 : Nat) (v : Option Value) (h : Heap) (L : List Loc) : Prop := v = some (.int (f2 x0)) ∧ Fr n0 L ∧ h = h0
set_option maxRecDepth 65536 in
set_option maxHeartbeats 40000000 in
theorem rm2 (l : Launch) (Z : State) (a0 : Array Value) (hw : ∀ d ∈ tables_1, d.before a0 Z = true) (ws : List Jvm.Cond) (x0 : Int32) (h0 : Heap) (n0 : Nat) (Z0 : n0 ≤ h0.size) :
    MetFree l (⟨"com/example/triplewell/triplewell/model/OperatorTakesPinLaw", "lo", "(I)I"⟩ : MethodName) (head1 (Jvm.Cond.code (⟨"com/example/triplewell/triplewell/model/OperatorTakesPinLaw", "lo", "(I)I"⟩ : MethodName) method_3_code 1 (some .int) :: ws) ({ frames := 0, cells := 0, slots := 0, locals := 0 } : Room)) (fun a U => a = #[(.int x0)] ∧ Z.Warmed39 U.vm ∧ U.heap = h0) (fun _ _ _ _ _ => True) (fun _ U o U' => ∃ v L, o = .returned v ∧ Q2 x0 h0 n0 v U'.heap L ∧ FrameEnd U o U' L ({ frames := 0, cells := 0, slots := 0, locals := 0 } : Room).cells ({ frames := 0, cells := 0, slots := 0, locals := 0 } : Room).slots) := by
  refine MetFree.of_bodySF (plainFor_of_name pn0) hisR ?_
  intro p e s m args below meth c s₁ Bd hml0 hP hK
  obtain ⟨rfl, hZ, hh⟩ := hP
  have hx := Bd.exec
  have hby := Bd.bytes
  have hml : c.maxLocals = 1 := hml0
  have hown : s.vm.findClass "com/example/triplewell/triplewell/model/OperatorTakesPinLaw" = some m.cls := findClass_of_methodNamed Bd.named
  have X0 : Stand p l e ({ frames := 0, cells := 0, slots := 0, locals := 0 } : Room) s m #[(.int x0)] below meth c s₁ [] 0 0 := Stand.of_body Bd
  have e0 : s₁.heap = h0 := by rw [← hh, Bd.state]; rfl
  obtain ⟨r, hr0⟩ : ∃ r, f2 x0 = r := ⟨_, rfl⟩
  have B0 : ∀  (T : State) (locs : List Loc) (X : Stand p l e ({ frames := 0, cells := 0, slots := 0, locals := 0 } : Room) s m #[(.int x0)] below meth c T locs 0 0) (eT : T.heap = h0) (NF : Fr n0 locs) (hr : f2 x0 = r), Go p e below s (Q2 x0 h0 n0) ({ frames := 0, cells := 0, slots := 0, locals := 0 } : Room).cells ({ frames := 0, cells := 0, slots := 0, locals := 0 } : Room).slots (T.setTop (mkF m 0 #[.val (.int x0)] [])) := by
    intro  T locs X eT NF hr
    unfold f2 at hr
    refine Go.step (S' := T.setTop (mkF m 1 #[.val (.int x0)] [(.int x0)])) (fun t k => XS.iloadN X.here hx rfl (hb hby d2_0) rfl k) ?_
    by_cases hc1 : x0 = (0 : Int32)
    · rw [if_pos hc1] at hr
      refine Go.step (S' := T.setTop (mkF m 76 #[.val (.int x0)] [])) (fun t k => XS.tswIn X.here hx rfl (pc0 := 1) (pc' := 76) (o := 75) rfl (hb hby d2_1) rfl (by rw [hc1]; decide) (by rw [hc1]; rfl) (by decide) (by decide) k) ?_
      refine Go.step (S' := T.setTop (mkF m 77 #[.val (.int x0)] [(.int (0 : Int32))])) (fun t k => XS.iconst X.here hx rfl (hb hby d2_76) k) ?_
      exact Go.retI X hx Bd.returns Bd.notSynchronized (hb hby d2_77) ⟨by rw [hr0, ← hr]; first | done | rfl, NF, eT⟩ (by decide) (by decide)
    · rw [if_neg hc1] at hr
      by_cases hc2 : x0 = (1 : Int32)
      · rw [if_pos hc2] at hr
        refine Go.step (S' := T.setTop (mkF m 78 #[.val (.int x0)] [])) (fun t k => XS.tswIn X.here hx rfl (pc0 := 1) (pc' := 78) (o := 77) rfl (hb hby d2_1) rfl (by rw [hc2]; decide) (by rw [hc2]; rfl) (by decide) (by decide) k) ?_
        refine Go.step (S' := T.setTop (mkF m 79 #[.val (.int x0)] [(.int (1 : Int32))])) (fun t k => XS.iconst X.here hx rfl (hb hby d2_78) k) ?_
        exact Go.retI X hx Bd.returns Bd.notSynchronized (hb hby d2_79) ⟨by rw [hr0, ← hr]; first | done | rfl, NF, eT⟩ (by decide) (by decide)
      · rw [if_neg hc2] at hr
        by_cases hc3 : x0 = (2 : Int32)
        · rw [if_pos hc3] at hr
          refine Go.step (S' := T.setTop (mkF m 80 #[.val (.int x0)] [])) (fun t k => XS.tswIn X.here hx rfl (pc0 := 1) (pc' := 80) (o := 79) rfl (hb hby d2_1) rfl (by rw [hc3]; decide) (by rw [hc3]; rfl) (by decide) (by decide) k) ?_
          refine Go.step (S' := T.setTop (mkF m 81 #[.val (.int x0)] [(.int (2 : Int32))])) (fun t k => XS.iconst X.here hx rfl (hb hby d2_80) k) ?_
          exact Go.retI X hx Bd.returns Bd.notSynchronized (hb hby d2_81) ⟨by rw [hr0, ← hr]; first | done | rfl, NF, eT⟩ (by decide) (by decide)
        · rw [if_neg hc3] at hr
          by_cases hc4 : x0 = (3 : Int32)
          · rw [if_pos hc4] at hr
            refine Go.step (S' := T.setTop (mkF m 82 #[.val (.int x0)] [])) (fun t k => XS.tswIn X.here hx rfl (pc0 := 1) (pc' := 82) (o := 81) rfl (hb hby d2_1) rfl (by rw [hc4]; decide) (by rw [hc4]; rfl) (by decide) (by decide) k) ?_
            refine Go.step (S' := T.setTop (mkF m 83 #[.val (.int x0)] [(.int (3 : Int32))])) (fun t k => XS.iconst X.here hx rfl (hb hby d2_82) k) ?_
            exact Go.retI X hx Bd.returns Bd.notSynchronized (hb hby d2_83) ⟨by rw [hr0, ← hr]; first | done | rfl, NF, eT⟩ (by decide) (by decide)
          · rw [if_neg hc4] at hr
            by_cases hc5 : x0 = (4 : Int32)
            · rw [if_pos hc5] at hr
              refine Go.step (S' := T.setTop (mkF m 84 #[.val (.int x0)] [])) (fun t k => XS.tswIn X.here hx rfl (pc0 := 1) (pc' := 84) (o := 83) rfl (hb hby d2_1) rfl (by rw [hc5]; decide) (by rw [hc5]; rfl) (by decide) (by decide) k) ?_
              refine Go.step (S' := T.setTop (mkF m 85 #[.val (.int x0)] [(.int (0 : Int32))])) (fun t k => XS.iconst X.here hx rfl (hb hby d2_84) k) ?_
              exact Go.retI X hx Bd.returns Bd.notSynchronized (hb hby d2_85) ⟨by rw [hr0, ← hr]; first | done | rfl, NF, eT⟩ (by decide) (by decide)
            · rw [if_neg hc5] at hr
              by_cases hc6 : x0 = (5 : Int32)
              · rw [if_pos hc6] at hr
                refine Go.step (S' := T.setTop (mkF m 86 #[.val (.int x0)] [])) (fun t k => XS.tswIn X.here hx rfl (pc0 := 1) (pc' := 86) (o := 85) rfl (hb hby d2_1) rfl (by rw [hc6]; decide) (by rw [hc6]; rfl) (by decide) (by decide) k) ?_
                refine Go.step (S' := T.setTop (mkF m 87 #[.val (.int x0)] [(.int (1 : Int32))])) (fun t k => XS.iconst X.here hx rfl (hb hby d2_86) k) ?_
                exact Go.retI X hx Bd.returns Bd.notSynchronized (hb hby d2_87) ⟨by rw [hr0, ← hr]; first | done | rfl, NF, eT⟩ (by decide) (by decide)
              · rw [if_neg hc6] at hr
                by_cases hc7 : x0 = (6 : Int32)
                · rw [if_pos hc7] at hr
                  refine Go.step (S' := T.setTop (mkF m 88 #[.val (.int x0)] [])) (fun t k => XS.tswIn X.here hx rfl (pc0 := 1) (pc' := 88) (o := 87) rfl (hb hby d2_1) rfl (by rw [hc7]; decide) (by rw [hc7]; rfl) (by decide) (by decide) k) ?_
                  refine Go.step (S' := T.setTop (mkF m 89 #[.val (.int x0)] [(.int (2 : Int32))])) (fun t k => XS.iconst X.here hx rfl (hb hby d2_88) k) ?_
                  exact Go.retI X hx Bd.returns Bd.notSynchronized (hb hby d2_89) ⟨by rw [hr0, ← hr]; first | done | rfl, NF, eT⟩ (by decide) (by decide)
                · rw [if_neg hc7] at hr
                  by_cases hc8 : x0 = (7 : Int32)
                  · rw [if_pos hc8] at hr
                    refine Go.step (S' := T.setTop (mkF m 90 #[.val (.int x0)] [])) (fun t k => XS.tswIn X.here hx rfl (pc0 := 1) (pc' := 90) (o := 89) rfl (hb hby d2_1) rfl (by rw [hc8]; decide) (by rw [hc8]; rfl) (by decide) (by decide) k) ?_
                    refine Go.step (S' := T.setTop (mkF m 91 #[.val (.int x0)] [(.int (3 : Int32))])) (fun t k => XS.iconst X.here hx rfl (hb hby d2_90) k) ?_
                    exact Go.retI X hx Bd.returns Bd.notSynchronized (hb hby d2_91) ⟨by rw [hr0, ← hr]; first | done | rfl, NF, eT⟩ (by decide) (by decide)
                  · rw [if_neg hc8] at hr
                    by_cases hc9 : x0 = (8 : Int32)
                    · rw [if_pos hc9] at hr
                      refine Go.step (S' := T.setTop (mkF m 92 #[.val (.int x0)] [])) (fun t k => XS.tswIn X.here hx rfl (pc0 := 1) (pc' := 92) (o := 91) rfl (hb hby d2_1) rfl (by rw [hc9]; decide) (by rw [hc9]; rfl) (by decide) (by decide) k) ?_
                      refine Go.step (S' := T.setTop (mkF m 93 #[.val (.int x0)] [(.int (0 : Int32))])) (fun t k => XS.iconst X.here hx rfl (hb hby d2_92) k) ?_
                      exact Go.retI X hx Bd.returns Bd.notSynchronized (hb hby d2_93) ⟨by rw [hr0, ← hr]; first | done | rfl, NF, eT⟩ (by decide) (by decide)
                    · rw [if_neg hc9] at hr
                      by_cases hc10 : x0 = (9 : Int32)
                      · rw [if_pos hc10] at hr
                        refine Go.step (S' := T.setTop (mkF m 94 #[.val (.int x0)] [])) (fun t k => XS.tswIn X.here hx rfl (pc0 := 1) (pc' := 94) (o := 93) rfl (hb hby d2_1) rfl (by rw [hc10]; decide) (by rw [hc10]; rfl) (by decide) (by decide) k) ?_
                        refine Go.step (S' := T.setTop (mkF m 95 #[.val (.int x0)] [(.int (1 : Int32))])) (fun t k => XS.iconst X.here hx rfl (hb hby d2_94) k) ?_
                        exact Go.retI X hx Bd.returns Bd.notSynchronized (hb hby d2_95) ⟨by rw [hr0, ← hr]; first | done | rfl, NF, eT⟩ (by decide) (by decide)
                      · rw [if_neg hc10] at hr
                        by_cases hc11 : x0 = (10 : Int32)
                        · rw [if_pos hc11] at hr
                          refine Go.step (S' := T.setTop (mkF m 96 #[.val (.int x0)] [])) (fun t k => XS.tswIn X.here hx rfl (pc0 := 1) (pc' := 96) (o := 95) rfl (hb hby d2_1) rfl (by rw [hc11]; decide) (by rw [hc11]; rfl) (by decide) (by decide) k) ?_
                          refine Go.step (S' := T.setTop (mkF m 97 #[.val (.int x0)] [(.int (0 : Int32))])) (fun t k => XS.iconst X.here hx rfl (hb hby d2_96) k) ?_
                          exact Go.retI X hx Bd.returns Bd.notSynchronized (hb hby d2_97) ⟨by rw [hr0, ← hr]; first | done | rfl, NF, eT⟩ (by decide) (by decide)
                        · rw [if_neg hc11] at hr
                          by_cases hc12 : x0 = (11 : Int32)
                          · rw [if_pos hc12] at hr
                            refine Go.step (S' := T.setTop (mkF m 98 #[.val (.int x0)] [])) (fun t k => XS.tswIn X.here hx rfl (pc0 := 1) (pc' := 98) (o := 97) rfl (hb hby d2_1) rfl (by rw [hc12]; decide) (by rw [hc12]; rfl) (by decide) (by decide) k) ?_
                            refine Go.step (S' := T.setTop (mkF m 99 #[.val (.int x0)] [(.int (2 : Int32))])) (fun t k => XS.iconst X.here hx rfl (hb hby d2_98) k) ?_
                            exact Go.retI X hx Bd.returns Bd.notSynchronized (hb hby d2_99) ⟨by rw [hr0, ← hr]; first | done | rfl, NF, eT⟩ (by decide) (by decide)
                          · rw [if_neg hc12] at hr
                            by_cases hc13 : x0 = (12 : Int32)
                            · rw [if_pos hc13] at hr
                              refine Go.step (S' := T.setTop (mkF m 100 #[.val (.int x0)] [])) (fun t k => XS.tswIn X.here hx rfl (pc0 := 1) (pc' := 100) (o := 99) rfl (hb hby d2_1) rfl (by rw [hc13]; decide) (by rw [hc13]; rfl) (by decide) (by decide) k) ?_
                              refine Go.step (S' := T.setTop (mkF m 101 #[.val (.int x0)] [(.int (2 : Int32))])) (fun t k => XS.iconst X.here hx rfl (hb hby d2_100) k) ?_
                              exact Go.retI X hx Bd.returns Bd.notSynchronized (hb hby d2_101) ⟨by rw [hr0, ← hr]; first | done | rfl, NF, eT⟩ (by decide) (by decide)
                            · rw [if_neg hc13] at hr
                              by_cases hc14 : x0 = (13 : Int32)
                              · rw [if_pos hc14] at hr
                                refine Go.step (S' := T.setTop (mkF m 102 #[.val (.int x0)] [])) (fun t k => XS.tswIn X.here hx rfl (pc0 := 1) (pc' := 102) (o := 101) rfl (hb hby d2_1) rfl (by rw [hc14]; decide) (by rw [hc14]; rfl) (by decide) (by decide) k) ?_
                                refine Go.step (S' := T.setTop (mkF m 103 #[.val (.int x0)] [(.int (1 : Int32))])) (fun t k => XS.iconst X.here hx rfl (hb hby d2_102) k) ?_
                                exact Go.retI X hx Bd.returns Bd.notSynchronized (hb hby d2_103) ⟨by rw [hr0, ← hr]; first | done | rfl, NF, eT⟩ (by decide) (by decide)
                              · rw [if_neg hc14] at hr
                                by_cases hc15 : x0 = (14 : Int32)
                                · rw [if_pos hc15] at hr
                                  refine Go.step (S' := T.setTop (mkF m 104 #[.val (.int x0)] [])) (fun t k => XS.tswIn X.here hx rfl (pc0 := 1) (pc' := 104) (o := 103) rfl (hb hby d2_1) rfl (by rw [hc15]; decide) (by rw [hc15]; rfl) (by decide) (by decide) k) ?_
                                  refine Go.step (S' := T.setTop (mkF m 105 #[.val (.int x0)] [(.int (0 : Int32))])) (fun t k => XS.iconst X.here hx rfl (hb hby d2_104) k) ?_
                                  exact Go.retI X hx Bd.returns Bd.notSynchronized (hb hby d2_105) ⟨by rw [hr0, ← hr]; first | done | rfl, NF, eT⟩ (by decide) (by decide)
                                · rw [if_neg hc15] at hr
                                  refine Go.step (S' := T.setTop (mkF m 106 #[.val (.int x0)] [])) (fun t k => XS.tswOut X.here hx rfl (pc0 := 1) (pc' := 106) rfl (hb hby d2_1) rfl (by have q0 := own_ne (z := 0) (by decide) hc1; have q1 := own_ne (z := 1) (by decide) hc2; have q2 := own_ne (z := 2) (by decide) hc3; have q3 := own_ne (z := 3) (by decide) hc4; have q4 := own_ne (z := 4) (by decide) hc5; have q5 := own_ne (z := 5) (by decide) hc6; have q6 := own_ne (z := 6) (by decide) hc7; have q7 := own_ne (z := 7) (by decide) hc8; have q8 := own_ne (z := 8) (by decide) hc9; have q9 := own_ne (z := 9) (by decide) hc10; have q10 := own_ne (z := 10) (by decide) hc11; have q11 := own_ne (z := 11) (by decide) hc12; have q12 := own_ne (z := 12) (by decide) hc13; have q13 := own_ne (z := 13) (by decide) hc14; have q14 := own_ne (z := 14) (by decide) hc15; omega) (by decide) (by decide) k) ?_
                                  refine Go.step (S' := T.setTop (mkF m 107 #[.val (.int x0)] [(.int (2 : Int32))])) (fun t k => XS.iconst X.here hx rfl (hb hby d2_106) k) ?_
                                  exact Go.retI X hx Bd.returns Bd.notSynchronized (hb hby d2_107) ⟨by rw [hr0, ← hr]; first | done | rfl, NF, eT⟩ (by decide) (by decide)
  show Go p e below s (Q2 x0 h0 n0) ({ frames := 0, cells := 0, slots := 0, locals := 0 } : Room).cells ({ frames := 0, cells := 0, slots := 0, locals := 0 } : Room).slots (s₁.setTop (entryFrame m #[(.int x0)] 1))
  rw [ef2]
  exact B0 s₁ [] X0 e0 (Fr.nil n0) hr0
theorem d3_0 : decode method_4_code 0 = .ok (.iload_n 0, 1) := by decide +kernel
theorem d3_1 : decode method_4_code 1 = .ok (.tableswitch 108 0 14 #[75, 77, 79, 81, 83, 85, 87, 89, 91, 94, 97, 100, 102, 104, 106], 75) := by decide +kernel
theorem d3_76 : decode method_4_code 76 = .ok (.iconst 0, 1) := by decide +kernel
theorem d3_77 : decode method_4_code 77 = .ok (.ireturn, 1) := by decide +kernel
theorem d3_78 : decode method_4_code 78 = .ok (.iconst 1, 1) := by decide +kernel
theorem d3_79 : decode method_4_code 79 = .ok (.ireturn, 1) := by decide +kernel
theorem d3_80 : decode method_4_code 80 = .ok (.iconst 2, 1) := by decide +kernel
theorem d3_81 : decode method_4_code 81 = .ok (.ireturn, 1) := by decide +kernel
theorem d3_82 : decode method_4_code 82 = .ok (.iconst 3, 1) := by decide +kernel
theorem d3_83 : decode method_4_code 83 = .ok (.ireturn, 1) := by decide +kernel
theorem d3_84 : decode method_4_code 84 = .ok (.iconst 1, 1) := by decide +kernel
theorem d3_85 : decode method_4_code 85 = .ok (.ireturn, 1) := by decide +kernel
theorem d3_86 : decode method_4_code 86 = .ok (.iconst 2, 1) := by decide +kernel
theorem d3_87 : decode method_4_code 87 = .ok (.ireturn, 1) := by decide +kernel
theorem d3_88 : decode method_4_code 88 = .ok (.iconst 3, 1) := by decide +kernel
theorem d3_89 : decode method_4_code 89 = .ok (.ireturn, 1) := by decide +kernel
theorem d3_90 : decode method_4_code 90 = .ok (.iconst 4, 1) := by decide +kernel
theorem d3_91 : decode method_4_code 91 = .ok (.ireturn, 1) := by decide +kernel
theorem d3_92 : decode method_4_code 92 = .ok (.ldc 60, 2) := by decide +kernel
theorem d3_94 : decode method_4_code 94 = .ok (.ireturn, 1) := by decide +kernel
theorem d3_95 : decode method_4_code 95 = .ok (.ldc 60, 2) := by decide +kernel
theorem d3_97 : decode method_4_code 97 = .ok (.ireturn, 1) := by decide +kernel
theorem d3_98 : decode method_4_code 98 = .ok (.ldc 60, 2) := by decide +kernel
theorem d3_100 : decode method_4_code 100 = .ok (.ireturn, 1) := by decide +kernel
theorem d3_101 : decode method_4_code 101 = .ok (.iconst 3, 1) := by decide +kernel
theorem d3_102 : decode method_4_code 102 = .ok (.ireturn, 1) := by decide +kernel
theorem d3_103 : decode method_4_code 103 = .ok (.iconst 2, 1) := by decide +kernel
theorem d3_104 : decode method_4_code 104 = .ok (.ireturn, 1) := by decide +kernel
theorem d3_105 : decode method_4_code 105 = .ok (.iconst 1, 1) := by decide +kernel
theorem d3_106 : decode method_4_code 106 = .ok (.ireturn, 1) := by decide +kernel
theorem d3_107 : decode method_4_code 107 = .ok (.iconst 0, 1) := by decide +kernel
theorem d3_108 : decode method_4_code 108 = .ok (.ireturn, 1) := by decide +kernel
theorem d3_109 : decode method_4_code 109 = .ok (.iconst 2, 1) := by decide +kernel
theorem d3_110 : decode method_4_code 110 = .ok (.ireturn, 1) := by decide +kernel
theorem ef3 (m : MethodId) (x0 : Int32) : entryFrame m #[(.int x0)] 1 = mkF m 0 #[.val (.int x0)] [] := by first | (simp [entryFrame, mkF, argsToLocals, Value.category]; done) | rfl
def f3 (x0 : Int32) : Int32 := (if x0 = (0 : Int32) then (0 : Int32) else (if x0 = (1 : Int32) then (1 : Int32) else (if x0 = (2 : Int32) then (2 : Int32) else (if x0 = (3 : Int32) then (3 : Int32) else (if x0 = (4 : Int32) then (1 : Int32) else (if x0 = (5 : Int32) then (2 : Int32) else (if x0 = (6 : Int32) then (3 : Int32) else (if x0 = (7 : Int32) then (4 : Int32) else (if x0 = (8 : Int32) then (2147483647 : Int32) else (if x0 = (9 : Int32) then (2147483647 : Int32) else (if x0 = (10 : Int32) then (2147483647 : Int32) else (if x0 = (11 : Int32) then (3 : Int32) else (if x0 = (12 : Int32) then (2 : Int32) else (if x0 = (13 : Int32) then (1 : Int32) else (if x0 = (14 : Int32) then (0 : Int32) else (2 : Int32))))))))))))))))
def Q3 (x0 : Int32) (h0 : Heap) (n0 : Nat) (v : Option Value) (h : Heap) (L : List Loc) : Prop := v = some (.int (f3 x0)) ∧ Fr n0 L ∧ h = h0
set_option maxRecDepth 65536 in
set_option maxHeartbeats 40000000 in
theorem rm3 (l : Launch) (Z : State) (a0 : Array Value) (hw : ∀ d ∈ tables_1, d.before a0 Z = true) (ws : List Jvm.Cond) (x0 : Int32) (h0 : Heap) (n0 : Nat) (Z0 : n0 ≤ h0.size) :
    MetFree l (⟨"com/example/triplewell/triplewell/model/OperatorTakesPinLaw", "hi", "(I)I"⟩ : MethodName) (head1 (Jvm.Cond.code (⟨"com/example/triplewell/triplewell/model/OperatorTakesPinLaw", "hi", "(I)I"⟩ : MethodName) method_4_code 1 (some .int) :: ws) ({ frames := 0, cells := 0, slots := 0, locals := 0 } : Room)) (fun a U => a = #[(.int x0)] ∧ Z.Warmed39 U.vm ∧ U.heap = h0) (fun _ _ _ _ _ => True) (fun _ U o U' => ∃ v L, o = .returned v ∧ Q3 x0 h0 n0 v U'.heap L ∧ FrameEnd U o U' L ({ frames := 0, cells := 0, slots := 0, locals := 0 } : Room).cells ({ frames := 0, cells := 0, slots := 0, locals := 0 } : Room).slots) := by
  refine MetFree.of_bodySF (plainFor_of_name pn0) hisR ?_
  intro p e s m args below meth c s₁ Bd hml0 hP hK
  obtain ⟨rfl, hZ, hh⟩ := hP
  have hx := Bd.exec
  have hby := Bd.bytes
  have hml : c.maxLocals = 1 := hml0
  have hown : s.vm.findClass "com/example/triplewell/triplewell/model/OperatorTakesPinLaw" = some m.cls := findClass_of_methodNamed Bd.named
  have X0 : Stand p l e ({ frames := 0, cells := 0, slots := 0, locals := 0 } : Room) s m #[(.int x0)] below meth c s₁ [] 0 0 := Stand.of_body Bd
  have e0 : s₁.heap = h0 := by rw [← hh, Bd.state]; rfl
  obtain ⟨r, hr0⟩ : ∃ r, f3 x0 = r := ⟨_, rfl⟩
  have B0 : ∀  (T : State) (locs : List Loc) (X : Stand p l e ({ frames := 0, cells := 0, slots := 0, locals := 0 } : Room) s m #[(.int x0)] below meth c T locs 0 0) (eT : T.heap = h0) (NF : Fr n0 locs) (hr : f3 x0 = r), Go p e below s (Q3 x0 h0 n0) ({ frames := 0, cells := 0, slots := 0, locals := 0 } : Room).cells ({ frames := 0, cells := 0, slots := 0, locals := 0 } : Room).slots (T.setTop (mkF m 0 #[.val (.int x0)] [])) := by
    intro  T locs X eT NF hr
    unfold f3 at hr
    refine Go.step (S' := T.setTop (mkF m 1 #[.val (.int x0)] [(.int x0)])) (fun t k => XS.iloadN X.here hx rfl (hb hby d3_0) rfl k) ?_
    by_cases hc1 : x0 = (0 : Int32)
    · rw [if_pos hc1] at hr
      refine Go.step (S' := T.setTop (mkF m 76 #[.val (.int x0)] [])) (fun t k => XS.tswIn X.here hx rfl (pc0 := 1) (pc' := 76) (o := 75) rfl (hb hby d3_1) rfl (by rw [hc1]; decide) (by rw [hc1]; rfl) (by decide) (by decide) k) ?_
      refine Go.step (S' := T.setTop (mkF m 77 #[.val (.int x0)] [(.int (0 : Int32))])) (fun t k => XS.iconst X.here hx rfl (hb hby d3_76) k) ?_
      exact Go.retI X hx Bd.returns Bd.notSynchronized (hb hby d3_77) ⟨by rw [hr0, ← hr]; first | done | rfl, NF, eT⟩ (by decide) (by decide)
    · rw [if_neg hc1] at hr
      by_cases hc2 : x0 = (1 : Int32)
      · rw [if_pos hc2] at hr
        refine Go.step (S' := T.setTop (mkF m 78 #[.val (.int x0)] [])) (fun t k => XS.tswIn X.here hx rfl (pc0 := 1) (pc' := 78) (o := 77) rfl (hb hby d3_1) rfl (by rw [hc2]; decide) (by rw [hc2]; rfl) (by decide) (by decide) k) ?_
        refine Go.step (S' := T.setTop (mkF m 79 #[.val (.int x0)] [(.int (1 : Int32))])) (fun t k => XS.iconst X.here hx rfl (hb hby d3_78) k) ?_
        exact Go.retI X hx Bd.returns Bd.notSynchronized (hb hby d3_79) ⟨by rw [hr0, ← hr]; first | done | rfl, NF, eT⟩ (by decide) (by decide)
      · rw [if_neg hc2] at hr
        by_cases hc3 : x0 = (2 : Int32)
        · rw [if_pos hc3] at hr
          refine Go.step (S' := T.setTop (mkF m 80 #[.val (.int x0)] [])) (fun t k => XS.tswIn X.here hx rfl (pc0 := 1) (pc' := 80) (o := 79) rfl (hb hby d3_1) rfl (by rw [hc3]; decide) (by rw [hc3]; rfl) (by decide) (by decide) k) ?_
          refine Go.step (S' := T.setTop (mkF m 81 #[.val (.int x0)] [(.int (2 : Int32))])) (fun t k => XS.iconst X.here hx rfl (hb hby d3_80) k) ?_
          exact Go.retI X hx Bd.returns Bd.notSynchronized (hb hby d3_81) ⟨by rw [hr0, ← hr]; first | done | rfl, NF, eT⟩ (by decide) (by decide)
        · rw [if_neg hc3] at hr
          by_cases hc4 : x0 = (3 : Int32)
          · rw [if_pos hc4] at hr
            refine Go.step (S' := T.setTop (mkF m 82 #[.val (.int x0)] [])) (fun t k => XS.tswIn X.here hx rfl (pc0 := 1) (pc' := 82) (o := 81) rfl (hb hby d3_1) rfl (by rw [hc4]; decide) (by rw [hc4]; rfl) (by decide) (by decide) k) ?_
            refine Go.step (S' := T.setTop (mkF m 83 #[.val (.int x0)] [(.int (3 : Int32))])) (fun t k => XS.iconst X.here hx rfl (hb hby d3_82) k) ?_
            exact Go.retI X hx Bd.returns Bd.notSynchronized (hb hby d3_83) ⟨by rw [hr0, ← hr]; first | done | rfl, NF, eT⟩ (by decide) (by decide)
          · rw [if_neg hc4] at hr
            by_cases hc5 : x0 = (4 : Int32)
            · rw [if_pos hc5] at hr
              refine Go.step (S' := T.setTop (mkF m 84 #[.val (.int x0)] [])) (fun t k => XS.tswIn X.here hx rfl (pc0 := 1) (pc' := 84) (o := 83) rfl (hb hby d3_1) rfl (by rw [hc5]; decide) (by rw [hc5]; rfl) (by decide) (by decide) k) ?_
              refine Go.step (S' := T.setTop (mkF m 85 #[.val (.int x0)] [(.int (1 : Int32))])) (fun t k => XS.iconst X.here hx rfl (hb hby d3_84) k) ?_
              exact Go.retI X hx Bd.returns Bd.notSynchronized (hb hby d3_85) ⟨by rw [hr0, ← hr]; first | done | rfl, NF, eT⟩ (by decide) (by decide)
            · rw [if_neg hc5] at hr
              by_cases hc6 : x0 = (5 : Int32)
              · rw [if_pos hc6] at hr
                refine Go.step (S' := T.setTop (mkF m 86 #[.val (.int x0)] [])) (fun t k => XS.tswIn X.here hx rfl (pc0 := 1) (pc' := 86) (o := 85) rfl (hb hby d3_1) rfl (by rw [hc6]; decide) (by rw [hc6]; rfl) (by decide) (by decide) k) ?_
                refine Go.step (S' := T.setTop (mkF m 87 #[.val (.int x0)] [(.int (2 : Int32))])) (fun t k => XS.iconst X.here hx rfl (hb hby d3_86) k) ?_
                exact Go.retI X hx Bd.returns Bd.notSynchronized (hb hby d3_87) ⟨by rw [hr0, ← hr]; first | done | rfl, NF, eT⟩ (by decide) (by decide)
              · rw [if_neg hc6] at hr
                by_cases hc7 : x0 = (6 : Int32)
                · rw [if_pos hc7] at hr
                  refine Go.step (S' := T.setTop (mkF m 88 #[.val (.int x0)] [])) (fun t k => XS.tswIn X.here hx rfl (pc0 := 1) (pc' := 88) (o := 87) rfl (hb hby d3_1) rfl (by rw [hc7]; decide) (by rw [hc7]; rfl) (by decide) (by decide) k) ?_
                  refine Go.step (S' := T.setTop (mkF m 89 #[.val (.int x0)] [(.int (3 : Int32))])) (fun t k => XS.iconst X.here hx rfl (hb hby d3_88) k) ?_
                  exact Go.retI X hx Bd.returns Bd.notSynchronized (hb hby d3_89) ⟨by rw [hr0, ← hr]; first | done | rfl, NF, eT⟩ (by decide) (by decide)
                · rw [if_neg hc7] at hr
                  by_cases hc8 : x0 = (7 : Int32)
                  · rw [if_pos hc8] at hr
                    refine Go.step (S' := T.setTop (mkF m 90 #[.val (.int x0)] [])) (fun t k => XS.tswIn X.here hx rfl (pc0 := 1) (pc' := 90) (o := 89) rfl (hb hby d3_1) rfl (by rw [hc8]; decide) (by rw [hc8]; rfl) (by decide) (by decide) k) ?_
                    refine Go.step (S' := T.setTop (mkF m 91 #[.val (.int x0)] [(.int (4 : Int32))])) (fun t k => XS.iconst X.here hx rfl (hb hby d3_90) k) ?_
                    exact Go.retI X hx Bd.returns Bd.notSynchronized (hb hby d3_91) ⟨by rw [hr0, ← hr]; first | done | rfl, NF, eT⟩ (by decide) (by decide)
                  · rw [if_neg hc8] at hr
                    by_cases hc9 : x0 = (8 : Int32)
                    · rw [if_pos hc9] at hr
                      refine Go.step (S' := T.setTop (mkF m 92 #[.val (.int x0)] [])) (fun t k => XS.tswIn X.here hx rfl (pc0 := 1) (pc' := 92) (o := 91) rfl (hb hby d3_1) rfl (by rw [hc9]; decide) (by rw [hc9]; rfl) (by decide) (by decide) k) ?_
                      refine Go.step (S' := T.setTop (mkF m 94 #[.val (.int x0)] [(.int (2147483647 : Int32))])) (fun t k => X.ldcInt hx hown (mvT hZ (hw _ (List.mem_of_getElem? (i := 22) rfl))) (g := (mkF m 92 #[.val (.int x0)] [])) rfl (hb hby d3_92) _ k) ?_
                      exact Go.retI X hx Bd.returns Bd.notSynchronized (hb hby d3_94) ⟨by rw [hr0, ← hr]; first | done | rfl, NF, eT⟩ (by decide) (by decide)
                    · rw [if_neg hc9] at hr
                      by_cases hc10 : x0 = (9 : Int32)
                      · rw [if_pos hc10] at hr
                        refine Go.step (S' := T.setTop (mkF m 95 #[.val (.int x0)] [])) (fun t k => XS.tswIn X.here hx rfl (pc0 := 1) (pc' := 95) (o := 94) rfl (hb hby d3_1) rfl (by rw [hc10]; decide) (by rw [hc10]; rfl) (by decide) (by decide) k) ?_
                        refine Go.step (S' := T.setTop (mkF m 97 #[.val (.int x0)] [(.int (2147483647 : Int32))])) (fun t k => X.ldcInt hx hown (mvT hZ (hw _ (List.mem_of_getElem? (i := 22) rfl))) (g := (mkF m 95 #[.val (.int x0)] [])) rfl (hb hby d3_95) _ k) ?_
                        exact Go.retI X hx Bd.returns Bd.notSynchronized (hb hby d3_97) ⟨by rw [hr0, ← hr]; first | done | rfl, NF, eT⟩ (by decide) (by decide)
                      · rw [if_neg hc10] at hr
                        by_cases hc11 : x0 = (10 : Int32)
                        · rw [if_pos hc11] at hr
                          refine Go.step (S' := T.setTop (mkF m 98 #[.val (.int x0)] [])) (fun t k => XS.tswIn X.here hx rfl (pc0 := 1) (pc' := 98) (o := 97) rfl (hb hby d3_1) rfl (by rw [hc11]; decide) (by rw [hc11]; rfl) (by decide) (by decide) k) ?_
                          refine Go.step (S' := T.setTop (mkF m 100 #[.val (.int x0)] [(.int (2147483647 : Int32))])) (fun t k => X.ldcInt hx hown (mvT hZ (hw _ (List.mem_of_getElem? (i := 22) rfl))) (g := (mkF m 98 #[.val (.int x0)] [])) rfl (hb hby d3_98) _ k) ?_
                          exact Go.retI X hx Bd.returns Bd.notSynchronized (hb hby d3_100) ⟨by rw [hr0, ← hr]; first | done | rfl, NF, eT⟩ (by decide) (by decide)
                        · rw [if_neg hc11] at hr
                          by_cases hc12 : x0 = (11 : Int32)
                          · rw [if_pos hc12] at hr
                            refine Go.step (S' := T.setTop (mkF m 101 #[.val (.int x0)] [])) (fun t k => XS.tswIn X.here hx rfl (pc0 := 1) (pc' := 101) (o := 100) rfl (hb hby d3_1) rfl (by rw [hc12]; decide) (by rw [hc12]; rfl) (by decide) (by decide) k) ?_
                            refine Go.step (S' := T.setTop (mkF m 102 #[.val (.int x0)] [(.int (3 : Int32))])) (fun t k => XS.iconst X.here hx rfl (hb hby d3_101) k) ?_
                            exact Go.retI X hx Bd.returns Bd.notSynchronized (hb hby d3_102) ⟨by rw [hr0, ← hr]; first | done | rfl, NF, eT⟩ (by decide) (by decide)
                          · rw [if_neg hc12] at hr
                            by_cases hc13 : x0 = (12 : Int32)
                            · rw [if_pos hc13] at hr
                              refine Go.step (S' := T.setTop (mkF m 103 #[.val (.int x0)] [])) (fun t k => XS.tswIn X.here hx rfl (pc0 := 1) (pc' := 103) (o := 102) rfl (hb hby d3_1) rfl (by rw [hc13]; decide) (by rw [hc13]; rfl) (by decide) (by decide) k) ?_
                              refine Go.step (S' := T.setTop (mkF m 104 #[.val (.int x0)] [(.int (2 : Int32))])) (fun t k => XS.iconst X.here hx rfl (hb hby d3_103) k) ?_
                              exact Go.retI X hx Bd.returns Bd.notSynchronized (hb hby d3_104) ⟨by rw [hr0, ← hr]; first | done | rfl, NF, eT⟩ (by decide) (by decide)
                            · rw [if_neg hc13] at hr
                              by_cases hc14 : x0 = (13 : Int32)
                              · rw [if_pos hc14] at hr
                                refine Go.step (S' := T.setTop (mkF m 105 #[.val (.int x0)] [])) (fun t k => XS.tswIn X.here hx rfl (pc0 := 1) (pc' := 105) (o := 104) rfl (hb hby d3_1) rfl (by rw [hc14]; decide) (by rw [hc14]; rfl) (by decide) (by decide) k) ?_
                                refine Go.step (S' := T.setTop (mkF m 106 #[.val (.int x0)] [(.int (1 : Int32))])) (fun t k => XS.iconst X.here hx rfl (hb hby d3_105) k) ?_
                                exact Go.retI X hx Bd.returns Bd.notSynchronized (hb hby d3_106) ⟨by rw [hr0, ← hr]; first | done | rfl, NF, eT⟩ (by decide) (by decide)
                              · rw [if_neg hc14] at hr
                                by_cases hc15 : x0 = (14 : Int32)
                                · rw [if_pos hc15] at hr
                                  refine Go.step (S' := T.setTop (mkF m 107 #[.val (.int x0)] [])) (fun t k => XS.tswIn X.here hx rfl (pc0 := 1) (pc' := 107) (o := 106) rfl (hb hby d3_1) rfl (by rw [hc15]; decide) (by rw [hc15]; rfl) (by decide) (by decide) k) ?_
                                  refine Go.step (S' := T.setTop (mkF m 108 #[.val (.int x0)] [(.int (0 : Int32))])) (fun t k => XS.iconst X.here hx rfl (hb hby d3_107) k) ?_
                                  exact Go.retI X hx Bd.returns Bd.notSynchronized (hb hby d3_108) ⟨by rw [hr0, ← hr]; first | done | rfl, NF, eT⟩ (by decide) (by decide)
                                · rw [if_neg hc15] at hr
                                  refine Go.step (S' := T.setTop (mkF m 109 #[.val (.int x0)] [])) (fun t k => XS.tswOut X.here hx rfl (pc0 := 1) (pc' := 109) rfl (hb hby d3_1) rfl (by have q0 := own_ne (z := 0) (by decide) hc1; have q1 := own_ne (z := 1) (by decide) hc2; have q2 := own_ne (z := 2) (by decide) hc3; have q3 := own_ne (z := 3) (by decide) hc4; have q4 := own_ne (z := 4) (by decide) hc5; have q5 := own_ne (z := 5) (by decide) hc6; have q6 := own_ne (z := 6) (by decide) hc7; have q7 := own_ne (z := 7) (by decide) hc8; have q8 := own_ne (z := 8) (by decide) hc9; have q9 := own_ne (z := 9) (by decide) hc10; have q10 := own_ne (z := 10) (by decide) hc11; have q11 := own_ne (z := 11) (by decide) hc12; have q12 := own_ne (z := 12) (by decide) hc13; have q13 := own_ne (z := 13) (by decide) hc14; have q14 := own_ne (z := 14) (by decide) hc15; omega) (by decide) (by decide) k) ?_
                                  refine Go.step (S' := T.setTop (mkF m 110 #[.val (.int x0)] [(.int (2 : Int32))])) (fun t k => XS.iconst X.here hx rfl (hb hby d3_109) k) ?_
                                  exact Go.retI X hx Bd.returns Bd.notSynchronized (hb hby d3_110) ⟨by rw [hr0, ← hr]; first | done | rfl, NF, eT⟩ (by decide) (by decide)
  show Go p e below s (Q3 x0 h0 n0) ({ frames := 0, cells := 0, slots := 0, locals := 0 } : Room).cells ({ frames := 0, cells := 0, slots := 0, locals := 0 } : Room).slots (s₁.setTop (entryFrame m #[(.int x0)] 1))
  rw [ef3]
  exact B0 s₁ [] X0 e0 (Fr.nil n0) hr0
theorem d4_0 : decode prog_134_method_7_code 0 = .ok (.iload_n 1, 1) := by decide +kernel
theorem d4_1 : decode prog_134_method_7_code 1 = .ok (.aload_n 0, 1) := by decide +kernel
theorem d4_2 : decode prog_134_method_7_code 2 = .ok (.getfield 228, 3) := by decide +kernel
theorem d4_5 : decode prog_134_method_7_code 5 = .ok (.if_icmp .lt 15, 3) := by decide +kernel
theorem d4_8 : decode prog_134_method_7_code 8 = .ok (.iload_n 1, 1) := by decide +kernel
theorem d4_9 : decode prog_134_method_7_code 9 = .ok (.aload_n 0, 1) := by decide +kernel
theorem d4_10 : decode prog_134_method_7_code 10 = .ok (.getfield 232, 3) := by decide +kernel
theorem d4_13 : decode prog_134_method_7_code 13 = .ok (.if_icmp .gt 7, 3) := by decide +kernel
theorem d4_16 : decode prog_134_method_7_code 16 = .ok (.iconst 1, 1) := by decide +kernel
theorem d4_17 : decode prog_134_method_7_code 17 = .ok (.goto 4, 3) := by decide +kernel
theorem d4_20 : decode prog_134_method_7_code 20 = .ok (.iconst 0, 1) := by decide +kernel
theorem d4_21 : decode prog_134_method_7_code 21 = .ok (.ireturn, 1) := by decide +kernel
theorem pn1 : plainName "com/example/triplewell/triplewell/model/Operator" = true := by first | (simp [plainName, overriddenIn]; done) | decide +kernel
theorem pd2 : parseMethodDescriptor "(I)Z" = some ⟨[.int], some .boolean⟩ := by decide +kernel
theorem ef4 (m : MethodId) (o0 : Addr) (x1 : Int32) : entryFrame m #[(.ref o0), (.int x1)] 2 = mkF m 0 #[.val (.ref o0), .val (.int x1)] [] := by first | (simp [entryFrame, mkF, argsToLocals, Value.category]; done) | rfl
def f4 (o0 : Addr) (x1 : Int32) (mn : Int32) (mx : Int32) : Int32 := (if x1 < mn then (0 : Int32) else (if mx < x1 then (0 : Int32) else (1 : Int32)))
def Q4 (o0 : Addr) (x1 : Int32) (mn : Int32) (mx : Int32) (h0 : Heap) (n0 : Nat) (v : Option Value) (h : Heap) (L : List Loc) : Prop := v = some (.int (f4 o0 x1 mn mx)) ∧ Fr n0 L ∧ h = h0
set_option maxRecDepth 65536 in
set_option maxHeartbeats 40000000 in
theorem rm4 (l : Launch) (Z : State) (a0 : Array Value) (hw : ∀ d ∈ tables_1, d.before a0 Z = true) (ws : List Jvm.Cond) (o0 : Addr) (x1 : Int32) (mn : Int32) (mx : Int32) (h0 : Heap) (n0 : Nat) (Z0 : n0 ≤ h0.size) (F1 : Fld Z h0 o0 "com/example/triplewell/triplewell/model/Operator" "minArguments" "I" (.int mn)) (F2 : Fld Z h0 o0 "com/example/triplewell/triplewell/model/Operator" "maxArguments" "I" (.int mx)) :
    MetFree l (⟨"com/example/triplewell/triplewell/model/Operator", "takes", "(I)Z"⟩ : MethodName) (head1 (Jvm.Cond.code (⟨"com/example/triplewell/triplewell/model/Operator", "takes", "(I)Z"⟩ : MethodName) prog_134_method_7_code 2 (some .boolean) :: ws) ({ frames := 0, cells := 0, slots := 0, locals := 0 } : Room)) (fun a U => a = #[(.ref o0), (.int x1)] ∧ Z.Warmed39 U.vm ∧ U.heap = h0) (fun _ _ _ _ _ => True) (fun _ U o U' => ∃ v L, o = .returned v ∧ Q4 o0 x1 mn mx h0 n0 v U'.heap L ∧ FrameEnd U o U' L ({ frames := 0, cells := 0, slots := 0, locals := 0 } : Room).cells ({ frames := 0, cells := 0, slots := 0, locals := 0 } : Room).slots) := by
  refine MetFree.of_bodySF (plainFor_of_name pn1) hisR ?_
  intro p e s m args below meth c s₁ Bd hml0 hP hK
  obtain ⟨rfl, hZ, hh⟩ := hP
  have hx := Bd.exec
  have hby := Bd.bytes
  have hml : c.maxLocals = 2 := hml0
  have hown : s.vm.findClass "com/example/triplewell/triplewell/model/Operator" = some m.cls := findClass_of_methodNamed Bd.named
  have X0 : Stand p l e ({ frames := 0, cells := 0, slots := 0, locals := 0 } : Room) s m #[(.ref o0), (.int x1)] below meth c s₁ [] 0 0 := Stand.of_body Bd
  have e0 : s₁.heap = h0 := by rw [← hh, Bd.state]; rfl
  obtain ⟨r, hr0⟩ : ∃ r, f4 o0 x1 mn mx = r := ⟨_, rfl⟩
  have B0 : ∀  (T : State) (locs : List Loc) (X : Stand p l e ({ frames := 0, cells := 0, slots := 0, locals := 0 } : Room) s m #[(.ref o0), (.int x1)] below meth c T locs 0 0) (eT : T.heap = h0) (NF : Fr n0 locs) (hr : f4 o0 x1 mn mx = r), Go p e below s (Q4 o0 x1 mn mx h0 n0) ({ frames := 0, cells := 0, slots := 0, locals := 0 } : Room).cells ({ frames := 0, cells := 0, slots := 0, locals := 0 } : Room).slots (T.setTop (mkF m 0 #[.val (.ref o0), .val (.int x1)] [])) := by
    intro  T locs X eT NF hr
    unfold f4 at hr
    refine Go.step (S' := T.setTop (mkF m 1 #[.val (.ref o0), .val (.int x1)] [(.int x1)])) (fun t k => XS.iloadN X.here hx rfl (hb hby d4_0) rfl k) ?_
    refine Go.step (S' := T.setTop (mkF m 2 #[.val (.ref o0), .val (.int x1)] [(.ref o0), (.int x1)])) (fun t k => XS.aloadN X.here hx rfl (hb hby d4_1) rfl rfl k) ?_
    obtain ⟨T1, X1, e1, st1⟩ := getF X hx hZ hown (host := "") (Or.inl (hw _ (List.mem_of_getElem? (i := 18) rfl))) Via.refl eT F1 (g := (mkF m 2 #[.val (.ref o0), .val (.int x1)] [(.ref o0), (.int x1)])) rfl rfl (hb hby d4_2)
    refine Go.step (S' := T1.setTop (mkF m 5 #[.val (.ref o0), .val (.int x1)] [(.int mn), (.int x1)])) (fun t k => st1 t k) ?_
    by_cases hc2 : x1 < mn
    · rw [if_pos hc2] at hr
      refine Go.step (S' := T1.setTop (mkF m 20 #[.val (.ref o0), .val (.int x1)] [])) (fun t k => XS.icmpYes X1.here hx rfl (pc0 := 5) (pc' := 20) rfl (hb hby d4_5) rfl (tlt hc2).1 (by decide) (by decide) k) ?_
      refine Go.step (S' := T1.setTop (mkF m 21 #[.val (.ref o0), .val (.int x1)] [(.int (0 : Int32))])) (fun t k => XS.iconst X1.here hx rfl (hb hby d4_20) k) ?_
      exact Go.retN X1 hx (t := .boolean) Bd.returns (by simp) Bd.notSynchronized (hb hby d4_21) ⟨by rw [hr0, ← hr]; first | done | rfl, NF, e1⟩ (by decide) (by decide)
    · rw [if_neg hc2] at hr
      refine Go.step (S' := T1.setTop (mkF m 8 #[.val (.ref o0), .val (.int x1)] [])) (fun t k => XS.icmpNo X1.here hx rfl (hb hby d4_5) rfl (flt hc2).1 k) ?_
      refine Go.step (S' := T1.setTop (mkF m 9 #[.val (.ref o0), .val (.int x1)] [(.int x1)])) (fun t k => XS.iloadN X1.here hx rfl (hb hby d4_8) rfl k) ?_
      refine Go.step (S' := T1.setTop (mkF m 10 #[.val (.ref o0), .val (.int x1)] [(.ref o0), (.int x1)])) (fun t k => XS.aloadN X1.here hx rfl (hb hby d4_9) rfl rfl k) ?_
      obtain ⟨T3, X3, e3, st3⟩ := getF X1 hx hZ hown (host := "") (Or.inl (hw _ (List.mem_of_getElem? (i := 20) rfl))) Via.refl e1 F2 (g := (mkF m 10 #[.val (.ref o0), .val (.int x1)] [(.ref o0), (.int x1)])) rfl rfl (hb hby d4_10)
      refine Go.step (S' := T3.setTop (mkF m 13 #[.val (.ref o0), .val (.int x1)] [(.int mx), (.int x1)])) (fun t k => st3 t k) ?_
      by_cases hc4 : mx < x1
      · rw [if_pos hc4] at hr
        refine Go.step (S' := T3.setTop (mkF m 20 #[.val (.ref o0), .val (.int x1)] [])) (fun t k => XS.icmpYes X3.here hx rfl (pc0 := 13) (pc' := 20) rfl (hb hby d4_13) rfl (tlt hc4).2.2.1 (by decide) (by decide) k) ?_
        refine Go.step (S' := T3.setTop (mkF m 21 #[.val (.ref o0), .val (.int x1)] [(.int (0 : Int32))])) (fun t k => XS.iconst X3.here hx rfl (hb hby d4_20) k) ?_
        exact Go.retN X3 hx (t := .boolean) Bd.returns (by simp) Bd.notSynchronized (hb hby d4_21) ⟨by rw [hr0, ← hr]; first | done | rfl, NF, e3⟩ (by decide) (by decide)
      · rw [if_neg hc4] at hr
        refine Go.step (S' := T3.setTop (mkF m 16 #[.val (.ref o0), .val (.int x1)] [])) (fun t k => XS.icmpNo X3.here hx rfl (hb hby d4_13) rfl (flt hc4).2.2.1 k) ?_
        refine Go.step (S' := T3.setTop (mkF m 17 #[.val (.ref o0), .val (.int x1)] [(.int (1 : Int32))])) (fun t k => XS.iconst X3.here hx rfl (hb hby d4_16) k) ?_
        refine Go.step (S' := T3.setTop (mkF m 21 #[.val (.ref o0), .val (.int x1)] [(.int (1 : Int32))])) (fun t k => XS.goto X3.here hx rfl (pc0 := 17) (pc' := 21) rfl (hb hby d4_17) (by decide) (by decide) k) ?_
        exact Go.retN X3 hx (t := .boolean) Bd.returns (by simp) Bd.notSynchronized (hb hby d4_21) ⟨by rw [hr0, ← hr]; first | done | rfl, NF, e3⟩ (by decide) (by decide)
  show Go p e below s (Q4 o0 x1 mn mx h0 n0) ({ frames := 0, cells := 0, slots := 0, locals := 0 } : Room).cells ({ frames := 0, cells := 0, slots := 0, locals := 0 } : Room).slots (s₁.setTop (entryFrame m #[(.ref o0), (.int x1)] 2))
  rw [ef4]
  exact B0 s₁ [] X0 e0 (Fr.nil n0) hr0
theorem pd3 : parseMethodDescriptor "(II)Z" = some ⟨[.int, .int], some .boolean⟩ := by decide +kernel
theorem ef0 (m : MethodId) (x0 : Int32) (x1 : Int32) : entryFrame m #[(.int x0), (.int x1)] maxLocals = mkF m 0 #[.val (.int x0), .val (.int x1), .unset, .unset, .unset, .unset, .unset, .unset, .unset, .unset] [] := by first | (simp [entryFrame, mkF, argsToLocals, Value.category, maxLocals]; done) | rfl
def f0_186 (x0 : Int32) (x1 : Int32) (w : Nat → Addr) (l8_186 : Int32) (l9_186 : Int32) (s0_186 : Int32) : Int32 := (nar .boolean s0_186)
def f0_185 (x0 : Int32) (x1 : Int32) (w : Nat → Addr) (l8_185 : Int32) (l9_185 : Int32) : Int32 := (f0_186 x0 x1 w l8_185 l9_185 (0 : Int32))
def f0_167 (x0 : Int32) (x1 : Int32) (w : Nat → Addr) (l8_167 : Int32) (l9_167 : Int32) : Int32 := (if l9_167 = (0 : Int32) then (f0_185 x0 x1 w l8_167 l9_167) else (if (f4 (f1 (x0 &&& (15 : Int32)) w) (-2147483648 : Int32) (f2 (x0 &&& (15 : Int32))) (f3 (x0 &&& (15 : Int32)))) = (0 : Int32) then (f0_186 x0 x1 w l8_167 l9_167 (1 : Int32)) else (f0_185 x0 x1 w l8_167 l9_167)))
def f0_165 (x0 : Int32) (x1 : Int32) (w : Nat → Addr) (l8_165 : Int32) (l9_165 : Int32) (s0_165 : Int32) : Int32 := (f0_167 x0 x1 w l8_165 s0_165)
def f0_164 (x0 : Int32) (x1 : Int32) (w : Nat → Addr) (l8_164 : Int32) (l9_164 : Int32) : Int32 := (f0_165 x0 x1 w l8_164 l9_164 (0 : Int32))
def f0_135 (x0 : Int32) (x1 : Int32) (w : Nat → Addr) (l8_135 : Int32) (l9_135 : Int32) (s0_135 : Int32) : Int32 := (if (f3 (x0 &&& (15 : Int32))) = (2147483647 : Int32) then (f0_167 x0 x1 w l8_135 s0_135) else (if s0_135 = (0 : Int32) then (f0_164 x0 x1 w l8_135 s0_135) else (if (f4 (f1 (x0 &&& (15 : Int32)) w) ((f3 (x0 &&& (15 : Int32))) + (1 : Int32)) (f2 (x0 &&& (15 : Int32))) (f3 (x0 &&& (15 : Int32)))) = (0 : Int32) then (f0_165 x0 x1 w l8_135 s0_135 (1 : Int32)) else (f0_164 x0 x1 w l8_135 s0_135))))
def f0_134 (x0 : Int32) (x1 : Int32) (w : Nat → Addr) (l8_134 : Int32) (l9_134 : Int32) : Int32 := (f0_135 x0 x1 w l8_134 l9_134 (0 : Int32))
def f0_114 (x0 : Int32) (x1 : Int32) (w : Nat → Addr) (l8_114 : Int32) (l9_114 : Int32) (s0_114 : Int32) : Int32 := (if s0_114 = (0 : Int32) then (f0_134 x0 x1 w l8_114 s0_114) else (if (f4 (f1 (x0 &&& (15 : Int32)) w) (f3 (x0 &&& (15 : Int32))) (f2 (x0 &&& (15 : Int32))) (f3 (x0 &&& (15 : Int32)))) = (0 : Int32) then (f0_134 x0 x1 w l8_114 s0_114) else (f0_135 x0 x1 w l8_114 s0_114 (1 : Int32))))
def f0_113 (x0 : Int32) (x1 : Int32) (w : Nat → Addr) (l8_113 : Int32) (l9_113 : Int32) : Int32 := (f0_114 x0 x1 w l8_113 l9_113 (0 : Int32))
def f0_91 (x0 : Int32) (x1 : Int32) (w : Nat → Addr) (l8_91 : Int32) (l9_91 : Int32) (s0_91 : Int32) : Int32 := (if s0_91 = (0 : Int32) then (f0_113 x0 x1 w l8_91 s0_91) else (if (f4 (f1 (x0 &&& (15 : Int32)) w) ((f2 (x0 &&& (15 : Int32))) - (1 : Int32)) (f2 (x0 &&& (15 : Int32))) (f3 (x0 &&& (15 : Int32)))) = (0 : Int32) then (f0_114 x0 x1 w l8_91 s0_91 (1 : Int32)) else (f0_113 x0 x1 w l8_91 s0_91)))
def f0_90 (x0 : Int32) (x1 : Int32) (w : Nat → Addr) (l8_90 : Int32) (l9_90 : Int32) : Int32 := (f0_91 x0 x1 w l8_90 l9_90 (0 : Int32))
def f0_70 (x0 : Int32) (x1 : Int32) (w : Nat → Addr) (l8_70 : Int32) (s0_70 : Int32) : Int32 := (if s0_70 = (0 : Int32) then (f0_90 x0 x1 w l8_70 s0_70) else (if (f4 (f1 (x0 &&& (15 : Int32)) w) (f2 (x0 &&& (15 : Int32))) (f2 (x0 &&& (15 : Int32))) (f3 (x0 &&& (15 : Int32)))) = (0 : Int32) then (f0_90 x0 x1 w l8_70 s0_70) else (f0_91 x0 x1 w l8_70 s0_70 (1 : Int32))))
def f0_53 (x0 : Int32) (x1 : Int32) (w : Nat → Addr) (s0_53 : Int32) : Int32 := (if (f4 (f1 (x0 &&& (15 : Int32)) w) x1 (f2 (x0 &&& (15 : Int32))) (f3 (x0 &&& (15 : Int32)))) = s0_53 then (f0_70 x0 x1 w s0_53 (1 : Int32)) else (f0_70 x0 x1 w s0_53 (0 : Int32)))
def f0_52 (x0 : Int32) (x1 : Int32) (w : Nat → Addr) : Int32 := (f0_53 x0 x1 w (0 : Int32))
def f0 (x0 : Int32) (x1 : Int32) (w : Nat → Addr) : Int32 := (if (lcmpW ((x1.toInt64) - ((f2 (x0 &&& (15 : Int32))).toInt64)) (0 : Int64)) < (0 : Int32) then (f0_52 x0 x1 w) else (if (lcmpW (((f3 (x0 &&& (15 : Int32))).toInt64) - (x1.toInt64)) (0 : Int64)) < (0 : Int32) then (f0_52 x0 x1 w) else (f0_53 x0 x1 w (1 : Int32))))
def Q0 (x0 : Int32) (x1 : Int32) (w : Nat → Addr) (h0 : Heap) (n0 : Nat) (v : Option Value) (h : Heap) (L : List Loc) : Prop := v = some (.int (f0 x0 x1 w)) ∧ Fr n0 L ∧ h = h0
set_option maxRecDepth 65536 in
set_option maxHeartbeats 40000000 in
theorem rm0 (l : Launch) (Z : State) (a0 : Array Value) (hw : ∀ d ∈ tables_1, d.before a0 Z = true) (ws : List Jvm.Cond) (x0 : Int32) (x1 : Int32) (w : Nat → Addr) (h0 : Heap) (n0 : Nat) (Z0 : n0 ≤ h0.size) (S_UUID : Sta Z h0 "com/example/triplewell/triplewell/model/Operator" "UUID" "Lcom/example/triplewell/triplewell/model/Operator;" (.ref (w 0))) (S_NOT : Sta Z h0 "com/example/triplewell/triplewell/model/Operator" "NOT" "Lcom/example/triplewell/triplewell/model/Operator;" (.ref (w 1))) (S_OR : Sta Z h0 "com/example/triplewell/triplewell/model/Operator" "OR" "Lcom/example/triplewell/triplewell/model/Operator;" (.ref (w 2))) (S_IF : Sta Z h0 "com/example/triplewell/triplewell/model/Operator" "IF" "Lcom/example/triplewell/triplewell/model/Operator;" (.ref (w 3))) (S_BNODE : Sta Z h0 "com/example/triplewell/triplewell/model/Operator" "BNODE" "Lcom/example/triplewell/triplewell/model/Operator;" (.ref (w 4))) (S_IRI : Sta Z h0 "com/example/triplewell/triplewell/model/Operator" "IRI" "Lcom/example/triplewell/triplewell/model/Operator;" (.ref (w 5))) (S_REGEX : Sta Z h0 "com/example/triplewell/triplewell/model/Operator" "REGEX" "Lcom/example/triplewell/triplewell/model/Operator;" (.ref (w 6))) (S_REPLACE : Sta Z h0 "com/example/triplewell/triplewell/model/Operator" "REPLACE" "Lcom/example/triplewell/triplewell/model/Operator;" (.ref (w 7))) (S_COALESCE : Sta Z h0 "com/example/triplewell/triplewell/model/Operator" "COALESCE" "Lcom/example/triplewell/triplewell/model/Operator;" (.ref (w 8))) (S_IN : Sta Z h0 "com/example/triplewell/triplewell/model/Operator" "IN" "Lcom/example/triplewell/triplewell/model/Operator;" (.ref (w 9))) (S_CONCAT : Sta Z h0 "com/example/triplewell/triplewell/model/Operator" "CONCAT" "Lcom/example/triplewell/triplewell/model/Operator;" (.ref (w 10))) (S_SUBSTR : Sta Z h0 "com/example/triplewell/triplewell/model/Operator" "SUBSTR" "Lcom/example/triplewell/triplewell/model/Operator;" (.ref (w 11))) (S_SAME_TERM : Sta Z h0 "com/example/triplewell/triplewell/model/Operator" "SAME_TERM" "Lcom/example/triplewell/triplewell/model/Operator;" (.ref (w 12))) (S_STRLEN : Sta Z h0 "com/example/triplewell/triplewell/model/Operator" "STRLEN" "Lcom/example/triplewell/triplewell/model/Operator;" (.ref (w 13))) (S_RAND : Sta Z h0 "com/example/triplewell/triplewell/model/Operator" "RAND" "Lcom/example/triplewell/triplewell/model/Operator;" (.ref (w 14))) (S_STRDT : Sta Z h0 "com/example/triplewell/triplewell/model/Operator" "STRDT" "Lcom/example/triplewell/triplewell/model/Operator;" (.ref (w 15))) (HE : ∀ k : Int32, Exa Z h0 (f1 k w) "com/example/triplewell/triplewell/model/Operator") (HMin : ∀ k : Int32, Fld Z h0 (f1 k w) "com/example/triplewell/triplewell/model/Operator" "minArguments" "I" (.int (f2 k))) (HMax : ∀ k : Int32, Fld Z h0 (f1 k w) "com/example/triplewell/triplewell/model/Operator" "maxArguments" "I" (.int (f3 k))) :
    MetFree l x (head1 (Jvm.Cond.code x code maxLocals ret :: ws) room_1) (fun a U => a = #[(.int x0), (.int x1)] ∧ Z.Warmed39 U.vm ∧ U.heap = h0) (fun _ _ _ _ _ => True) (fun _ U o U' => ∃ v L, o = .returned v ∧ Q0 x0 x1 w h0 n0 v U'.heap L ∧ FrameEnd U o U' L room_1.cells room_1.slots) := by
  refine MetFree.of_bodySF (plainFor_of_name pn0) hisR ?_
  intro p e s m args below meth c s₁ Bd hml0 hP hK
  obtain ⟨rfl, hZ, hh⟩ := hP
  have hx := Bd.exec
  have hby := Bd.bytes
  have hml : c.maxLocals = 10 := hml0
  have hown : s.vm.findClass "com/example/triplewell/triplewell/model/OperatorTakesPinLaw" = some m.cls := findClass_of_methodNamed Bd.named
  have X0 : Stand p l e room_1 s m #[(.int x0), (.int x1)] below meth c s₁ [] 0 0 := Stand.of_body Bd
  have e0 : s₁.heap = h0 := by rw [← hh, Bd.state]; rfl
  obtain ⟨r, hr0⟩ : ∃ r, f0 x0 x1 w = r := ⟨_, rfl⟩
  have B186 : ∀ (l8_186 : Int32) (l9_186 : Int32) (s0_186 : Int32) (T : State) (locs : List Loc) (X : Stand p l e room_1 s m #[(.int x0), (.int x1)] below meth c T locs 0 0) (eT : T.heap = h0) (NF : Fr n0 locs) (hr : f0_186 x0 x1 w l8_186 l9_186 s0_186 = r), Go p e below s (Q0 x0 x1 w h0 n0) room_1.cells room_1.slots (T.setTop (mkF m 186 #[.val (.int x0), .val (.int x1), .val (.int (x0 &&& (15 : Int32))), .val (.ref (f1 (x0 &&& (15 : Int32)) w)), .val (.int (f2 (x0 &&& (15 : Int32)))), .val (.int (f3 (x0 &&& (15 : Int32)))), .val (.long (x1.toInt64)), .second, .val (.int l8_186), .val (.int l9_186)] [(.int s0_186)])) := by
    intro l8_186 l9_186 s0_186 T locs X eT NF hr
    unfold f0_186 at hr
    refine Go.step (S' := T.setTop (mkF m 188 #[.val (.int x0), .val (.int x1), .val (.int (x0 &&& (15 : Int32))), .val (.ref (f1 (x0 &&& (15 : Int32)) w)), .val (.int (f2 (x0 &&& (15 : Int32)))), .val (.int (f3 (x0 &&& (15 : Int32)))), .val (.long (x1.toInt64)), .second, .val (.int l8_186), .val (.int s0_186)] [])) (fun t k => XS.istore X.here hx rfl (hb hby at_186) rfl (l' := #[.val (.int x0), .val (.int x1), .val (.int (x0 &&& (15 : Int32))), .val (.ref (f1 (x0 &&& (15 : Int32)) w)), .val (.int (f2 (x0 &&& (15 : Int32)))), .val (.int (f3 (x0 &&& (15 : Int32)))), .val (.long (x1.toInt64)), .second, .val (.int l8_186), .val (.int s0_186)]) rfl k) ?_
    refine Go.step (S' := T.setTop (mkF m 190 #[.val (.int x0), .val (.int x1), .val (.int (x0 &&& (15 : Int32))), .val (.ref (f1 (x0 &&& (15 : Int32)) w)), .val (.int (f2 (x0 &&& (15 : Int32)))), .val (.int (f3 (x0 &&& (15 : Int32)))), .val (.long (x1.toInt64)), .second, .val (.int l8_186), .val (.int s0_186)] [(.int s0_186)])) (fun t k => XS.iload X.here hx rfl (hb hby at_188) rfl k) ?_
    exact Go.retN X hx (t := .boolean) Bd.returns (by simp) Bd.notSynchronized (hb hby at_190) ⟨by rw [hr0, ← hr]; first | done | rfl, NF, eT⟩ (by decide) (by decide)
  have B185 : ∀ (l8_185 : Int32) (l9_185 : Int32) (T : State) (locs : List Loc) (X : Stand p l e room_1 s m #[(.int x0), (.int x1)] below meth c T locs 0 0) (eT : T.heap = h0) (NF : Fr n0 locs) (hr : f0_185 x0 x1 w l8_185 l9_185 = r), Go p e below s (Q0 x0 x1 w h0 n0) room_1.cells room_1.slots (T.setTop (mkF m 185 #[.val (.int x0), .val (.int x1), .val (.int (x0 &&& (15 : Int32))), .val (.ref (f1 (x0 &&& (15 : Int32)) w)), .val (.int (f2 (x0 &&& (15 : Int32)))), .val (.int (f3 (x0 &&& (15 : Int32)))), .val (.long (x1.toInt64)), .second, .val (.int l8_185), .val (.int l9_185)] [])) := by
    intro l8_185 l9_185 T locs X eT NF hr
    unfold f0_185 at hr
    refine Go.step (S' := T.setTop (mkF m 186 #[.val (.int x0), .val (.int x1), .val (.int (x0 &&& (15 : Int32))), .val (.ref (f1 (x0 &&& (15 : Int32)) w)), .val (.int (f2 (x0 &&& (15 : Int32)))), .val (.int (f3 (x0 &&& (15 : Int32)))), .val (.long (x1.toInt64)), .second, .val (.int l8_185), .val (.int l9_185)] [(.int (0 : Int32))])) (fun t k => XS.iconst X.here hx rfl (hb hby at_185) k) ?_
    exact B186 (l8_185) (l9_185) ((0 : Int32)) T _ X eT NF hr
  have B167 : ∀ (l8_167 : Int32) (l9_167 : Int32) (T : State) (locs : List Loc) (X : Stand p l e room_1 s m #[(.int x0), (.int x1)] below meth c T locs 0 0) (eT : T.heap = h0) (NF : Fr n0 locs) (hr : f0_167 x0 x1 w l8_167 l9_167 = r), Go p e below s (Q0 x0 x1 w h0 n0) room_1.cells room_1.slots (T.setTop (mkF m 167 #[.val (.int x0), .val (.int x1), .val (.int (x0 &&& (15 : Int32))), .val (.ref (f1 (x0 &&& (15 : Int32)) w)), .val (.int (f2 (x0 &&& (15 : Int32)))), .val (.int (f3 (x0 &&& (15 : Int32)))), .val (.long (x1.toInt64)), .second, .val (.int l8_167), .val (.int l9_167)] [])) := by
    intro l8_167 l9_167 T locs X eT NF hr
    unfold f0_167 at hr
    refine Go.step (S' := T.setTop (mkF m 169 #[.val (.int x0), .val (.int x1), .val (.int (x0 &&& (15 : Int32))), .val (.ref (f1 (x0 &&& (15 : Int32)) w)), .val (.int (f2 (x0 &&& (15 : Int32)))), .val (.int (f3 (x0 &&& (15 : Int32)))), .val (.long (x1.toInt64)), .second, .val (.int l8_167), .val (.int l9_167)] [(.int l9_167)])) (fun t k => XS.iload X.here hx rfl (hb hby at_167) rfl k) ?_
    by_cases hc21 : l9_167 = (0 : Int32)
    · rw [if_pos hc21] at hr
      refine Go.step (S' := T.setTop (mkF m 185 #[.val (.int x0), .val (.int x1), .val (.int (x0 &&& (15 : Int32))), .val (.ref (f1 (x0 &&& (15 : Int32)) w)), .val (.int (f2 (x0 &&& (15 : Int32)))), .val (.int (f3 (x0 &&& (15 : Int32)))), .val (.long (x1.toInt64)), .second, .val (.int l8_167), .val (.int l9_167)] [])) (fun t k => XS.ifYes X.here hx rfl (pc0 := 169) (pc' := 185) rfl (hb hby at_169) rfl ((if0 _ _).trans (teq hc21).1) (by decide) (by decide) k) ?_
      exact B185 (l8_167) (l9_167) T _ X eT NF hr
    · rw [if_neg hc21] at hr
      refine Go.step (S' := T.setTop (mkF m 172 #[.val (.int x0), .val (.int x1), .val (.int (x0 &&& (15 : Int32))), .val (.ref (f1 (x0 &&& (15 : Int32)) w)), .val (.int (f2 (x0 &&& (15 : Int32)))), .val (.int (f3 (x0 &&& (15 : Int32)))), .val (.long (x1.toInt64)), .second, .val (.int l8_167), .val (.int l9_167)] [])) (fun t k => XS.ifNo X.here hx rfl (hb hby at_169) rfl ((if0 _ _).trans (feq hc21).1) k) ?_
      refine Go.step (S' := T.setTop (mkF m 173 #[.val (.int x0), .val (.int x1), .val (.int (x0 &&& (15 : Int32))), .val (.ref (f1 (x0 &&& (15 : Int32)) w)), .val (.int (f2 (x0 &&& (15 : Int32)))), .val (.int (f3 (x0 &&& (15 : Int32)))), .val (.long (x1.toInt64)), .second, .val (.int l8_167), .val (.int l9_167)] [(.ref (f1 (x0 &&& (15 : Int32)) w))])) (fun t k => XS.aloadN X.here hx rfl (hb hby at_172) rfl rfl k) ?_
      refine Go.step (S' := T.setTop (mkF m 175 #[.val (.int x0), .val (.int x1), .val (.int (x0 &&& (15 : Int32))), .val (.ref (f1 (x0 &&& (15 : Int32)) w)), .val (.int (f2 (x0 &&& (15 : Int32)))), .val (.int (f3 (x0 &&& (15 : Int32)))), .val (.long (x1.toInt64)), .second, .val (.int l8_167), .val (.int l9_167)] [(.int (-2147483648 : Int32)), (.ref (f1 (x0 &&& (15 : Int32)) w))])) (fun t k => X.ldcInt hx hown (mvT hZ (hw _ (List.mem_of_getElem? (i := 23) rfl))) (g := (mkF m 173 #[.val (.int x0), .val (.int x1), .val (.int (x0 &&& (15 : Int32))), .val (.ref (f1 (x0 &&& (15 : Int32)) w)), .val (.int (f2 (x0 &&& (15 : Int32)))), .val (.int (f3 (x0 &&& (15 : Int32)))), .val (.long (x1.toInt64)), .second, .val (.int l8_167), .val (.int l9_167)] [(.ref (f1 (x0 &&& (15 : Int32)) w))])) rfl (hb hby at_173) _ k) ?_
      obtain ⟨cq22, kq22, q22a, q22b, q22c⟩ := isOf hZ eT (HE _)
      obtain ⟨_, _, ⟨T22, L22, k22, n22⟩, -, X22, ⟨Lc22, hQ22, l22, y22, z22⟩, st22⟩ := X.virtualBack hx (y := (⟨"com/example/triplewell/triplewell/model/Operator", "takes", "(I)Z"⟩ : MethodName)) (z := (⟨"com/example/triplewell/triplewell/model/Operator", "takes", "(I)Z"⟩ : MethodName)) hown (mvT hZ (hw _ (List.mem_of_getElem? (i := 13) rfl))) (mvT hZ (hw _ (List.mem_of_getElem? (i := 14) rfl))) (notFace_of_selects (args := #[]) (mvT hZ (hw _ (List.mem_of_getElem? (i := 16) rfl)))) (mvT hZ (hw _ (List.mem_of_getElem? (i := 16) rfl))) (mvT hZ (hw _ (List.mem_of_getElem? (i := 15) rfl))) (by decide) (backOf (W := 0) (rm4 l Z a0 hw [] (f1 (x0 &&& (15 : Int32)) w) (-2147483648 : Int32) (f2 (x0 &&& (15 : Int32))) (f3 (x0 &&& (15 : Int32))) h0 n0 Z0 (HMin _) (HMax _)) hZ (hw _ (List.mem_of_getElem? (i := 17) rfl)) (hw _ (List.mem_of_getElem? (i := 5) rfl)) (by decide) (by decide)) q22a q22c (g := (mkF m 175 #[.val (.int x0), .val (.int x1), .val (.int (x0 &&& (15 : Int32))), .val (.ref (f1 (x0 &&& (15 : Int32)) w)), .val (.int (f2 (x0 &&& (15 : Int32)))), .val (.int (f3 (x0 &&& (15 : Int32)))), .val (.long (x1.toInt64)), .second, .val (.int l8_167), .val (.int l9_167)] [(.int (-2147483648 : Int32)), (.ref (f1 (x0 &&& (15 : Int32)) w))])) rfl (by rw [hml]; rfl) (Steps.refl _) (argsL := [(.int (-2147483648 : Int32))]) (rest := []) (lenOf pd2 rfl) rfl (by show 2 * 0 + _ ≤ _; exact Nat.le_of_eq rfl) (hb hby at_175) (fun _ _ => ⟨rfl, eT, (by decide : 0 + 0 ≤ _), (by decide : 0 + 0 ≤ _)⟩)
      dsimp only [Pt.U, Pt.locs, Pt.cells, Pt.slots] at X22 l22 y22 z22 st22 hQ22
      subst l22 y22 z22
      obtain ⟨rfl, Nq22, e22⟩ := hQ22
      have N22 := Fr.app NF Nq22
      refine Go.step (S' := T22.setTop (mkF m 178 #[.val (.int x0), .val (.int x1), .val (.int (x0 &&& (15 : Int32))), .val (.ref (f1 (x0 &&& (15 : Int32)) w)), .val (.int (f2 (x0 &&& (15 : Int32)))), .val (.int (f3 (x0 &&& (15 : Int32)))), .val (.long (x1.toInt64)), .second, .val (.int l8_167), .val (.int l9_167)] [(.int (f4 (f1 (x0 &&& (15 : Int32)) w) (-2147483648 : Int32) (f2 (x0 &&& (15 : Int32))) (f3 (x0 &&& (15 : Int32)))))])) (fun t k => st22.trans k) ?_
      by_cases hc23 : (f4 (f1 (x0 &&& (15 : Int32)) w) (-2147483648 : Int32) (f2 (x0 &&& (15 : Int32))) (f3 (x0 &&& (15 : Int32)))) = (0 : Int32)
      · rw [if_pos hc23] at hr
        refine Go.step (S' := T22.setTop (mkF m 181 #[.val (.int x0), .val (.int x1), .val (.int (x0 &&& (15 : Int32))), .val (.ref (f1 (x0 &&& (15 : Int32)) w)), .val (.int (f2 (x0 &&& (15 : Int32)))), .val (.int (f3 (x0 &&& (15 : Int32)))), .val (.long (x1.toInt64)), .second, .val (.int l8_167), .val (.int l9_167)] [])) (fun t k => XS.ifNo X22.here hx rfl (hb hby at_178) rfl ((if0 _ _).trans (teq hc23).2) k) ?_
        refine Go.step (S' := T22.setTop (mkF m 182 #[.val (.int x0), .val (.int x1), .val (.int (x0 &&& (15 : Int32))), .val (.ref (f1 (x0 &&& (15 : Int32)) w)), .val (.int (f2 (x0 &&& (15 : Int32)))), .val (.int (f3 (x0 &&& (15 : Int32)))), .val (.long (x1.toInt64)), .second, .val (.int l8_167), .val (.int l9_167)] [(.int (1 : Int32))])) (fun t k => XS.iconst X22.here hx rfl (hb hby at_181) k) ?_
        refine Go.step (S' := T22.setTop (mkF m 186 #[.val (.int x0), .val (.int x1), .val (.int (x0 &&& (15 : Int32))), .val (.ref (f1 (x0 &&& (15 : Int32)) w)), .val (.int (f2 (x0 &&& (15 : Int32)))), .val (.int (f3 (x0 &&& (15 : Int32)))), .val (.long (x1.toInt64)), .second, .val (.int l8_167), .val (.int l9_167)] [(.int (1 : Int32))])) (fun t k => XS.goto X22.here hx rfl (pc0 := 182) (pc' := 186) rfl (hb hby at_182) (by decide) (by decide) k) ?_
        exact B186 (l8_167) (l9_167) ((1 : Int32)) T22 _ X22 e22 N22 hr
      · rw [if_neg hc23] at hr
        refine Go.step (S' := T22.setTop (mkF m 185 #[.val (.int x0), .val (.int x1), .val (.int (x0 &&& (15 : Int32))), .val (.ref (f1 (x0 &&& (15 : Int32)) w)), .val (.int (f2 (x0 &&& (15 : Int32)))), .val (.int (f3 (x0 &&& (15 : Int32)))), .val (.long (x1.toInt64)), .second, .val (.int l8_167), .val (.int l9_167)] [])) (fun t k => XS.ifYes X22.here hx rfl (pc0 := 178) (pc' := 185) rfl (hb hby at_178) rfl ((if0 _ _).trans (feq hc23).2) (by decide) (by decide) k) ?_
        exact B185 (l8_167) (l9_167) T22 _ X22 e22 N22 hr
  have B165 : ∀ (l8_165 : Int32) (l9_165 : Int32) (s0_165 : Int32) (T : State) (locs : List Loc) (X : Stand p l e room_1 s m #[(.int x0), (.int x1)] below meth c T locs 0 0) (eT : T.heap = h0) (NF : Fr n0 locs) (hr : f0_165 x0 x1 w l8_165 l9_165 s0_165 = r), Go p e below s (Q0 x0 x1 w h0 n0) room_1.cells room_1.slots (T.setTop (mkF m 165 #[.val (.int x0), .val (.int x1), .val (.int (x0 &&& (15 : Int32))), .val (.ref (f1 (x0 &&& (15 : Int32)) w)), .val (.int (f2 (x0 &&& (15 : Int32)))), .val (.int (f3 (x0 &&& (15 : Int32)))), .val (.long (x1.toInt64)), .second, .val (.int l8_165), .val (.int l9_165)] [(.int s0_165)])) := by
    intro l8_165 l9_165 s0_165 T locs X eT NF hr
    unfold f0_165 at hr
    refine Go.step (S' := T.setTop (mkF m 167 #[.val (.int x0), .val (.int x1), .val (.int (x0 &&& (15 : Int32))), .val (.ref (f1 (x0 &&& (15 : Int32)) w)), .val (.int (f2 (x0 &&& (15 : Int32)))), .val (.int (f3 (x0 &&& (15 : Int32)))), .val (.long (x1.toInt64)), .second, .val (.int l8_165), .val (.int s0_165)] [])) (fun t k => XS.istore X.here hx rfl (hb hby at_165) rfl (l' := #[.val (.int x0), .val (.int x1), .val (.int (x0 &&& (15 : Int32))), .val (.ref (f1 (x0 &&& (15 : Int32)) w)), .val (.int (f2 (x0 &&& (15 : Int32)))), .val (.int (f3 (x0 &&& (15 : Int32)))), .val (.long (x1.toInt64)), .second, .val (.int l8_165), .val (.int s0_165)]) rfl k) ?_
    exact B167 (l8_165) (s0_165) T _ X eT NF hr
  have B164 : ∀ (l8_164 : Int32) (l9_164 : Int32) (T : State) (locs : List Loc) (X : Stand p l e room_1 s m #[(.int x0), (.int x1)] below meth c T locs 0 0) (eT : T.heap = h0) (NF : Fr n0 locs) (hr : f0_164 x0 x1 w l8_164 l9_164 = r), Go p e below s (Q0 x0 x1 w h0 n0) room_1.cells room_1.slots (T.setTop (mkF m 164 #[.val (.int x0), .val (.int x1), .val (.int (x0 &&& (15 : Int32))), .val (.ref (f1 (x0 &&& (15 : Int32)) w)), .val (.int (f2 (x0 &&& (15 : Int32)))), .val (.int (f3 (x0 &&& (15 : Int32)))), .val (.long (x1.toInt64)), .second, .val (.int l8_164), .val (.int l9_164)] [])) := by
    intro l8_164 l9_164 T locs X eT NF hr
    unfold f0_164 at hr
    refine Go.step (S' := T.setTop (mkF m 165 #[.val (.int x0), .val (.int x1), .val (.int (x0 &&& (15 : Int32))), .val (.ref (f1 (x0 &&& (15 : Int32)) w)), .val (.int (f2 (x0 &&& (15 : Int32)))), .val (.int (f3 (x0 &&& (15 : Int32)))), .val (.long (x1.toInt64)), .second, .val (.int l8_164), .val (.int l9_164)] [(.int (0 : Int32))])) (fun t k => XS.iconst X.here hx rfl (hb hby at_164) k) ?_
    exact B165 (l8_164) (l9_164) ((0 : Int32)) T _ X eT NF hr
  have B135 : ∀ (l8_135 : Int32) (l9_135 : Int32) (s0_135 : Int32) (T : State) (locs : List Loc) (X : Stand p l e room_1 s m #[(.int x0), (.int x1)] below meth c T locs 0 0) (eT : T.heap = h0) (NF : Fr n0 locs) (hr : f0_135 x0 x1 w l8_135 l9_135 s0_135 = r), Go p e below s (Q0 x0 x1 w h0 n0) room_1.cells room_1.slots (T.setTop (mkF m 135 #[.val (.int x0), .val (.int x1), .val (.int (x0 &&& (15 : Int32))), .val (.ref (f1 (x0 &&& (15 : Int32)) w)), .val (.int (f2 (x0 &&& (15 : Int32)))), .val (.int (f3 (x0 &&& (15 : Int32)))), .val (.long (x1.toInt64)), .second, .val (.int l8_135), .val (.int l9_135)] [(.int s0_135)])) := by
    intro l8_135 l9_135 s0_135 T locs X eT NF hr
    unfold f0_135 at hr
    refine Go.step (S' := T.setTop (mkF m 137 #[.val (.int x0), .val (.int x1), .val (.int (x0 &&& (15 : Int32))), .val (.ref (f1 (x0 &&& (15 : Int32)) w)), .val (.int (f2 (x0 &&& (15 : Int32)))), .val (.int (f3 (x0 &&& (15 : Int32)))), .val (.long (x1.toInt64)), .second, .val (.int l8_135), .val (.int s0_135)] [])) (fun t k => XS.istore X.here hx rfl (hb hby at_135) rfl (l' := #[.val (.int x0), .val (.int x1), .val (.int (x0 &&& (15 : Int32))), .val (.ref (f1 (x0 &&& (15 : Int32)) w)), .val (.int (f2 (x0 &&& (15 : Int32)))), .val (.int (f3 (x0 &&& (15 : Int32)))), .val (.long (x1.toInt64)), .second, .val (.int l8_135), .val (.int s0_135)]) rfl k) ?_
    refine Go.step (S' := T.setTop (mkF m 139 #[.val (.int x0), .val (.int x1), .val (.int (x0 &&& (15 : Int32))), .val (.ref (f1 (x0 &&& (15 : Int32)) w)), .val (.int (f2 (x0 &&& (15 : Int32)))), .val (.int (f3 (x0 &&& (15 : Int32)))), .val (.long (x1.toInt64)), .second, .val (.int l8_135), .val (.int s0_135)] [(.int (f3 (x0 &&& (15 : Int32))))])) (fun t k => XS.iload X.here hx rfl (hb hby at_137) rfl k) ?_
    refine Go.step (S' := T.setTop (mkF m 141 #[.val (.int x0), .val (.int x1), .val (.int (x0 &&& (15 : Int32))), .val (.ref (f1 (x0 &&& (15 : Int32)) w)), .val (.int (f2 (x0 &&& (15 : Int32)))), .val (.int (f3 (x0 &&& (15 : Int32)))), .val (.long (x1.toInt64)), .second, .val (.int l8_135), .val (.int s0_135)] [(.int (2147483647 : Int32)), (.int (f3 (x0 &&& (15 : Int32))))])) (fun t k => X.ldcInt hx hown (mvT hZ (hw _ (List.mem_of_getElem? (i := 22) rfl))) (g := (mkF m 139 #[.val (.int x0), .val (.int x1), .val (.int (x0 &&& (15 : Int32))), .val (.ref (f1 (x0 &&& (15 : Int32)) w)), .val (.int (f2 (x0 &&& (15 : Int32)))), .val (.int (f3 (x0 &&& (15 : Int32)))), .val (.long (x1.toInt64)), .second, .val (.int l8_135), .val (.int s0_135)] [(.int (f3 (x0 &&& (15 : Int32))))])) rfl (hb hby at_139) _ k) ?_
    by_cases hc17 : (f3 (x0 &&& (15 : Int32))) = (2147483647 : Int32)
    · rw [if_pos hc17] at hr
      refine Go.step (S' := T.setTop (mkF m 167 #[.val (.int x0), .val (.int x1), .val (.int (x0 &&& (15 : Int32))), .val (.ref (f1 (x0 &&& (15 : Int32)) w)), .val (.int (f2 (x0 &&& (15 : Int32)))), .val (.int (f3 (x0 &&& (15 : Int32)))), .val (.long (x1.toInt64)), .second, .val (.int l8_135), .val (.int s0_135)] [])) (fun t k => XS.icmpYes X.here hx rfl (pc0 := 141) (pc' := 167) rfl (hb hby at_141) rfl (teq hc17).1 (by decide) (by decide) k) ?_
      exact B167 (l8_135) (s0_135) T _ X eT NF hr
    · rw [if_neg hc17] at hr
      refine Go.step (S' := T.setTop (mkF m 144 #[.val (.int x0), .val (.int x1), .val (.int (x0 &&& (15 : Int32))), .val (.ref (f1 (x0 &&& (15 : Int32)) w)), .val (.int (f2 (x0 &&& (15 : Int32)))), .val (.int (f3 (x0 &&& (15 : Int32)))), .val (.long (x1.toInt64)), .second, .val (.int l8_135), .val (.int s0_135)] [])) (fun t k => XS.icmpNo X.here hx rfl (hb hby at_141) rfl (feq hc17).1 k) ?_
      refine Go.step (S' := T.setTop (mkF m 146 #[.val (.int x0), .val (.int x1), .val (.int (x0 &&& (15 : Int32))), .val (.ref (f1 (x0 &&& (15 : Int32)) w)), .val (.int (f2 (x0 &&& (15 : Int32)))), .val (.int (f3 (x0 &&& (15 : Int32)))), .val (.long (x1.toInt64)), .second, .val (.int l8_135), .val (.int s0_135)] [(.int s0_135)])) (fun t k => XS.iload X.here hx rfl (hb hby at_144) rfl k) ?_
      by_cases hc18 : s0_135 = (0 : Int32)
      · rw [if_pos hc18] at hr
        refine Go.step (S' := T.setTop (mkF m 164 #[.val (.int x0), .val (.int x1), .val (.int (x0 &&& (15 : Int32))), .val (.ref (f1 (x0 &&& (15 : Int32)) w)), .val (.int (f2 (x0 &&& (15 : Int32)))), .val (.int (f3 (x0 &&& (15 : Int32)))), .val (.long (x1.toInt64)), .second, .val (.int l8_135), .val (.int s0_135)] [])) (fun t k => XS.ifYes X.here hx rfl (pc0 := 146) (pc' := 164) rfl (hb hby at_146) rfl ((if0 _ _).trans (teq hc18).1) (by decide) (by decide) k) ?_
        exact B164 (l8_135) (s0_135) T _ X eT NF hr
      · rw [if_neg hc18] at hr
        refine Go.step (S' := T.setTop (mkF m 149 #[.val (.int x0), .val (.int x1), .val (.int (x0 &&& (15 : Int32))), .val (.ref (f1 (x0 &&& (15 : Int32)) w)), .val (.int (f2 (x0 &&& (15 : Int32)))), .val (.int (f3 (x0 &&& (15 : Int32)))), .val (.long (x1.toInt64)), .second, .val (.int l8_135), .val (.int s0_135)] [])) (fun t k => XS.ifNo X.here hx rfl (hb hby at_146) rfl ((if0 _ _).trans (feq hc18).1) k) ?_
        refine Go.step (S' := T.setTop (mkF m 150 #[.val (.int x0), .val (.int x1), .val (.int (x0 &&& (15 : Int32))), .val (.ref (f1 (x0 &&& (15 : Int32)) w)), .val (.int (f2 (x0 &&& (15 : Int32)))), .val (.int (f3 (x0 &&& (15 : Int32)))), .val (.long (x1.toInt64)), .second, .val (.int l8_135), .val (.int s0_135)] [(.ref (f1 (x0 &&& (15 : Int32)) w))])) (fun t k => XS.aloadN X.here hx rfl (hb hby at_149) rfl rfl k) ?_
        refine Go.step (S' := T.setTop (mkF m 152 #[.val (.int x0), .val (.int x1), .val (.int (x0 &&& (15 : Int32))), .val (.ref (f1 (x0 &&& (15 : Int32)) w)), .val (.int (f2 (x0 &&& (15 : Int32)))), .val (.int (f3 (x0 &&& (15 : Int32)))), .val (.long (x1.toInt64)), .second, .val (.int l8_135), .val (.int s0_135)] [(.int (f3 (x0 &&& (15 : Int32)))), (.ref (f1 (x0 &&& (15 : Int32)) w))])) (fun t k => XS.iload X.here hx rfl (hb hby at_150) rfl k) ?_
        refine Go.step (S' := T.setTop (mkF m 153 #[.val (.int x0), .val (.int x1), .val (.int (x0 &&& (15 : Int32))), .val (.ref (f1 (x0 &&& (15 : Int32)) w)), .val (.int (f2 (x0 &&& (15 : Int32)))), .val (.int (f3 (x0 &&& (15 : Int32)))), .val (.long (x1.toInt64)), .second, .val (.int l8_135), .val (.int s0_135)] [(.int (1 : Int32)), (.int (f3 (x0 &&& (15 : Int32)))), (.ref (f1 (x0 &&& (15 : Int32)) w))])) (fun t k => XS.iconst X.here hx rfl (hb hby at_152) k) ?_
        refine Go.step (S' := T.setTop (mkF m 154 #[.val (.int x0), .val (.int x1), .val (.int (x0 &&& (15 : Int32))), .val (.ref (f1 (x0 &&& (15 : Int32)) w)), .val (.int (f2 (x0 &&& (15 : Int32)))), .val (.int (f3 (x0 &&& (15 : Int32)))), .val (.long (x1.toInt64)), .second, .val (.int l8_135), .val (.int s0_135)] [(.int ((f3 (x0 &&& (15 : Int32))) + (1 : Int32))), (.ref (f1 (x0 &&& (15 : Int32)) w))])) (fun t k => XS.iadd X.here hx rfl (hb hby at_153) rfl k) ?_
        obtain ⟨cq19, kq19, q19a, q19b, q19c⟩ := isOf hZ eT (HE _)
        obtain ⟨_, _, ⟨T19, L19, k19, n19⟩, -, X19, ⟨Lc19, hQ19, l19, y19, z19⟩, st19⟩ := X.virtualBack hx (y := (⟨"com/example/triplewell/triplewell/model/Operator", "takes", "(I)Z"⟩ : MethodName)) (z := (⟨"com/example/triplewell/triplewell/model/Operator", "takes", "(I)Z"⟩ : MethodName)) hown (mvT hZ (hw _ (List.mem_of_getElem? (i := 13) rfl))) (mvT hZ (hw _ (List.mem_of_getElem? (i := 14) rfl))) (notFace_of_selects (args := #[]) (mvT hZ (hw _ (List.mem_of_getElem? (i := 16) rfl)))) (mvT hZ (hw _ (List.mem_of_getElem? (i := 16) rfl))) (mvT hZ (hw _ (List.mem_of_getElem? (i := 15) rfl))) (by decide) (backOf (W := 0) (rm4 l Z a0 hw [] (f1 (x0 &&& (15 : Int32)) w) ((f3 (x0 &&& (15 : Int32))) + (1 : Int32)) (f2 (x0 &&& (15 : Int32))) (f3 (x0 &&& (15 : Int32))) h0 n0 Z0 (HMin _) (HMax _)) hZ (hw _ (List.mem_of_getElem? (i := 17) rfl)) (hw _ (List.mem_of_getElem? (i := 5) rfl)) (by decide) (by decide)) q19a q19c (g := (mkF m 154 #[.val (.int x0), .val (.int x1), .val (.int (x0 &&& (15 : Int32))), .val (.ref (f1 (x0 &&& (15 : Int32)) w)), .val (.int (f2 (x0 &&& (15 : Int32)))), .val (.int (f3 (x0 &&& (15 : Int32)))), .val (.long (x1.toInt64)), .second, .val (.int l8_135), .val (.int s0_135)] [(.int ((f3 (x0 &&& (15 : Int32))) + (1 : Int32))), (.ref (f1 (x0 &&& (15 : Int32)) w))])) rfl (by rw [hml]; rfl) (Steps.refl _) (argsL := [(.int ((f3 (x0 &&& (15 : Int32))) + (1 : Int32)))]) (rest := []) (lenOf pd2 rfl) rfl (by show 2 * 0 + _ ≤ _; exact Nat.le_of_eq rfl) (hb hby at_154) (fun _ _ => ⟨rfl, eT, (by decide : 0 + 0 ≤ _), (by decide : 0 + 0 ≤ _)⟩)
        dsimp only [Pt.U, Pt.locs, Pt.cells, Pt.slots] at X19 l19 y19 z19 st19 hQ19
        subst l19 y19 z19
        obtain ⟨rfl, Nq19, e19⟩ := hQ19
        have N19 := Fr.app NF Nq19
        refine Go.step (S' := T19.setTop (mkF m 157 #[.val (.int x0), .val (.int x1), .val (.int (x0 &&& (15 : Int32))), .val (.ref (f1 (x0 &&& (15 : Int32)) w)), .val (.int (f2 (x0 &&& (15 : Int32)))), .val (.int (f3 (x0 &&& (15 : Int32)))), .val (.long (x1.toInt64)), .second, .val (.int l8_135), .val (.int s0_135)] [(.int (f4 (f1 (x0 &&& (15 : Int32)) w) ((f3 (x0 &&& (15 : Int32))) + (1 : Int32)) (f2 (x0 &&& (15 : Int32))) (f3 (x0 &&& (15 : Int32)))))])) (fun t k => st19.trans k) ?_
        by_cases hc20 : (f4 (f1 (x0 &&& (15 : Int32)) w) ((f3 (x0 &&& (15 : Int32))) + (1 : Int32)) (f2 (x0 &&& (15 : Int32))) (f3 (x0 &&& (15 : Int32)))) = (0 : Int32)
        · rw [if_pos hc20] at hr
          refine Go.step (S' := T19.setTop (mkF m 160 #[.val (.int x0), .val (.int x1), .val (.int (x0 &&& (15 : Int32))), .val (.ref (f1 (x0 &&& (15 : Int32)) w)), .val (.int (f2 (x0 &&& (15 : Int32)))), .val (.int (f3 (x0 &&& (15 : Int32)))), .val (.long (x1.toInt64)), .second, .val (.int l8_135), .val (.int s0_135)] [])) (fun t k => XS.ifNo X19.here hx rfl (hb hby at_157) rfl ((if0 _ _).trans (teq hc20).2) k) ?_
          refine Go.step (S' := T19.setTop (mkF m 161 #[.val (.int x0), .val (.int x1), .val (.int (x0 &&& (15 : Int32))), .val (.ref (f1 (x0 &&& (15 : Int32)) w)), .val (.int (f2 (x0 &&& (15 : Int32)))), .val (.int (f3 (x0 &&& (15 : Int32)))), .val (.long (x1.toInt64)), .second, .val (.int l8_135), .val (.int s0_135)] [(.int (1 : Int32))])) (fun t k => XS.iconst X19.here hx rfl (hb hby at_160) k) ?_
          refine Go.step (S' := T19.setTop (mkF m 165 #[.val (.int x0), .val (.int x1), .val (.int (x0 &&& (15 : Int32))), .val (.ref (f1 (x0 &&& (15 : Int32)) w)), .val (.int (f2 (x0 &&& (15 : Int32)))), .val (.int (f3 (x0 &&& (15 : Int32)))), .val (.long (x1.toInt64)), .second, .val (.int l8_135), .val (.int s0_135)] [(.int (1 : Int32))])) (fun t k => XS.goto X19.here hx rfl (pc0 := 161) (pc' := 165) rfl (hb hby at_161) (by decide) (by decide) k) ?_
          exact B165 (l8_135) (s0_135) ((1 : Int32)) T19 _ X19 e19 N19 hr
        · rw [if_neg hc20] at hr
          refine Go.step (S' := T19.setTop (mkF m 164 #[.val (.int x0), .val (.int x1), .val (.int (x0 &&& (15 : Int32))), .val (.ref (f1 (x0 &&& (15 : Int32)) w)), .val (.int (f2 (x0 &&& (15 : Int32)))), .val (.int (f3 (x0 &&& (15 : Int32)))), .val (.long (x1.toInt64)), .second, .val (.int l8_135), .val (.int s0_135)] [])) (fun t k => XS.ifYes X19.here hx rfl (pc0 := 157) (pc' := 164) rfl (hb hby at_157) rfl ((if0 _ _).trans (feq hc20).2) (by decide) (by decide) k) ?_
          exact B164 (l8_135) (s0_135) T19 _ X19 e19 N19 hr
  have B134 : ∀ (l8_134 : Int32) (l9_134 : Int32) (T : State) (locs : List Loc) (X : Stand p l e room_1 s m #[(.int x0), (.int x1)] below meth c T locs 0 0) (eT : T.heap = h0) (NF : Fr n0 locs) (hr : f0_134 x0 x1 w l8_134 l9_134 = r), Go p e below s (Q0 x0 x1 w h0 n0) room_1.cells room_1.slots (T.setTop (mkF m 134 #[.val (.int x0), .val (.int x1), .val (.int (x0 &&& (15 : Int32))), .val (.ref (f1 (x0 &&& (15 : Int32)) w)), .val (.int (f2 (x0 &&& (15 : Int32)))), .val (.int (f3 (x0 &&& (15 : Int32)))), .val (.long (x1.toInt64)), .second, .val (.int l8_134), .val (.int l9_134)] [])) := by
    intro l8_134 l9_134 T locs X eT NF hr
    unfold f0_134 at hr
    refine Go.step (S' := T.setTop (mkF m 135 #[.val (.int x0), .val (.int x1), .val (.int (x0 &&& (15 : Int32))), .val (.ref (f1 (x0 &&& (15 : Int32)) w)), .val (.int (f2 (x0 &&& (15 : Int32)))), .val (.int (f3 (x0 &&& (15 : Int32)))), .val (.long (x1.toInt64)), .second, .val (.int l8_134), .val (.int l9_134)] [(.int (0 : Int32))])) (fun t k => XS.iconst X.here hx rfl (hb hby at_134) k) ?_
    exact B135 (l8_134) (l9_134) ((0 : Int32)) T _ X eT NF hr
  have B114 : ∀ (l8_114 : Int32) (l9_114 : Int32) (s0_114 : Int32) (T : State) (locs : List Loc) (X : Stand p l e room_1 s m #[(.int x0), (.int x1)] below meth c T locs 0 0) (eT : T.heap = h0) (NF : Fr n0 locs) (hr : f0_114 x0 x1 w l8_114 l9_114 s0_114 = r), Go p e below s (Q0 x0 x1 w h0 n0) room_1.cells room_1.slots (T.setTop (mkF m 114 #[.val (.int x0), .val (.int x1), .val (.int (x0 &&& (15 : Int32))), .val (.ref (f1 (x0 &&& (15 : Int32)) w)), .val (.int (f2 (x0 &&& (15 : Int32)))), .val (.int (f3 (x0 &&& (15 : Int32)))), .val (.long (x1.toInt64)), .second, .val (.int l8_114), .val (.int l9_114)] [(.int s0_114)])) := by
    intro l8_114 l9_114 s0_114 T locs X eT NF hr
    unfold f0_114 at hr
    refine Go.step (S' := T.setTop (mkF m 116 #[.val (.int x0), .val (.int x1), .val (.int (x0 &&& (15 : Int32))), .val (.ref (f1 (x0 &&& (15 : Int32)) w)), .val (.int (f2 (x0 &&& (15 : Int32)))), .val (.int (f3 (x0 &&& (15 : Int32)))), .val (.long (x1.toInt64)), .second, .val (.int l8_114), .val (.int s0_114)] [])) (fun t k => XS.istore X.here hx rfl (hb hby at_114) rfl (l' := #[.val (.int x0), .val (.int x1), .val (.int (x0 &&& (15 : Int32))), .val (.ref (f1 (x0 &&& (15 : Int32)) w)), .val (.int (f2 (x0 &&& (15 : Int32)))), .val (.int (f3 (x0 &&& (15 : Int32)))), .val (.long (x1.toInt64)), .second, .val (.int l8_114), .val (.int s0_114)]) rfl k) ?_
    refine Go.step (S' := T.setTop (mkF m 118 #[.val (.int x0), .val (.int x1), .val (.int (x0 &&& (15 : Int32))), .val (.ref (f1 (x0 &&& (15 : Int32)) w)), .val (.int (f2 (x0 &&& (15 : Int32)))), .val (.int (f3 (x0 &&& (15 : Int32)))), .val (.long (x1.toInt64)), .second, .val (.int l8_114), .val (.int s0_114)] [(.int s0_114)])) (fun t k => XS.iload X.here hx rfl (hb hby at_116) rfl k) ?_
    by_cases hc14 : s0_114 = (0 : Int32)
    · rw [if_pos hc14] at hr
      refine Go.step (S' := T.setTop (mkF m 134 #[.val (.int x0), .val (.int x1), .val (.int (x0 &&& (15 : Int32))), .val (.ref (f1 (x0 &&& (15 : Int32)) w)), .val (.int (f2 (x0 &&& (15 : Int32)))), .val (.int (f3 (x0 &&& (15 : Int32)))), .val (.long (x1.toInt64)), .second, .val (.int l8_114), .val (.int s0_114)] [])) (fun t k => XS.ifYes X.here hx rfl (pc0 := 118) (pc' := 134) rfl (hb hby at_118) rfl ((if0 _ _).trans (teq hc14).1) (by decide) (by decide) k) ?_
      exact B134 (l8_114) (s0_114) T _ X eT NF hr
    · rw [if_neg hc14] at hr
      refine Go.step (S' := T.setTop (mkF m 121 #[.val (.int x0), .val (.int x1), .val (.int (x0 &&& (15 : Int32))), .val (.ref (f1 (x0 &&& (15 : Int32)) w)), .val (.int (f2 (x0 &&& (15 : Int32)))), .val (.int (f3 (x0 &&& (15 : Int32)))), .val (.long (x1.toInt64)), .second, .val (.int l8_114), .val (.int s0_114)] [])) (fun t k => XS.ifNo X.here hx rfl (hb hby at_118) rfl ((if0 _ _).trans (feq hc14).1) k) ?_
      refine Go.step (S' := T.setTop (mkF m 122 #[.val (.int x0), .val (.int x1), .val (.int (x0 &&& (15 : Int32))), .val (.ref (f1 (x0 &&& (15 : Int32)) w)), .val (.int (f2 (x0 &&& (15 : Int32)))), .val (.int (f3 (x0 &&& (15 : Int32)))), .val (.long (x1.toInt64)), .second, .val (.int l8_114), .val (.int s0_114)] [(.ref (f1 (x0 &&& (15 : Int32)) w))])) (fun t k => XS.aloadN X.here hx rfl (hb hby at_121) rfl rfl k) ?_
      refine Go.step (S' := T.setTop (mkF m 124 #[.val (.int x0), .val (.int x1), .val (.int (x0 &&& (15 : Int32))), .val (.ref (f1 (x0 &&& (15 : Int32)) w)), .val (.int (f2 (x0 &&& (15 : Int32)))), .val (.int (f3 (x0 &&& (15 : Int32)))), .val (.long (x1.toInt64)), .second, .val (.int l8_114), .val (.int s0_114)] [(.int (f3 (x0 &&& (15 : Int32)))), (.ref (f1 (x0 &&& (15 : Int32)) w))])) (fun t k => XS.iload X.here hx rfl (hb hby at_122) rfl k) ?_
      obtain ⟨cq15, kq15, q15a, q15b, q15c⟩ := isOf hZ eT (HE _)
      obtain ⟨_, _, ⟨T15, L15, k15, n15⟩, -, X15, ⟨Lc15, hQ15, l15, y15, z15⟩, st15⟩ := X.virtualBack hx (y := (⟨"com/example/triplewell/triplewell/model/Operator", "takes", "(I)Z"⟩ : MethodName)) (z := (⟨"com/example/triplewell/triplewell/model/Operator", "takes", "(I)Z"⟩ : MethodName)) hown (mvT hZ (hw _ (List.mem_of_getElem? (i := 13) rfl))) (mvT hZ (hw _ (List.mem_of_getElem? (i := 14) rfl))) (notFace_of_selects (args := #[]) (mvT hZ (hw _ (List.mem_of_getElem? (i := 16) rfl)))) (mvT hZ (hw _ (List.mem_of_getElem? (i := 16) rfl))) (mvT hZ (hw _ (List.mem_of_getElem? (i := 15) rfl))) (by decide) (backOf (W := 0) (rm4 l Z a0 hw [] (f1 (x0 &&& (15 : Int32)) w) (f3 (x0 &&& (15 : Int32))) (f2 (x0 &&& (15 : Int32))) (f3 (x0 &&& (15 : Int32))) h0 n0 Z0 (HMin _) (HMax _)) hZ (hw _ (List.mem_of_getElem? (i := 17) rfl)) (hw _ (List.mem_of_getElem? (i := 5) rfl)) (by decide) (by decide)) q15a q15c (g := (mkF m 124 #[.val (.int x0), .val (.int x1), .val (.int (x0 &&& (15 : Int32))), .val (.ref (f1 (x0 &&& (15 : Int32)) w)), .val (.int (f2 (x0 &&& (15 : Int32)))), .val (.int (f3 (x0 &&& (15 : Int32)))), .val (.long (x1.toInt64)), .second, .val (.int l8_114), .val (.int s0_114)] [(.int (f3 (x0 &&& (15 : Int32)))), (.ref (f1 (x0 &&& (15 : Int32)) w))])) rfl (by rw [hml]; rfl) (Steps.refl _) (argsL := [(.int (f3 (x0 &&& (15 : Int32))))]) (rest := []) (lenOf pd2 rfl) rfl (by show 2 * 0 + _ ≤ _; exact Nat.le_of_eq rfl) (hb hby at_124) (fun _ _ => ⟨rfl, eT, (by decide : 0 + 0 ≤ _), (by decide : 0 + 0 ≤ _)⟩)
      dsimp only [Pt.U, Pt.locs, Pt.cells, Pt.slots] at X15 l15 y15 z15 st15 hQ15
      subst l15 y15 z15
      obtain ⟨rfl, Nq15, e15⟩ := hQ15
      have N15 := Fr.app NF Nq15
      refine Go.step (S' := T15.setTop (mkF m 127 #[.val (.int x0), .val (.int x1), .val (.int (x0 &&& (15 : Int32))), .val (.ref (f1 (x0 &&& (15 : Int32)) w)), .val (.int (f2 (x0 &&& (15 : Int32)))), .val (.int (f3 (x0 &&& (15 : Int32)))), .val (.long (x1.toInt64)), .second, .val (.int l8_114), .val (.int s0_114)] [(.int (f4 (f1 (x0 &&& (15 : Int32)) w) (f3 (x0 &&& (15 : Int32))) (f2 (x0 &&& (15 : Int32))) (f3 (x0 &&& (15 : Int32)))))])) (fun t k => st15.trans k) ?_
      by_cases hc16 : (f4 (f1 (x0 &&& (15 : Int32)) w) (f3 (x0 &&& (15 : Int32))) (f2 (x0 &&& (15 : Int32))) (f3 (x0 &&& (15 : Int32)))) = (0 : Int32)
      · rw [if_pos hc16] at hr
        refine Go.step (S' := T15.setTop (mkF m 134 #[.val (.int x0), .val (.int x1), .val (.int (x0 &&& (15 : Int32))), .val (.ref (f1 (x0 &&& (15 : Int32)) w)), .val (.int (f2 (x0 &&& (15 : Int32)))), .val (.int (f3 (x0 &&& (15 : Int32)))), .val (.long (x1.toInt64)), .second, .val (.int l8_114), .val (.int s0_114)] [])) (fun t k => XS.ifYes X15.here hx rfl (pc0 := 127) (pc' := 134) rfl (hb hby at_127) rfl ((if0 _ _).trans (teq hc16).1) (by decide) (by decide) k) ?_
        exact B134 (l8_114) (s0_114) T15 _ X15 e15 N15 hr
      · rw [if_neg hc16] at hr
        refine Go.step (S' := T15.setTop (mkF m 130 #[.val (.int x0), .val (.int x1), .val (.int (x0 &&& (15 : Int32))), .val (.ref (f1 (x0 &&& (15 : Int32)) w)), .val (.int (f2 (x0 &&& (15 : Int32)))), .val (.int (f3 (x0 &&& (15 : Int32)))), .val (.long (x1.toInt64)), .second, .val (.int l8_114), .val (.int s0_114)] [])) (fun t k => XS.ifNo X15.here hx rfl (hb hby at_127) rfl ((if0 _ _).trans (feq hc16).1) k) ?_
        refine Go.step (S' := T15.setTop (mkF m 131 #[.val (.int x0), .val (.int x1), .val (.int (x0 &&& (15 : Int32))), .val (.ref (f1 (x0 &&& (15 : Int32)) w)), .val (.int (f2 (x0 &&& (15 : Int32)))), .val (.int (f3 (x0 &&& (15 : Int32)))), .val (.long (x1.toInt64)), .second, .val (.int l8_114), .val (.int s0_114)] [(.int (1 : Int32))])) (fun t k => XS.iconst X15.here hx rfl (hb hby at_130) k) ?_
        refine Go.step (S' := T15.setTop (mkF m 135 #[.val (.int x0), .val (.int x1), .val (.int (x0 &&& (15 : Int32))), .val (.ref (f1 (x0 &&& (15 : Int32)) w)), .val (.int (f2 (x0 &&& (15 : Int32)))), .val (.int (f3 (x0 &&& (15 : Int32)))), .val (.long (x1.toInt64)), .second, .val (.int l8_114), .val (.int s0_114)] [(.int (1 : Int32))])) (fun t k => XS.goto X15.here hx rfl (pc0 := 131) (pc' := 135) rfl (hb hby at_131) (by decide) (by decide) k) ?_
        exact B135 (l8_114) (s0_114) ((1 : Int32)) T15 _ X15 e15 N15 hr
  have B113 : ∀ (l8_113 : Int32) (l9_113 : Int32) (T : State) (locs : List Loc) (X : Stand p l e room_1 s m #[(.int x0), (.int x1)] below meth c T locs 0 0) (eT : T.heap = h0) (NF : Fr n0 locs) (hr : f0_113 x0 x1 w l8_113 l9_113 = r), Go p e below s (Q0 x0 x1 w h0 n0) room_1.cells room_1.slots (T.setTop (mkF m 113 #[.val (.int x0), .val (.int x1), .val (.int (x0 &&& (15 : Int32))), .val (.ref (f1 (x0 &&& (15 : Int32)) w)), .val (.int (f2 (x0 &&& (15 : Int32)))), .val (.int (f3 (x0 &&& (15 : Int32)))), .val (.long (x1.toInt64)), .second, .val (.int l8_113), .val (.int l9_113)] [])) := by
    intro l8_113 l9_113 T locs X eT NF hr
    unfold f0_113 at hr
    refine Go.step (S' := T.setTop (mkF m 114 #[.val (.int x0), .val (.int x1), .val (.int (x0 &&& (15 : Int32))), .val (.ref (f1 (x0 &&& (15 : Int32)) w)), .val (.int (f2 (x0 &&& (15 : Int32)))), .val (.int (f3 (x0 &&& (15 : Int32)))), .val (.long (x1.toInt64)), .second, .val (.int l8_113), .val (.int l9_113)] [(.int (0 : Int32))])) (fun t k => XS.iconst X.here hx rfl (hb hby at_113) k) ?_
    exact B114 (l8_113) (l9_113) ((0 : Int32)) T _ X eT NF hr
  have B91 : ∀ (l8_91 : Int32) (l9_91 : Int32) (s0_91 : Int32) (T : State) (locs : List Loc) (X : Stand p l e room_1 s m #[(.int x0), (.int x1)] below meth c T locs 0 0) (eT : T.heap = h0) (NF : Fr n0 locs) (hr : f0_91 x0 x1 w l8_91 l9_91 s0_91 = r), Go p e below s (Q0 x0 x1 w h0 n0) room_1.cells room_1.slots (T.setTop (mkF m 91 #[.val (.int x0), .val (.int x1), .val (.int (x0 &&& (15 : Int32))), .val (.ref (f1 (x0 &&& (15 : Int32)) w)), .val (.int (f2 (x0 &&& (15 : Int32)))), .val (.int (f3 (x0 &&& (15 : Int32)))), .val (.long (x1.toInt64)), .second, .val (.int l8_91), .val (.int l9_91)] [(.int s0_91)])) := by
    intro l8_91 l9_91 s0_91 T locs X eT NF hr
    unfold f0_91 at hr
    refine Go.step (S' := T.setTop (mkF m 93 #[.val (.int x0), .val (.int x1), .val (.int (x0 &&& (15 : Int32))), .val (.ref (f1 (x0 &&& (15 : Int32)) w)), .val (.int (f2 (x0 &&& (15 : Int32)))), .val (.int (f3 (x0 &&& (15 : Int32)))), .val (.long (x1.toInt64)), .second, .val (.int l8_91), .val (.int s0_91)] [])) (fun t k => XS.istore X.here hx rfl (hb hby at_91) rfl (l' := #[.val (.int x0), .val (.int x1), .val (.int (x0 &&& (15 : Int32))), .val (.ref (f1 (x0 &&& (15 : Int32)) w)), .val (.int (f2 (x0 &&& (15 : Int32)))), .val (.int (f3 (x0 &&& (15 : Int32)))), .val (.long (x1.toInt64)), .second, .val (.int l8_91), .val (.int s0_91)]) rfl k) ?_
    refine Go.step (S' := T.setTop (mkF m 95 #[.val (.int x0), .val (.int x1), .val (.int (x0 &&& (15 : Int32))), .val (.ref (f1 (x0 &&& (15 : Int32)) w)), .val (.int (f2 (x0 &&& (15 : Int32)))), .val (.int (f3 (x0 &&& (15 : Int32)))), .val (.long (x1.toInt64)), .second, .val (.int l8_91), .val (.int s0_91)] [(.int s0_91)])) (fun t k => XS.iload X.here hx rfl (hb hby at_93) rfl k) ?_
    by_cases hc11 : s0_91 = (0 : Int32)
    · rw [if_pos hc11] at hr
      refine Go.step (S' := T.setTop (mkF m 113 #[.val (.int x0), .val (.int x1), .val (.int (x0 &&& (15 : Int32))), .val (.ref (f1 (x0 &&& (15 : Int32)) w)), .val (.int (f2 (x0 &&& (15 : Int32)))), .val (.int (f3 (x0 &&& (15 : Int32)))), .val (.long (x1.toInt64)), .second, .val (.int l8_91), .val (.int s0_91)] [])) (fun t k => XS.ifYes X.here hx rfl (pc0 := 95) (pc' := 113) rfl (hb hby at_95) rfl ((if0 _ _).trans (teq hc11).1) (by decide) (by decide) k) ?_
      exact B113 (l8_91) (s0_91) T _ X eT NF hr
    · rw [if_neg hc11] at hr
      refine Go.step (S' := T.setTop (mkF m 98 #[.val (.int x0), .val (.int x1), .val (.int (x0 &&& (15 : Int32))), .val (.ref (f1 (x0 &&& (15 : Int32)) w)), .val (.int (f2 (x0 &&& (15 : Int32)))), .val (.int (f3 (x0 &&& (15 : Int32)))), .val (.long (x1.toInt64)), .second, .val (.int l8_91), .val (.int s0_91)] [])) (fun t k => XS.ifNo X.here hx rfl (hb hby at_95) rfl ((if0 _ _).trans (feq hc11).1) k) ?_
      refine Go.step (S' := T.setTop (mkF m 99 #[.val (.int x0), .val (.int x1), .val (.int (x0 &&& (15 : Int32))), .val (.ref (f1 (x0 &&& (15 : Int32)) w)), .val (.int (f2 (x0 &&& (15 : Int32)))), .val (.int (f3 (x0 &&& (15 : Int32)))), .val (.long (x1.toInt64)), .second, .val (.int l8_91), .val (.int s0_91)] [(.ref (f1 (x0 &&& (15 : Int32)) w))])) (fun t k => XS.aloadN X.here hx rfl (hb hby at_98) rfl rfl k) ?_
      refine Go.step (S' := T.setTop (mkF m 101 #[.val (.int x0), .val (.int x1), .val (.int (x0 &&& (15 : Int32))), .val (.ref (f1 (x0 &&& (15 : Int32)) w)), .val (.int (f2 (x0 &&& (15 : Int32)))), .val (.int (f3 (x0 &&& (15 : Int32)))), .val (.long (x1.toInt64)), .second, .val (.int l8_91), .val (.int s0_91)] [(.int (f2 (x0 &&& (15 : Int32)))), (.ref (f1 (x0 &&& (15 : Int32)) w))])) (fun t k => XS.iload X.here hx rfl (hb hby at_99) rfl k) ?_
      refine Go.step (S' := T.setTop (mkF m 102 #[.val (.int x0), .val (.int x1), .val (.int (x0 &&& (15 : Int32))), .val (.ref (f1 (x0 &&& (15 : Int32)) w)), .val (.int (f2 (x0 &&& (15 : Int32)))), .val (.int (f3 (x0 &&& (15 : Int32)))), .val (.long (x1.toInt64)), .second, .val (.int l8_91), .val (.int s0_91)] [(.int (1 : Int32)), (.int (f2 (x0 &&& (15 : Int32)))), (.ref (f1 (x0 &&& (15 : Int32)) w))])) (fun t k => XS.iconst X.here hx rfl (hb hby at_101) k) ?_
      refine Go.step (S' := T.setTop (mkF m 103 #[.val (.int x0), .val (.int x1), .val (.int (x0 &&& (15 : Int32))), .val (.ref (f1 (x0 &&& (15 : Int32)) w)), .val (.int (f2 (x0 &&& (15 : Int32)))), .val (.int (f3 (x0 &&& (15 : Int32)))), .val (.long (x1.toInt64)), .second, .val (.int l8_91), .val (.int s0_91)] [(.int ((f2 (x0 &&& (15 : Int32))) - (1 : Int32))), (.ref (f1 (x0 &&& (15 : Int32)) w))])) (fun t k => XS.isub X.here hx rfl (hb hby at_102) rfl k) ?_
      obtain ⟨cq12, kq12, q12a, q12b, q12c⟩ := isOf hZ eT (HE _)
      obtain ⟨_, _, ⟨T12, L12, k12, n12⟩, -, X12, ⟨Lc12, hQ12, l12, y12, z12⟩, st12⟩ := X.virtualBack hx (y := (⟨"com/example/triplewell/triplewell/model/Operator", "takes", "(I)Z"⟩ : MethodName)) (z := (⟨"com/example/triplewell/triplewell/model/Operator", "takes", "(I)Z"⟩ : MethodName)) hown (mvT hZ (hw _ (List.mem_of_getElem? (i := 13) rfl))) (mvT hZ (hw _ (List.mem_of_getElem? (i := 14) rfl))) (notFace_of_selects (args := #[]) (mvT hZ (hw _ (List.mem_of_getElem? (i := 16) rfl)))) (mvT hZ (hw _ (List.mem_of_getElem? (i := 16) rfl))) (mvT hZ (hw _ (List.mem_of_getElem? (i := 15) rfl))) (by decide) (backOf (W := 0) (rm4 l Z a0 hw [] (f1 (x0 &&& (15 : Int32)) w) ((f2 (x0 &&& (15 : Int32))) - (1 : Int32)) (f2 (x0 &&& (15 : Int32))) (f3 (x0 &&& (15 : Int32))) h0 n0 Z0 (HMin _) (HMax _)) hZ (hw _ (List.mem_of_getElem? (i := 17) rfl)) (hw _ (List.mem_of_getElem? (i := 5) rfl)) (by decide) (by decide)) q12a q12c (g := (mkF m 103 #[.val (.int x0), .val (.int x1), .val (.int (x0 &&& (15 : Int32))), .val (.ref (f1 (x0 &&& (15 : Int32)) w)), .val (.int (f2 (x0 &&& (15 : Int32)))), .val (.int (f3 (x0 &&& (15 : Int32)))), .val (.long (x1.toInt64)), .second, .val (.int l8_91), .val (.int s0_91)] [(.int ((f2 (x0 &&& (15 : Int32))) - (1 : Int32))), (.ref (f1 (x0 &&& (15 : Int32)) w))])) rfl (by rw [hml]; rfl) (Steps.refl _) (argsL := [(.int ((f2 (x0 &&& (15 : Int32))) - (1 : Int32)))]) (rest := []) (lenOf pd2 rfl) rfl (by show 2 * 0 + _ ≤ _; exact Nat.le_of_eq rfl) (hb hby at_103) (fun _ _ => ⟨rfl, eT, (by decide : 0 + 0 ≤ _), (by decide : 0 + 0 ≤ _)⟩)
      dsimp only [Pt.U, Pt.locs, Pt.cells, Pt.slots] at X12 l12 y12 z12 st12 hQ12
      subst l12 y12 z12
      obtain ⟨rfl, Nq12, e12⟩ := hQ12
      have N12 := Fr.app NF Nq12
      refine Go.step (S' := T12.setTop (mkF m 106 #[.val (.int x0), .val (.int x1), .val (.int (x0 &&& (15 : Int32))), .val (.ref (f1 (x0 &&& (15 : Int32)) w)), .val (.int (f2 (x0 &&& (15 : Int32)))), .val (.int (f3 (x0 &&& (15 : Int32)))), .val (.long (x1.toInt64)), .second, .val (.int l8_91), .val (.int s0_91)] [(.int (f4 (f1 (x0 &&& (15 : Int32)) w) ((f2 (x0 &&& (15 : Int32))) - (1 : Int32)) (f2 (x0 &&& (15 : Int32))) (f3 (x0 &&& (15 : Int32)))))])) (fun t k => st12.trans k) ?_
      by_cases hc13 : (f4 (f1 (x0 &&& (15 : Int32)) w) ((f2 (x0 &&& (15 : Int32))) - (1 : Int32)) (f2 (x0 &&& (15 : Int32))) (f3 (x0 &&& (15 : Int32)))) = (0 : Int32)
      · rw [if_pos hc13] at hr
        refine Go.step (S' := T12.setTop (mkF m 109 #[.val (.int x0), .val (.int x1), .val (.int (x0 &&& (15 : Int32))), .val (.ref (f1 (x0 &&& (15 : Int32)) w)), .val (.int (f2 (x0 &&& (15 : Int32)))), .val (.int (f3 (x0 &&& (15 : Int32)))), .val (.long (x1.toInt64)), .second, .val (.int l8_91), .val (.int s0_91)] [])) (fun t k => XS.ifNo X12.here hx rfl (hb hby at_106) rfl ((if0 _ _).trans (teq hc13).2) k) ?_
        refine Go.step (S' := T12.setTop (mkF m 110 #[.val (.int x0), .val (.int x1), .val (.int (x0 &&& (15 : Int32))), .val (.ref (f1 (x0 &&& (15 : Int32)) w)), .val (.int (f2 (x0 &&& (15 : Int32)))), .val (.int (f3 (x0 &&& (15 : Int32)))), .val (.long (x1.toInt64)), .second, .val (.int l8_91), .val (.int s0_91)] [(.int (1 : Int32))])) (fun t k => XS.iconst X12.here hx rfl (hb hby at_109) k) ?_
        refine Go.step (S' := T12.setTop (mkF m 114 #[.val (.int x0), .val (.int x1), .val (.int (x0 &&& (15 : Int32))), .val (.ref (f1 (x0 &&& (15 : Int32)) w)), .val (.int (f2 (x0 &&& (15 : Int32)))), .val (.int (f3 (x0 &&& (15 : Int32)))), .val (.long (x1.toInt64)), .second, .val (.int l8_91), .val (.int s0_91)] [(.int (1 : Int32))])) (fun t k => XS.goto X12.here hx rfl (pc0 := 110) (pc' := 114) rfl (hb hby at_110) (by decide) (by decide) k) ?_
        exact B114 (l8_91) (s0_91) ((1 : Int32)) T12 _ X12 e12 N12 hr
      · rw [if_neg hc13] at hr
        refine Go.step (S' := T12.setTop (mkF m 113 #[.val (.int x0), .val (.int x1), .val (.int (x0 &&& (15 : Int32))), .val (.ref (f1 (x0 &&& (15 : Int32)) w)), .val (.int (f2 (x0 &&& (15 : Int32)))), .val (.int (f3 (x0 &&& (15 : Int32)))), .val (.long (x1.toInt64)), .second, .val (.int l8_91), .val (.int s0_91)] [])) (fun t k => XS.ifYes X12.here hx rfl (pc0 := 106) (pc' := 113) rfl (hb hby at_106) rfl ((if0 _ _).trans (feq hc13).2) (by decide) (by decide) k) ?_
        exact B113 (l8_91) (s0_91) T12 _ X12 e12 N12 hr
  have B90 : ∀ (l8_90 : Int32) (l9_90 : Int32) (T : State) (locs : List Loc) (X : Stand p l e room_1 s m #[(.int x0), (.int x1)] below meth c T locs 0 0) (eT : T.heap = h0) (NF : Fr n0 locs) (hr : f0_90 x0 x1 w l8_90 l9_90 = r), Go p e below s (Q0 x0 x1 w h0 n0) room_1.cells room_1.slots (T.setTop (mkF m 90 #[.val (.int x0), .val (.int x1), .val (.int (x0 &&& (15 : Int32))), .val (.ref (f1 (x0 &&& (15 : Int32)) w)), .val (.int (f2 (x0 &&& (15 : Int32)))), .val (.int (f3 (x0 &&& (15 : Int32)))), .val (.long (x1.toInt64)), .second, .val (.int l8_90), .val (.int l9_90)] [])) := by
    intro l8_90 l9_90 T locs X eT NF hr
    unfold f0_90 at hr
    refine Go.step (S' := T.setTop (mkF m 91 #[.val (.int x0), .val (.int x1), .val (.int (x0 &&& (15 : Int32))), .val (.ref (f1 (x0 &&& (15 : Int32)) w)), .val (.int (f2 (x0 &&& (15 : Int32)))), .val (.int (f3 (x0 &&& (15 : Int32)))), .val (.long (x1.toInt64)), .second, .val (.int l8_90), .val (.int l9_90)] [(.int (0 : Int32))])) (fun t k => XS.iconst X.here hx rfl (hb hby at_90) k) ?_
    exact B91 (l8_90) (l9_90) ((0 : Int32)) T _ X eT NF hr
  have B70 : ∀ (l8_70 : Int32) (s0_70 : Int32) (T : State) (locs : List Loc) (X : Stand p l e room_1 s m #[(.int x0), (.int x1)] below meth c T locs 0 0) (eT : T.heap = h0) (NF : Fr n0 locs) (hr : f0_70 x0 x1 w l8_70 s0_70 = r), Go p e below s (Q0 x0 x1 w h0 n0) room_1.cells room_1.slots (T.setTop (mkF m 70 #[.val (.int x0), .val (.int x1), .val (.int (x0 &&& (15 : Int32))), .val (.ref (f1 (x0 &&& (15 : Int32)) w)), .val (.int (f2 (x0 &&& (15 : Int32)))), .val (.int (f3 (x0 &&& (15 : Int32)))), .val (.long (x1.toInt64)), .second, .val (.int l8_70), .unset] [(.int s0_70)])) := by
    intro l8_70 s0_70 T locs X eT NF hr
    unfold f0_70 at hr
    refine Go.step (S' := T.setTop (mkF m 72 #[.val (.int x0), .val (.int x1), .val (.int (x0 &&& (15 : Int32))), .val (.ref (f1 (x0 &&& (15 : Int32)) w)), .val (.int (f2 (x0 &&& (15 : Int32)))), .val (.int (f3 (x0 &&& (15 : Int32)))), .val (.long (x1.toInt64)), .second, .val (.int l8_70), .val (.int s0_70)] [])) (fun t k => XS.istore X.here hx rfl (hb hby at_70) rfl (l' := #[.val (.int x0), .val (.int x1), .val (.int (x0 &&& (15 : Int32))), .val (.ref (f1 (x0 &&& (15 : Int32)) w)), .val (.int (f2 (x0 &&& (15 : Int32)))), .val (.int (f3 (x0 &&& (15 : Int32)))), .val (.long (x1.toInt64)), .second, .val (.int l8_70), .val (.int s0_70)]) rfl k) ?_
    refine Go.step (S' := T.setTop (mkF m 74 #[.val (.int x0), .val (.int x1), .val (.int (x0 &&& (15 : Int32))), .val (.ref (f1 (x0 &&& (15 : Int32)) w)), .val (.int (f2 (x0 &&& (15 : Int32)))), .val (.int (f3 (x0 &&& (15 : Int32)))), .val (.long (x1.toInt64)), .second, .val (.int l8_70), .val (.int s0_70)] [(.int s0_70)])) (fun t k => XS.iload X.here hx rfl (hb hby at_72) rfl k) ?_
    by_cases hc8 : s0_70 = (0 : Int32)
    · rw [if_pos hc8] at hr
      refine Go.step (S' := T.setTop (mkF m 90 #[.val (.int x0), .val (.int x1), .val (.int (x0 &&& (15 : Int32))), .val (.ref (f1 (x0 &&& (15 : Int32)) w)), .val (.int (f2 (x0 &&& (15 : Int32)))), .val (.int (f3 (x0 &&& (15 : Int32)))), .val (.long (x1.toInt64)), .second, .val (.int l8_70), .val (.int s0_70)] [])) (fun t k => XS.ifYes X.here hx rfl (pc0 := 74) (pc' := 90) rfl (hb hby at_74) rfl ((if0 _ _).trans (teq hc8).1) (by decide) (by decide) k) ?_
      exact B90 (l8_70) (s0_70) T _ X eT NF hr
    · rw [if_neg hc8] at hr
      refine Go.step (S' := T.setTop (mkF m 77 #[.val (.int x0), .val (.int x1), .val (.int (x0 &&& (15 : Int32))), .val (.ref (f1 (x0 &&& (15 : Int32)) w)), .val (.int (f2 (x0 &&& (15 : Int32)))), .val (.int (f3 (x0 &&& (15 : Int32)))), .val (.long (x1.toInt64)), .second, .val (.int l8_70), .val (.int s0_70)] [])) (fun t k => XS.ifNo X.here hx rfl (hb hby at_74) rfl ((if0 _ _).trans (feq hc8).1) k) ?_
      refine Go.step (S' := T.setTop (mkF m 78 #[.val (.int x0), .val (.int x1), .val (.int (x0 &&& (15 : Int32))), .val (.ref (f1 (x0 &&& (15 : Int32)) w)), .val (.int (f2 (x0 &&& (15 : Int32)))), .val (.int (f3 (x0 &&& (15 : Int32)))), .val (.long (x1.toInt64)), .second, .val (.int l8_70), .val (.int s0_70)] [(.ref (f1 (x0 &&& (15 : Int32)) w))])) (fun t k => XS.aloadN X.here hx rfl (hb hby at_77) rfl rfl k) ?_
      refine Go.step (S' := T.setTop (mkF m 80 #[.val (.int x0), .val (.int x1), .val (.int (x0 &&& (15 : Int32))), .val (.ref (f1 (x0 &&& (15 : Int32)) w)), .val (.int (f2 (x0 &&& (15 : Int32)))), .val (.int (f3 (x0 &&& (15 : Int32)))), .val (.long (x1.toInt64)), .second, .val (.int l8_70), .val (.int s0_70)] [(.int (f2 (x0 &&& (15 : Int32)))), (.ref (f1 (x0 &&& (15 : Int32)) w))])) (fun t k => XS.iload X.here hx rfl (hb hby at_78) rfl k) ?_
      obtain ⟨cq9, kq9, q9a, q9b, q9c⟩ := isOf hZ eT (HE _)
      obtain ⟨_, _, ⟨T9, L9, k9, n9⟩, -, X9, ⟨Lc9, hQ9, l9, y9, z9⟩, st9⟩ := X.virtualBack hx (y := (⟨"com/example/triplewell/triplewell/model/Operator", "takes", "(I)Z"⟩ : MethodName)) (z := (⟨"com/example/triplewell/triplewell/model/Operator", "takes", "(I)Z"⟩ : MethodName)) hown (mvT hZ (hw _ (List.mem_of_getElem? (i := 13) rfl))) (mvT hZ (hw _ (List.mem_of_getElem? (i := 14) rfl))) (notFace_of_selects (args := #[]) (mvT hZ (hw _ (List.mem_of_getElem? (i := 16) rfl)))) (mvT hZ (hw _ (List.mem_of_getElem? (i := 16) rfl))) (mvT hZ (hw _ (List.mem_of_getElem? (i := 15) rfl))) (by decide) (backOf (W := 0) (rm4 l Z a0 hw [] (f1 (x0 &&& (15 : Int32)) w) (f2 (x0 &&& (15 : Int32))) (f2 (x0 &&& (15 : Int32))) (f3 (x0 &&& (15 : Int32))) h0 n0 Z0 (HMin _) (HMax _)) hZ (hw _ (List.mem_of_getElem? (i := 17) rfl)) (hw _ (List.mem_of_getElem? (i := 5) rfl)) (by decide) (by decide)) q9a q9c (g := (mkF m 80 #[.val (.int x0), .val (.int x1), .val (.int (x0 &&& (15 : Int32))), .val (.ref (f1 (x0 &&& (15 : Int32)) w)), .val (.int (f2 (x0 &&& (15 : Int32)))), .val (.int (f3 (x0 &&& (15 : Int32)))), .val (.long (x1.toInt64)), .second, .val (.int l8_70), .val (.int s0_70)] [(.int (f2 (x0 &&& (15 : Int32)))), (.ref (f1 (x0 &&& (15 : Int32)) w))])) rfl (by rw [hml]; rfl) (Steps.refl _) (argsL := [(.int (f2 (x0 &&& (15 : Int32))))]) (rest := []) (lenOf pd2 rfl) rfl (by show 2 * 0 + _ ≤ _; exact Nat.le_of_eq rfl) (hb hby at_80) (fun _ _ => ⟨rfl, eT, (by decide : 0 + 0 ≤ _), (by decide : 0 + 0 ≤ _)⟩)
      dsimp only [Pt.U, Pt.locs, Pt.cells, Pt.slots] at X9 l9 y9 z9 st9 hQ9
      subst l9 y9 z9
      obtain ⟨rfl, Nq9, e9⟩ := hQ9
      have N9 := Fr.app NF Nq9
      refine Go.step (S' := T9.setTop (mkF m 83 #[.val (.int x0), .val (.int x1), .val (.int (x0 &&& (15 : Int32))), .val (.ref (f1 (x0 &&& (15 : Int32)) w)), .val (.int (f2 (x0 &&& (15 : Int32)))), .val (.int (f3 (x0 &&& (15 : Int32)))), .val (.long (x1.toInt64)), .second, .val (.int l8_70), .val (.int s0_70)] [(.int (f4 (f1 (x0 &&& (15 : Int32)) w) (f2 (x0 &&& (15 : Int32))) (f2 (x0 &&& (15 : Int32))) (f3 (x0 &&& (15 : Int32)))))])) (fun t k => st9.trans k) ?_
      by_cases hc10 : (f4 (f1 (x0 &&& (15 : Int32)) w) (f2 (x0 &&& (15 : Int32))) (f2 (x0 &&& (15 : Int32))) (f3 (x0 &&& (15 : Int32)))) = (0 : Int32)
      · rw [if_pos hc10] at hr
        refine Go.step (S' := T9.setTop (mkF m 90 #[.val (.int x0), .val (.int x1), .val (.int (x0 &&& (15 : Int32))), .val (.ref (f1 (x0 &&& (15 : Int32)) w)), .val (.int (f2 (x0 &&& (15 : Int32)))), .val (.int (f3 (x0 &&& (15 : Int32)))), .val (.long (x1.toInt64)), .second, .val (.int l8_70), .val (.int s0_70)] [])) (fun t k => XS.ifYes X9.here hx rfl (pc0 := 83) (pc' := 90) rfl (hb hby at_83) rfl ((if0 _ _).trans (teq hc10).1) (by decide) (by decide) k) ?_
        exact B90 (l8_70) (s0_70) T9 _ X9 e9 N9 hr
      · rw [if_neg hc10] at hr
        refine Go.step (S' := T9.setTop (mkF m 86 #[.val (.int x0), .val (.int x1), .val (.int (x0 &&& (15 : Int32))), .val (.ref (f1 (x0 &&& (15 : Int32)) w)), .val (.int (f2 (x0 &&& (15 : Int32)))), .val (.int (f3 (x0 &&& (15 : Int32)))), .val (.long (x1.toInt64)), .second, .val (.int l8_70), .val (.int s0_70)] [])) (fun t k => XS.ifNo X9.here hx rfl (hb hby at_83) rfl ((if0 _ _).trans (feq hc10).1) k) ?_
        refine Go.step (S' := T9.setTop (mkF m 87 #[.val (.int x0), .val (.int x1), .val (.int (x0 &&& (15 : Int32))), .val (.ref (f1 (x0 &&& (15 : Int32)) w)), .val (.int (f2 (x0 &&& (15 : Int32)))), .val (.int (f3 (x0 &&& (15 : Int32)))), .val (.long (x1.toInt64)), .second, .val (.int l8_70), .val (.int s0_70)] [(.int (1 : Int32))])) (fun t k => XS.iconst X9.here hx rfl (hb hby at_86) k) ?_
        refine Go.step (S' := T9.setTop (mkF m 91 #[.val (.int x0), .val (.int x1), .val (.int (x0 &&& (15 : Int32))), .val (.ref (f1 (x0 &&& (15 : Int32)) w)), .val (.int (f2 (x0 &&& (15 : Int32)))), .val (.int (f3 (x0 &&& (15 : Int32)))), .val (.long (x1.toInt64)), .second, .val (.int l8_70), .val (.int s0_70)] [(.int (1 : Int32))])) (fun t k => XS.goto X9.here hx rfl (pc0 := 87) (pc' := 91) rfl (hb hby at_87) (by decide) (by decide) k) ?_
        exact B91 (l8_70) (s0_70) ((1 : Int32)) T9 _ X9 e9 N9 hr
  have B53 : ∀ (s0_53 : Int32) (T : State) (locs : List Loc) (X : Stand p l e room_1 s m #[(.int x0), (.int x1)] below meth c T locs 0 0) (eT : T.heap = h0) (NF : Fr n0 locs) (hr : f0_53 x0 x1 w s0_53 = r), Go p e below s (Q0 x0 x1 w h0 n0) room_1.cells room_1.slots (T.setTop (mkF m 53 #[.val (.int x0), .val (.int x1), .val (.int (x0 &&& (15 : Int32))), .val (.ref (f1 (x0 &&& (15 : Int32)) w)), .val (.int (f2 (x0 &&& (15 : Int32)))), .val (.int (f3 (x0 &&& (15 : Int32)))), .val (.long (x1.toInt64)), .second, .unset, .unset] [(.int s0_53)])) := by
    intro s0_53 T locs X eT NF hr
    unfold f0_53 at hr
    refine Go.step (S' := T.setTop (mkF m 55 #[.val (.int x0), .val (.int x1), .val (.int (x0 &&& (15 : Int32))), .val (.ref (f1 (x0 &&& (15 : Int32)) w)), .val (.int (f2 (x0 &&& (15 : Int32)))), .val (.int (f3 (x0 &&& (15 : Int32)))), .val (.long (x1.toInt64)), .second, .val (.int s0_53), .unset] [])) (fun t k => XS.istore X.here hx rfl (hb hby at_53) rfl (l' := #[.val (.int x0), .val (.int x1), .val (.int (x0 &&& (15 : Int32))), .val (.ref (f1 (x0 &&& (15 : Int32)) w)), .val (.int (f2 (x0 &&& (15 : Int32)))), .val (.int (f3 (x0 &&& (15 : Int32)))), .val (.long (x1.toInt64)), .second, .val (.int s0_53), .unset]) rfl k) ?_
    refine Go.step (S' := T.setTop (mkF m 56 #[.val (.int x0), .val (.int x1), .val (.int (x0 &&& (15 : Int32))), .val (.ref (f1 (x0 &&& (15 : Int32)) w)), .val (.int (f2 (x0 &&& (15 : Int32)))), .val (.int (f3 (x0 &&& (15 : Int32)))), .val (.long (x1.toInt64)), .second, .val (.int s0_53), .unset] [(.ref (f1 (x0 &&& (15 : Int32)) w))])) (fun t k => XS.aloadN X.here hx rfl (hb hby at_55) rfl rfl k) ?_
    refine Go.step (S' := T.setTop (mkF m 57 #[.val (.int x0), .val (.int x1), .val (.int (x0 &&& (15 : Int32))), .val (.ref (f1 (x0 &&& (15 : Int32)) w)), .val (.int (f2 (x0 &&& (15 : Int32)))), .val (.int (f3 (x0 &&& (15 : Int32)))), .val (.long (x1.toInt64)), .second, .val (.int s0_53), .unset] [(.int x1), (.ref (f1 (x0 &&& (15 : Int32)) w))])) (fun t k => XS.iloadN X.here hx rfl (hb hby at_56) rfl k) ?_
    obtain ⟨cq6, kq6, q6a, q6b, q6c⟩ := isOf hZ eT (HE _)
    obtain ⟨_, _, ⟨T6, L6, k6, n6⟩, -, X6, ⟨Lc6, hQ6, l6, y6, z6⟩, st6⟩ := X.virtualBack hx (y := (⟨"com/example/triplewell/triplewell/model/Operator", "takes", "(I)Z"⟩ : MethodName)) (z := (⟨"com/example/triplewell/triplewell/model/Operator", "takes", "(I)Z"⟩ : MethodName)) hown (mvT hZ (hw _ (List.mem_of_getElem? (i := 13) rfl))) (mvT hZ (hw _ (List.mem_of_getElem? (i := 14) rfl))) (notFace_of_selects (args := #[]) (mvT hZ (hw _ (List.mem_of_getElem? (i := 16) rfl)))) (mvT hZ (hw _ (List.mem_of_getElem? (i := 16) rfl))) (mvT hZ (hw _ (List.mem_of_getElem? (i := 15) rfl))) (by decide) (backOf (W := 0) (rm4 l Z a0 hw [] (f1 (x0 &&& (15 : Int32)) w) x1 (f2 (x0 &&& (15 : Int32))) (f3 (x0 &&& (15 : Int32))) h0 n0 Z0 (HMin _) (HMax _)) hZ (hw _ (List.mem_of_getElem? (i := 17) rfl)) (hw _ (List.mem_of_getElem? (i := 5) rfl)) (by decide) (by decide)) q6a q6c (g := (mkF m 57 #[.val (.int x0), .val (.int x1), .val (.int (x0 &&& (15 : Int32))), .val (.ref (f1 (x0 &&& (15 : Int32)) w)), .val (.int (f2 (x0 &&& (15 : Int32)))), .val (.int (f3 (x0 &&& (15 : Int32)))), .val (.long (x1.toInt64)), .second, .val (.int s0_53), .unset] [(.int x1), (.ref (f1 (x0 &&& (15 : Int32)) w))])) rfl (by rw [hml]; rfl) (Steps.refl _) (argsL := [(.int x1)]) (rest := []) (lenOf pd2 rfl) rfl (by show 2 * 0 + _ ≤ _; exact Nat.le_of_eq rfl) (hb hby at_57) (fun _ _ => ⟨rfl, eT, (by decide : 0 + 0 ≤ _), (by decide : 0 + 0 ≤ _)⟩)
    dsimp only [Pt.U, Pt.locs, Pt.cells, Pt.slots] at X6 l6 y6 z6 st6 hQ6
    subst l6 y6 z6
    obtain ⟨rfl, Nq6, e6⟩ := hQ6
    have N6 := Fr.app NF Nq6
    refine Go.step (S' := T6.setTop (mkF m 60 #[.val (.int x0), .val (.int x1), .val (.int (x0 &&& (15 : Int32))), .val (.ref (f1 (x0 &&& (15 : Int32)) w)), .val (.int (f2 (x0 &&& (15 : Int32)))), .val (.int (f3 (x0 &&& (15 : Int32)))), .val (.long (x1.toInt64)), .second, .val (.int s0_53), .unset] [(.int (f4 (f1 (x0 &&& (15 : Int32)) w) x1 (f2 (x0 &&& (15 : Int32))) (f3 (x0 &&& (15 : Int32)))))])) (fun t k => st6.trans k) ?_
    refine Go.step (S' := T6.setTop (mkF m 62 #[.val (.int x0), .val (.int x1), .val (.int (x0 &&& (15 : Int32))), .val (.ref (f1 (x0 &&& (15 : Int32)) w)), .val (.int (f2 (x0 &&& (15 : Int32)))), .val (.int (f3 (x0 &&& (15 : Int32)))), .val (.long (x1.toInt64)), .second, .val (.int s0_53), .unset] [(.int s0_53), (.int (f4 (f1 (x0 &&& (15 : Int32)) w) x1 (f2 (x0 &&& (15 : Int32))) (f3 (x0 &&& (15 : Int32)))))])) (fun t k => XS.iload X6.here hx rfl (hb hby at_60) rfl k) ?_
    by_cases hc7 : (f4 (f1 (x0 &&& (15 : Int32)) w) x1 (f2 (x0 &&& (15 : Int32))) (f3 (x0 &&& (15 : Int32)))) = s0_53
    · rw [if_pos hc7] at hr
      refine Go.step (S' := T6.setTop (mkF m 65 #[.val (.int x0), .val (.int x1), .val (.int (x0 &&& (15 : Int32))), .val (.ref (f1 (x0 &&& (15 : Int32)) w)), .val (.int (f2 (x0 &&& (15 : Int32)))), .val (.int (f3 (x0 &&& (15 : Int32)))), .val (.long (x1.toInt64)), .second, .val (.int s0_53), .unset] [])) (fun t k => XS.icmpNo X6.here hx rfl (hb hby at_62) rfl (teq hc7).2 k) ?_
      refine Go.step (S' := T6.setTop (mkF m 66 #[.val (.int x0), .val (.int x1), .val (.int (x0 &&& (15 : Int32))), .val (.ref (f1 (x0 &&& (15 : Int32)) w)), .val (.int (f2 (x0 &&& (15 : Int32)))), .val (.int (f3 (x0 &&& (15 : Int32)))), .val (.long (x1.toInt64)), .second, .val (.int s0_53), .unset] [(.int (1 : Int32))])) (fun t k => XS.iconst X6.here hx rfl (hb hby at_65) k) ?_
      refine Go.step (S' := T6.setTop (mkF m 70 #[.val (.int x0), .val (.int x1), .val (.int (x0 &&& (15 : Int32))), .val (.ref (f1 (x0 &&& (15 : Int32)) w)), .val (.int (f2 (x0 &&& (15 : Int32)))), .val (.int (f3 (x0 &&& (15 : Int32)))), .val (.long (x1.toInt64)), .second, .val (.int s0_53), .unset] [(.int (1 : Int32))])) (fun t k => XS.goto X6.here hx rfl (pc0 := 66) (pc' := 70) rfl (hb hby at_66) (by decide) (by decide) k) ?_
      exact B70 (s0_53) ((1 : Int32)) T6 _ X6 e6 N6 hr
    · rw [if_neg hc7] at hr
      refine Go.step (S' := T6.setTop (mkF m 69 #[.val (.int x0), .val (.int x1), .val (.int (x0 &&& (15 : Int32))), .val (.ref (f1 (x0 &&& (15 : Int32)) w)), .val (.int (f2 (x0 &&& (15 : Int32)))), .val (.int (f3 (x0 &&& (15 : Int32)))), .val (.long (x1.toInt64)), .second, .val (.int s0_53), .unset] [])) (fun t k => XS.icmpYes X6.here hx rfl (pc0 := 62) (pc' := 69) rfl (hb hby at_62) rfl (feq hc7).2 (by decide) (by decide) k) ?_
      refine Go.step (S' := T6.setTop (mkF m 70 #[.val (.int x0), .val (.int x1), .val (.int (x0 &&& (15 : Int32))), .val (.ref (f1 (x0 &&& (15 : Int32)) w)), .val (.int (f2 (x0 &&& (15 : Int32)))), .val (.int (f3 (x0 &&& (15 : Int32)))), .val (.long (x1.toInt64)), .second, .val (.int s0_53), .unset] [(.int (0 : Int32))])) (fun t k => XS.iconst X6.here hx rfl (hb hby at_69) k) ?_
      exact B70 (s0_53) ((0 : Int32)) T6 _ X6 e6 N6 hr
  have B52 : ∀  (T : State) (locs : List Loc) (X : Stand p l e room_1 s m #[(.int x0), (.int x1)] below meth c T locs 0 0) (eT : T.heap = h0) (NF : Fr n0 locs) (hr : f0_52 x0 x1 w = r), Go p e below s (Q0 x0 x1 w h0 n0) room_1.cells room_1.slots (T.setTop (mkF m 52 #[.val (.int x0), .val (.int x1), .val (.int (x0 &&& (15 : Int32))), .val (.ref (f1 (x0 &&& (15 : Int32)) w)), .val (.int (f2 (x0 &&& (15 : Int32)))), .val (.int (f3 (x0 &&& (15 : Int32)))), .val (.long (x1.toInt64)), .second, .unset, .unset] [])) := by
    intro  T locs X eT NF hr
    unfold f0_52 at hr
    refine Go.step (S' := T.setTop (mkF m 53 #[.val (.int x0), .val (.int x1), .val (.int (x0 &&& (15 : Int32))), .val (.ref (f1 (x0 &&& (15 : Int32)) w)), .val (.int (f2 (x0 &&& (15 : Int32)))), .val (.int (f3 (x0 &&& (15 : Int32)))), .val (.long (x1.toInt64)), .second, .unset, .unset] [(.int (0 : Int32))])) (fun t k => XS.iconst X.here hx rfl (hb hby at_52) k) ?_
    exact B53 ((0 : Int32)) T _ X eT NF hr
  have B0 : ∀  (T : State) (locs : List Loc) (X : Stand p l e room_1 s m #[(.int x0), (.int x1)] below meth c T locs 0 0) (eT : T.heap = h0) (NF : Fr n0 locs) (hr : f0 x0 x1 w = r), Go p e below s (Q0 x0 x1 w h0 n0) room_1.cells room_1.slots (T.setTop (mkF m 0 #[.val (.int x0), .val (.int x1), .unset, .unset, .unset, .unset, .unset, .unset, .unset, .unset] [])) := by
    intro  T locs X eT NF hr
    unfold f0 at hr
    refine Go.step (S' := T.setTop (mkF m 1 #[.val (.int x0), .val (.int x1), .unset, .unset, .unset, .unset, .unset, .unset, .unset, .unset] [(.int x0)])) (fun t k => XS.iloadN X.here hx rfl (hb hby at_0) rfl k) ?_
    refine Go.step (S' := T.setTop (mkF m 3 #[.val (.int x0), .val (.int x1), .unset, .unset, .unset, .unset, .unset, .unset, .unset, .unset] [(.int (15 : Int32)), (.int x0)])) (fun t k => XS.bipush X.here hx rfl (hb hby at_1) k) ?_
    refine Go.step (S' := T.setTop (mkF m 4 #[.val (.int x0), .val (.int x1), .unset, .unset, .unset, .unset, .unset, .unset, .unset, .unset] [(.int (x0 &&& (15 : Int32)))])) (fun t k => XS.iand X.here hx rfl (hb hby at_3) rfl k) ?_
    refine Go.step (S' := T.setTop (mkF m 5 #[.val (.int x0), .val (.int x1), .val (.int (x0 &&& (15 : Int32))), .unset, .unset, .unset, .unset, .unset, .unset, .unset] [])) (fun t k => XS.istoreN X.here hx rfl (hb hby at_4) rfl (l' := #[.val (.int x0), .val (.int x1), .val (.int (x0 &&& (15 : Int32))), .unset, .unset, .unset, .unset, .unset, .unset, .unset]) rfl k) ?_
    refine Go.step (S' := T.setTop (mkF m 6 #[.val (.int x0), .val (.int x1), .val (.int (x0 &&& (15 : Int32))), .unset, .unset, .unset, .unset, .unset, .unset, .unset] [(.int (x0 &&& (15 : Int32)))])) (fun t k => XS.iloadN X.here hx rfl (hb hby at_5) rfl k) ?_
    obtain ⟨_, _, ⟨T1, L1, k1, n1⟩, -, X1, ⟨Lc1, hQ1, l1, y1, z1⟩, st1⟩ := Jvm.LawKit.callS X hx (y := (⟨"com/example/triplewell/triplewell/model/OperatorTakesPinLaw", "op", "(I)Lcom/example/triplewell/triplewell/model/Operator;"⟩ : MethodName)) hown (mvT hZ (hw _ (List.mem_of_getElem? (i := 0) rfl))) (mvT hZ (hw _ (List.mem_of_getElem? (i := 1) rfl))) (mvT hZ (hw _ (List.mem_of_getElem? (i := 2) rfl))) (mvT hZ (hw _ (List.mem_of_getElem? (i := 3) rfl))) (by decide) (backOf (W := 0) (rm1 l Z a0 hw [] (x0 &&& (15 : Int32)) w h0 n0 Z0 S_UUID S_NOT S_OR S_IF S_BNODE S_IRI S_REGEX S_REPLACE S_COALESCE S_IN S_CONCAT S_SUBSTR S_SAME_TERM S_STRLEN S_RAND S_STRDT) hZ (hw _ (List.mem_of_getElem? (i := 3) rfl)) (hw _ (List.mem_of_getElem? (i := 2) rfl)) (by decide) (by decide)) (g := (mkF m 6 #[.val (.int x0), .val (.int x1), .val (.int (x0 &&& (15 : Int32))), .unset, .unset, .unset, .unset, .unset, .unset, .unset] [(.int (x0 &&& (15 : Int32)))])) rfl (by rw [hml]; rfl) (argsL := [(.int (x0 &&& (15 : Int32)))]) (rest := []) (lenOf pd0 rfl) rfl (by show 2 * 0 + _ ≤ _; exact Nat.le_of_eq rfl) (hb hby at_6) (fun _ _ => ⟨rfl, eT, (by decide : 0 + 0 ≤ _), (by decide : 0 + 0 ≤ _)⟩)
    dsimp only [Pt.U, Pt.locs, Pt.cells, Pt.slots] at X1 l1 y1 z1 st1 hQ1
    subst l1 y1 z1
    obtain ⟨rfl, Nq1, e1⟩ := hQ1
    have N1 := Fr.app NF Nq1
    refine Go.step (S' := T1.setTop (mkF m 9 #[.val (.int x0), .val (.int x1), .val (.int (x0 &&& (15 : Int32))), .unset, .unset, .unset, .unset, .unset, .unset, .unset] [(.ref (f1 (x0 &&& (15 : Int32)) w))])) (fun t k => st1 t k) ?_
    refine Go.step (S' := T1.setTop (mkF m 10 #[.val (.int x0), .val (.int x1), .val (.int (x0 &&& (15 : Int32))), .val (.ref (f1 (x0 &&& (15 : Int32)) w)), .unset, .unset, .unset, .unset, .unset, .unset] [])) (fun t k => XS.astoreN X1.here hx rfl (hb hby at_9) rfl rfl (l' := #[.val (.int x0), .val (.int x1), .val (.int (x0 &&& (15 : Int32))), .val (.ref (f1 (x0 &&& (15 : Int32)) w)), .unset, .unset, .unset, .unset, .unset, .unset]) rfl k) ?_
    refine Go.step (S' := T1.setTop (mkF m 11 #[.val (.int x0), .val (.int x1), .val (.int (x0 &&& (15 : Int32))), .val (.ref (f1 (x0 &&& (15 : Int32)) w)), .unset, .unset, .unset, .unset, .unset, .unset] [(.int (x0 &&& (15 : Int32)))])) (fun t k => XS.iloadN X1.here hx rfl (hb hby at_10) rfl k) ?_
    obtain ⟨_, _, ⟨T2, L2, k2, n2⟩, -, X2, ⟨Lc2, hQ2, l2, y2, z2⟩, st2⟩ := Jvm.LawKit.callS X1 hx (y := (⟨"com/example/triplewell/triplewell/model/OperatorTakesPinLaw", "lo", "(I)I"⟩ : MethodName)) hown (mvT hZ (hw _ (List.mem_of_getElem? (i := 7) rfl))) (mvT hZ (hw _ (List.mem_of_getElem? (i := 8) rfl))) (mvT hZ (hw _ (List.mem_of_getElem? (i := 2) rfl))) (mvT hZ (hw _ (List.mem_of_getElem? (i := 9) rfl))) (by decide) (backOf (W := 0) (rm2 l Z a0 hw [] (x0 &&& (15 : Int32)) h0 n0 Z0) hZ (hw _ (List.mem_of_getElem? (i := 9) rfl)) (hw _ (List.mem_of_getElem? (i := 2) rfl)) (by decide) (by decide)) (g := (mkF m 11 #[.val (.int x0), .val (.int x1), .val (.int (x0 &&& (15 : Int32))), .val (.ref (f1 (x0 &&& (15 : Int32)) w)), .unset, .unset, .unset, .unset, .unset, .unset] [(.int (x0 &&& (15 : Int32)))])) rfl (by rw [hml]; rfl) (argsL := [(.int (x0 &&& (15 : Int32)))]) (rest := []) (lenOf pd1 rfl) rfl (by show 2 * 0 + _ ≤ _; exact Nat.le_of_eq rfl) (hb hby at_11) (fun _ _ => ⟨rfl, e1, (by decide : 0 + 0 ≤ _), (by decide : 0 + 0 ≤ _)⟩)
    dsimp only [Pt.U, Pt.locs, Pt.cells, Pt.slots] at X2 l2 y2 z2 st2 hQ2
    subst l2 y2 z2
    obtain ⟨rfl, Nq2, e2⟩ := hQ2
    have N2 := Fr.app N1 Nq2
    refine Go.step (S' := T2.setTop (mkF m 14 #[.val (.int x0), .val (.int x1), .val (.int (x0 &&& (15 : Int32))), .val (.ref (f1 (x0 &&& (15 : Int32)) w)), .unset, .unset, .unset, .unset, .unset, .unset] [(.int (f2 (x0 &&& (15 : Int32))))])) (fun t k => st2 t k) ?_
    refine Go.step (S' := T2.setTop (mkF m 16 #[.val (.int x0), .val (.int x1), .val (.int (x0 &&& (15 : Int32))), .val (.ref (f1 (x0 &&& (15 : Int32)) w)), .val (.int (f2 (x0 &&& (15 : Int32)))), .unset, .unset, .unset, .unset, .unset] [])) (fun t k => XS.istore X2.here hx rfl (hb hby at_14) rfl (l' := #[.val (.int x0), .val (.int x1), .val (.int (x0 &&& (15 : Int32))), .val (.ref (f1 (x0 &&& (15 : Int32)) w)), .val (.int (f2 (x0 &&& (15 : Int32)))), .unset, .unset, .unset, .unset, .unset]) rfl k) ?_
    refine Go.step (S' := T2.setTop (mkF m 17 #[.val (.int x0), .val (.int x1), .val (.int (x0 &&& (15 : Int32))), .val (.ref (f1 (x0 &&& (15 : Int32)) w)), .val (.int (f2 (x0 &&& (15 : Int32)))), .unset, .unset, .unset, .unset, .unset] [(.int (x0 &&& (15 : Int32)))])) (fun t k => XS.iloadN X2.here hx rfl (hb hby at_16) rfl k) ?_
    obtain ⟨_, _, ⟨T3, L3, k3, n3⟩, -, X3, ⟨Lc3, hQ3, l3, y3, z3⟩, st3⟩ := Jvm.LawKit.callS X2 hx (y := (⟨"com/example/triplewell/triplewell/model/OperatorTakesPinLaw", "hi", "(I)I"⟩ : MethodName)) hown (mvT hZ (hw _ (List.mem_of_getElem? (i := 10) rfl))) (mvT hZ (hw _ (List.mem_of_getElem? (i := 11) rfl))) (mvT hZ (hw _ (List.mem_of_getElem? (i := 2) rfl))) (mvT hZ (hw _ (List.mem_of_getElem? (i := 12) rfl))) (by decide) (backOf (W := 0) (rm3 l Z a0 hw [] (x0 &&& (15 : Int32)) h0 n0 Z0) hZ (hw _ (List.mem_of_getElem? (i := 12) rfl)) (hw _ (List.mem_of_getElem? (i := 2) rfl)) (by decide) (by decide)) (g := (mkF m 17 #[.val (.int x0), .val (.int x1), .val (.int (x0 &&& (15 : Int32))), .val (.ref (f1 (x0 &&& (15 : Int32)) w)), .val (.int (f2 (x0 &&& (15 : Int32)))), .unset, .unset, .unset, .unset, .unset] [(.int (x0 &&& (15 : Int32)))])) rfl (by rw [hml]; rfl) (argsL := [(.int (x0 &&& (15 : Int32)))]) (rest := []) (lenOf pd1 rfl) rfl (by show 2 * 0 + _ ≤ _; exact Nat.le_of_eq rfl) (hb hby at_17) (fun _ _ => ⟨rfl, e2, (by decide : 0 + 0 ≤ _), (by decide : 0 + 0 ≤ _)⟩)
    dsimp only [Pt.U, Pt.locs, Pt.cells, Pt.slots] at X3 l3 y3 z3 st3 hQ3
    subst l3 y3 z3
    obtain ⟨rfl, Nq3, e3⟩ := hQ3
    have N3 := Fr.app N2 Nq3
    refine Go.step (S' := T3.setTop (mkF m 20 #[.val (.int x0), .val (.int x1), .val (.int (x0 &&& (15 : Int32))), .val (.ref (f1 (x0 &&& (15 : Int32)) w)), .val (.int (f2 (x0 &&& (15 : Int32)))), .unset, .unset, .unset, .unset, .unset] [(.int (f3 (x0 &&& (15 : Int32))))])) (fun t k => st3 t k) ?_
    refine Go.step (S' := T3.setTop (mkF m 22 #[.val (.int x0), .val (.int x1), .val (.int (x0 &&& (15 : Int32))), .val (.ref (f1 (x0 &&& (15 : Int32)) w)), .val (.int (f2 (x0 &&& (15 : Int32)))), .val (.int (f3 (x0 &&& (15 : Int32)))), .unset, .unset, .unset, .unset] [])) (fun t k => XS.istore X3.here hx rfl (hb hby at_20) rfl (l' := #[.val (.int x0), .val (.int x1), .val (.int (x0 &&& (15 : Int32))), .val (.ref (f1 (x0 &&& (15 : Int32)) w)), .val (.int (f2 (x0 &&& (15 : Int32)))), .val (.int (f3 (x0 &&& (15 : Int32)))), .unset, .unset, .unset, .unset]) rfl k) ?_
    refine Go.step (S' := T3.setTop (mkF m 23 #[.val (.int x0), .val (.int x1), .val (.int (x0 &&& (15 : Int32))), .val (.ref (f1 (x0 &&& (15 : Int32)) w)), .val (.int (f2 (x0 &&& (15 : Int32)))), .val (.int (f3 (x0 &&& (15 : Int32)))), .unset, .unset, .unset, .unset] [(.int x1)])) (fun t k => XS.iloadN X3.here hx rfl (hb hby at_22) rfl k) ?_
    refine Go.step (S' := T3.setTop (mkF m 24 #[.val (.int x0), .val (.int x1), .val (.int (x0 &&& (15 : Int32))), .val (.ref (f1 (x0 &&& (15 : Int32)) w)), .val (.int (f2 (x0 &&& (15 : Int32)))), .val (.int (f3 (x0 &&& (15 : Int32)))), .unset, .unset, .unset, .unset] [(.long (x1.toInt64))])) (fun t k => XS.i2l X3.here hx rfl (hb hby at_23) rfl k) ?_
    refine Go.step (S' := T3.setTop (mkF m 26 #[.val (.int x0), .val (.int x1), .val (.int (x0 &&& (15 : Int32))), .val (.ref (f1 (x0 &&& (15 : Int32)) w)), .val (.int (f2 (x0 &&& (15 : Int32)))), .val (.int (f3 (x0 &&& (15 : Int32)))), .val (.long (x1.toInt64)), .second, .unset, .unset] [])) (fun t k => XS.lstore X3.here hx rfl (hb hby at_24) rfl (l' := #[.val (.int x0), .val (.int x1), .val (.int (x0 &&& (15 : Int32))), .val (.ref (f1 (x0 &&& (15 : Int32)) w)), .val (.int (f2 (x0 &&& (15 : Int32)))), .val (.int (f3 (x0 &&& (15 : Int32)))), .val (.long (x1.toInt64)), .second, .unset, .unset]) rfl k) ?_
    refine Go.step (S' := T3.setTop (mkF m 28 #[.val (.int x0), .val (.int x1), .val (.int (x0 &&& (15 : Int32))), .val (.ref (f1 (x0 &&& (15 : Int32)) w)), .val (.int (f2 (x0 &&& (15 : Int32)))), .val (.int (f3 (x0 &&& (15 : Int32)))), .val (.long (x1.toInt64)), .second, .unset, .unset] [(.long (x1.toInt64))])) (fun t k => XS.lload X3.here hx rfl (hb hby at_26) rfl k) ?_
    refine Go.step (S' := T3.setTop (mkF m 30 #[.val (.int x0), .val (.int x1), .val (.int (x0 &&& (15 : Int32))), .val (.ref (f1 (x0 &&& (15 : Int32)) w)), .val (.int (f2 (x0 &&& (15 : Int32)))), .val (.int (f3 (x0 &&& (15 : Int32)))), .val (.long (x1.toInt64)), .second, .unset, .unset] [(.int (f2 (x0 &&& (15 : Int32)))), (.long (x1.toInt64))])) (fun t k => XS.iload X3.here hx rfl (hb hby at_28) rfl k) ?_
    refine Go.step (S' := T3.setTop (mkF m 31 #[.val (.int x0), .val (.int x1), .val (.int (x0 &&& (15 : Int32))), .val (.ref (f1 (x0 &&& (15 : Int32)) w)), .val (.int (f2 (x0 &&& (15 : Int32)))), .val (.int (f3 (x0 &&& (15 : Int32)))), .val (.long (x1.toInt64)), .second, .unset, .unset] [(.long ((f2 (x0 &&& (15 : Int32))).toInt64)), (.long (x1.toInt64))])) (fun t k => XS.i2l X3.here hx rfl (hb hby at_30) rfl k) ?_
    refine Go.step (S' := T3.setTop (mkF m 32 #[.val (.int x0), .val (.int x1), .val (.int (x0 &&& (15 : Int32))), .val (.ref (f1 (x0 &&& (15 : Int32)) w)), .val (.int (f2 (x0 &&& (15 : Int32)))), .val (.int (f3 (x0 &&& (15 : Int32)))), .val (.long (x1.toInt64)), .second, .unset, .unset] [(.long ((x1.toInt64) - ((f2 (x0 &&& (15 : Int32))).toInt64)))])) (fun t k => XS.lsub X3.here hx rfl (hb hby at_31) rfl k) ?_
    refine Go.step (S' := T3.setTop (mkF m 33 #[.val (.int x0), .val (.int x1), .val (.int (x0 &&& (15 : Int32))), .val (.ref (f1 (x0 &&& (15 : Int32)) w)), .val (.int (f2 (x0 &&& (15 : Int32)))), .val (.int (f3 (x0 &&& (15 : Int32)))), .val (.long (x1.toInt64)), .second, .unset, .unset] [(.long (0 : Int64)), (.long ((x1.toInt64) - ((f2 (x0 &&& (15 : Int32))).toInt64)))])) (fun t k => XS.lconst X3.here hx rfl (hb hby at_32) k) ?_
    refine Go.step (S' := T3.setTop (mkF m 34 #[.val (.int x0), .val (.int x1), .val (.int (x0 &&& (15 : Int32))), .val (.ref (f1 (x0 &&& (15 : Int32)) w)), .val (.int (f2 (x0 &&& (15 : Int32)))), .val (.int (f3 (x0 &&& (15 : Int32)))), .val (.long (x1.toInt64)), .second, .unset, .unset] [(.int (lcmpW ((x1.toInt64) - ((f2 (x0 &&& (15 : Int32))).toInt64)) (0 : Int64)))])) (fun t k => XS.lcmp X3.here hx rfl (hb hby at_33) rfl k) ?_
    by_cases hc4 : (lcmpW ((x1.toInt64) - ((f2 (x0 &&& (15 : Int32))).toInt64)) (0 : Int64)) < (0 : Int32)
    · rw [if_pos hc4] at hr
      refine Go.step (S' := T3.setTop (mkF m 52 #[.val (.int x0), .val (.int x1), .val (.int (x0 &&& (15 : Int32))), .val (.ref (f1 (x0 &&& (15 : Int32)) w)), .val (.int (f2 (x0 &&& (15 : Int32)))), .val (.int (f3 (x0 &&& (15 : Int32)))), .val (.long (x1.toInt64)), .second, .unset, .unset] [])) (fun t k => XS.ifYes X3.here hx rfl (pc0 := 34) (pc' := 52) rfl (hb hby at_34) rfl ((if0 _ _).trans (tlt hc4).1) (by decide) (by decide) k) ?_
      exact B52  T3 _ X3 e3 N3 hr
    · rw [if_neg hc4] at hr
      refine Go.step (S' := T3.setTop (mkF m 37 #[.val (.int x0), .val (.int x1), .val (.int (x0 &&& (15 : Int32))), .val (.ref (f1 (x0 &&& (15 : Int32)) w)), .val (.int (f2 (x0 &&& (15 : Int32)))), .val (.int (f3 (x0 &&& (15 : Int32)))), .val (.long (x1.toInt64)), .second, .unset, .unset] [])) (fun t k => XS.ifNo X3.here hx rfl (hb hby at_34) rfl ((if0 _ _).trans (flt hc4).1) k) ?_
      refine Go.step (S' := T3.setTop (mkF m 39 #[.val (.int x0), .val (.int x1), .val (.int (x0 &&& (15 : Int32))), .val (.ref (f1 (x0 &&& (15 : Int32)) w)), .val (.int (f2 (x0 &&& (15 : Int32)))), .val (.int (f3 (x0 &&& (15 : Int32)))), .val (.long (x1.toInt64)), .second, .unset, .unset] [(.int (f3 (x0 &&& (15 : Int32))))])) (fun t k => XS.iload X3.here hx rfl (hb hby at_37) rfl k) ?_
      refine Go.step (S' := T3.setTop (mkF m 40 #[.val (.int x0), .val (.int x1), .val (.int (x0 &&& (15 : Int32))), .val (.ref (f1 (x0 &&& (15 : Int32)) w)), .val (.int (f2 (x0 &&& (15 : Int32)))), .val (.int (f3 (x0 &&& (15 : Int32)))), .val (.long (x1.toInt64)), .second, .unset, .unset] [(.long ((f3 (x0 &&& (15 : Int32))).toInt64))])) (fun t k => XS.i2l X3.here hx rfl (hb hby at_39) rfl k) ?_
      refine Go.step (S' := T3.setTop (mkF m 42 #[.val (.int x0), .val (.int x1), .val (.int (x0 &&& (15 : Int32))), .val (.ref (f1 (x0 &&& (15 : Int32)) w)), .val (.int (f2 (x0 &&& (15 : Int32)))), .val (.int (f3 (x0 &&& (15 : Int32)))), .val (.long (x1.toInt64)), .second, .unset, .unset] [(.long (x1.toInt64)), (.long ((f3 (x0 &&& (15 : Int32))).toInt64))])) (fun t k => XS.lload X3.here hx rfl (hb hby at_40) rfl k) ?_
      refine Go.step (S' := T3.setTop (mkF m 43 #[.val (.int x0), .val (.int x1), .val (.int (x0 &&& (15 : Int32))), .val (.ref (f1 (x0 &&& (15 : Int32)) w)), .val (.int (f2 (x0 &&& (15 : Int32)))), .val (.int (f3 (x0 &&& (15 : Int32)))), .val (.long (x1.toInt64)), .second, .unset, .unset] [(.long (((f3 (x0 &&& (15 : Int32))).toInt64) - (x1.toInt64)))])) (fun t k => XS.lsub X3.here hx rfl (hb hby at_42) rfl k) ?_
      refine Go.step (S' := T3.setTop (mkF m 44 #[.val (.int x0), .val (.int x1), .val (.int (x0 &&& (15 : Int32))), .val (.ref (f1 (x0 &&& (15 : Int32)) w)), .val (.int (f2 (x0 &&& (15 : Int32)))), .val (.int (f3 (x0 &&& (15 : Int32)))), .val (.long (x1.toInt64)), .second, .unset, .unset] [(.long (0 : Int64)), (.long (((f3 (x0 &&& (15 : Int32))).toInt64) - (x1.toInt64)))])) (fun t k => XS.lconst X3.here hx rfl (hb hby at_43) k) ?_
      refine Go.step (S' := T3.setTop (mkF m 45 #[.val (.int x0), .val (.int x1), .val (.int (x0 &&& (15 : Int32))), .val (.ref (f1 (x0 &&& (15 : Int32)) w)), .val (.int (f2 (x0 &&& (15 : Int32)))), .val (.int (f3 (x0 &&& (15 : Int32)))), .val (.long (x1.toInt64)), .second, .unset, .unset] [(.int (lcmpW (((f3 (x0 &&& (15 : Int32))).toInt64) - (x1.toInt64)) (0 : Int64)))])) (fun t k => XS.lcmp X3.here hx rfl (hb hby at_44) rfl k) ?_
      by_cases hc5 : (lcmpW (((f3 (x0 &&& (15 : Int32))).toInt64) - (x1.toInt64)) (0 : Int64)) < (0 : Int32)
      · rw [if_pos hc5] at hr
        refine Go.step (S' := T3.setTop (mkF m 52 #[.val (.int x0), .val (.int x1), .val (.int (x0 &&& (15 : Int32))), .val (.ref (f1 (x0 &&& (15 : Int32)) w)), .val (.int (f2 (x0 &&& (15 : Int32)))), .val (.int (f3 (x0 &&& (15 : Int32)))), .val (.long (x1.toInt64)), .second, .unset, .unset] [])) (fun t k => XS.ifYes X3.here hx rfl (pc0 := 45) (pc' := 52) rfl (hb hby at_45) rfl ((if0 _ _).trans (tlt hc5).1) (by decide) (by decide) k) ?_
        exact B52  T3 _ X3 e3 N3 hr
      · rw [if_neg hc5] at hr
        refine Go.step (S' := T3.setTop (mkF m 48 #[.val (.int x0), .val (.int x1), .val (.int (x0 &&& (15 : Int32))), .val (.ref (f1 (x0 &&& (15 : Int32)) w)), .val (.int (f2 (x0 &&& (15 : Int32)))), .val (.int (f3 (x0 &&& (15 : Int32)))), .val (.long (x1.toInt64)), .second, .unset, .unset] [])) (fun t k => XS.ifNo X3.here hx rfl (hb hby at_45) rfl ((if0 _ _).trans (flt hc5).1) k) ?_
        refine Go.step (S' := T3.setTop (mkF m 49 #[.val (.int x0), .val (.int x1), .val (.int (x0 &&& (15 : Int32))), .val (.ref (f1 (x0 &&& (15 : Int32)) w)), .val (.int (f2 (x0 &&& (15 : Int32)))), .val (.int (f3 (x0 &&& (15 : Int32)))), .val (.long (x1.toInt64)), .second, .unset, .unset] [(.int (1 : Int32))])) (fun t k => XS.iconst X3.here hx rfl (hb hby at_48) k) ?_
        refine Go.step (S' := T3.setTop (mkF m 53 #[.val (.int x0), .val (.int x1), .val (.int (x0 &&& (15 : Int32))), .val (.ref (f1 (x0 &&& (15 : Int32)) w)), .val (.int (f2 (x0 &&& (15 : Int32)))), .val (.int (f3 (x0 &&& (15 : Int32)))), .val (.long (x1.toInt64)), .second, .unset, .unset] [(.int (1 : Int32))])) (fun t k => XS.goto X3.here hx rfl (pc0 := 49) (pc' := 53) rfl (hb hby at_49) (by decide) (by decide) k) ?_
        exact B53 ((1 : Int32)) T3 _ X3 e3 N3 hr
  show Go p e below s (Q0 x0 x1 w h0 n0) room_1.cells room_1.slots (s₁.setTop (entryFrame m #[(.int x0), (.int x1)] maxLocals))
  rw [ef0]
  exact B0 s₁ [] X0 e0 (Fr.nil n0) hr0
theorem own_ite {P : Prop} [Decidable P] {a b r : Int32} (h1 : P → a = r) (h2 : ¬ P → b = r) : (if P then a else b) = r := by
  by_cases h : P
  · rw [if_pos h]; exact h1 h
  · rw [if_neg h]; exact h2 h
theorem own_itp {α : Type} {R : α → Prop} {P : Prop} [Decidable P] {a b : α} (h1 : P → R a) (h2 : ¬ P → R b) : R (if P then a else b) := by
  by_cases h : P
  · rw [if_pos h]; exact h1 h
  · rw [if_neg h]; exact h2 h
theorem own_lc (a : Int64) : lcmpW a 0 < 0 ↔ a.toInt < 0 := by
  have e0 : (0 : Int64).toInt = 0 := by decide
  unfold lcmpW
  by_cases h1 : a > 0
  · rw [if_pos h1]
    rw [gt_iff_lt, Int64.lt_iff_toInt_lt, e0] at h1
    exact ⟨fun h => absurd h (by decide), fun h => by omega⟩
  · rw [if_neg h1]
    rw [gt_iff_lt, Int64.lt_iff_toInt_lt, e0] at h1
    by_cases h2 : a = 0
    · rw [if_pos h2]; subst h2
      exact ⟨fun h => absurd h (by decide), fun h => by omega⟩
    · rw [if_neg h2]
      rw [← Int64.toInt_inj, e0] at h2
      exact ⟨fun h => by omega, fun h => by decide⟩
theorem own_sub (a b : Int32) : (a.toInt64 - b.toInt64).toInt = a.toInt - b.toInt := by
  have h1 := a.toInt_lt; have h2 := a.le_toInt; have h3 := b.toInt_lt; have h4 := b.le_toInt
  rw [Int64.toInt_sub, Int32.toInt_toInt64, Int32.toInt_toInt64]
  exact Int.bmod_eq_of_le (by show -(9223372036854775808 : Int) ≤ _; omega) (by show _ < (9223372036854775808 : Int); omega)
theorem own_tk (o : Addr) (x mn mx : Int32) : f4 o x mn mx = if (mn.toInt ≤ x.toInt ∧ x.toInt ≤ mx.toInt) then 1 else 0 := by
  unfold f4
  simp only [Int32.lt_iff_toInt_lt]
  (repeat' refine own_ite (fun h => ?_) (fun h => ?_)) <;> first | exact (if_pos (by omega)).symm | exact (if_neg (by omega)).symm
theorem own_tk1 {o : Addr} {x mn mx : Int32} (h : mn.toInt ≤ x.toInt ∧ x.toInt ≤ mx.toInt) : f4 o x mn mx = 1 := by rw [own_tk, if_pos h]
theorem own_tk0 {o : Addr} {x mn mx : Int32} (h : ¬ (mn.toInt ≤ x.toInt ∧ x.toInt ≤ mx.toInt)) : f4 o x mn mx = 0 := by rw [own_tk, if_neg h]
theorem own_bounds (k : Int32) : 0 ≤ (f2 k).toInt ∧ (f2 k).toInt ≤ (f3 k).toInt := by
  unfold f2 f3
  by_cases h0 : k = 0; · subst h0; decide
  by_cases h1 : k = 1; · subst h1; decide
  by_cases h2 : k = 2; · subst h2; decide
  by_cases h3 : k = 3; · subst h3; decide
  by_cases h4 : k = 4; · subst h4; decide
  by_cases h5 : k = 5; · subst h5; decide
  by_cases h6 : k = 6; · subst h6; decide
  by_cases h7 : k = 7; · subst h7; decide
  by_cases h8 : k = 8; · subst h8; decide
  by_cases h9 : k = 9; · subst h9; decide
  by_cases h10 : k = 10; · subst h10; decide
  by_cases h11 : k = 11; · subst h11; decide
  by_cases h12 : k = 12; · subst h12; decide
  by_cases h13 : k = 13; · subst h13; decide
  by_cases h14 : k = 14; · subst h14; decide
  simp only [if_neg h0, if_neg h1, if_neg h2, if_neg h3, if_neg h4, if_neg h5, if_neg h6, if_neg h7, if_neg h8, if_neg h9, if_neg h10, if_neg h11, if_neg h12, if_neg h13, if_neg h14]
  decide
theorem own_sub1 (a : Int32) (h : 0 ≤ a.toInt) : (a - 1).toInt = a.toInt - 1 := by
  have h1 := a.toInt_lt
  rw [Int32.toInt_sub]
  have e1 : (1 : Int32).toInt = 1 := by decide
  rw [e1]; exact Int.bmod_eq_of_le (by show -(2147483648 : Int) ≤ _; omega) (by show _ < (2147483648 : Int); omega)
theorem own_add1 (a : Int32) (h : 0 ≤ a.toInt) (hm : ¬ a = 2147483647) : (a + 1).toInt = a.toInt + 1 := by
  have h1 := a.toInt_lt
  have em : (2147483647 : Int32).toInt = 2147483647 := by decide
  rw [← Int32.toInt_inj, em] at hm
  rw [Int32.toInt_add]
  have e1 : (1 : Int32).toInt = 1 := by decide
  rw [e1]; exact Int.bmod_eq_of_le (by show -(2147483648 : Int) ≤ _; omega) (by show _ < (2147483648 : Int); omega)
section Chain
variable (x0 x1 : Int32) (w : Nat → Addr)
theorem own_n10 : ¬ ((1 : Int32) = 0) := by decide
theorem own_186 (l8 l9 : Int32) : f0_186 x0 x1 w l8 l9 1 = 1 := by unfold f0_186; rfl
theorem own_167 (l8 : Int32) : f0_167 x0 x1 w l8 1 = 1 := by
  have hb := own_bounds (x0 &&& 15)
  have em : (-2147483648 : Int32).toInt = -2147483648 := by decide
  unfold f0_167
  rw [if_neg own_n10, own_tk0 (by omega), if_pos rfl, own_186]
theorem own_165 (l8 l9 : Int32) : f0_165 x0 x1 w l8 l9 1 = 1 := by unfold f0_165; exact own_167 ..
theorem own_135 (l8 l9 : Int32) : f0_135 x0 x1 w l8 l9 1 = 1 := by
  have hb := own_bounds (x0 &&& 15)
  unfold f0_135
  refine own_ite (fun h => own_167 ..) (fun h => ?_)
  rw [if_neg own_n10, own_tk0 (by rw [own_add1 _ (by omega) h]; omega), if_pos rfl, own_165]
theorem own_114 (l8 l9 : Int32) : f0_114 x0 x1 w l8 l9 1 = 1 := by
  have hb := own_bounds (x0 &&& 15)
  unfold f0_114
  rw [if_neg own_n10, own_tk1 (by omega), if_neg own_n10, own_135]
theorem own_91 (l8 l9 : Int32) : f0_91 x0 x1 w l8 l9 1 = 1 := by
  have hb := own_bounds (x0 &&& 15)
  unfold f0_91
  rw [if_neg own_n10, own_tk0 (by rw [own_sub1 _ hb.1]; omega), if_pos rfl, own_114]
theorem own_70 (l8 : Int32) : f0_70 x0 x1 w l8 1 = 1 := by
  have hb := own_bounds (x0 &&& 15)
  unfold f0_70
  rw [if_neg own_n10, own_tk1 (by omega), if_neg own_n10, own_91]
end Chain
theorem own_law (x0 x1 : Int32) (w : Nat → Addr) : f0 x0 x1 w = 1 := by
  unfold f0 f0_52 f0_53
  simp only [own_lc, own_sub]
  by_cases h1 : x1.toInt - (f2 (x0 &&& 15)).toInt < 0
  · rw [if_pos h1, own_tk0 (by omega), if_pos rfl]; exact own_70 ..
  · rw [if_neg h1]
    by_cases h2 : (f3 (x0 &&& 15)).toInt - x1.toInt < 0
    · rw [if_pos h2, own_tk0 (by omega), if_pos rfl]; exact own_70 ..
    · rw [if_neg h2, own_tk1 (by omega), if_pos rfl]; exact own_70 ..
theorem own_cases {P : Addr → Prop} {k : Int32} {w : Nat → Addr} (p0 : P (w 0)) (p1 : P (w 1)) (p2 : P (w 2)) (p3 : P (w 3)) (p4 : P (w 4)) (p5 : P (w 5)) (p6 : P (w 6)) (p7 : P (w 7)) (p8 : P (w 8)) (p9 : P (w 9)) (p10 : P (w 10)) (p11 : P (w 11)) (p12 : P (w 12)) (p13 : P (w 13)) (p14 : P (w 14)) (p15 : P (w 15)) : P (f1 k w) := by
  unfold f1
  (repeat' refine own_itp (fun _ => ?_) (fun _ => ?_)) <;> assumption
theorem own_cases2 {P : Addr → Int32 → Prop} (k : Int32) {w : Nat → Addr} (p0 : P (w 0) (0 : Int32)) (p1 : P (w 1) (1 : Int32)) (p2 : P (w 2) (2 : Int32)) (p3 : P (w 3) (3 : Int32)) (p4 : P (w 4) (0 : Int32)) (p5 : P (w 5) (1 : Int32)) (p6 : P (w 6) (2 : Int32)) (p7 : P (w 7) (3 : Int32)) (p8 : P (w 8) (0 : Int32)) (p9 : P (w 9) (1 : Int32)) (p10 : P (w 10) (0 : Int32)) (p11 : P (w 11) (2 : Int32)) (p12 : P (w 12) (2 : Int32)) (p13 : P (w 13) (1 : Int32)) (p14 : P (w 14) (0 : Int32)) (p15 : P (w 15) (2 : Int32)) : P (f1 k w) (f2 k) := by
  unfold f1 f2
  by_cases h0 : k = 0
  · rw [if_pos h0, if_pos h0]; exact p0
  rw [if_neg h0, if_neg h0]
  by_cases h1 : k = 1
  · rw [if_pos h1, if_pos h1]; exact p1
  rw [if_neg h1, if_neg h1]
  by_cases h2 : k = 2
  · rw [if_pos h2, if_pos h2]; exact p2
  rw [if_neg h2, if_neg h2]
  by_cases h3 : k = 3
  · rw [if_pos h3, if_pos h3]; exact p3
  rw [if_neg h3, if_neg h3]
  by_cases h4 : k = 4
  · rw [if_pos h4, if_pos h4]; exact p4
  rw [if_neg h4, if_neg h4]
  by_cases h5 : k = 5
  · rw [if_pos h5, if_pos h5]; exact p5
  rw [if_neg h5, if_neg h5]
  by_cases h6 : k = 6
  · rw [if_pos h6, if_pos h6]; exact p6
  rw [if_neg h6, if_neg h6]
  by_cases h7 : k = 7
  · rw [if_pos h7, if_pos h7]; exact p7
  rw [if_neg h7, if_neg h7]
  by_cases h8 : k = 8
  · rw [if_pos h8, if_pos h8]; exact p8
  rw [if_neg h8, if_neg h8]
  by_cases h9 : k = 9
  · rw [if_pos h9, if_pos h9]; exact p9
  rw [if_neg h9, if_neg h9]
  by_cases h10 : k = 10
  · rw [if_pos h10, if_pos h10]; exact p10
  rw [if_neg h10, if_neg h10]
  by_cases h11 : k = 11
  · rw [if_pos h11, if_pos h11]; exact p11
  rw [if_neg h11, if_neg h11]
  by_cases h12 : k = 12
  · rw [if_pos h12, if_pos h12]; exact p12
  rw [if_neg h12, if_neg h12]
  by_cases h13 : k = 13
  · rw [if_pos h13, if_pos h13]; exact p13
  rw [if_neg h13, if_neg h13]
  by_cases h14 : k = 14
  · rw [if_pos h14, if_pos h14]; exact p14
  rw [if_neg h14, if_neg h14]
  exact p15
theorem own_cases3 {P : Addr → Int32 → Prop} (k : Int32) {w : Nat → Addr} (p0 : P (w 0) (0 : Int32)) (p1 : P (w 1) (1 : Int32)) (p2 : P (w 2) (2 : Int32)) (p3 : P (w 3) (3 : Int32)) (p4 : P (w 4) (1 : Int32)) (p5 : P (w 5) (2 : Int32)) (p6 : P (w 6) (3 : Int32)) (p7 : P (w 7) (4 : Int32)) (p8 : P (w 8) (2147483647 : Int32)) (p9 : P (w 9) (2147483647 : Int32)) (p10 : P (w 10) (2147483647 : Int32)) (p11 : P (w 11) (3 : Int32)) (p12 : P (w 12) (2 : Int32)) (p13 : P (w 13) (1 : Int32)) (p14 : P (w 14) (0 : Int32)) (p15 : P (w 15) (2 : Int32)) : P (f1 k w) (f3 k) := by
  unfold f1 f3
  by_cases h0 : k = 0
  · rw [if_pos h0, if_pos h0]; exact p0
  rw [if_neg h0, if_neg h0]
  by_cases h1 : k = 1
  · rw [if_pos h1, if_pos h1]; exact p1
  rw [if_neg h1, if_neg h1]
  by_cases h2 : k = 2
  · rw [if_pos h2, if_pos h2]; exact p2
  rw [if_neg h2, if_neg h2]
  by_cases h3 : k = 3
  · rw [if_pos h3, if_pos h3]; exact p3
  rw [if_neg h3, if_neg h3]
  by_cases h4 : k = 4
  · rw [if_pos h4, if_pos h4]; exact p4
  rw [if_neg h4, if_neg h4]
  by_cases h5 : k = 5
  · rw [if_pos h5, if_pos h5]; exact p5
  rw [if_neg h5, if_neg h5]
  by_cases h6 : k = 6
  · rw [if_pos h6, if_pos h6]; exact p6
  rw [if_neg h6, if_neg h6]
  by_cases h7 : k = 7
  · rw [if_pos h7, if_pos h7]; exact p7
  rw [if_neg h7, if_neg h7]
  by_cases h8 : k = 8
  · rw [if_pos h8, if_pos h8]; exact p8
  rw [if_neg h8, if_neg h8]
  by_cases h9 : k = 9
  · rw [if_pos h9, if_pos h9]; exact p9
  rw [if_neg h9, if_neg h9]
  by_cases h10 : k = 10
  · rw [if_pos h10, if_pos h10]; exact p10
  rw [if_neg h10, if_neg h10]
  by_cases h11 : k = 11
  · rw [if_pos h11, if_pos h11]; exact p11
  rw [if_neg h11, if_neg h11]
  by_cases h12 : k = 12
  · rw [if_pos h12, if_pos h12]; exact p12
  rw [if_neg h12, if_neg h12]
  by_cases h13 : k = 13
  · rw [if_pos h13, if_pos h13]; exact p13
  rw [if_neg h13, if_neg h13]
  by_cases h14 : k = 14
  · rw [if_pos h14, if_pos h14]; exact p14
  rw [if_neg h14, if_neg h14]
  exact p15
set_option maxRecDepth 65536 in
set_option maxHeartbeats 40000000 in
theorem comes_1 {Post : Tables → Env → Array Value → State → Outcome → State → Prop} (hpost : ∀ tb e args s v u, (limb_1_1.after args s (.returned v) u = true ∧ limb_1_2.after args s (.returned v) u = true ∧ True) → FrameEnd s (.returned v) u (Jvm.fieldLocs frame_1_writes args s ++ Jvm.arrayLocs frame_1_arrays args s ++ Jvm.staticLocs frame_1_statics s) 0 0 → Post tb e args s (.returned v) u) :
    ArmFor flags0 classFile x code maxLocals ret World_1 tables_1 room_1 Calls_1 rest_1 Pre_1 Post := by
  intro l hfl _ _ p e ha hc hk s m args below hf hA hF happ hP
  obtain ⟨hcalls, hrest, hpre⟩ := hP
  obtain ⟨-, -, -, hnamed, -, -, -, hat⟩ := (Spec.applies_iff hf).mp happ
  obtain ⟨hg, hn⟩ := and_e (Cond.before_iff.mp (show (Jvm.Cond.and given_1 narrow_1).before args s = true from hpre))
  obtain ⟨hcount, hg⟩ := and_e hg
  obtain ⟨ha0, hg⟩ := and_e hg
  obtain ⟨w0, w1, rfl⟩ : ∃ w0 w1 : Value, args = #[w0, w1] := by
    have hs : args.size = 2 := by simpa [Cond.value, given_1] using hcount
    obtain ⟨L⟩ := args
    match L, hs with
    | [w0, w1], _ => exact ⟨w0, w1, rfl⟩
  have hw := fun d (hd : d ∈ tables_1) => atoms_spec (ws := Jvm.Cond.code x code maxLocals ret :: tables_1) hat d (List.mem_cons_of_mem _ hd)
  obtain ⟨i0, ei0⟩ := is_v ha0
  obtain rfl : w0 = (.int i0) := Option.some.inj ei0
  obtain ⟨i1, ei1⟩ := is_v hg
  obtain rfl : w1 = (.int i1) := Option.some.inj ei1
  obtain ⟨hx_UUID, hn⟩ := and_e hn
  obtain ⟨hm_UUID, hn⟩ := and_e hn
  obtain ⟨hM_UUID, hn⟩ := and_e hn
  obtain ⟨w_UUID, ev_UUID⟩ := exa_v hx_UUID
  have S_UUID := Sta.start ev_UUID (Or.inr ⟨(hw _ (List.mem_of_getElem? (i := 5) rfl)), (hw _ (List.mem_of_getElem? (i := 6) rfl))⟩)
  have E_UUID := Exa.start ev_UUID hx_UUID
  have Fm_UUID := Fld.start ((fld_at ev_UUID).symm.trans (Jvm.Free.NT.SwA.eq_int (Cond.before_iff.mpr hm_UUID)))
  have FM_UUID := Fld.start ((fld_at ev_UUID).symm.trans (Jvm.Free.NT.SwA.eq_int (Cond.before_iff.mpr hM_UUID)))
  obtain ⟨hx_RAND, hn⟩ := and_e hn
  obtain ⟨hm_RAND, hn⟩ := and_e hn
  obtain ⟨hM_RAND, hn⟩ := and_e hn
  obtain ⟨w_RAND, ev_RAND⟩ := exa_v hx_RAND
  have S_RAND := Sta.start ev_RAND (Or.inr ⟨(hw _ (List.mem_of_getElem? (i := 5) rfl)), (hw _ (List.mem_of_getElem? (i := 25) rfl))⟩)
  have E_RAND := Exa.start ev_RAND hx_RAND
  have Fm_RAND := Fld.start ((fld_at ev_RAND).symm.trans (Jvm.Free.NT.SwA.eq_int (Cond.before_iff.mpr hm_RAND)))
  have FM_RAND := Fld.start ((fld_at ev_RAND).symm.trans (Jvm.Free.NT.SwA.eq_int (Cond.before_iff.mpr hM_RAND)))
  obtain ⟨hx_SAME_TERM, hn⟩ := and_e hn
  obtain ⟨hm_SAME_TERM, hn⟩ := and_e hn
  obtain ⟨hM_SAME_TERM, hn⟩ := and_e hn
  obtain ⟨w_SAME_TERM, ev_SAME_TERM⟩ := exa_v hx_SAME_TERM
  have S_SAME_TERM := Sta.start ev_SAME_TERM (Or.inr ⟨(hw _ (List.mem_of_getElem? (i := 5) rfl)), (hw _ (List.mem_of_getElem? (i := 27) rfl))⟩)
  have E_SAME_TERM := Exa.start ev_SAME_TERM hx_SAME_TERM
  have Fm_SAME_TERM := Fld.start ((fld_at ev_SAME_TERM).symm.trans (Jvm.Free.NT.SwA.eq_int (Cond.before_iff.mpr hm_SAME_TERM)))
  have FM_SAME_TERM := Fld.start ((fld_at ev_SAME_TERM).symm.trans (Jvm.Free.NT.SwA.eq_int (Cond.before_iff.mpr hM_SAME_TERM)))
  obtain ⟨hx_COALESCE, hn⟩ := and_e hn
  obtain ⟨hm_COALESCE, hn⟩ := and_e hn
  obtain ⟨hM_COALESCE, hn⟩ := and_e hn
  obtain ⟨w_COALESCE, ev_COALESCE⟩ := exa_v hx_COALESCE
  have S_COALESCE := Sta.start ev_COALESCE (Or.inr ⟨(hw _ (List.mem_of_getElem? (i := 5) rfl)), (hw _ (List.mem_of_getElem? (i := 29) rfl))⟩)
  have E_COALESCE := Exa.start ev_COALESCE hx_COALESCE
  have Fm_COALESCE := Fld.start ((fld_at ev_COALESCE).symm.trans (Jvm.Free.NT.SwA.eq_int (Cond.before_iff.mpr hm_COALESCE)))
  have FM_COALESCE := Fld.start ((fld_at ev_COALESCE).symm.trans (Jvm.Free.NT.SwA.eq_int (Cond.before_iff.mpr hM_COALESCE)))
  obtain ⟨hx_STRLEN, hn⟩ := and_e hn
  obtain ⟨hm_STRLEN, hn⟩ := and_e hn
  obtain ⟨hM_STRLEN, hn⟩ := and_e hn
  obtain ⟨w_STRLEN, ev_STRLEN⟩ := exa_v hx_STRLEN
  have S_STRLEN := Sta.start ev_STRLEN (Or.inr ⟨(hw _ (List.mem_of_getElem? (i := 5) rfl)), (hw _ (List.mem_of_getElem? (i := 31) rfl))⟩)
  have E_STRLEN := Exa.start ev_STRLEN hx_STRLEN
  have Fm_STRLEN := Fld.start ((fld_at ev_STRLEN).symm.trans (Jvm.Free.NT.SwA.eq_int (Cond.before_iff.mpr hm_STRLEN)))
  have FM_STRLEN := Fld.start ((fld_at ev_STRLEN).symm.trans (Jvm.Free.NT.SwA.eq_int (Cond.before_iff.mpr hM_STRLEN)))
  obtain ⟨hx_REGEX, hn⟩ := and_e hn
  obtain ⟨hm_REGEX, hn⟩ := and_e hn
  obtain ⟨hM_REGEX, hn⟩ := and_e hn
  obtain ⟨w_REGEX, ev_REGEX⟩ := exa_v hx_REGEX
  have S_REGEX := Sta.start ev_REGEX (Or.inr ⟨(hw _ (List.mem_of_getElem? (i := 5) rfl)), (hw _ (List.mem_of_getElem? (i := 33) rfl))⟩)
  have E_REGEX := Exa.start ev_REGEX hx_REGEX
  have Fm_REGEX := Fld.start ((fld_at ev_REGEX).symm.trans (Jvm.Free.NT.SwA.eq_int (Cond.before_iff.mpr hm_REGEX)))
  have FM_REGEX := Fld.start ((fld_at ev_REGEX).symm.trans (Jvm.Free.NT.SwA.eq_int (Cond.before_iff.mpr hM_REGEX)))
  obtain ⟨hx_REPLACE, hn⟩ := and_e hn
  obtain ⟨hm_REPLACE, hn⟩ := and_e hn
  obtain ⟨hM_REPLACE, hn⟩ := and_e hn
  obtain ⟨w_REPLACE, ev_REPLACE⟩ := exa_v hx_REPLACE
  have S_REPLACE := Sta.start ev_REPLACE (Or.inr ⟨(hw _ (List.mem_of_getElem? (i := 5) rfl)), (hw _ (List.mem_of_getElem? (i := 35) rfl))⟩)
  have E_REPLACE := Exa.start ev_REPLACE hx_REPLACE
  have Fm_REPLACE := Fld.start ((fld_at ev_REPLACE).symm.trans (Jvm.Free.NT.SwA.eq_int (Cond.before_iff.mpr hm_REPLACE)))
  have FM_REPLACE := Fld.start ((fld_at ev_REPLACE).symm.trans (Jvm.Free.NT.SwA.eq_int (Cond.before_iff.mpr hM_REPLACE)))
  obtain ⟨hx_IF, hn⟩ := and_e hn
  obtain ⟨hm_IF, hn⟩ := and_e hn
  obtain ⟨hM_IF, hn⟩ := and_e hn
  obtain ⟨w_IF, ev_IF⟩ := exa_v hx_IF
  have S_IF := Sta.start ev_IF (Or.inr ⟨(hw _ (List.mem_of_getElem? (i := 5) rfl)), (hw _ (List.mem_of_getElem? (i := 37) rfl))⟩)
  have E_IF := Exa.start ev_IF hx_IF
  have Fm_IF := Fld.start ((fld_at ev_IF).symm.trans (Jvm.Free.NT.SwA.eq_int (Cond.before_iff.mpr hm_IF)))
  have FM_IF := Fld.start ((fld_at ev_IF).symm.trans (Jvm.Free.NT.SwA.eq_int (Cond.before_iff.mpr hM_IF)))
  obtain ⟨hx_STRDT, hn⟩ := and_e hn
  obtain ⟨hm_STRDT, hn⟩ := and_e hn
  obtain ⟨hM_STRDT, hn⟩ := and_e hn
  obtain ⟨w_STRDT, ev_STRDT⟩ := exa_v hx_STRDT
  have S_STRDT := Sta.start ev_STRDT (Or.inr ⟨(hw _ (List.mem_of_getElem? (i := 5) rfl)), (hw _ (List.mem_of_getElem? (i := 39) rfl))⟩)
  have E_STRDT := Exa.start ev_STRDT hx_STRDT
  have Fm_STRDT := Fld.start ((fld_at ev_STRDT).symm.trans (Jvm.Free.NT.SwA.eq_int (Cond.before_iff.mpr hm_STRDT)))
  have FM_STRDT := Fld.start ((fld_at ev_STRDT).symm.trans (Jvm.Free.NT.SwA.eq_int (Cond.before_iff.mpr hM_STRDT)))
  obtain ⟨hx_NOT, hn⟩ := and_e hn
  obtain ⟨hm_NOT, hn⟩ := and_e hn
  obtain ⟨hM_NOT, hn⟩ := and_e hn
  obtain ⟨w_NOT, ev_NOT⟩ := exa_v hx_NOT
  have S_NOT := Sta.start ev_NOT (Or.inr ⟨(hw _ (List.mem_of_getElem? (i := 5) rfl)), (hw _ (List.mem_of_getElem? (i := 41) rfl))⟩)
  have E_NOT := Exa.start ev_NOT hx_NOT
  have Fm_NOT := Fld.start ((fld_at ev_NOT).symm.trans (Jvm.Free.NT.SwA.eq_int (Cond.before_iff.mpr hm_NOT)))
  have FM_NOT := Fld.start ((fld_at ev_NOT).symm.trans (Jvm.Free.NT.SwA.eq_int (Cond.before_iff.mpr hM_NOT)))
  obtain ⟨hx_IRI, hn⟩ := and_e hn
  obtain ⟨hm_IRI, hn⟩ := and_e hn
  obtain ⟨hM_IRI, hn⟩ := and_e hn
  obtain ⟨w_IRI, ev_IRI⟩ := exa_v hx_IRI
  have S_IRI := Sta.start ev_IRI (Or.inr ⟨(hw _ (List.mem_of_getElem? (i := 5) rfl)), (hw _ (List.mem_of_getElem? (i := 43) rfl))⟩)
  have E_IRI := Exa.start ev_IRI hx_IRI
  have Fm_IRI := Fld.start ((fld_at ev_IRI).symm.trans (Jvm.Free.NT.SwA.eq_int (Cond.before_iff.mpr hm_IRI)))
  have FM_IRI := Fld.start ((fld_at ev_IRI).symm.trans (Jvm.Free.NT.SwA.eq_int (Cond.before_iff.mpr hM_IRI)))
  obtain ⟨hx_OR, hn⟩ := and_e hn
  obtain ⟨hm_OR, hn⟩ := and_e hn
  obtain ⟨hM_OR, hn⟩ := and_e hn
  obtain ⟨w_OR, ev_OR⟩ := exa_v hx_OR
  have S_OR := Sta.start ev_OR (Or.inr ⟨(hw _ (List.mem_of_getElem? (i := 5) rfl)), (hw _ (List.mem_of_getElem? (i := 45) rfl))⟩)
  have E_OR := Exa.start ev_OR hx_OR
  have Fm_OR := Fld.start ((fld_at ev_OR).symm.trans (Jvm.Free.NT.SwA.eq_int (Cond.before_iff.mpr hm_OR)))
  have FM_OR := Fld.start ((fld_at ev_OR).symm.trans (Jvm.Free.NT.SwA.eq_int (Cond.before_iff.mpr hM_OR)))
  obtain ⟨hx_CONCAT, hn⟩ := and_e hn
  obtain ⟨hm_CONCAT, hn⟩ := and_e hn
  obtain ⟨hM_CONCAT, hn⟩ := and_e hn
  obtain ⟨w_CONCAT, ev_CONCAT⟩ := exa_v hx_CONCAT
  have S_CONCAT := Sta.start ev_CONCAT (Or.inr ⟨(hw _ (List.mem_of_getElem? (i := 5) rfl)), (hw _ (List.mem_of_getElem? (i := 47) rfl))⟩)
  have E_CONCAT := Exa.start ev_CONCAT hx_CONCAT
  have Fm_CONCAT := Fld.start ((fld_at ev_CONCAT).symm.trans (Jvm.Free.NT.SwA.eq_int (Cond.before_iff.mpr hm_CONCAT)))
  have FM_CONCAT := Fld.start ((fld_at ev_CONCAT).symm.trans (Jvm.Free.NT.SwA.eq_int (Cond.before_iff.mpr hM_CONCAT)))
  obtain ⟨hx_SUBSTR, hn⟩ := and_e hn
  obtain ⟨hm_SUBSTR, hn⟩ := and_e hn
  obtain ⟨hM_SUBSTR, hn⟩ := and_e hn
  obtain ⟨w_SUBSTR, ev_SUBSTR⟩ := exa_v hx_SUBSTR
  have S_SUBSTR := Sta.start ev_SUBSTR (Or.inr ⟨(hw _ (List.mem_of_getElem? (i := 5) rfl)), (hw _ (List.mem_of_getElem? (i := 49) rfl))⟩)
  have E_SUBSTR := Exa.start ev_SUBSTR hx_SUBSTR
  have Fm_SUBSTR := Fld.start ((fld_at ev_SUBSTR).symm.trans (Jvm.Free.NT.SwA.eq_int (Cond.before_iff.mpr hm_SUBSTR)))
  have FM_SUBSTR := Fld.start ((fld_at ev_SUBSTR).symm.trans (Jvm.Free.NT.SwA.eq_int (Cond.before_iff.mpr hM_SUBSTR)))
  obtain ⟨hx_IN, hn⟩ := and_e hn
  obtain ⟨hm_IN, hn⟩ := and_e hn
  obtain ⟨hM_IN, hn⟩ := and_e hn
  obtain ⟨w_IN, ev_IN⟩ := exa_v hx_IN
  have S_IN := Sta.start ev_IN (Or.inr ⟨(hw _ (List.mem_of_getElem? (i := 5) rfl)), (hw _ (List.mem_of_getElem? (i := 51) rfl))⟩)
  have E_IN := Exa.start ev_IN hx_IN
  have Fm_IN := Fld.start ((fld_at ev_IN).symm.trans (Jvm.Free.NT.SwA.eq_int (Cond.before_iff.mpr hm_IN)))
  have FM_IN := Fld.start ((fld_at ev_IN).symm.trans (Jvm.Free.NT.SwA.eq_int (Cond.before_iff.mpr hM_IN)))
  obtain ⟨hx_BNODE, hn⟩ := and_e hn
  obtain ⟨hm_BNODE, hn⟩ := and_e hn
  have hM_BNODE := hn
  obtain ⟨w_BNODE, ev_BNODE⟩ := exa_v hx_BNODE
  have S_BNODE := Sta.start ev_BNODE (Or.inr ⟨(hw _ (List.mem_of_getElem? (i := 5) rfl)), (hw _ (List.mem_of_getElem? (i := 53) rfl))⟩)
  have E_BNODE := Exa.start ev_BNODE hx_BNODE
  have Fm_BNODE := Fld.start ((fld_at ev_BNODE).symm.trans (Jvm.Free.NT.SwA.eq_int (Cond.before_iff.mpr hm_BNODE)))
  have FM_BNODE := Fld.start ((fld_at ev_BNODE).symm.trans (Jvm.Free.NT.SwA.eq_int (Cond.before_iff.mpr hM_BNODE)))
  obtain ⟨wf, hwf⟩ : ∃ wf : Nat → Addr, wf 0 = w_UUID ∧ wf 1 = w_NOT ∧ wf 2 = w_OR ∧ wf 3 = w_IF ∧ wf 4 = w_BNODE ∧ wf 5 = w_IRI ∧ wf 6 = w_REGEX ∧ wf 7 = w_REPLACE ∧ wf 8 = w_COALESCE ∧ wf 9 = w_IN ∧ wf 10 = w_CONCAT ∧ wf 11 = w_SUBSTR ∧ wf 12 = w_SAME_TERM ∧ wf 13 = w_STRLEN ∧ wf 14 = w_RAND ∧ wf 15 = w_STRDT := ⟨fun i => match i with | 0 => w_UUID | 1 => w_NOT | 2 => w_OR | 3 => w_IF | 4 => w_BNODE | 5 => w_IRI | 6 => w_REGEX | 7 => w_REPLACE | 8 => w_COALESCE | 9 => w_IN | 10 => w_CONCAT | 11 => w_SUBSTR | 12 => w_SAME_TERM | 13 => w_STRLEN | 14 => w_RAND | _ => w_STRDT, by refine ⟨?_, ?_, ?_, ?_, ?_, ?_, ?_, ?_, ?_, ?_, ?_, ?_, ?_, ?_, ?_, ?_⟩ <;> rfl⟩
  obtain ⟨q_UUID, q_NOT, q_OR, q_IF, q_BNODE, q_IRI, q_REGEX, q_REPLACE, q_COALESCE, q_IN, q_CONCAT, q_SUBSTR, q_SAME_TERM, q_STRLEN, q_RAND, q_STRDT⟩ := hwf
  rw [← q_UUID] at S_UUID E_UUID Fm_UUID FM_UUID
  rw [← q_NOT] at S_NOT E_NOT Fm_NOT FM_NOT
  rw [← q_OR] at S_OR E_OR Fm_OR FM_OR
  rw [← q_IF] at S_IF E_IF Fm_IF FM_IF
  rw [← q_BNODE] at S_BNODE E_BNODE Fm_BNODE FM_BNODE
  rw [← q_IRI] at S_IRI E_IRI Fm_IRI FM_IRI
  rw [← q_REGEX] at S_REGEX E_REGEX Fm_REGEX FM_REGEX
  rw [← q_REPLACE] at S_REPLACE E_REPLACE Fm_REPLACE FM_REPLACE
  rw [← q_COALESCE] at S_COALESCE E_COALESCE Fm_COALESCE FM_COALESCE
  rw [← q_IN] at S_IN E_IN Fm_IN FM_IN
  rw [← q_CONCAT] at S_CONCAT E_CONCAT Fm_CONCAT FM_CONCAT
  rw [← q_SUBSTR] at S_SUBSTR E_SUBSTR Fm_SUBSTR FM_SUBSTR
  rw [← q_SAME_TERM] at S_SAME_TERM E_SAME_TERM Fm_SAME_TERM FM_SAME_TERM
  rw [← q_STRLEN] at S_STRLEN E_STRLEN Fm_STRLEN FM_STRLEN
  rw [← q_RAND] at S_RAND E_RAND Fm_RAND FM_RAND
  rw [← q_STRDT] at S_STRDT E_STRDT Fm_STRDT FM_STRDT
  have HE : ∀ k : Int32, Exa s s.heap (f1 k wf) "com/example/triplewell/triplewell/model/Operator" := fun k => own_cases (P := fun a => Exa s s.heap a "com/example/triplewell/triplewell/model/Operator") E_UUID E_NOT E_OR E_IF E_BNODE E_IRI E_REGEX E_REPLACE E_COALESCE E_IN E_CONCAT E_SUBSTR E_SAME_TERM E_STRLEN E_RAND E_STRDT
  have HMin : ∀ k : Int32, Fld s s.heap (f1 k wf) "com/example/triplewell/triplewell/model/Operator" "minArguments" "I" (.int (f2 k)) := fun k => own_cases2 (P := fun a z => Fld s s.heap a "com/example/triplewell/triplewell/model/Operator" "minArguments" "I" (.int z)) k Fm_UUID Fm_NOT Fm_OR Fm_IF Fm_BNODE Fm_IRI Fm_REGEX Fm_REPLACE Fm_COALESCE Fm_IN Fm_CONCAT Fm_SUBSTR Fm_SAME_TERM Fm_STRLEN Fm_RAND Fm_STRDT
  have HMax : ∀ k : Int32, Fld s s.heap (f1 k wf) "com/example/triplewell/triplewell/model/Operator" "maxArguments" "I" (.int (f3 k)) := fun k => own_cases3 (P := fun a z => Fld s s.heap a "com/example/triplewell/triplewell/model/Operator" "maxArguments" "I" (.int z)) k FM_UUID FM_NOT FM_OR FM_IF FM_BNODE FM_IRI FM_REGEX FM_REPLACE FM_COALESCE FM_IN FM_CONCAT FM_SUBSTR FM_SAME_TERM FM_STRLEN FM_RAND FM_STRDT
  obtain ⟨n, o, h1, h2, h3, v, L, rfl, ⟨hv, N, -⟩, hq⟩ := rm0 l s _ hw tables_1 i0 i1 wf s.heap s.heap.size (Nat.le_refl _) S_UUID S_NOT S_OR S_IF S_BNODE S_IRI S_REGEX S_REPLACE S_COALESCE S_IN S_CONCAT S_SUBSTR S_SAME_TERM S_STRLEN S_RAND S_STRDT HE HMin HMax p e ha hc hk s m _ below hf ((Spec.applies_iff_loose hf).mp happ).1 ⟨rfl, State.Warmed39.refl s, rfl⟩ trivial
  rw [own_law i0 i1 wf] at hv
  subst hv
  refine ⟨n, _, h1, h2, h3, hpost _ _ _ _ _ _ ⟨Cond.after_iff.mpr rfl, Cond.after_iff.mpr (eq_i res_at (Term.int_eval (1)) rfl), trivial⟩ ⟨hq.1, hq.2.1, (hq.2.2.sift fun y hy => Or.inr (N y hy)).mono (by decide) (by decide)⟩⟩
theorem main_1_1 : Claimed_1_1 := comes_1 fun _ _ _ _ _ _ h hF => ⟨h.1, hF⟩
theorem main_1_2 : Claimed_1_2 := comes_1 fun _ _ _ _ _ _ h hF => ⟨h.2.1, hF⟩
end Jvm.Pilot.@@N@@
namespace Jvm.Pilot.@@N@@
open Jvm Jvm.ClassFile Sem Op Lib Jvm.Free Jvm.Stand Jvm.Pilot.@@N@@.Jvm.D
/-! MADE BY PROGRAM (witnessworld.py) out of the Statement's table words and the real class files: 10 classes; the members and pool entries that the words name. The judged class is class 1, her method 4. -/
namespace start1
open Jvm.ClassFile
def u (s : String) : CpInfo := .utf8 (stringToUtf16 s)
/-- a pool by its gaps: so many unusable entries, then the entry; so many at the end -/
def gap : Nat → List CpInfo → List CpInfo
  | 0, r => r
  | n + 1, r => .unusable :: gap n r
def poolList (es : List (Nat × CpInfo)) (last : Nat) : List CpInfo := es.foldr (fun e r => gap e.1 (e.2 :: r)) (gap last [])
def pool (es : List (Nat × CpInfo)) (last : Nat) : Array CpInfo := ⟨poolList es last⟩
def fileOf (pool : Array CpInfo) (this : Nat) (attrs : Array Attribute := #[]) (ms : Array MethodInfo := #[]) (fl : Nat := 33) (sup : Nat := 0) (ifs : Array Nat := #[]) (fds : Array FieldInfo := #[]) : ClassFile where
  minorVersion := 0
  majorVersion := 65
  constantPool := pool
  accessFlags := fl
  thisClass := this
  superClass := sup
  interfaces := ifs
  fields := fds
  methods := ms
  attributes := attrs
def plain (name : String) (sup : Option ClassId) : Class where
  name := name
  kind := .ordinary
  loader := none
  accessFlags := 33
  super := sup
  interfaces := #[]
  cf := none
  fields := #[]
  methods := #[]
  instanceTypes := #[]
  staticTypes := #[]
  resolved := #[]
  callSites := []
  init := .initialized
  statics := none
  mirror := none

def pool0 : Array CpInfo := pool [(5, u "<init>"), (0, u "()V"), (1, .class_ 10), (1, u "java/lang/Object")] 113

def k0m0 : Method := { name := "<init>", desc := "()V", sig := { parameters := [], returnType := none }, accessFlags := 1, code := none }
/-- java/lang/Object -/
def k0 : Class := { plain "java/lang/Object" none with
  accessFlags := 33
  interfaces := #[]
  cf := some (fileOf pool0 8 #[] #[{ accessFlags := 1, nameIndex := 5, descriptorIndex := 6, attributes := #[] }] 33 0 #[] #[])
  fields := #[]
  methods := #[k0m0]
  instanceTypes := #[]
  staticTypes := #[]
  resolved := Array.replicate 124 none
  statics := none }

def pool1 : Array CpInfo := pool [(2, .class_ 4), (1, u "java/lang/Object"), (0, u "<init>"), (0, u "()V"), (0, .fieldref 8 9), (0, .class_ 10), (0, .nameAndType 11 12), (0, u "com/example/triplewell/triplewell/model/Operator"), (0, u "UUID"), (0, u "Lcom/example/triplewell/triplewell/model/Operator;"), (0, .fieldref 8 14), (0, .nameAndType 15 12), (0, u "NOT"), (0, .fieldref 8 17), (0, .nameAndType 18 12), (0, u "OR"), (0, .fieldref 8 20), (0, .nameAndType 21 12), (0, u "IF"), (0, .fieldref 8 23), (0, .nameAndType 24 12), (0, u "BNODE"), (0, .fieldref 8 26), (0, .nameAndType 27 12), (0, u "IRI"), (0, .fieldref 8 29), (0, .nameAndType 30 12), (0, u "REGEX"), (0, .fieldref 8 32), (0, .nameAndType 33 12), (0, u "REPLACE"), (0, .fieldref 8 35), (0, .nameAndType 36 12), (0, u "COALESCE"), (0, .fieldref 8 38), (0, .nameAndType 39 12), (0, u "IN"), (0, .fieldref 8 41), (0, .nameAndType 42 12), (0, u "CONCAT"), (0, .fieldref 8 44), (0, .nameAndType 45 12), (0, u "SUBSTR"), (0, .fieldref 8 47), (0, .nameAndType 48 12), (0, u "SAME_TERM"), (0, .fieldref 8 50), (0, .nameAndType 51 12), (0, u "STRLEN"), (0, .fieldref 8 53), (0, .nameAndType 54 12), (0, u "RAND"), (0, .fieldref 8 56), (0, .nameAndType 57 12), (0, u "STRDT"), (2, .integer 2147483647), (0, .methodref 62 63), (0, .class_ 64), (0, .nameAndType 65 66), (0, u "com/example/triplewell/triplewell/model/OperatorTakesPinLaw"), (0, u "op"), (0, u "(I)Lcom/example/triplewell/triplewell/model/Operator;"), (0, .methodref 62 68), (0, .nameAndType 69 70), (0, u "lo"), (0, u "(I)I"), (0, .methodref 62 72), (0, .nameAndType 73 70), (0, u "hi"), (0, .methodref 8 75), (0, .nameAndType 76 77), (0, u "takes"), (0, u "(I)Z"), (0, .integer 2147483648), (3, u "law"), (0, u "(II)Z")] 2

def k1m0 : Method := { name := "<init>", desc := "()V", sig := { parameters := [], returnType := none }, accessFlags := 1, code := none }
def k1c1 : Code := { maxStack := 1, maxLocals := 1, code := method_2_code, exceptionTable := #[], attributes := #[] }
def k1m1 : Method := { name := "op", desc := "(I)Lcom/example/triplewell/triplewell/model/Operator;", sig := { parameters := [.int], returnType := some (.object "com/example/triplewell/triplewell/model/Operator") }, accessFlags := 10, code := some k1c1 }
def k1c2 : Code := { maxStack := 1, maxLocals := 1, code := method_3_code, exceptionTable := #[], attributes := #[] }
def k1m2 : Method := { name := "lo", desc := "(I)I", sig := { parameters := [.int], returnType := some .int }, accessFlags := 10, code := some k1c2 }
def k1c3 : Code := { maxStack := 1, maxLocals := 1, code := method_4_code, exceptionTable := #[], attributes := #[] }
def k1m3 : Method := { name := "hi", desc := "(I)I", sig := { parameters := [.int], returnType := some .int }, accessFlags := 10, code := some k1c3 }
def k1c4 : Code := { maxStack := 4, maxLocals := 10, code := code, exceptionTable := #[], attributes := #[] }
def k1m4 : Method := { name := "law", desc := "(II)Z", sig := { parameters := [.int, .int], returnType := some .boolean }, accessFlags := 9, code := some k1c4 }
/-- com/example/triplewell/triplewell/model/OperatorTakesPinLaw -/
def k1 : Class := { plain "com/example/triplewell/triplewell/model/OperatorTakesPinLaw" (some 0) with
  accessFlags := 49
  interfaces := #[]
  cf := some (fileOf pool1 62 #[] #[{ accessFlags := 1, nameIndex := 5, descriptorIndex := 6, attributes := #[] }, { accessFlags := 10, nameIndex := 65, descriptorIndex := 66, attributes := #[] }, { accessFlags := 10, nameIndex := 69, descriptorIndex := 70, attributes := #[] }, { accessFlags := 10, nameIndex := 73, descriptorIndex := 70, attributes := #[] }, { accessFlags := 9, nameIndex := 82, descriptorIndex := 83, attributes := #[] }] 49 2 #[] #[])
  fields := #[]
  methods := #[k1m0, k1m1, k1m2, k1m3, k1m4]
  instanceTypes := #[]
  staticTypes := #[]
  resolved := Array.replicate 86 none
  statics := none }

def pool2 : Array CpInfo := pool [(1, .class_ 2), (0, u "java/lang/constant/Constable"), (0, .class_ 4), (0, u "java/lang/Object")] 6

/-- java/lang/constant/Constable -/
def k2 : Class := { plain "java/lang/constant/Constable" (some 0) with
  accessFlags := 1537
  interfaces := #[]
  cf := some (fileOf pool2 1 #[] #[] 1537 3 #[] #[])
  fields := #[]
  methods := #[]
  instanceTypes := #[]
  staticTypes := #[]
  resolved := Array.replicate 11 none
  statics := none }

def pool3 : Array CpInfo := pool [(1, .class_ 2), (0, u "java/lang/Comparable"), (0, .class_ 4), (0, u "java/lang/Object")] 7

/-- java/lang/Comparable -/
def k3 : Class := { plain "java/lang/Comparable" (some 0) with
  accessFlags := 1537
  interfaces := #[]
  cf := some (fileOf pool3 1 #[] #[] 1537 3 #[] #[])
  fields := #[]
  methods := #[]
  instanceTypes := #[]
  staticTypes := #[]
  resolved := Array.replicate 12 none
  statics := none }

def pool4 : Array CpInfo := pool [(1, .class_ 2), (0, u "java/io/Serializable"), (0, .class_ 4), (0, u "java/lang/Object")] 2

/-- java/io/Serializable -/
def k4 : Class := { plain "java/io/Serializable" (some 0) with
  accessFlags := 1537
  interfaces := #[]
  cf := some (fileOf pool4 1 #[] #[] 1537 3 #[] #[])
  fields := #[]
  methods := #[]
  instanceTypes := #[]
  staticTypes := #[]
  resolved := Array.replicate 7 none
  statics := none }

def pool5 : Array CpInfo := pool [(2, .class_ 4), (1, u "java/lang/Enum"), (0, u "name"), (0, u "Ljava/lang/String;"), (2, u "ordinal"), (0, u "I"), (1, .class_ 14), (1, u "java/lang/Object"), (4, u "hash"), (86, .class_ 108), (1, u "java/lang/Enum$EnumDesc"), (2, .class_ 112), (0, u "java/lang/constant/Constable"), (0, .class_ 114), (0, u "java/lang/Comparable"), (0, .class_ 116), (0, u "java/io/Serializable")] 87

/-- java/lang/Enum -/
def k5 : Class := { plain "java/lang/Enum" (some 0) with
  accessFlags := 1057
  interfaces := #[2, 3, 4]
  cf := some (fileOf pool5 2 #[.nestMembers #[106]] #[] 1057 12 #[111, 113, 115] #[{ accessFlags := 18, nameIndex := 5, descriptorIndex := 6, attributes := #[] }, { accessFlags := 18, nameIndex := 9, descriptorIndex := 10, attributes := #[] }, { accessFlags := 2, nameIndex := 19, descriptorIndex := 10, attributes := #[] }])
  fields := #[{ name := "name", type := (.object "java/lang/String"), accessFlags := 18, slot := 0, constantValue := 0 }, { name := "ordinal", type := .int, accessFlags := 18, slot := 1, constantValue := 0 }, { name := "hash", type := .int, accessFlags := 2, slot := 2, constantValue := 0 }]
  methods := #[]
  instanceTypes := #[(.object "java/lang/String"), .int, .int]
  staticTypes := #[]
  resolved := Array.replicate 204 none
  statics := none }

def pool6 : Array CpInfo := pool [(1, .class_ 2), (0, u "com/example/triplewell/triplewell/model/Operator"), (2, u "OR"), (0, u "Lcom/example/triplewell/triplewell/model/Operator;"), (2, u "AND"), (2, u "NOT"), (2, u "EQUAL"), (2, u "NOT_EQUAL"), (2, u "LESS"), (2, u "GREATER"), (2, u "LESS_OR_EQUAL"), (2, u "GREATER_OR_EQUAL"), (2, u "UNARY_PLUS"), (2, u "UNARY_MINUS"), (2, u "ADD"), (2, u "SUBTRACT"), (2, u "MULTIPLY"), (2, u "DIVIDE"), (2, u "BOUND"), (2, u "IS_IRI"), (2, u "IS_BLANK"), (2, u "IS_LITERAL"), (2, u "STR"), (2, u "LANG"), (2, u "DATATYPE"), (2, u "SAME_TERM"), (2, u "LANG_MATCHES"), (2, u "REGEX"), (2, u "IN"), (2, u "IF"), (2, u "COALESCE"), (2, u "IS_NUMERIC"), (2, u "IRI"), (2, u "BNODE"), (2, u "STRDT"), (2, u "STRLANG"), (2, u "UUID"), (2, u "STRUUID"), (2, u "STRLEN"), (2, u "SUBSTR"), (2, u "UCASE"), (2, u "LCASE"), (2, u "STRSTARTS"), (2, u "STRENDS"), (2, u "CONTAINS"), (2, u "STRBEFORE"), (2, u "STRAFTER"), (2, u "ENCODE_FOR_URI"), (2, u "CONCAT"), (2, u "REPLACE"), (2, u "ABS"), (2, u "ROUND"), (2, u "CEIL"), (2, u "FLOOR"), (2, u "RAND"), (2, u "NOW"), (2, u "YEAR"), (2, u "MONTH"), (2, u "DAY"), (2, u "HOURS"), (2, u "MINUTES"), (2, u "SECONDS"), (2, u "TIMEZONE"), (2, u "TZ"), (2, u "MD5"), (2, u "SHA1"), (2, u "SHA256"), (2, u "SHA384"), (2, u "SHA512"), (2, u "$VALUES"), (0, u "[Lcom/example/triplewell/triplewell/model/Operator;"), (6, .class_ 214), (1, u "java/lang/Enum"), (11, u "symbol"), (0, u "Ljava/lang/String;"), (0, .fieldref 1 229), (0, .nameAndType 230 231), (0, u "minArguments"), (0, u "I"), (0, .fieldref 1 233), (0, .nameAndType 234 231), (0, u "maxArguments"), (2, u "builtIn"), (0, u "Z"), (2, u "BUILT_INS"), (0, u "Ljava/util/Map;"), (169, u "takes"), (0, u "(I)Z")] 25

def k6c0 : Code := { maxStack := 2, maxLocals := 2, code := prog_134_method_7_code, exceptionTable := #[], attributes := #[] }
def k6m0 : Method := { name := "takes", desc := "(I)Z", sig := { parameters := [.int], returnType := some .boolean }, accessFlags := 1, code := some k6c0 }
/-- com/example/triplewell/triplewell/model/Operator -/
def k6 : Class := { plain "com/example/triplewell/triplewell/model/Operator" (some 5) with
  accessFlags := 16433
  interfaces := #[]
  cf := some (fileOf pool6 1 #[] #[{ accessFlags := 1, nameIndex := 412, descriptorIndex := 413, attributes := #[] }] 16433 212 #[] #[{ accessFlags := 16409, nameIndex := 5, descriptorIndex := 6, attributes := #[] }, { accessFlags := 16409, nameIndex := 9, descriptorIndex := 6, attributes := #[] }, { accessFlags := 16409, nameIndex := 12, descriptorIndex := 6, attributes := #[] }, { accessFlags := 16409, nameIndex := 15, descriptorIndex := 6, attributes := #[] }, { accessFlags := 16409, nameIndex := 18, descriptorIndex := 6, attributes := #[] }, { accessFlags := 16409, nameIndex := 21, descriptorIndex := 6, attributes := #[] }, { accessFlags := 16409, nameIndex := 24, descriptorIndex := 6, attributes := #[] }, { accessFlags := 16409, nameIndex := 27, descriptorIndex := 6, attributes := #[] }, { accessFlags := 16409, nameIndex := 30, descriptorIndex := 6, attributes := #[] }, { accessFlags := 16409, nameIndex := 33, descriptorIndex := 6, attributes := #[] }, { accessFlags := 16409, nameIndex := 36, descriptorIndex := 6, attributes := #[] }, { accessFlags := 16409, nameIndex := 39, descriptorIndex := 6, attributes := #[] }, { accessFlags := 16409, nameIndex := 42, descriptorIndex := 6, attributes := #[] }, { accessFlags := 16409, nameIndex := 45, descriptorIndex := 6, attributes := #[] }, { accessFlags := 16409, nameIndex := 48, descriptorIndex := 6, attributes := #[] }, { accessFlags := 16409, nameIndex := 51, descriptorIndex := 6, attributes := #[] }, { accessFlags := 16409, nameIndex := 54, descriptorIndex := 6, attributes := #[] }, { accessFlags := 16409, nameIndex := 57, descriptorIndex := 6, attributes := #[] }, { accessFlags := 16409, nameIndex := 60, descriptorIndex := 6, attributes := #[] }, { accessFlags := 16409, nameIndex := 63, descriptorIndex := 6, attributes := #[] }, { accessFlags := 16409, nameIndex := 66, descriptorIndex := 6, attributes := #[] }, { accessFlags := 16409, nameIndex := 69, descriptorIndex := 6, attributes := #[] }, { accessFlags := 16409, nameIndex := 72, descriptorIndex := 6, attributes := #[] }, { accessFlags := 16409, nameIndex := 75, descriptorIndex := 6, attributes := #[] }, { accessFlags := 16409, nameIndex := 78, descriptorIndex := 6, attributes := #[] }, { accessFlags := 16409, nameIndex := 81, descriptorIndex := 6, attributes := #[] }, { accessFlags := 16409, nameIndex := 84, descriptorIndex := 6, attributes := #[] }, { accessFlags := 16409, nameIndex := 87, descriptorIndex := 6, attributes := #[] }, { accessFlags := 16409, nameIndex := 90, descriptorIndex := 6, attributes := #[] }, { accessFlags := 16409, nameIndex := 93, descriptorIndex := 6, attributes := #[] }, { accessFlags := 16409, nameIndex := 96, descriptorIndex := 6, attributes := #[] }, { accessFlags := 16409, nameIndex := 99, descriptorIndex := 6, attributes := #[] }, { accessFlags := 16409, nameIndex := 102, descriptorIndex := 6, attributes := #[] }, { accessFlags := 16409, nameIndex := 105, descriptorIndex := 6, attributes := #[] }, { accessFlags := 16409, nameIndex := 108, descriptorIndex := 6, attributes := #[] }, { accessFlags := 16409, nameIndex := 111, descriptorIndex := 6, attributes := #[] }, { accessFlags := 16409, nameIndex := 114, descriptorIndex := 6, attributes := #[] }, { accessFlags := 16409, nameIndex := 117, descriptorIndex := 6, attributes := #[] }, { accessFlags := 16409, nameIndex := 120, descriptorIndex := 6, attributes := #[] }, { accessFlags := 16409, nameIndex := 123, descriptorIndex := 6, attributes := #[] }, { accessFlags := 16409, nameIndex := 126, descriptorIndex := 6, attributes := #[] }, { accessFlags := 16409, nameIndex := 129, descriptorIndex := 6, attributes := #[] }, { accessFlags := 16409, nameIndex := 132, descriptorIndex := 6, attributes := #[] }, { accessFlags := 16409, nameIndex := 135, descriptorIndex := 6, attributes := #[] }, { accessFlags := 16409, nameIndex := 138, descriptorIndex := 6, attributes := #[] }, { accessFlags := 16409, nameIndex := 141, descriptorIndex := 6, attributes := #[] }, { accessFlags := 16409, nameIndex := 144, descriptorIndex := 6, attributes := #[] }, { accessFlags := 16409, nameIndex := 147, descriptorIndex := 6, attributes := #[] }, { accessFlags := 16409, nameIndex := 150, descriptorIndex := 6, attributes := #[] }, { accessFlags := 16409, nameIndex := 153, descriptorIndex := 6, attributes := #[] }, { accessFlags := 16409, nameIndex := 156, descriptorIndex := 6, attributes := #[] }, { accessFlags := 16409, nameIndex := 159, descriptorIndex := 6, attributes := #[] }, { accessFlags := 16409, nameIndex := 162, descriptorIndex := 6, attributes := #[] }, { accessFlags := 16409, nameIndex := 165, descriptorIndex := 6, attributes := #[] }, { accessFlags := 16409, nameIndex := 168, descriptorIndex := 6, attributes := #[] }, { accessFlags := 16409, nameIndex := 171, descriptorIndex := 6, attributes := #[] }, { accessFlags := 16409, nameIndex := 174, descriptorIndex := 6, attributes := #[] }, { accessFlags := 16409, nameIndex := 177, descriptorIndex := 6, attributes := #[] }, { accessFlags := 16409, nameIndex := 180, descriptorIndex := 6, attributes := #[] }, { accessFlags := 16409, nameIndex := 183, descriptorIndex := 6, attributes := #[] }, { accessFlags := 16409, nameIndex := 186, descriptorIndex := 6, attributes := #[] }, { accessFlags := 16409, nameIndex := 189, descriptorIndex := 6, attributes := #[] }, { accessFlags := 16409, nameIndex := 192, descriptorIndex := 6, attributes := #[] }, { accessFlags := 16409, nameIndex := 195, descriptorIndex := 6, attributes := #[] }, { accessFlags := 16409, nameIndex := 198, descriptorIndex := 6, attributes := #[] }, { accessFlags := 16409, nameIndex := 201, descriptorIndex := 6, attributes := #[] }, { accessFlags := 26, nameIndex := 241, descriptorIndex := 242, attributes := #[] }, { accessFlags := 18, nameIndex := 226, descriptorIndex := 227, attributes := #[] }, { accessFlags := 18, nameIndex := 230, descriptorIndex := 231, attributes := #[] }, { accessFlags := 18, nameIndex := 234, descriptorIndex := 231, attributes := #[] }, { accessFlags := 18, nameIndex := 237, descriptorIndex := 238, attributes := #[] }, { accessFlags := 4122, nameIndex := 204, descriptorIndex := 205, attributes := #[] }])
  fields := #[{ name := "OR", type := (.object "com/example/triplewell/triplewell/model/Operator"), accessFlags := 16409, slot := 0, constantValue := 0 }, { name := "AND", type := (.object "com/example/triplewell/triplewell/model/Operator"), accessFlags := 16409, slot := 1, constantValue := 0 }, { name := "NOT", type := (.object "com/example/triplewell/triplewell/model/Operator"), accessFlags := 16409, slot := 2, constantValue := 0 }, { name := "EQUAL", type := (.object "com/example/triplewell/triplewell/model/Operator"), accessFlags := 16409, slot := 3, constantValue := 0 }, { name := "NOT_EQUAL", type := (.object "com/example/triplewell/triplewell/model/Operator"), accessFlags := 16409, slot := 4, constantValue := 0 }, { name := "LESS", type := (.object "com/example/triplewell/triplewell/model/Operator"), accessFlags := 16409, slot := 5, constantValue := 0 }, { name := "GREATER", type := (.object "com/example/triplewell/triplewell/model/Operator"), accessFlags := 16409, slot := 6, constantValue := 0 }, { name := "LESS_OR_EQUAL", type := (.object "com/example/triplewell/triplewell/model/Operator"), accessFlags := 16409, slot := 7, constantValue := 0 }, { name := "GREATER_OR_EQUAL", type := (.object "com/example/triplewell/triplewell/model/Operator"), accessFlags := 16409, slot := 8, constantValue := 0 }, { name := "UNARY_PLUS", type := (.object "com/example/triplewell/triplewell/model/Operator"), accessFlags := 16409, slot := 9, constantValue := 0 }, { name := "UNARY_MINUS", type := (.object "com/example/triplewell/triplewell/model/Operator"), accessFlags := 16409, slot := 10, constantValue := 0 }, { name := "ADD", type := (.object "com/example/triplewell/triplewell/model/Operator"), accessFlags := 16409, slot := 11, constantValue := 0 }, { name := "SUBTRACT", type := (.object "com/example/triplewell/triplewell/model/Operator"), accessFlags := 16409, slot := 12, constantValue := 0 }, { name := "MULTIPLY", type := (.object "com/example/triplewell/triplewell/model/Operator"), accessFlags := 16409, slot := 13, constantValue := 0 }, { name := "DIVIDE", type := (.object "com/example/triplewell/triplewell/model/Operator"), accessFlags := 16409, slot := 14, constantValue := 0 }, { name := "BOUND", type := (.object "com/example/triplewell/triplewell/model/Operator"), accessFlags := 16409, slot := 15, constantValue := 0 }, { name := "IS_IRI", type := (.object "com/example/triplewell/triplewell/model/Operator"), accessFlags := 16409, slot := 16, constantValue := 0 }, { name := "IS_BLANK", type := (.object "com/example/triplewell/triplewell/model/Operator"), accessFlags := 16409, slot := 17, constantValue := 0 }, { name := "IS_LITERAL", type := (.object "com/example/triplewell/triplewell/model/Operator"), accessFlags := 16409, slot := 18, constantValue := 0 }, { name := "STR", type := (.object "com/example/triplewell/triplewell/model/Operator"), accessFlags := 16409, slot := 19, constantValue := 0 }, { name := "LANG", type := (.object "com/example/triplewell/triplewell/model/Operator"), accessFlags := 16409, slot := 20, constantValue := 0 }, { name := "DATATYPE", type := (.object "com/example/triplewell/triplewell/model/Operator"), accessFlags := 16409, slot := 21, constantValue := 0 }, { name := "SAME_TERM", type := (.object "com/example/triplewell/triplewell/model/Operator"), accessFlags := 16409, slot := 22, constantValue := 0 }, { name := "LANG_MATCHES", type := (.object "com/example/triplewell/triplewell/model/Operator"), accessFlags := 16409, slot := 23, constantValue := 0 }, { name := "REGEX", type := (.object "com/example/triplewell/triplewell/model/Operator"), accessFlags := 16409, slot := 24, constantValue := 0 }, { name := "IN", type := (.object "com/example/triplewell/triplewell/model/Operator"), accessFlags := 16409, slot := 25, constantValue := 0 }, { name := "IF", type := (.object "com/example/triplewell/triplewell/model/Operator"), accessFlags := 16409, slot := 26, constantValue := 0 }, { name := "COALESCE", type := (.object "com/example/triplewell/triplewell/model/Operator"), accessFlags := 16409, slot := 27, constantValue := 0 }, { name := "IS_NUMERIC", type := (.object "com/example/triplewell/triplewell/model/Operator"), accessFlags := 16409, slot := 28, constantValue := 0 }, { name := "IRI", type := (.object "com/example/triplewell/triplewell/model/Operator"), accessFlags := 16409, slot := 29, constantValue := 0 }, { name := "BNODE", type := (.object "com/example/triplewell/triplewell/model/Operator"), accessFlags := 16409, slot := 30, constantValue := 0 }, { name := "STRDT", type := (.object "com/example/triplewell/triplewell/model/Operator"), accessFlags := 16409, slot := 31, constantValue := 0 }, { name := "STRLANG", type := (.object "com/example/triplewell/triplewell/model/Operator"), accessFlags := 16409, slot := 32, constantValue := 0 }, { name := "UUID", type := (.object "com/example/triplewell/triplewell/model/Operator"), accessFlags := 16409, slot := 33, constantValue := 0 }, { name := "STRUUID", type := (.object "com/example/triplewell/triplewell/model/Operator"), accessFlags := 16409, slot := 34, constantValue := 0 }, { name := "STRLEN", type := (.object "com/example/triplewell/triplewell/model/Operator"), accessFlags := 16409, slot := 35, constantValue := 0 }, { name := "SUBSTR", type := (.object "com/example/triplewell/triplewell/model/Operator"), accessFlags := 16409, slot := 36, constantValue := 0 }, { name := "UCASE", type := (.object "com/example/triplewell/triplewell/model/Operator"), accessFlags := 16409, slot := 37, constantValue := 0 }, { name := "LCASE", type := (.object "com/example/triplewell/triplewell/model/Operator"), accessFlags := 16409, slot := 38, constantValue := 0 }, { name := "STRSTARTS", type := (.object "com/example/triplewell/triplewell/model/Operator"), accessFlags := 16409, slot := 39, constantValue := 0 }, { name := "STRENDS", type := (.object "com/example/triplewell/triplewell/model/Operator"), accessFlags := 16409, slot := 40, constantValue := 0 }, { name := "CONTAINS", type := (.object "com/example/triplewell/triplewell/model/Operator"), accessFlags := 16409, slot := 41, constantValue := 0 }, { name := "STRBEFORE", type := (.object "com/example/triplewell/triplewell/model/Operator"), accessFlags := 16409, slot := 42, constantValue := 0 }, { name := "STRAFTER", type := (.object "com/example/triplewell/triplewell/model/Operator"), accessFlags := 16409, slot := 43, constantValue := 0 }, { name := "ENCODE_FOR_URI", type := (.object "com/example/triplewell/triplewell/model/Operator"), accessFlags := 16409, slot := 44, constantValue := 0 }, { name := "CONCAT", type := (.object "com/example/triplewell/triplewell/model/Operator"), accessFlags := 16409, slot := 45, constantValue := 0 }, { name := "REPLACE", type := (.object "com/example/triplewell/triplewell/model/Operator"), accessFlags := 16409, slot := 46, constantValue := 0 }, { name := "ABS", type := (.object "com/example/triplewell/triplewell/model/Operator"), accessFlags := 16409, slot := 47, constantValue := 0 }, { name := "ROUND", type := (.object "com/example/triplewell/triplewell/model/Operator"), accessFlags := 16409, slot := 48, constantValue := 0 }, { name := "CEIL", type := (.object "com/example/triplewell/triplewell/model/Operator"), accessFlags := 16409, slot := 49, constantValue := 0 }, { name := "FLOOR", type := (.object "com/example/triplewell/triplewell/model/Operator"), accessFlags := 16409, slot := 50, constantValue := 0 }, { name := "RAND", type := (.object "com/example/triplewell/triplewell/model/Operator"), accessFlags := 16409, slot := 51, constantValue := 0 }, { name := "NOW", type := (.object "com/example/triplewell/triplewell/model/Operator"), accessFlags := 16409, slot := 52, constantValue := 0 }, { name := "YEAR", type := (.object "com/example/triplewell/triplewell/model/Operator"), accessFlags := 16409, slot := 53, constantValue := 0 }, { name := "MONTH", type := (.object "com/example/triplewell/triplewell/model/Operator"), accessFlags := 16409, slot := 54, constantValue := 0 }, { name := "DAY", type := (.object "com/example/triplewell/triplewell/model/Operator"), accessFlags := 16409, slot := 55, constantValue := 0 }, { name := "HOURS", type := (.object "com/example/triplewell/triplewell/model/Operator"), accessFlags := 16409, slot := 56, constantValue := 0 }, { name := "MINUTES", type := (.object "com/example/triplewell/triplewell/model/Operator"), accessFlags := 16409, slot := 57, constantValue := 0 }, { name := "SECONDS", type := (.object "com/example/triplewell/triplewell/model/Operator"), accessFlags := 16409, slot := 58, constantValue := 0 }, { name := "TIMEZONE", type := (.object "com/example/triplewell/triplewell/model/Operator"), accessFlags := 16409, slot := 59, constantValue := 0 }, { name := "TZ", type := (.object "com/example/triplewell/triplewell/model/Operator"), accessFlags := 16409, slot := 60, constantValue := 0 }, { name := "MD5", type := (.object "com/example/triplewell/triplewell/model/Operator"), accessFlags := 16409, slot := 61, constantValue := 0 }, { name := "SHA1", type := (.object "com/example/triplewell/triplewell/model/Operator"), accessFlags := 16409, slot := 62, constantValue := 0 }, { name := "SHA256", type := (.object "com/example/triplewell/triplewell/model/Operator"), accessFlags := 16409, slot := 63, constantValue := 0 }, { name := "SHA384", type := (.object "com/example/triplewell/triplewell/model/Operator"), accessFlags := 16409, slot := 64, constantValue := 0 }, { name := "SHA512", type := (.object "com/example/triplewell/triplewell/model/Operator"), accessFlags := 16409, slot := 65, constantValue := 0 }, { name := "BUILT_INS", type := (.object "java/util/Map"), accessFlags := 26, slot := 66, constantValue := 0 }, { name := "symbol", type := (.object "java/lang/String"), accessFlags := 18, slot := 3, constantValue := 0 }, { name := "minArguments", type := .int, accessFlags := 18, slot := 4, constantValue := 0 }, { name := "maxArguments", type := .int, accessFlags := 18, slot := 5, constantValue := 0 }, { name := "builtIn", type := .boolean, accessFlags := 18, slot := 6, constantValue := 0 }, { name := "$VALUES", type := (.array (.object "com/example/triplewell/triplewell/model/Operator")), accessFlags := 4122, slot := 67, constantValue := 0 }]
  methods := #[k6m0]
  instanceTypes := #[(.object "java/lang/String"), .int, .int, (.object "java/lang/String"), .int, .int, .boolean]
  staticTypes := #[(.object "com/example/triplewell/triplewell/model/Operator"), (.object "com/example/triplewell/triplewell/model/Operator"), (.object "com/example/triplewell/triplewell/model/Operator"), (.object "com/example/triplewell/triplewell/model/Operator"), (.object "com/example/triplewell/triplewell/model/Operator"), (.object "com/example/triplewell/triplewell/model/Operator"), (.object "com/example/triplewell/triplewell/model/Operator"), (.object "com/example/triplewell/triplewell/model/Operator"), (.object "com/example/triplewell/triplewell/model/Operator"), (.object "com/example/triplewell/triplewell/model/Operator"), (.object "com/example/triplewell/triplewell/model/Operator"), (.object "com/example/triplewell/triplewell/model/Operator"), (.object "com/example/triplewell/triplewell/model/Operator"), (.object "com/example/triplewell/triplewell/model/Operator"), (.object "com/example/triplewell/triplewell/model/Operator"), (.object "com/example/triplewell/triplewell/model/Operator"), (.object "com/example/triplewell/triplewell/model/Operator"), (.object "com/example/triplewell/triplewell/model/Operator"), (.object "com/example/triplewell/triplewell/model/Operator"), (.object "com/example/triplewell/triplewell/model/Operator"), (.object "com/example/triplewell/triplewell/model/Operator"), (.object "com/example/triplewell/triplewell/model/Operator"), (.object "com/example/triplewell/triplewell/model/Operator"), (.object "com/example/triplewell/triplewell/model/Operator"), (.object "com/example/triplewell/triplewell/model/Operator"), (.object "com/example/triplewell/triplewell/model/Operator"), (.object "com/example/triplewell/triplewell/model/Operator"), (.object "com/example/triplewell/triplewell/model/Operator"), (.object "com/example/triplewell/triplewell/model/Operator"), (.object "com/example/triplewell/triplewell/model/Operator"), (.object "com/example/triplewell/triplewell/model/Operator"), (.object "com/example/triplewell/triplewell/model/Operator"), (.object "com/example/triplewell/triplewell/model/Operator"), (.object "com/example/triplewell/triplewell/model/Operator"), (.object "com/example/triplewell/triplewell/model/Operator"), (.object "com/example/triplewell/triplewell/model/Operator"), (.object "com/example/triplewell/triplewell/model/Operator"), (.object "com/example/triplewell/triplewell/model/Operator"), (.object "com/example/triplewell/triplewell/model/Operator"), (.object "com/example/triplewell/triplewell/model/Operator"), (.object "com/example/triplewell/triplewell/model/Operator"), (.object "com/example/triplewell/triplewell/model/Operator"), (.object "com/example/triplewell/triplewell/model/Operator"), (.object "com/example/triplewell/triplewell/model/Operator"), (.object "com/example/triplewell/triplewell/model/Operator"), (.object "com/example/triplewell/triplewell/model/Operator"), (.object "com/example/triplewell/triplewell/model/Operator"), (.object "com/example/triplewell/triplewell/model/Operator"), (.object "com/example/triplewell/triplewell/model/Operator"), (.object "com/example/triplewell/triplewell/model/Operator"), (.object "com/example/triplewell/triplewell/model/Operator"), (.object "com/example/triplewell/triplewell/model/Operator"), (.object "com/example/triplewell/triplewell/model/Operator"), (.object "com/example/triplewell/triplewell/model/Operator"), (.object "com/example/triplewell/triplewell/model/Operator"), (.object "com/example/triplewell/triplewell/model/Operator"), (.object "com/example/triplewell/triplewell/model/Operator"), (.object "com/example/triplewell/triplewell/model/Operator"), (.object "com/example/triplewell/triplewell/model/Operator"), (.object "com/example/triplewell/triplewell/model/Operator"), (.object "com/example/triplewell/triplewell/model/Operator"), (.object "com/example/triplewell/triplewell/model/Operator"), (.object "com/example/triplewell/triplewell/model/Operator"), (.object "com/example/triplewell/triplewell/model/Operator"), (.object "com/example/triplewell/triplewell/model/Operator"), (.object "com/example/triplewell/triplewell/model/Operator"), (.object "java/util/Map"), (.array (.object "com/example/triplewell/triplewell/model/Operator"))]
  resolved := Array.replicate 439 none
  statics := some 0 }

def pool7 : Array CpInfo := pool [(1, u "java/lang/Cloneable"), (0, .class_ 1), (0, u "java/lang/Object"), (0, .class_ 3)] 3

/-- java/lang/Cloneable -/
def k7 : Class := { plain "java/lang/Cloneable" (some 0) with
  accessFlags := 1537
  interfaces := #[]
  cf := some (fileOf pool7 2 #[] #[] 1537 4 #[] #[])
  fields := #[]
  methods := #[]
  instanceTypes := #[]
  staticTypes := #[]
  resolved := Array.replicate 8 none
  statics := none }

/-- the primitive byte -/
def k8 : Class := { plain "byte" none with kind := .primitive 'B', accessFlags := 0x411 }
/-- [B -/
def k9 : Class := { plain "[B" (some 0) with kind := .array 8 .byte, interfaces := #[7, 4], accessFlags := 1041 }

def heap : Heap := #[{ cls := 6, slots := #[.ref 12, .null, .ref 10, .null, .null, .null, .null, .null, .null, .null, .null, .null, .null, .null, .null, .null, .null, .null, .null, .null, .null, .null, .ref 3, .null, .ref 6, .ref 15, .ref 8, .ref 4, .null, .ref 11, .ref 16, .ref 9, .null, .ref 1, .null, .ref 5, .ref 14, .null, .null, .null, .null, .null, .null, .null, .null, .ref 13, .ref 7, .null, .null, .null, .null, .ref 2, .null, .null, .null, .null, .null, .null, .null, .null, .null, .null, .null, .null, .null, .null, .null, .null], vm := .statics 6 },
  { cls := 6, slots := #[.null, .int 0, .int 0, .null, .int 0, .int 0, .int 0], vm := .none },
  { cls := 6, slots := #[.null, .int 1, .int 0, .null, .int 0, .int 0, .int 0], vm := .none },
  { cls := 6, slots := #[.null, .int 2, .int 0, .null, .int 2, .int 2, .int 0], vm := .none },
  { cls := 6, slots := #[.null, .int 3, .int 0, .null, .int 0, .int 2147483647, .int 0], vm := .none },
  { cls := 6, slots := #[.null, .int 4, .int 0, .null, .int 1, .int 1, .int 0], vm := .none },
  { cls := 6, slots := #[.null, .int 5, .int 0, .null, .int 2, .int 3, .int 0], vm := .none },
  { cls := 6, slots := #[.null, .int 6, .int 0, .null, .int 3, .int 4, .int 0], vm := .none },
  { cls := 6, slots := #[.null, .int 7, .int 0, .null, .int 3, .int 3, .int 0], vm := .none },
  { cls := 6, slots := #[.null, .int 8, .int 0, .null, .int 2, .int 2, .int 0], vm := .none },
  { cls := 6, slots := #[.null, .int 9, .int 0, .null, .int 1, .int 1, .int 0], vm := .none },
  { cls := 6, slots := #[.null, .int 10, .int 0, .null, .int 1, .int 2, .int 0], vm := .none },
  { cls := 6, slots := #[.null, .int 11, .int 0, .null, .int 2, .int 2, .int 0], vm := .none },
  { cls := 6, slots := #[.null, .int 12, .int 0, .null, .int 0, .int 2147483647, .int 0], vm := .none },
  { cls := 6, slots := #[.null, .int 13, .int 0, .null, .int 2, .int 3, .int 0], vm := .none },
  { cls := 6, slots := #[.null, .int 14, .int 0, .null, .int 1, .int 2147483647, .int 0], vm := .none },
  { cls := 6, slots := #[.null, .int 15, .int 0, .null, .int 0, .int 1, .int 0], vm := .none }]
def classes : Array Class := #[k0, k1, k2, k3, k4, k5, k6, k7, k8, k9]
def interned : List (Array UInt16 × Addr) := []
def slotsUsed : Nat := 180
def theMethod : MethodId := ⟨1, 4⟩
def args0 : Array Value := #[.int 5, .int 3]
def aboutOver (below : List Frame) : State where
  vm := { classes := classes, interned := interned.toArray }
  heap := heap
  slotsUsed := slotsUsed
  threads := #[{ frames := .invoking theMethod args0 :: below }]
def below0 : List Frame := [.native { method := ⟨0, 0⟩, args := #[] }]
def about1 : State := aboutOver below0
def p0 : Program := .bare "" "" ""
def e0 : Env := launch0.env 0 0 0
theorem w_frames : about1.frames = Frame.invoking theMethod args0 :: below0 := rfl
set_option maxRecDepth 65536 in
theorem w_args : argsFit about1.vm theMethod args0 = true := by decide +kernel
set_option maxRecDepth 65536 in
theorem w_heap : heapFits about1 = true := by decide +kernel
set_option maxRecDepth 65536 in
theorem w_runnable : about1.curStatus? = some .runnable := by decide +kernel
set_option maxRecDepth 65536 in
theorem w_alone : about1.alone = true := by decide +kernel
set_option maxRecDepth 65536 in
theorem w_named : about1.methodNamed? x = some theMethod := by decide +kernel
set_option maxRecDepth 65536 in
theorem w_hears : about1.hears theMethod below0 = true := by decide +kernel
set_option maxRecDepth 65536 in
theorem w_ripe : about1.ripe theMethod args0 below0 = true := by decide +kernel
theorem w_running : about1.status = .running := rfl
set_option maxRecDepth 65536 in
theorem w_room : about1.hasRoom e0.platform room_1 = true :=
  launch0.hasRoom_least _ room_1 (by decide +kernel) (by decide +kernel) (by decide +kernel) (by decide +kernel) (by decide +kernel) (by decide +kernel)
theorem allAtoms_all (ts : List Jvm.Cond) (a : Array Jvm.Value) (st : Jvm.State) : (allAtoms ts).before a st = ts.all (fun c => c.before a st) := by
  induction ts with
  | nil => rfl
  | cons c t ih =>
    show (Jvm.Cond.and c (allAtoms t)).before a st = _
    rw [Jvm.Cond.before_and, ih, List.all_cons]
def words1 : List Jvm.Cond := Jvm.Cond.code x code maxLocals ret :: tables_1
/-- a 'code' word, met by the world's own term for the bytes: nothing is compared byte by byte -/
theorem code_word {y : MethodName} {bytes : ByteArray} {mx : Nat} {rt : Option FieldType} {a : Array Value} {s : State} {m : MethodId} {meth : Method} {c : Code} (h1 : s.methodNamed? y = some m) (h2 : s.vm.method? m = some meth) (h3 : meth.code = some c) (h4 : c.code = bytes)
    (h5 : (c.maxLocals == mx && c.exceptionTable.isEmpty && decide (c.maxStack ≤ mostOperands) && decide (meth.sig.returnType = rt) && !meth.locks && decide (parseMethodDescriptor y.desc = some meth.sig)) = true) : (Jvm.Cond.code y bytes mx rt).before a s = true := by
  simp only [Bool.and_eq_true, beq_iff_eq, Bool.not_eq_true', decide_eq_true_eq] at h5
  obtain ⟨⟨⟨⟨⟨g1, g2⟩, g3⟩, g4⟩, g5⟩, g6⟩ := h5
  simp [Cond.before, Cond.holds, Cond.value, h1, h2, h3, h4, g1, g2, g3, g4, g5, g6]
def isCode : Jvm.Cond → Bool
  | .code _ _ _ _ => true
  | _ => false
theorem all_split {L : List Jvm.Cond} {P : Jvm.Cond → Bool} (h1 : L.all (fun c => isCode c || P c) = true) (h2 : ∀ c ∈ L.filter isCode, P c = true) : L.all P = true := by
  refine List.all_eq_true.mpr fun c hc => ?_
  have h := List.all_eq_true.mp h1 c hc
  rcases Bool.eq_false_or_eq_true (isCode c) with hi | hi
  · exact h2 c (List.mem_filter.mpr ⟨hc, hi⟩)
  · simpa [hi] using h
set_option maxRecDepth 65536 in
theorem w_c0 : (Jvm.Cond.code x code maxLocals ret).before args0 about1 = true := code_word (m := ⟨1, 4⟩) (meth := k1m4) (c := k1c4) (by decide +kernel) rfl rfl rfl (by decide +kernel)
set_option maxRecDepth 65536 in
theorem w_c1 : (Jvm.Cond.code ({ cls := "com/example/triplewell/triplewell/model/OperatorTakesPinLaw", name := "op", desc := "(I)Lcom/example/triplewell/triplewell/model/Operator;" } : Jvm.MethodName) method_2_code (1 : Nat) (Option.some (Jvm.ClassFile.FieldType.object "com/example/triplewell/triplewell/model/Operator"))).before args0 about1 = true := code_word (m := ⟨1, 1⟩) (meth := k1m1) (c := k1c1) (by decide +kernel) rfl rfl rfl (by decide +kernel)
set_option maxRecDepth 65536 in
theorem w_c2 : (Jvm.Cond.code ({ cls := "com/example/triplewell/triplewell/model/OperatorTakesPinLaw", name := "lo", desc := "(I)I" } : Jvm.MethodName) method_3_code (1 : Nat) (Option.some Jvm.ClassFile.FieldType.int)).before args0 about1 = true := code_word (m := ⟨1, 2⟩) (meth := k1m2) (c := k1c2) (by decide +kernel) rfl rfl rfl (by decide +kernel)
set_option maxRecDepth 65536 in
theorem w_c3 : (Jvm.Cond.code ({ cls := "com/example/triplewell/triplewell/model/OperatorTakesPinLaw", name := "hi", desc := "(I)I" } : Jvm.MethodName) method_4_code (1 : Nat) (Option.some Jvm.ClassFile.FieldType.int)).before args0 about1 = true := code_word (m := ⟨1, 3⟩) (meth := k1m3) (c := k1c3) (by decide +kernel) rfl rfl rfl (by decide +kernel)
set_option maxRecDepth 65536 in
theorem w_c4 : (Jvm.Cond.code ({ cls := "com/example/triplewell/triplewell/model/Operator", name := "takes", desc := "(I)Z" } : Jvm.MethodName) prog_134_method_7_code (2 : Nat) (Option.some Jvm.ClassFile.FieldType.boolean)).before args0 about1 = true := code_word (m := ⟨6, 0⟩) (meth := k6m0) (c := k6c0) (by decide +kernel) rfl rfl rfl (by decide +kernel)
def codes1 : List Jvm.Cond := [Jvm.Cond.code x code maxLocals ret, Jvm.Cond.code ({ cls := "com/example/triplewell/triplewell/model/OperatorTakesPinLaw", name := "op", desc := "(I)Lcom/example/triplewell/triplewell/model/Operator;" } : Jvm.MethodName) method_2_code (1 : Nat) (Option.some (Jvm.ClassFile.FieldType.object "com/example/triplewell/triplewell/model/Operator")), Jvm.Cond.code ({ cls := "com/example/triplewell/triplewell/model/OperatorTakesPinLaw", name := "lo", desc := "(I)I" } : Jvm.MethodName) method_3_code (1 : Nat) (Option.some Jvm.ClassFile.FieldType.int), Jvm.Cond.code ({ cls := "com/example/triplewell/triplewell/model/OperatorTakesPinLaw", name := "hi", desc := "(I)I" } : Jvm.MethodName) method_4_code (1 : Nat) (Option.some Jvm.ClassFile.FieldType.int), Jvm.Cond.code ({ cls := "com/example/triplewell/triplewell/model/Operator", name := "takes", desc := "(I)Z" } : Jvm.MethodName) prog_134_method_7_code (2 : Nat) (Option.some Jvm.ClassFile.FieldType.boolean)]
set_option maxRecDepth 65536 in
theorem codes_eq : words1.filter isCode = codes1 := rfl
theorem w_codes : ∀ c ∈ words1.filter isCode, c.before args0 about1 = true := by
  rw [codes_eq]
  intro c hc
  simp only [codes1, List.mem_cons, List.not_mem_nil, or_false] at hc
  rcases hc with rfl | rfl | rfl | rfl | rfl
  · exact w_c0
  · exact w_c1
  · exact w_c2
  · exact w_c3
  · exact w_c4
set_option maxRecDepth 65536 in
theorem w_t1 : (words1.take 24).all (fun c => isCode c || c.before args0 about1) = true := by decide +kernel
set_option maxRecDepth 65536 in
theorem w_t2 : ((words1.drop 24).take 24).all (fun c => isCode c || c.before args0 about1) = true := by decide +kernel
set_option maxRecDepth 65536 in
theorem w_t3 : ((words1.drop 24).drop 24).all (fun c => isCode c || c.before args0 about1) = true := by decide +kernel
theorem w_tables : (allAtoms (Jvm.Cond.code x code maxLocals ret :: tables_1)).before args0 about1 = true := by
  rw [allAtoms_all]
  show words1.all (fun c => c.before args0 about1) = true
  refine all_split ?_ w_codes
  rw [← List.take_append_drop 24 words1, List.all_append, w_t1, ← List.take_append_drop 24 (words1.drop 24), List.all_append, w_t2, w_t3]
  rfl
set_option maxRecDepth 65536 in
theorem w_case : (Jvm.Cond.and given_1 narrow_1).before args0 about1 = true := by decide +kernel
theorem w_applies : (headSpec (Jvm.Cond.code x code maxLocals ret :: tables_1) room_1).applies x e0.platform about1 = true :=
  (Spec.applies_iff w_frames).mpr ⟨w_running, w_runnable, w_alone, w_named, w_hears, w_ripe, w_room, w_tables⟩
theorem atStart : AtStart classFile x code maxLocals ret World_1 tables_1 room_1 Calls_1 rest_1 Pre_1 launch0 p0 e0 about1 theMethod args0 below0 :=
  ⟨lists_1, trivial, launch0.admits_env _ _ _, launch0.least_env, fairChoices_fair.cas, fairChoices_fair.clock, w_frames, w_args, w_heap, w_applies, trivial, trivial, w_case⟩
end start1
theorem witness_1 : WitnessClaimed_1 := ⟨start1.p0, start1.e0, start1.about1, start1.theMethod, start1.args0, start1.below0, start1.atStart⟩
end Jvm.Pilot.@@N@@
