import JvmDerived
import JvmDerived.Pilot.@@N@@Statement
import JvmDerived.Pilot.@@N@@Code
set_option linter.unusedVariables false
set_option linter.unusedSimpArgs false
@@BLOCK:NumsL.lean.txt@@
namespace Jvm.RoadKit
open Sem ClassFile Op Lib Jvm.Stand Jvm.Free Jvm.LawKit
section New
variable {p : Program} {l : Launch} {e : Env} {R : Room} {s : State} {m : MethodId} {args : Array Value} {below : List Frame} {meth : Method} {c : Code} {T : State} {locs : List Loc} {cells slots : Nat}
theorem retI (X : Stand p l e R s m args below meth c T locs cells slots) (hx : p.tables.exec = Jvm.exec) {pc : Nat} {Ls : Array Slot} {z : Int32} {rest : List Value} (hret : meth.sig.returnType = some .int) (hd : decode c.code pc = .ok (.ireturn, 1)) {fs : List Frame}
    (hl : ∀ (f : JFrame) (acts : List Action), f.method = m → f.locked = none → f.entered = [] → (doReturn e (T.setTop f) acts (some (.int z))).1 = T.setFrames fs) : Steps p.tables e below (T.setTop (mkF m pc Ls (.int z :: rest))) (T.setFrames fs) := by
  have hm' : T.vm.method? m = some meth := X.method'
  have hn : narrow .int (.int z) = .int z := rfl
  show Steps p.tables e below (T.setTop { method := m, pc := pc, locals := Ls, stack := _ :: rest, locked := none }) _
  jvm_step X.here [X.here.top, hx, hd, hm', hret, hn]
  first | (intro acts; rw [hl _ acts rfl rfl rfl]) | rw [hl _ _ rfl rfl rfl]
  exact Steps.refl _
/-- from here the run ends and leaves what Q says -/
def Go (p : Program) (e : Env) (below : List Frame) (s : State) (Q : Option Value → Heap → List Loc → Prop) (C N : Nat) (S : State) : Prop :=
  ∃ s₂ o, Steps p.tables e below S s₂ ∧ s₂.status = .running ∧ Ended s₂ below o ∧ ∃ v L, o = .returned v ∧ Q v s₂.heap L ∧ FrameEnd s o s₂ L C N
variable {Q : Option Value → Heap → List Loc → Prop} {C N : Nat}
theorem Go.step {S S' : State} (k : ∀ t, Steps p.tables e below S' t → Steps p.tables e below S t) (g : Go p e below s Q C N S') : Go p e below s Q C N S := by
  obtain ⟨s2, o, h1, h2⟩ := g
  exact ⟨s2, o, k _ h1, h2⟩
theorem Go.retN (X : Stand p l e R s m args below meth c T locs cells slots) (hx : p.tables.exec = Jvm.exec) {pc : Nat} {Ls : Array Slot} {z : Int32} {t : FieldType} {rest : List Value} (hret : meth.sig.returnType = some t) (ht : t = .boolean ∨ t = .byte ∨ t = .char ∨ t = .short) (hlk : meth.locks = false) (hd : decode c.code pc = .ok (.ireturn, 1))
    (hq : Q (some (.int (nar t z))) T.heap locs) (hc : cells ≤ C) (hs : slots ≤ N) : Go p e below s Q C N (T.setTop (mkF m pc Ls (.int z :: rest))) := by
  obtain ⟨fs, hr, hrun, hended, hW, hsame⟩ := X.leave (v := some (.int (nar t z))) (fun h => by rw [hret] at h; cases h) hlk
  exact ⟨_, _, Jvm.RoadKit.retN X hx (t := t) hret ht hd hr, hrun, hended, _, _, rfl, hq, ⟨_, rfl⟩, hW, hsame.mono hc hs⟩
theorem Go.retI (X : Stand p l e R s m args below meth c T locs cells slots) (hx : p.tables.exec = Jvm.exec) {pc : Nat} {Ls : Array Slot} {z : Int32} {rest : List Value} (hret : meth.sig.returnType = some .int) (hlk : meth.locks = false) (hd : decode c.code pc = .ok (.ireturn, 1))
    (hq : Q (some (.int z)) T.heap locs) (hc : cells ≤ C) (hs : slots ≤ N) : Go p e below s Q C N (T.setTop (mkF m pc Ls (.int z :: rest))) := by
  obtain ⟨fs, hr, hrun, hended, hW, hsame⟩ := X.leave (v := some (.int z)) (fun h => by rw [hret] at h; cases h) hlk
  exact ⟨_, _, Jvm.RoadKit.retI X hx hret hd hr, hrun, hended, _, _, rfl, hq, ⟨_, rfl⟩, hW, hsame.mono hc hs⟩
theorem Go.retA (X : Stand p l e R s m args below meth c T locs cells slots) (hx : p.tables.exec = Jvm.exec) {pc : Nat} {Ls : Array Slot} {v : Value} {rest : List Value} {t : FieldType} (hret : meth.sig.returnType = some t) (ht : t.isReference = true) (hv : v.isRef = true) (hlk : meth.locks = false) (hd : decode c.code pc = .ok (.areturn, 1))
    (hq : Q (some v) T.heap locs) (hc : cells ≤ C) (hs : slots ≤ N) : Go p e below s Q C N (T.setTop (mkF m pc Ls (v :: rest))) := by
  obtain ⟨fs, hr, hrun, hended, hW, hsame⟩ := X.leave (v := some v) (fun h => by rw [hret] at h; cases h) hlk
  refine ⟨_, _, ?_, hrun, hended, _, _, rfl, hq, ⟨_, rfl⟩, hW, hsame.mono hc hs⟩
  have hm' : T.vm.method? m = some meth := X.method'
  show Steps p.tables e below (T.setTop { method := m, pc := pc, locals := Ls, stack := v :: rest, locked := none }) _
  jvm_step X.here [X.here.top, hx, hd, hm', hret, hv, ht]
  first | (intro acts; rw [hr _ acts rfl rfl rfl]) | rw [hr _ _ rfl rfl rfl]
  exact Steps.refl _
theorem own_ne {x k : Int32} {z : Int} (hz : k.toInt = z) (h : ¬ x = k) : x.toInt ≠ z := fun q => h (Int32.toInt_inj.mp (q.trans hz.symm))
end New
end Jvm.RoadKit
namespace Jvm.Pilot.@@N@@
open Jvm Jvm.ClassFile Sem Op Lib Jvm.Free Jvm.Stand Jvm.LawKit Jvm.RoadKit Bundle Jvm.Pilot.@@N@@.Jvm.D
theorem d1_0 : decode method_3_code 0 = .ok (.iload_n 0, 1) := by decide +kernel
theorem d1_1 : decode method_3_code 1 = .ok (.iload_n 1, 1) := by decide +kernel
theorem d1_2 : decode method_3_code 2 = .ok (.if_icmp .lt 14, 3) := by decide +kernel
theorem d1_5 : decode method_3_code 5 = .ok (.iload_n 0, 1) := by decide +kernel
theorem d1_6 : decode method_3_code 6 = .ok (.iload_n 1, 1) := by decide +kernel
theorem d1_7 : decode method_3_code 7 = .ok (.iload_n 2, 1) := by decide +kernel
theorem d1_8 : decode method_3_code 8 = .ok (.iadd, 1) := by decide +kernel
theorem d1_9 : decode method_3_code 9 = .ok (.if_icmp .ge 7, 3) := by decide +kernel
theorem d1_12 : decode method_3_code 12 = .ok (.iconst 1, 1) := by decide +kernel
theorem d1_13 : decode method_3_code 13 = .ok (.goto 4, 3) := by decide +kernel
theorem d1_16 : decode method_3_code 16 = .ok (.iconst 0, 1) := by decide +kernel
theorem d1_17 : decode method_3_code 17 = .ok (.ireturn, 1) := by decide +kernel
theorem pn0 : plainName "com/example/hearthwire/hearthwire/frame/Crc16ComputePinLaw" = true := by first | (simp [plainName, overriddenIn]; done) | decide +kernel
theorem pd0 : parseMethodDescriptor "(III)Z" = some ⟨[.int, .int, .int], some .boolean⟩ := by decide +kernel
theorem ef1 (m : MethodId) (x0 : Int32) (x1 : Int32) (x2 : Int32) : entryFrame m #[(.int x0), (.int x1), (.int x2)] 3 = mkF m 0 #[.val (.int x0), .val (.int x1), .val (.int x2)] [] := by first | (simp [entryFrame, mkF, argsToLocals, Value.category]; done) | rfl
def f1 (x0 : Int32) (x1 : Int32) (x2 : Int32) : Int32 := (if x0 < x1 then (0 : Int32) else (if x0 < (x1 + x2) then (1 : Int32) else (0 : Int32)))
def Q1 (x0 : Int32) (x1 : Int32) (x2 : Int32) (h0 : Heap) (n0 : Nat) (v : Option Value) (h : Heap) (L : List Loc) : Prop := v = some (.int (f1 x0 x1 x2)) ∧ Fr n0 L ∧ h = h0
set_option maxRecDepth 65536 in
set_option maxHeartbeats 40000000 in
theorem rm1 (l : Launch) (Z : State) (a0 : Array Value) (hw : ∀ d ∈ tables_1, d.before a0 Z = true) (ws : List Jvm.Cond) (x0 : Int32) (x1 : Int32) (x2 : Int32) (h0 : Heap) (n0 : Nat) (Z0 : n0 ≤ h0.size) :
    MetFree l (⟨"com/example/hearthwire/hearthwire/frame/Crc16ComputePinLaw", "in", "(III)Z"⟩ : MethodName) (head1 (Jvm.Cond.code (⟨"com/example/hearthwire/hearthwire/frame/Crc16ComputePinLaw", "in", "(III)Z"⟩ : MethodName) method_3_code 3 (some .boolean) :: ws) ({ frames := 0, cells := 0, slots := 0, locals := 0 } : Room)) (fun a U => a = #[(.int x0), (.int x1), (.int x2)] ∧ Z.Warmed39 U.vm ∧ U.heap = h0) (fun _ _ _ _ _ => True) (fun _ U o U' => ∃ v L, o = .returned v ∧ Q1 x0 x1 x2 h0 n0 v U'.heap L ∧ FrameEnd U o U' L ({ frames := 0, cells := 0, slots := 0, locals := 0 } : Room).cells ({ frames := 0, cells := 0, slots := 0, locals := 0 } : Room).slots) := by
  refine MetFree.of_bodySF (plainFor_of_name pn0) hisR ?_
  intro p e s m args below meth c s₁ Bd hml0 hP hK
  obtain ⟨rfl, hZ, hh⟩ := hP
  have hx := Bd.exec
  have hby := Bd.bytes
  have hml : c.maxLocals = 3 := hml0
  have hown : s.vm.findClass "com/example/hearthwire/hearthwire/frame/Crc16ComputePinLaw" = some m.cls := findClass_of_methodNamed Bd.named
  have X0 : Stand p l e ({ frames := 0, cells := 0, slots := 0, locals := 0 } : Room) s m #[(.int x0), (.int x1), (.int x2)] below meth c s₁ [] 0 0 := Stand.of_body Bd
  have e0 : s₁.heap = h0 := by rw [← hh, Bd.state]; rfl
  obtain ⟨r, hr0⟩ : ∃ r, f1 x0 x1 x2 = r := ⟨_, rfl⟩
  have B0 : ∀  (T : State) (locs : List Loc) (X : Stand p l e ({ frames := 0, cells := 0, slots := 0, locals := 0 } : Room) s m #[(.int x0), (.int x1), (.int x2)] below meth c T locs 0 0) (eT : T.heap = h0) (NF : Fr n0 locs) (hr : f1 x0 x1 x2 = r), Go p e below s (Q1 x0 x1 x2 h0 n0) ({ frames := 0, cells := 0, slots := 0, locals := 0 } : Room).cells ({ frames := 0, cells := 0, slots := 0, locals := 0 } : Room).slots (T.setTop (mkF m 0 #[.val (.int x0), .val (.int x1), .val (.int x2)] [])) := by
    intro  T locs X eT NF hr
    unfold f1 at hr
    refine Go.step (S' := T.setTop (mkF m 1 #[.val (.int x0), .val (.int x1), .val (.int x2)] [(.int x0)])) (fun t k => XS.iloadN X.here hx rfl (hb hby d1_0) rfl k) ?_
    refine Go.step (S' := T.setTop (mkF m 2 #[.val (.int x0), .val (.int x1), .val (.int x2)] [(.int x1), (.int x0)])) (fun t k => XS.iloadN X.here hx rfl (hb hby d1_1) rfl k) ?_
    by_cases hc1 : x0 < x1
    · rw [if_pos hc1] at hr
      refine Go.step (S' := T.setTop (mkF m 16 #[.val (.int x0), .val (.int x1), .val (.int x2)] [])) (fun t k => XS.icmpYes X.here hx rfl (pc0 := 2) (pc' := 16) rfl (hb hby d1_2) rfl (tlt hc1).1 (by decide) (by decide) k) ?_
      refine Go.step (S' := T.setTop (mkF m 17 #[.val (.int x0), .val (.int x1), .val (.int x2)] [(.int (0 : Int32))])) (fun t k => XS.iconst X.here hx rfl (hb hby d1_16) k) ?_
      exact Go.retN X hx (t := .boolean) Bd.returns (by simp) Bd.notSynchronized (hb hby d1_17) ⟨by rw [hr0, ← hr]; first | done | rfl, NF, eT⟩ (by decide) (by decide)
    · rw [if_neg hc1] at hr
      refine Go.step (S' := T.setTop (mkF m 5 #[.val (.int x0), .val (.int x1), .val (.int x2)] [])) (fun t k => XS.icmpNo X.here hx rfl (hb hby d1_2) rfl (flt hc1).1 k) ?_
      refine Go.step (S' := T.setTop (mkF m 6 #[.val (.int x0), .val (.int x1), .val (.int x2)] [(.int x0)])) (fun t k => XS.iloadN X.here hx rfl (hb hby d1_5) rfl k) ?_
      refine Go.step (S' := T.setTop (mkF m 7 #[.val (.int x0), .val (.int x1), .val (.int x2)] [(.int x1), (.int x0)])) (fun t k => XS.iloadN X.here hx rfl (hb hby d1_6) rfl k) ?_
      refine Go.step (S' := T.setTop (mkF m 8 #[.val (.int x0), .val (.int x1), .val (.int x2)] [(.int x2), (.int x1), (.int x0)])) (fun t k => XS.iloadN X.here hx rfl (hb hby d1_7) rfl k) ?_
      refine Go.step (S' := T.setTop (mkF m 9 #[.val (.int x0), .val (.int x1), .val (.int x2)] [(.int (x1 + x2)), (.int x0)])) (fun t k => XS.iadd X.here hx rfl (hb hby d1_8) rfl k) ?_
      by_cases hc2 : x0 < (x1 + x2)
      · rw [if_pos hc2] at hr
        refine Go.step (S' := T.setTop (mkF m 12 #[.val (.int x0), .val (.int x1), .val (.int x2)] [])) (fun t k => XS.icmpNo X.here hx rfl (hb hby d1_9) rfl (tlt hc2).2.1 k) ?_
        refine Go.step (S' := T.setTop (mkF m 13 #[.val (.int x0), .val (.int x1), .val (.int x2)] [(.int (1 : Int32))])) (fun t k => XS.iconst X.here hx rfl (hb hby d1_12) k) ?_
        refine Go.step (S' := T.setTop (mkF m 17 #[.val (.int x0), .val (.int x1), .val (.int x2)] [(.int (1 : Int32))])) (fun t k => XS.goto X.here hx rfl (pc0 := 13) (pc' := 17) rfl (hb hby d1_13) (by decide) (by decide) k) ?_
        exact Go.retN X hx (t := .boolean) Bd.returns (by simp) Bd.notSynchronized (hb hby d1_17) ⟨by rw [hr0, ← hr]; first | done | rfl, NF, eT⟩ (by decide) (by decide)
      · rw [if_neg hc2] at hr
        refine Go.step (S' := T.setTop (mkF m 16 #[.val (.int x0), .val (.int x1), .val (.int x2)] [])) (fun t k => XS.icmpYes X.here hx rfl (pc0 := 9) (pc' := 16) rfl (hb hby d1_9) rfl (flt hc2).2.1 (by decide) (by decide) k) ?_
        refine Go.step (S' := T.setTop (mkF m 17 #[.val (.int x0), .val (.int x1), .val (.int x2)] [(.int (0 : Int32))])) (fun t k => XS.iconst X.here hx rfl (hb hby d1_16) k) ?_
        exact Go.retN X hx (t := .boolean) Bd.returns (by simp) Bd.notSynchronized (hb hby d1_17) ⟨by rw [hr0, ← hr]; first | done | rfl, NF, eT⟩ (by decide) (by decide)
  show Go p e below s (Q1 x0 x1 x2 h0 n0) ({ frames := 0, cells := 0, slots := 0, locals := 0 } : Room).cells ({ frames := 0, cells := 0, slots := 0, locals := 0 } : Room).slots (s₁.setTop (entryFrame m #[(.int x0), (.int x1), (.int x2)] 3))
  rw [ef1]
  exact B0 s₁ [] X0 e0 (Fr.nil n0) hr0
theorem d2_0 : decode method_2_code 0 = .ok (.iload_n 2, 1) := by decide +kernel
theorem d2_1 : decode method_2_code 1 = .ok (.ifCond .ne 5, 3) := by decide +kernel
theorem d2_4 : decode method_2_code 4 = .ok (.iload_n 0, 1) := by decide +kernel
theorem d2_5 : decode method_2_code 5 = .ok (.ireturn, 1) := by decide +kernel
theorem d2_6 : decode method_2_code 6 = .ok (.iload_n 0, 1) := by decide +kernel
theorem d2_7 : decode method_2_code 7 = .ok (.bipush 8, 2) := by decide +kernel
theorem d2_9 : decode method_2_code 9 = .ok (.iushr, 1) := by decide +kernel
theorem d2_10 : decode method_2_code 10 = .ok (.iload_n 1, 1) := by decide +kernel
theorem d2_11 : decode method_2_code 11 = .ok (.sipush 255, 3) := by decide +kernel
theorem d2_14 : decode method_2_code 14 = .ok (.iand, 1) := by decide +kernel
theorem d2_15 : decode method_2_code 15 = .ok (.ixor, 1) := by decide +kernel
theorem d2_16 : decode method_2_code 16 = .ok (.sipush 255, 3) := by decide +kernel
theorem d2_19 : decode method_2_code 19 = .ok (.iand, 1) := by decide +kernel
theorem d2_20 : decode method_2_code 20 = .ok (.istore_n 3, 1) := by decide +kernel
theorem d2_21 : decode method_2_code 21 = .ok (.iload_n 3, 1) := by decide +kernel
theorem d2_22 : decode method_2_code 22 = .ok (.iload_n 3, 1) := by decide +kernel
theorem d2_23 : decode method_2_code 23 = .ok (.iconst 4, 1) := by decide +kernel
theorem d2_24 : decode method_2_code 24 = .ok (.iushr, 1) := by decide +kernel
theorem d2_25 : decode method_2_code 25 = .ok (.ixor, 1) := by decide +kernel
theorem d2_26 : decode method_2_code 26 = .ok (.istore_n 3, 1) := by decide +kernel
theorem d2_27 : decode method_2_code 27 = .ok (.iload_n 0, 1) := by decide +kernel
theorem d2_28 : decode method_2_code 28 = .ok (.bipush 8, 2) := by decide +kernel
theorem d2_30 : decode method_2_code 30 = .ok (.ishl, 1) := by decide +kernel
theorem d2_31 : decode method_2_code 31 = .ok (.iload_n 3, 1) := by decide +kernel
theorem d2_32 : decode method_2_code 32 = .ok (.bipush 12, 2) := by decide +kernel
theorem d2_34 : decode method_2_code 34 = .ok (.ishl, 1) := by decide +kernel
theorem d2_35 : decode method_2_code 35 = .ok (.ixor, 1) := by decide +kernel
theorem d2_36 : decode method_2_code 36 = .ok (.iload_n 3, 1) := by decide +kernel
theorem d2_37 : decode method_2_code 37 = .ok (.iconst 5, 1) := by decide +kernel
theorem d2_38 : decode method_2_code 38 = .ok (.ishl, 1) := by decide +kernel
theorem d2_39 : decode method_2_code 39 = .ok (.ixor, 1) := by decide +kernel
theorem d2_40 : decode method_2_code 40 = .ok (.iload_n 3, 1) := by decide +kernel
theorem d2_41 : decode method_2_code 41 = .ok (.ixor, 1) := by decide +kernel
theorem d2_42 : decode method_2_code 42 = .ok (.ldc 7, 2) := by decide +kernel
theorem d2_44 : decode method_2_code 44 = .ok (.iand, 1) := by decide +kernel
theorem d2_45 : decode method_2_code 45 = .ok (.ireturn, 1) := by decide +kernel
theorem pd1 : parseMethodDescriptor "(IBZ)I" = some ⟨[.int, .byte, .boolean], some .int⟩ := by decide +kernel
theorem ef2 (m : MethodId) (x0 : Int32) (x1 : Int32) (x2 : Int32) : entryFrame m #[(.int x0), (.int x1), (.int x2)] 4 = mkF m 0 #[.val (.int x0), .val (.int x1), .val (.int x2), .unset] [] := by first | (simp [entryFrame, mkF, argsToLocals, Value.category]; done) | rfl
def f2 (x0 : Int32) (x1 : Int32) (x2 : Int32) : Int32 := (if x2 = (0 : Int32) then x0 else (((((x0 <<< ((8 : Int32) &&& 31)) ^^^ ((((((x0.toUInt32 >>> ((8 : Int32) &&& 31).toUInt32).toInt32) ^^^ (x1 &&& (255 : Int32))) &&& (255 : Int32)) ^^^ ((((((x0.toUInt32 >>> ((8 : Int32) &&& 31).toUInt32).toInt32) ^^^ (x1 &&& (255 : Int32))) &&& (255 : Int32)).toUInt32 >>> ((4 : Int32) &&& 31).toUInt32).toInt32)) <<< ((12 : Int32) &&& 31))) ^^^ ((((((x0.toUInt32 >>> ((8 : Int32) &&& 31).toUInt32).toInt32) ^^^ (x1 &&& (255 : Int32))) &&& (255 : Int32)) ^^^ ((((((x0.toUInt32 >>> ((8 : Int32) &&& 31).toUInt32).toInt32) ^^^ (x1 &&& (255 : Int32))) &&& (255 : Int32)).toUInt32 >>> ((4 : Int32) &&& 31).toUInt32).toInt32)) <<< ((5 : Int32) &&& 31))) ^^^ (((((x0.toUInt32 >>> ((8 : Int32) &&& 31).toUInt32).toInt32) ^^^ (x1 &&& (255 : Int32))) &&& (255 : Int32)) ^^^ ((((((x0.toUInt32 >>> ((8 : Int32) &&& 31).toUInt32).toInt32) ^^^ (x1 &&& (255 : Int32))) &&& (255 : Int32)).toUInt32 >>> ((4 : Int32) &&& 31).toUInt32).toInt32))) &&& (65535 : Int32)))
def Q2 (x0 : Int32) (x1 : Int32) (x2 : Int32) (h0 : Heap) (n0 : Nat) (v : Option Value) (h : Heap) (L : List Loc) : Prop := v = some (.int (f2 x0 x1 x2)) ∧ Fr n0 L ∧ h = h0
set_option maxRecDepth 65536 in
set_option maxHeartbeats 40000000 in
theorem rm2 (l : Launch) (Z : State) (a0 : Array Value) (hw : ∀ d ∈ tables_1, d.before a0 Z = true) (ws : List Jvm.Cond) (x0 : Int32) (x1 : Int32) (x2 : Int32) (h0 : Heap) (n0 : Nat) (Z0 : n0 ≤ h0.size) :
    MetFree l (⟨"com/example/hearthwire/hearthwire/frame/Crc16ComputePinLaw", "step", "(IBZ)I"⟩ : MethodName) (head1 (Jvm.Cond.code (⟨"com/example/hearthwire/hearthwire/frame/Crc16ComputePinLaw", "step", "(IBZ)I"⟩ : MethodName) method_2_code 4 (some .int) :: ws) ({ frames := 0, cells := 0, slots := 0, locals := 0 } : Room)) (fun a U => a = #[(.int x0), (.int x1), (.int x2)] ∧ Z.Warmed39 U.vm ∧ U.heap = h0) (fun _ _ _ _ _ => True) (fun _ U o U' => ∃ v L, o = .returned v ∧ Q2 x0 x1 x2 h0 n0 v U'.heap L ∧ FrameEnd U o U' L ({ frames := 0, cells := 0, slots := 0, locals := 0 } : Room).cells ({ frames := 0, cells := 0, slots := 0, locals := 0 } : Room).slots) := by
  refine MetFree.of_bodySF (plainFor_of_name pn0) hisR ?_
  intro p e s m args below meth c s₁ Bd hml0 hP hK
  obtain ⟨rfl, hZ, hh⟩ := hP
  have hx := Bd.exec
  have hby := Bd.bytes
  have hml : c.maxLocals = 4 := hml0
  have hown : s.vm.findClass "com/example/hearthwire/hearthwire/frame/Crc16ComputePinLaw" = some m.cls := findClass_of_methodNamed Bd.named
  have X0 : Stand p l e ({ frames := 0, cells := 0, slots := 0, locals := 0 } : Room) s m #[(.int x0), (.int x1), (.int x2)] below meth c s₁ [] 0 0 := Stand.of_body Bd
  have e0 : s₁.heap = h0 := by rw [← hh, Bd.state]; rfl
  obtain ⟨r, hr0⟩ : ∃ r, f2 x0 x1 x2 = r := ⟨_, rfl⟩
  have B0 : ∀  (T : State) (locs : List Loc) (X : Stand p l e ({ frames := 0, cells := 0, slots := 0, locals := 0 } : Room) s m #[(.int x0), (.int x1), (.int x2)] below meth c T locs 0 0) (eT : T.heap = h0) (NF : Fr n0 locs) (hr : f2 x0 x1 x2 = r), Go p e below s (Q2 x0 x1 x2 h0 n0) ({ frames := 0, cells := 0, slots := 0, locals := 0 } : Room).cells ({ frames := 0, cells := 0, slots := 0, locals := 0 } : Room).slots (T.setTop (mkF m 0 #[.val (.int x0), .val (.int x1), .val (.int x2), .unset] [])) := by
    intro  T locs X eT NF hr
    unfold f2 at hr
    refine Go.step (S' := T.setTop (mkF m 1 #[.val (.int x0), .val (.int x1), .val (.int x2), .unset] [(.int x2)])) (fun t k => XS.iloadN X.here hx rfl (hb hby d2_0) rfl k) ?_
    by_cases hc1 : x2 = (0 : Int32)
    · rw [if_pos hc1] at hr
      refine Go.step (S' := T.setTop (mkF m 4 #[.val (.int x0), .val (.int x1), .val (.int x2), .unset] [])) (fun t k => XS.ifNo X.here hx rfl (hb hby d2_1) rfl ((if0 _ _).trans (teq hc1).2) k) ?_
      refine Go.step (S' := T.setTop (mkF m 5 #[.val (.int x0), .val (.int x1), .val (.int x2), .unset] [(.int x0)])) (fun t k => XS.iloadN X.here hx rfl (hb hby d2_4) rfl k) ?_
      exact Go.retI X hx Bd.returns Bd.notSynchronized (hb hby d2_5) ⟨by rw [hr0, ← hr]; first | done | rfl, NF, eT⟩ (by decide) (by decide)
    · rw [if_neg hc1] at hr
      refine Go.step (S' := T.setTop (mkF m 6 #[.val (.int x0), .val (.int x1), .val (.int x2), .unset] [])) (fun t k => XS.ifYes X.here hx rfl (pc0 := 1) (pc' := 6) rfl (hb hby d2_1) rfl ((if0 _ _).trans (feq hc1).2) (by decide) (by decide) k) ?_
      refine Go.step (S' := T.setTop (mkF m 7 #[.val (.int x0), .val (.int x1), .val (.int x2), .unset] [(.int x0)])) (fun t k => XS.iloadN X.here hx rfl (hb hby d2_6) rfl k) ?_
      refine Go.step (S' := T.setTop (mkF m 9 #[.val (.int x0), .val (.int x1), .val (.int x2), .unset] [(.int (8 : Int32)), (.int x0)])) (fun t k => XS.bipush X.here hx rfl (hb hby d2_7) k) ?_
      refine Go.step (S' := T.setTop (mkF m 10 #[.val (.int x0), .val (.int x1), .val (.int x2), .unset] [(.int ((x0.toUInt32 >>> ((8 : Int32) &&& 31).toUInt32).toInt32))])) (fun t k => XS.iushr X.here hx rfl (hb hby d2_9) rfl k) ?_
      refine Go.step (S' := T.setTop (mkF m 11 #[.val (.int x0), .val (.int x1), .val (.int x2), .unset] [(.int x1), (.int ((x0.toUInt32 >>> ((8 : Int32) &&& 31).toUInt32).toInt32))])) (fun t k => XS.iloadN X.here hx rfl (hb hby d2_10) rfl k) ?_
      refine Go.step (S' := T.setTop (mkF m 14 #[.val (.int x0), .val (.int x1), .val (.int x2), .unset] [(.int (255 : Int32)), (.int x1), (.int ((x0.toUInt32 >>> ((8 : Int32) &&& 31).toUInt32).toInt32))])) (fun t k => XS.sipush X.here hx rfl (hb hby d2_11) k) ?_
      refine Go.step (S' := T.setTop (mkF m 15 #[.val (.int x0), .val (.int x1), .val (.int x2), .unset] [(.int (x1 &&& (255 : Int32))), (.int ((x0.toUInt32 >>> ((8 : Int32) &&& 31).toUInt32).toInt32))])) (fun t k => XS.iand X.here hx rfl (hb hby d2_14) rfl k) ?_
      refine Go.step (S' := T.setTop (mkF m 16 #[.val (.int x0), .val (.int x1), .val (.int x2), .unset] [(.int (((x0.toUInt32 >>> ((8 : Int32) &&& 31).toUInt32).toInt32) ^^^ (x1 &&& (255 : Int32))))])) (fun t k => XS.ixor X.here hx rfl (hb hby d2_15) rfl k) ?_
      refine Go.step (S' := T.setTop (mkF m 19 #[.val (.int x0), .val (.int x1), .val (.int x2), .unset] [(.int (255 : Int32)), (.int (((x0.toUInt32 >>> ((8 : Int32) &&& 31).toUInt32).toInt32) ^^^ (x1 &&& (255 : Int32))))])) (fun t k => XS.sipush X.here hx rfl (hb hby d2_16) k) ?_
      refine Go.step (S' := T.setTop (mkF m 20 #[.val (.int x0), .val (.int x1), .val (.int x2), .unset] [(.int ((((x0.toUInt32 >>> ((8 : Int32) &&& 31).toUInt32).toInt32) ^^^ (x1 &&& (255 : Int32))) &&& (255 : Int32)))])) (fun t k => XS.iand X.here hx rfl (hb hby d2_19) rfl k) ?_
      refine Go.step (S' := T.setTop (mkF m 21 #[.val (.int x0), .val (.int x1), .val (.int x2), .val (.int ((((x0.toUInt32 >>> ((8 : Int32) &&& 31).toUInt32).toInt32) ^^^ (x1 &&& (255 : Int32))) &&& (255 : Int32)))] [])) (fun t k => XS.istoreN X.here hx rfl (hb hby d2_20) rfl (l' := #[.val (.int x0), .val (.int x1), .val (.int x2), .val (.int ((((x0.toUInt32 >>> ((8 : Int32) &&& 31).toUInt32).toInt32) ^^^ (x1 &&& (255 : Int32))) &&& (255 : Int32)))]) rfl k) ?_
      refine Go.step (S' := T.setTop (mkF m 22 #[.val (.int x0), .val (.int x1), .val (.int x2), .val (.int ((((x0.toUInt32 >>> ((8 : Int32) &&& 31).toUInt32).toInt32) ^^^ (x1 &&& (255 : Int32))) &&& (255 : Int32)))] [(.int ((((x0.toUInt32 >>> ((8 : Int32) &&& 31).toUInt32).toInt32) ^^^ (x1 &&& (255 : Int32))) &&& (255 : Int32)))])) (fun t k => XS.iloadN X.here hx rfl (hb hby d2_21) rfl k) ?_
      refine Go.step (S' := T.setTop (mkF m 23 #[.val (.int x0), .val (.int x1), .val (.int x2), .val (.int ((((x0.toUInt32 >>> ((8 : Int32) &&& 31).toUInt32).toInt32) ^^^ (x1 &&& (255 : Int32))) &&& (255 : Int32)))] [(.int ((((x0.toUInt32 >>> ((8 : Int32) &&& 31).toUInt32).toInt32) ^^^ (x1 &&& (255 : Int32))) &&& (255 : Int32))), (.int ((((x0.toUInt32 >>> ((8 : Int32) &&& 31).toUInt32).toInt32) ^^^ (x1 &&& (255 : Int32))) &&& (255 : Int32)))])) (fun t k => XS.iloadN X.here hx rfl (hb hby d2_22) rfl k) ?_
      refine Go.step (S' := T.setTop (mkF m 24 #[.val (.int x0), .val (.int x1), .val (.int x2), .val (.int ((((x0.toUInt32 >>> ((8 : Int32) &&& 31).toUInt32).toInt32) ^^^ (x1 &&& (255 : Int32))) &&& (255 : Int32)))] [(.int (4 : Int32)), (.int ((((x0.toUInt32 >>> ((8 : Int32) &&& 31).toUInt32).toInt32) ^^^ (x1 &&& (255 : Int32))) &&& (255 : Int32))), (.int ((((x0.toUInt32 >>> ((8 : Int32) &&& 31).toUInt32).toInt32) ^^^ (x1 &&& (255 : Int32))) &&& (255 : Int32)))])) (fun t k => XS.iconst X.here hx rfl (hb hby d2_23) k) ?_
      refine Go.step (S' := T.setTop (mkF m 25 #[.val (.int x0), .val (.int x1), .val (.int x2), .val (.int ((((x0.toUInt32 >>> ((8 : Int32) &&& 31).toUInt32).toInt32) ^^^ (x1 &&& (255 : Int32))) &&& (255 : Int32)))] [(.int ((((((x0.toUInt32 >>> ((8 : Int32) &&& 31).toUInt32).toInt32) ^^^ (x1 &&& (255 : Int32))) &&& (255 : Int32)).toUInt32 >>> ((4 : Int32) &&& 31).toUInt32).toInt32)), (.int ((((x0.toUInt32 >>> ((8 : Int32) &&& 31).toUInt32).toInt32) ^^^ (x1 &&& (255 : Int32))) &&& (255 : Int32)))])) (fun t k => XS.iushr X.here hx rfl (hb hby d2_24) rfl k) ?_
      refine Go.step (S' := T.setTop (mkF m 26 #[.val (.int x0), .val (.int x1), .val (.int x2), .val (.int ((((x0.toUInt32 >>> ((8 : Int32) &&& 31).toUInt32).toInt32) ^^^ (x1 &&& (255 : Int32))) &&& (255 : Int32)))] [(.int (((((x0.toUInt32 >>> ((8 : Int32) &&& 31).toUInt32).toInt32) ^^^ (x1 &&& (255 : Int32))) &&& (255 : Int32)) ^^^ ((((((x0.toUInt32 >>> ((8 : Int32) &&& 31).toUInt32).toInt32) ^^^ (x1 &&& (255 : Int32))) &&& (255 : Int32)).toUInt32 >>> ((4 : Int32) &&& 31).toUInt32).toInt32)))])) (fun t k => XS.ixor X.here hx rfl (hb hby d2_25) rfl k) ?_
      refine Go.step (S' := T.setTop (mkF m 27 #[.val (.int x0), .val (.int x1), .val (.int x2), .val (.int (((((x0.toUInt32 >>> ((8 : Int32) &&& 31).toUInt32).toInt32) ^^^ (x1 &&& (255 : Int32))) &&& (255 : Int32)) ^^^ ((((((x0.toUInt32 >>> ((8 : Int32) &&& 31).toUInt32).toInt32) ^^^ (x1 &&& (255 : Int32))) &&& (255 : Int32)).toUInt32 >>> ((4 : Int32) &&& 31).toUInt32).toInt32)))] [])) (fun t k => XS.istoreN X.here hx rfl (hb hby d2_26) rfl (l' := #[.val (.int x0), .val (.int x1), .val (.int x2), .val (.int (((((x0.toUInt32 >>> ((8 : Int32) &&& 31).toUInt32).toInt32) ^^^ (x1 &&& (255 : Int32))) &&& (255 : Int32)) ^^^ ((((((x0.toUInt32 >>> ((8 : Int32) &&& 31).toUInt32).toInt32) ^^^ (x1 &&& (255 : Int32))) &&& (255 : Int32)).toUInt32 >>> ((4 : Int32) &&& 31).toUInt32).toInt32)))]) rfl k) ?_
      refine Go.step (S' := T.setTop (mkF m 28 #[.val (.int x0), .val (.int x1), .val (.int x2), .val (.int (((((x0.toUInt32 >>> ((8 : Int32) &&& 31).toUInt32).toInt32) ^^^ (x1 &&& (255 : Int32))) &&& (255 : Int32)) ^^^ ((((((x0.toUInt32 >>> ((8 : Int32) &&& 31).toUInt32).toInt32) ^^^ (x1 &&& (255 : Int32))) &&& (255 : Int32)).toUInt32 >>> ((4 : Int32) &&& 31).toUInt32).toInt32)))] [(.int x0)])) (fun t k => XS.iloadN X.here hx rfl (hb hby d2_27) rfl k) ?_
      refine Go.step (S' := T.setTop (mkF m 30 #[.val (.int x0), .val (.int x1), .val (.int x2), .val (.int (((((x0.toUInt32 >>> ((8 : Int32) &&& 31).toUInt32).toInt32) ^^^ (x1 &&& (255 : Int32))) &&& (255 : Int32)) ^^^ ((((((x0.toUInt32 >>> ((8 : Int32) &&& 31).toUInt32).toInt32) ^^^ (x1 &&& (255 : Int32))) &&& (255 : Int32)).toUInt32 >>> ((4 : Int32) &&& 31).toUInt32).toInt32)))] [(.int (8 : Int32)), (.int x0)])) (fun t k => XS.bipush X.here hx rfl (hb hby d2_28) k) ?_
      refine Go.step (S' := T.setTop (mkF m 31 #[.val (.int x0), .val (.int x1), .val (.int x2), .val (.int (((((x0.toUInt32 >>> ((8 : Int32) &&& 31).toUInt32).toInt32) ^^^ (x1 &&& (255 : Int32))) &&& (255 : Int32)) ^^^ ((((((x0.toUInt32 >>> ((8 : Int32) &&& 31).toUInt32).toInt32) ^^^ (x1 &&& (255 : Int32))) &&& (255 : Int32)).toUInt32 >>> ((4 : Int32) &&& 31).toUInt32).toInt32)))] [(.int (x0 <<< ((8 : Int32) &&& 31)))])) (fun t k => XS.ishl X.here hx rfl (hb hby d2_30) rfl k) ?_
      refine Go.step (S' := T.setTop (mkF m 32 #[.val (.int x0), .val (.int x1), .val (.int x2), .val (.int (((((x0.toUInt32 >>> ((8 : Int32) &&& 31).toUInt32).toInt32) ^^^ (x1 &&& (255 : Int32))) &&& (255 : Int32)) ^^^ ((((((x0.toUInt32 >>> ((8 : Int32) &&& 31).toUInt32).toInt32) ^^^ (x1 &&& (255 : Int32))) &&& (255 : Int32)).toUInt32 >>> ((4 : Int32) &&& 31).toUInt32).toInt32)))] [(.int (((((x0.toUInt32 >>> ((8 : Int32) &&& 31).toUInt32).toInt32) ^^^ (x1 &&& (255 : Int32))) &&& (255 : Int32)) ^^^ ((((((x0.toUInt32 >>> ((8 : Int32) &&& 31).toUInt32).toInt32) ^^^ (x1 &&& (255 : Int32))) &&& (255 : Int32)).toUInt32 >>> ((4 : Int32) &&& 31).toUInt32).toInt32))), (.int (x0 <<< ((8 : Int32) &&& 31)))])) (fun t k => XS.iloadN X.here hx rfl (hb hby d2_31) rfl k) ?_
      refine Go.step (S' := T.setTop (mkF m 34 #[.val (.int x0), .val (.int x1), .val (.int x2), .val (.int (((((x0.toUInt32 >>> ((8 : Int32) &&& 31).toUInt32).toInt32) ^^^ (x1 &&& (255 : Int32))) &&& (255 : Int32)) ^^^ ((((((x0.toUInt32 >>> ((8 : Int32) &&& 31).toUInt32).toInt32) ^^^ (x1 &&& (255 : Int32))) &&& (255 : Int32)).toUInt32 >>> ((4 : Int32) &&& 31).toUInt32).toInt32)))] [(.int (12 : Int32)), (.int (((((x0.toUInt32 >>> ((8 : Int32) &&& 31).toUInt32).toInt32) ^^^ (x1 &&& (255 : Int32))) &&& (255 : Int32)) ^^^ ((((((x0.toUInt32 >>> ((8 : Int32) &&& 31).toUInt32).toInt32) ^^^ (x1 &&& (255 : Int32))) &&& (255 : Int32)).toUInt32 >>> ((4 : Int32) &&& 31).toUInt32).toInt32))), (.int (x0 <<< ((8 : Int32) &&& 31)))])) (fun t k => XS.bipush X.here hx rfl (hb hby d2_32) k) ?_
      refine Go.step (S' := T.setTop (mkF m 35 #[.val (.int x0), .val (.int x1), .val (.int x2), .val (.int (((((x0.toUInt32 >>> ((8 : Int32) &&& 31).toUInt32).toInt32) ^^^ (x1 &&& (255 : Int32))) &&& (255 : Int32)) ^^^ ((((((x0.toUInt32 >>> ((8 : Int32) &&& 31).toUInt32).toInt32) ^^^ (x1 &&& (255 : Int32))) &&& (255 : Int32)).toUInt32 >>> ((4 : Int32) &&& 31).toUInt32).toInt32)))] [(.int ((((((x0.toUInt32 >>> ((8 : Int32) &&& 31).toUInt32).toInt32) ^^^ (x1 &&& (255 : Int32))) &&& (255 : Int32)) ^^^ ((((((x0.toUInt32 >>> ((8 : Int32) &&& 31).toUInt32).toInt32) ^^^ (x1 &&& (255 : Int32))) &&& (255 : Int32)).toUInt32 >>> ((4 : Int32) &&& 31).toUInt32).toInt32)) <<< ((12 : Int32) &&& 31))), (.int (x0 <<< ((8 : Int32) &&& 31)))])) (fun t k => XS.ishl X.here hx rfl (hb hby d2_34) rfl k) ?_
      refine Go.step (S' := T.setTop (mkF m 36 #[.val (.int x0), .val (.int x1), .val (.int x2), .val (.int (((((x0.toUInt32 >>> ((8 : Int32) &&& 31).toUInt32).toInt32) ^^^ (x1 &&& (255 : Int32))) &&& (255 : Int32)) ^^^ ((((((x0.toUInt32 >>> ((8 : Int32) &&& 31).toUInt32).toInt32) ^^^ (x1 &&& (255 : Int32))) &&& (255 : Int32)).toUInt32 >>> ((4 : Int32) &&& 31).toUInt32).toInt32)))] [(.int ((x0 <<< ((8 : Int32) &&& 31)) ^^^ ((((((x0.toUInt32 >>> ((8 : Int32) &&& 31).toUInt32).toInt32) ^^^ (x1 &&& (255 : Int32))) &&& (255 : Int32)) ^^^ ((((((x0.toUInt32 >>> ((8 : Int32) &&& 31).toUInt32).toInt32) ^^^ (x1 &&& (255 : Int32))) &&& (255 : Int32)).toUInt32 >>> ((4 : Int32) &&& 31).toUInt32).toInt32)) <<< ((12 : Int32) &&& 31))))])) (fun t k => XS.ixor X.here hx rfl (hb hby d2_35) rfl k) ?_
      refine Go.step (S' := T.setTop (mkF m 37 #[.val (.int x0), .val (.int x1), .val (.int x2), .val (.int (((((x0.toUInt32 >>> ((8 : Int32) &&& 31).toUInt32).toInt32) ^^^ (x1 &&& (255 : Int32))) &&& (255 : Int32)) ^^^ ((((((x0.toUInt32 >>> ((8 : Int32) &&& 31).toUInt32).toInt32) ^^^ (x1 &&& (255 : Int32))) &&& (255 : Int32)).toUInt32 >>> ((4 : Int32) &&& 31).toUInt32).toInt32)))] [(.int (((((x0.toUInt32 >>> ((8 : Int32) &&& 31).toUInt32).toInt32) ^^^ (x1 &&& (255 : Int32))) &&& (255 : Int32)) ^^^ ((((((x0.toUInt32 >>> ((8 : Int32) &&& 31).toUInt32).toInt32) ^^^ (x1 &&& (255 : Int32))) &&& (255 : Int32)).toUInt32 >>> ((4 : Int32) &&& 31).toUInt32).toInt32))), (.int ((x0 <<< ((8 : Int32) &&& 31)) ^^^ ((((((x0.toUInt32 >>> ((8 : Int32) &&& 31).toUInt32).toInt32) ^^^ (x1 &&& (255 : Int32))) &&& (255 : Int32)) ^^^ ((((((x0.toUInt32 >>> ((8 : Int32) &&& 31).toUInt32).toInt32) ^^^ (x1 &&& (255 : Int32))) &&& (255 : Int32)).toUInt32 >>> ((4 : Int32) &&& 31).toUInt32).toInt32)) <<< ((12 : Int32) &&& 31))))])) (fun t k => XS.iloadN X.here hx rfl (hb hby d2_36) rfl k) ?_
      refine Go.step (S' := T.setTop (mkF m 38 #[.val (.int x0), .val (.int x1), .val (.int x2), .val (.int (((((x0.toUInt32 >>> ((8 : Int32) &&& 31).toUInt32).toInt32) ^^^ (x1 &&& (255 : Int32))) &&& (255 : Int32)) ^^^ ((((((x0.toUInt32 >>> ((8 : Int32) &&& 31).toUInt32).toInt32) ^^^ (x1 &&& (255 : Int32))) &&& (255 : Int32)).toUInt32 >>> ((4 : Int32) &&& 31).toUInt32).toInt32)))] [(.int (5 : Int32)), (.int (((((x0.toUInt32 >>> ((8 : Int32) &&& 31).toUInt32).toInt32) ^^^ (x1 &&& (255 : Int32))) &&& (255 : Int32)) ^^^ ((((((x0.toUInt32 >>> ((8 : Int32) &&& 31).toUInt32).toInt32) ^^^ (x1 &&& (255 : Int32))) &&& (255 : Int32)).toUInt32 >>> ((4 : Int32) &&& 31).toUInt32).toInt32))), (.int ((x0 <<< ((8 : Int32) &&& 31)) ^^^ ((((((x0.toUInt32 >>> ((8 : Int32) &&& 31).toUInt32).toInt32) ^^^ (x1 &&& (255 : Int32))) &&& (255 : Int32)) ^^^ ((((((x0.toUInt32 >>> ((8 : Int32) &&& 31).toUInt32).toInt32) ^^^ (x1 &&& (255 : Int32))) &&& (255 : Int32)).toUInt32 >>> ((4 : Int32) &&& 31).toUInt32).toInt32)) <<< ((12 : Int32) &&& 31))))])) (fun t k => XS.iconst X.here hx rfl (hb hby d2_37) k) ?_
      refine Go.step (S' := T.setTop (mkF m 39 #[.val (.int x0), .val (.int x1), .val (.int x2), .val (.int (((((x0.toUInt32 >>> ((8 : Int32) &&& 31).toUInt32).toInt32) ^^^ (x1 &&& (255 : Int32))) &&& (255 : Int32)) ^^^ ((((((x0.toUInt32 >>> ((8 : Int32) &&& 31).toUInt32).toInt32) ^^^ (x1 &&& (255 : Int32))) &&& (255 : Int32)).toUInt32 >>> ((4 : Int32) &&& 31).toUInt32).toInt32)))] [(.int ((((((x0.toUInt32 >>> ((8 : Int32) &&& 31).toUInt32).toInt32) ^^^ (x1 &&& (255 : Int32))) &&& (255 : Int32)) ^^^ ((((((x0.toUInt32 >>> ((8 : Int32) &&& 31).toUInt32).toInt32) ^^^ (x1 &&& (255 : Int32))) &&& (255 : Int32)).toUInt32 >>> ((4 : Int32) &&& 31).toUInt32).toInt32)) <<< ((5 : Int32) &&& 31))), (.int ((x0 <<< ((8 : Int32) &&& 31)) ^^^ ((((((x0.toUInt32 >>> ((8 : Int32) &&& 31).toUInt32).toInt32) ^^^ (x1 &&& (255 : Int32))) &&& (255 : Int32)) ^^^ ((((((x0.toUInt32 >>> ((8 : Int32) &&& 31).toUInt32).toInt32) ^^^ (x1 &&& (255 : Int32))) &&& (255 : Int32)).toUInt32 >>> ((4 : Int32) &&& 31).toUInt32).toInt32)) <<< ((12 : Int32) &&& 31))))])) (fun t k => XS.ishl X.here hx rfl (hb hby d2_38) rfl k) ?_
      refine Go.step (S' := T.setTop (mkF m 40 #[.val (.int x0), .val (.int x1), .val (.int x2), .val (.int (((((x0.toUInt32 >>> ((8 : Int32) &&& 31).toUInt32).toInt32) ^^^ (x1 &&& (255 : Int32))) &&& (255 : Int32)) ^^^ ((((((x0.toUInt32 >>> ((8 : Int32) &&& 31).toUInt32).toInt32) ^^^ (x1 &&& (255 : Int32))) &&& (255 : Int32)).toUInt32 >>> ((4 : Int32) &&& 31).toUInt32).toInt32)))] [(.int (((x0 <<< ((8 : Int32) &&& 31)) ^^^ ((((((x0.toUInt32 >>> ((8 : Int32) &&& 31).toUInt32).toInt32) ^^^ (x1 &&& (255 : Int32))) &&& (255 : Int32)) ^^^ ((((((x0.toUInt32 >>> ((8 : Int32) &&& 31).toUInt32).toInt32) ^^^ (x1 &&& (255 : Int32))) &&& (255 : Int32)).toUInt32 >>> ((4 : Int32) &&& 31).toUInt32).toInt32)) <<< ((12 : Int32) &&& 31))) ^^^ ((((((x0.toUInt32 >>> ((8 : Int32) &&& 31).toUInt32).toInt32) ^^^ (x1 &&& (255 : Int32))) &&& (255 : Int32)) ^^^ ((((((x0.toUInt32 >>> ((8 : Int32) &&& 31).toUInt32).toInt32) ^^^ (x1 &&& (255 : Int32))) &&& (255 : Int32)).toUInt32 >>> ((4 : Int32) &&& 31).toUInt32).toInt32)) <<< ((5 : Int32) &&& 31))))])) (fun t k => XS.ixor X.here hx rfl (hb hby d2_39) rfl k) ?_
      refine Go.step (S' := T.setTop (mkF m 41 #[.val (.int x0), .val (.int x1), .val (.int x2), .val (.int (((((x0.toUInt32 >>> ((8 : Int32) &&& 31).toUInt32).toInt32) ^^^ (x1 &&& (255 : Int32))) &&& (255 : Int32)) ^^^ ((((((x0.toUInt32 >>> ((8 : Int32) &&& 31).toUInt32).toInt32) ^^^ (x1 &&& (255 : Int32))) &&& (255 : Int32)).toUInt32 >>> ((4 : Int32) &&& 31).toUInt32).toInt32)))] [(.int (((((x0.toUInt32 >>> ((8 : Int32) &&& 31).toUInt32).toInt32) ^^^ (x1 &&& (255 : Int32))) &&& (255 : Int32)) ^^^ ((((((x0.toUInt32 >>> ((8 : Int32) &&& 31).toUInt32).toInt32) ^^^ (x1 &&& (255 : Int32))) &&& (255 : Int32)).toUInt32 >>> ((4 : Int32) &&& 31).toUInt32).toInt32))), (.int (((x0 <<< ((8 : Int32) &&& 31)) ^^^ ((((((x0.toUInt32 >>> ((8 : Int32) &&& 31).toUInt32).toInt32) ^^^ (x1 &&& (255 : Int32))) &&& (255 : Int32)) ^^^ ((((((x0.toUInt32 >>> ((8 : Int32) &&& 31).toUInt32).toInt32) ^^^ (x1 &&& (255 : Int32))) &&& (255 : Int32)).toUInt32 >>> ((4 : Int32) &&& 31).toUInt32).toInt32)) <<< ((12 : Int32) &&& 31))) ^^^ ((((((x0.toUInt32 >>> ((8 : Int32) &&& 31).toUInt32).toInt32) ^^^ (x1 &&& (255 : Int32))) &&& (255 : Int32)) ^^^ ((((((x0.toUInt32 >>> ((8 : Int32) &&& 31).toUInt32).toInt32) ^^^ (x1 &&& (255 : Int32))) &&& (255 : Int32)).toUInt32 >>> ((4 : Int32) &&& 31).toUInt32).toInt32)) <<< ((5 : Int32) &&& 31))))])) (fun t k => XS.iloadN X.here hx rfl (hb hby d2_40) rfl k) ?_
      refine Go.step (S' := T.setTop (mkF m 42 #[.val (.int x0), .val (.int x1), .val (.int x2), .val (.int (((((x0.toUInt32 >>> ((8 : Int32) &&& 31).toUInt32).toInt32) ^^^ (x1 &&& (255 : Int32))) &&& (255 : Int32)) ^^^ ((((((x0.toUInt32 >>> ((8 : Int32) &&& 31).toUInt32).toInt32) ^^^ (x1 &&& (255 : Int32))) &&& (255 : Int32)).toUInt32 >>> ((4 : Int32) &&& 31).toUInt32).toInt32)))] [(.int ((((x0 <<< ((8 : Int32) &&& 31)) ^^^ ((((((x0.toUInt32 >>> ((8 : Int32) &&& 31).toUInt32).toInt32) ^^^ (x1 &&& (255 : Int32))) &&& (255 : Int32)) ^^^ ((((((x0.toUInt32 >>> ((8 : Int32) &&& 31).toUInt32).toInt32) ^^^ (x1 &&& (255 : Int32))) &&& (255 : Int32)).toUInt32 >>> ((4 : Int32) &&& 31).toUInt32).toInt32)) <<< ((12 : Int32) &&& 31))) ^^^ ((((((x0.toUInt32 >>> ((8 : Int32) &&& 31).toUInt32).toInt32) ^^^ (x1 &&& (255 : Int32))) &&& (255 : Int32)) ^^^ ((((((x0.toUInt32 >>> ((8 : Int32) &&& 31).toUInt32).toInt32) ^^^ (x1 &&& (255 : Int32))) &&& (255 : Int32)).toUInt32 >>> ((4 : Int32) &&& 31).toUInt32).toInt32)) <<< ((5 : Int32) &&& 31))) ^^^ (((((x0.toUInt32 >>> ((8 : Int32) &&& 31).toUInt32).toInt32) ^^^ (x1 &&& (255 : Int32))) &&& (255 : Int32)) ^^^ ((((((x0.toUInt32 >>> ((8 : Int32) &&& 31).toUInt32).toInt32) ^^^ (x1 &&& (255 : Int32))) &&& (255 : Int32)).toUInt32 >>> ((4 : Int32) &&& 31).toUInt32).toInt32))))])) (fun t k => XS.ixor X.here hx rfl (hb hby d2_41) rfl k) ?_
      refine Go.step (S' := T.setTop (mkF m 44 #[.val (.int x0), .val (.int x1), .val (.int x2), .val (.int (((((x0.toUInt32 >>> ((8 : Int32) &&& 31).toUInt32).toInt32) ^^^ (x1 &&& (255 : Int32))) &&& (255 : Int32)) ^^^ ((((((x0.toUInt32 >>> ((8 : Int32) &&& 31).toUInt32).toInt32) ^^^ (x1 &&& (255 : Int32))) &&& (255 : Int32)).toUInt32 >>> ((4 : Int32) &&& 31).toUInt32).toInt32)))] [(.int (65535 : Int32)), (.int ((((x0 <<< ((8 : Int32) &&& 31)) ^^^ ((((((x0.toUInt32 >>> ((8 : Int32) &&& 31).toUInt32).toInt32) ^^^ (x1 &&& (255 : Int32))) &&& (255 : Int32)) ^^^ ((((((x0.toUInt32 >>> ((8 : Int32) &&& 31).toUInt32).toInt32) ^^^ (x1 &&& (255 : Int32))) &&& (255 : Int32)).toUInt32 >>> ((4 : Int32) &&& 31).toUInt32).toInt32)) <<< ((12 : Int32) &&& 31))) ^^^ ((((((x0.toUInt32 >>> ((8 : Int32) &&& 31).toUInt32).toInt32) ^^^ (x1 &&& (255 : Int32))) &&& (255 : Int32)) ^^^ ((((((x0.toUInt32 >>> ((8 : Int32) &&& 31).toUInt32).toInt32) ^^^ (x1 &&& (255 : Int32))) &&& (255 : Int32)).toUInt32 >>> ((4 : Int32) &&& 31).toUInt32).toInt32)) <<< ((5 : Int32) &&& 31))) ^^^ (((((x0.toUInt32 >>> ((8 : Int32) &&& 31).toUInt32).toInt32) ^^^ (x1 &&& (255 : Int32))) &&& (255 : Int32)) ^^^ ((((((x0.toUInt32 >>> ((8 : Int32) &&& 31).toUInt32).toInt32) ^^^ (x1 &&& (255 : Int32))) &&& (255 : Int32)).toUInt32 >>> ((4 : Int32) &&& 31).toUInt32).toInt32))))])) (fun t k => X.ldcInt hx hown (mvT hZ (hw _ (List.mem_of_getElem? (i := 2) rfl))) (g := (mkF m 42 #[.val (.int x0), .val (.int x1), .val (.int x2), .val (.int (((((x0.toUInt32 >>> ((8 : Int32) &&& 31).toUInt32).toInt32) ^^^ (x1 &&& (255 : Int32))) &&& (255 : Int32)) ^^^ ((((((x0.toUInt32 >>> ((8 : Int32) &&& 31).toUInt32).toInt32) ^^^ (x1 &&& (255 : Int32))) &&& (255 : Int32)).toUInt32 >>> ((4 : Int32) &&& 31).toUInt32).toInt32)))] [(.int ((((x0 <<< ((8 : Int32) &&& 31)) ^^^ ((((((x0.toUInt32 >>> ((8 : Int32) &&& 31).toUInt32).toInt32) ^^^ (x1 &&& (255 : Int32))) &&& (255 : Int32)) ^^^ ((((((x0.toUInt32 >>> ((8 : Int32) &&& 31).toUInt32).toInt32) ^^^ (x1 &&& (255 : Int32))) &&& (255 : Int32)).toUInt32 >>> ((4 : Int32) &&& 31).toUInt32).toInt32)) <<< ((12 : Int32) &&& 31))) ^^^ ((((((x0.toUInt32 >>> ((8 : Int32) &&& 31).toUInt32).toInt32) ^^^ (x1 &&& (255 : Int32))) &&& (255 : Int32)) ^^^ ((((((x0.toUInt32 >>> ((8 : Int32) &&& 31).toUInt32).toInt32) ^^^ (x1 &&& (255 : Int32))) &&& (255 : Int32)).toUInt32 >>> ((4 : Int32) &&& 31).toUInt32).toInt32)) <<< ((5 : Int32) &&& 31))) ^^^ (((((x0.toUInt32 >>> ((8 : Int32) &&& 31).toUInt32).toInt32) ^^^ (x1 &&& (255 : Int32))) &&& (255 : Int32)) ^^^ ((((((x0.toUInt32 >>> ((8 : Int32) &&& 31).toUInt32).toInt32) ^^^ (x1 &&& (255 : Int32))) &&& (255 : Int32)).toUInt32 >>> ((4 : Int32) &&& 31).toUInt32).toInt32))))])) rfl (hb hby d2_42) _ k) ?_
      refine Go.step (S' := T.setTop (mkF m 45 #[.val (.int x0), .val (.int x1), .val (.int x2), .val (.int (((((x0.toUInt32 >>> ((8 : Int32) &&& 31).toUInt32).toInt32) ^^^ (x1 &&& (255 : Int32))) &&& (255 : Int32)) ^^^ ((((((x0.toUInt32 >>> ((8 : Int32) &&& 31).toUInt32).toInt32) ^^^ (x1 &&& (255 : Int32))) &&& (255 : Int32)).toUInt32 >>> ((4 : Int32) &&& 31).toUInt32).toInt32)))] [(.int (((((x0 <<< ((8 : Int32) &&& 31)) ^^^ ((((((x0.toUInt32 >>> ((8 : Int32) &&& 31).toUInt32).toInt32) ^^^ (x1 &&& (255 : Int32))) &&& (255 : Int32)) ^^^ ((((((x0.toUInt32 >>> ((8 : Int32) &&& 31).toUInt32).toInt32) ^^^ (x1 &&& (255 : Int32))) &&& (255 : Int32)).toUInt32 >>> ((4 : Int32) &&& 31).toUInt32).toInt32)) <<< ((12 : Int32) &&& 31))) ^^^ ((((((x0.toUInt32 >>> ((8 : Int32) &&& 31).toUInt32).toInt32) ^^^ (x1 &&& (255 : Int32))) &&& (255 : Int32)) ^^^ ((((((x0.toUInt32 >>> ((8 : Int32) &&& 31).toUInt32).toInt32) ^^^ (x1 &&& (255 : Int32))) &&& (255 : Int32)).toUInt32 >>> ((4 : Int32) &&& 31).toUInt32).toInt32)) <<< ((5 : Int32) &&& 31))) ^^^ (((((x0.toUInt32 >>> ((8 : Int32) &&& 31).toUInt32).toInt32) ^^^ (x1 &&& (255 : Int32))) &&& (255 : Int32)) ^^^ ((((((x0.toUInt32 >>> ((8 : Int32) &&& 31).toUInt32).toInt32) ^^^ (x1 &&& (255 : Int32))) &&& (255 : Int32)).toUInt32 >>> ((4 : Int32) &&& 31).toUInt32).toInt32))) &&& (65535 : Int32)))])) (fun t k => XS.iand X.here hx rfl (hb hby d2_44) rfl k) ?_
      exact Go.retI X hx Bd.returns Bd.notSynchronized (hb hby d2_45) ⟨by rw [hr0, ← hr]; first | done | rfl, NF, eT⟩ (by decide) (by decide)
  show Go p e below s (Q2 x0 x1 x2 h0 n0) ({ frames := 0, cells := 0, slots := 0, locals := 0 } : Room).cells ({ frames := 0, cells := 0, slots := 0, locals := 0 } : Room).slots (s₁.setTop (entryFrame m #[(.int x0), (.int x1), (.int x2)] 4))
  rw [ef2]
  exact B0 s₁ [] X0 e0 (Fr.nil n0) hr0
theorem d3_0 : decode prog_54_method_2_code 0 = .ok (.ldc 9, 2) := by decide +kernel
theorem d3_2 : decode prog_54_method_2_code 2 = .ok (.istore_n 3, 1) := by decide +kernel
theorem d3_3 : decode prog_54_method_2_code 3 = .ok (.iload_n 1, 1) := by decide +kernel
theorem d3_4 : decode prog_54_method_2_code 4 = .ok (.istore 4, 2) := by decide +kernel
theorem d3_6 : decode prog_54_method_2_code 6 = .ok (.iload 4, 2) := by decide +kernel
theorem d3_8 : decode prog_54_method_2_code 8 = .ok (.iload_n 1, 1) := by decide +kernel
theorem d3_9 : decode prog_54_method_2_code 9 = .ok (.iload_n 2, 1) := by decide +kernel
theorem d3_10 : decode prog_54_method_2_code 10 = .ok (.iadd, 1) := by decide +kernel
theorem d3_11 : decode prog_54_method_2_code 11 = .ok (.if_icmp .ge 66, 3) := by decide +kernel
theorem d3_14 : decode prog_54_method_2_code 14 = .ok (.iload_n 3, 1) := by decide +kernel
theorem d3_15 : decode prog_54_method_2_code 15 = .ok (.aload_n 0, 1) := by decide +kernel
theorem d3_16 : decode prog_54_method_2_code 16 = .ok (.iload 4, 2) := by decide +kernel
theorem d3_18 : decode prog_54_method_2_code 18 = .ok (.baload, 1) := by decide +kernel
theorem d3_19 : decode prog_54_method_2_code 19 = .ok (.sipush 255, 3) := by decide +kernel
theorem d3_22 : decode prog_54_method_2_code 22 = .ok (.iand, 1) := by decide +kernel
theorem d3_23 : decode prog_54_method_2_code 23 = .ok (.bipush 8, 2) := by decide +kernel
theorem d3_25 : decode prog_54_method_2_code 25 = .ok (.ishl, 1) := by decide +kernel
theorem d3_26 : decode prog_54_method_2_code 26 = .ok (.ixor, 1) := by decide +kernel
theorem d3_27 : decode prog_54_method_2_code 27 = .ok (.istore_n 3, 1) := by decide +kernel
theorem d3_28 : decode prog_54_method_2_code 28 = .ok (.iconst 0, 1) := by decide +kernel
theorem d3_29 : decode prog_54_method_2_code 29 = .ok (.istore 5, 2) := by decide +kernel
theorem d3_31 : decode prog_54_method_2_code 31 = .ok (.iload 5, 2) := by decide +kernel
theorem d3_33 : decode prog_54_method_2_code 33 = .ok (.bipush 8, 2) := by decide +kernel
theorem d3_35 : decode prog_54_method_2_code 35 = .ok (.if_icmp .ge 31, 3) := by decide +kernel
theorem d3_38 : decode prog_54_method_2_code 38 = .ok (.iload_n 3, 1) := by decide +kernel
theorem d3_39 : decode prog_54_method_2_code 39 = .ok (.ldc 10, 2) := by decide +kernel
theorem d3_41 : decode prog_54_method_2_code 41 = .ok (.iand, 1) := by decide +kernel
theorem d3_42 : decode prog_54_method_2_code 42 = .ok (.ifCond .eq 14, 3) := by decide +kernel
theorem d3_45 : decode prog_54_method_2_code 45 = .ok (.iload_n 3, 1) := by decide +kernel
theorem d3_46 : decode prog_54_method_2_code 46 = .ok (.iconst 1, 1) := by decide +kernel
theorem d3_47 : decode prog_54_method_2_code 47 = .ok (.ishl, 1) := by decide +kernel
theorem d3_48 : decode prog_54_method_2_code 48 = .ok (.sipush 4129, 3) := by decide +kernel
theorem d3_51 : decode prog_54_method_2_code 51 = .ok (.ixor, 1) := by decide +kernel
theorem d3_52 : decode prog_54_method_2_code 52 = .ok (.istore_n 3, 1) := by decide +kernel
theorem d3_53 : decode prog_54_method_2_code 53 = .ok (.goto 7, 3) := by decide +kernel
theorem d3_56 : decode prog_54_method_2_code 56 = .ok (.iload_n 3, 1) := by decide +kernel
theorem d3_57 : decode prog_54_method_2_code 57 = .ok (.iconst 1, 1) := by decide +kernel
theorem d3_58 : decode prog_54_method_2_code 58 = .ok (.ishl, 1) := by decide +kernel
theorem d3_59 : decode prog_54_method_2_code 59 = .ok (.istore_n 3, 1) := by decide +kernel
theorem d3_60 : decode prog_54_method_2_code 60 = .ok (.iinc 5 1, 3) := by decide +kernel
theorem d3_63 : decode prog_54_method_2_code 63 = .ok (.goto (-32), 3) := by decide +kernel
theorem d3_66 : decode prog_54_method_2_code 66 = .ok (.iload_n 3, 1) := by decide +kernel
theorem d3_67 : decode prog_54_method_2_code 67 = .ok (.ldc 9, 2) := by decide +kernel
theorem d3_69 : decode prog_54_method_2_code 69 = .ok (.iand, 1) := by decide +kernel
theorem d3_70 : decode prog_54_method_2_code 70 = .ok (.istore_n 3, 1) := by decide +kernel
theorem d3_71 : decode prog_54_method_2_code 71 = .ok (.iinc 4 1, 3) := by decide +kernel
theorem d3_74 : decode prog_54_method_2_code 74 = .ok (.goto (-68), 3) := by decide +kernel
theorem d3_77 : decode prog_54_method_2_code 77 = .ok (.iload_n 3, 1) := by decide +kernel
theorem d3_78 : decode prog_54_method_2_code 78 = .ok (.ireturn, 1) := by decide +kernel
theorem pn1 : plainName "com/example/hearthwire/hearthwire/frame/Crc16" = true := by first | (simp [plainName, overriddenIn]; done) | decide +kernel
theorem pd2 : parseMethodDescriptor "([BII)I" = some ⟨[(.array .byte), .int, .int], some .int⟩ := by decide +kernel
def sbit (c : Int32) : Int32 := if (c &&& (32768 : Int32)) = (0 : Int32) then (c <<< ((1 : Int32) &&& 31)) else ((c <<< ((1 : Int32) &&& 31)) ^^^ (4129 : Int32))
def sit : Nat → Int32 → Int32
  | 0, c => c
  | n + 1, c => sit n (sbit c)
def sby (c d : Int32) : Int32 := ((sit 8 (c ^^^ ((d &&& (255 : Int32)) <<< ((8 : Int32) &&& 31)))) &&& (65535 : Int32))
def sout (bv : Nat → Int32) : Nat → Int32 → Int32 → Int32
  | 0, _, c => c
  | n + 1, i, c => sout bv n (i + (1 : Int32)) (sby c (bv i.toNatClampNeg))
def f3 (x1 x2 : Int32) (bv : Nat → Int32) : Int32 := sout bv x2.toNatClampNeg x1 (65535 : Int32)
def Q3 (x1 x2 : Int32) (bv : Nat → Int32) (h0 : Heap) (n0 : Nat) (v : Option Value) (h : Heap) (L : List Loc) : Prop := v = some (.int (f3 x1 x2 bv)) ∧ Fr n0 L ∧ h = h0
theorem ef3 (m : MethodId) (o0 : Addr) (x1 x2 : Int32) : entryFrame m #[(.ref o0), (.int x1), (.int x2)] 6 = mkF m 0 #[.val (.ref o0), .val (.int x1), .val (.int x2), .unset, .unset, .unset] [] := by first | (simp [entryFrame, mkF, argsToLocals, Value.category]; done) | rfl
theorem own_ci {i : Int32} {k : Nat} (h : i.toInt = k) : i.toNatClampNeg = k := by
  show i.toInt.toNat = k
  omega
set_option maxRecDepth 65536 in
set_option maxHeartbeats 40000000 in
theorem rm3 (l : Launch) (Z : State) (a0 : Array Value) (hw : ∀ d ∈ tables_1, d.before a0 Z = true) (ws : List Jvm.Cond) (o0 : Addr) (x1 x2 : Int32) (bv : Nat → Int32) (h0 : Heap) (n0 : Nat) (Z0 : n0 ≤ h0.size) (cl : Cell) (Ar : Arr Z h0 o0 cl .byte) (hsz : cl.slots.size = 6) (hat : ∀ k, k < 6 → cl.slots[k]? = some (.int (bv k))) (g1 : 0 ≤ x1.toInt) (g2 : 0 ≤ x2.toInt) (g3 : x1.toInt + x2.toInt ≤ 6) :
    MetFree l (⟨"com/example/hearthwire/hearthwire/frame/Crc16", "compute", "([BII)I"⟩ : MethodName) (head1 (Jvm.Cond.code (⟨"com/example/hearthwire/hearthwire/frame/Crc16", "compute", "([BII)I"⟩ : MethodName) prog_54_method_2_code 6 (some .int) :: ws) ({ frames := 0, cells := 0, slots := 0, locals := 0 } : Room)) (fun a U => a = #[(.ref o0), (.int x1), (.int x2)] ∧ Z.Warmed39 U.vm ∧ U.heap = h0) (fun _ _ _ _ _ => True) (fun _ U o U' => ∃ v L, o = .returned v ∧ Q3 x1 x2 bv h0 n0 v U'.heap L ∧ FrameEnd U o U' L ({ frames := 0, cells := 0, slots := 0, locals := 0 } : Room).cells ({ frames := 0, cells := 0, slots := 0, locals := 0 } : Room).slots) := by
  refine MetFree.of_bodySF (plainFor_of_name pn1) hisR ?_
  intro p e s m args below meth c s₁ Bd hml0 hP hK
  obtain ⟨rfl, hZ, hh⟩ := hP
  have hx := Bd.exec
  have hby := Bd.bytes
  have hml : c.maxLocals = 6 := hml0
  have hown : s.vm.findClass "com/example/hearthwire/hearthwire/frame/Crc16" = some m.cls := findClass_of_methodNamed Bd.named
  have X : Stand p l e ({ frames := 0, cells := 0, slots := 0, locals := 0 } : Room) s m #[(.ref o0), (.int x1), (.int x2)] below meth c s₁ [] 0 0 := Stand.of_body Bd
  have eT : s₁.heap = h0 := by rw [← hh, Bd.state]; rfl
  obtain ⟨r, hr0⟩ : ∃ r, f3 x1 x2 bv = r := ⟨_, rfl⟩
  have hsum : (x1 + x2).toInt = x1.toInt + x2.toInt := Jvm.Kit.i32_add (by omega) (by omega)
  have e8 : (8 : Int32).toInt = 8 := by decide
  have e1 : (1 : Int32).toInt = 1 := by decide
  have Exit : ∀ (cr i : Int32) (u5 : Slot), cr = r → Go p e below s (Q3 x1 x2 bv h0 n0) ({ frames := 0, cells := 0, slots := 0, locals := 0 } : Room).cells ({ frames := 0, cells := 0, slots := 0, locals := 0 } : Room).slots (s₁.setTop (mkF m 77 #[.val (.ref o0), .val (.int x1), .val (.int x2), .val (.int cr), .val (.int i), u5] [])) := by
    intro cr i u5 hr
    refine Go.step (S' := s₁.setTop (mkF m 78 #[.val (.ref o0), .val (.int x1), .val (.int x2), .val (.int cr), .val (.int i), u5] [(.int cr)])) (fun t k => XS.iloadN X.here hx rfl (hb hby d3_77) rfl k) ?_
    exact Go.retI X hx Bd.returns Bd.notSynchronized (hb hby d3_78) ⟨by rw [hr, ← hr0], Fr.nil n0, eT⟩ (by decide) (by decide)
  have Inner : ∀ (n : Nat) (j cr i : Int32), n ≤ 8 → j.toInt = 8 - n → Go p e below s (Q3 x1 x2 bv h0 n0) ({ frames := 0, cells := 0, slots := 0, locals := 0 } : Room).cells ({ frames := 0, cells := 0, slots := 0, locals := 0 } : Room).slots (s₁.setTop (mkF m 66 #[.val (.ref o0), .val (.int x1), .val (.int x2), .val (.int (sit n cr)), .val (.int i), .val (.int (8 : Int32))] [])) → Go p e below s (Q3 x1 x2 bv h0 n0) ({ frames := 0, cells := 0, slots := 0, locals := 0 } : Room).cells ({ frames := 0, cells := 0, slots := 0, locals := 0 } : Room).slots (s₁.setTop (mkF m 31 #[.val (.ref o0), .val (.int x1), .val (.int x2), .val (.int cr), .val (.int i), .val (.int j)] [])) := by
    intro n
    induction n with
    | zero =>
      intro j cr i _ hj hg
      have hj8 : j = 8 := Int32.toInt_inj.mp (by rw [hj, e8]; rfl)
      subst hj8
      refine Go.step (S' := s₁.setTop (mkF m 33 #[.val (.ref o0), .val (.int x1), .val (.int x2), .val (.int cr), .val (.int i), .val (.int (8 : Int32))] [(.int (8 : Int32))])) (fun t k => XS.iload X.here hx rfl (hb hby d3_31) rfl k) ?_
      refine Go.step (S' := s₁.setTop (mkF m 35 #[.val (.ref o0), .val (.int x1), .val (.int x2), .val (.int cr), .val (.int i), .val (.int (8 : Int32))] [(.int (8 : Int32)), (.int (8 : Int32))])) (fun t k => XS.bipush X.here hx rfl (hb hby d3_33) k) ?_
      refine Go.step (S' := s₁.setTop (mkF m 66 #[.val (.ref o0), .val (.int x1), .val (.int x2), .val (.int cr), .val (.int i), .val (.int (8 : Int32))] [])) (fun t k => XS.icmpYes X.here hx rfl (pc0 := 35) (pc' := 66) rfl (hb hby d3_35) rfl (flt (by decide : ¬ ((8 : Int32) < (8 : Int32)))).2.1 (by decide) (by decide) k) ?_
      exact hg
    | succ n ih =>
      intro j cr i hn hj hg
      have hlt : j < (8 : Int32) := by rw [Int32.lt_iff_toInt_lt, hj, e8]; omega
      have hj1 : (j + (1 : Int32)).toInt = 8 - n := by rw [Jvm.Kit.i32_add (by rw [e1]; omega) (by rw [e1]; omega), hj, e1]; omega
      refine Go.step (S' := s₁.setTop (mkF m 33 #[.val (.ref o0), .val (.int x1), .val (.int x2), .val (.int cr), .val (.int i), .val (.int j)] [(.int j)])) (fun t k => XS.iload X.here hx rfl (hb hby d3_31) rfl k) ?_
      refine Go.step (S' := s₁.setTop (mkF m 35 #[.val (.ref o0), .val (.int x1), .val (.int x2), .val (.int cr), .val (.int i), .val (.int j)] [(.int (8 : Int32)), (.int j)])) (fun t k => XS.bipush X.here hx rfl (hb hby d3_33) k) ?_
      refine Go.step (S' := s₁.setTop (mkF m 38 #[.val (.ref o0), .val (.int x1), .val (.int x2), .val (.int cr), .val (.int i), .val (.int j)] [])) (fun t k => XS.icmpNo X.here hx rfl (hb hby d3_35) rfl (tlt hlt).2.1 k) ?_
      refine Go.step (S' := s₁.setTop (mkF m 39 #[.val (.ref o0), .val (.int x1), .val (.int x2), .val (.int cr), .val (.int i), .val (.int j)] [(.int cr)])) (fun t k => XS.iloadN X.here hx rfl (hb hby d3_38) rfl k) ?_
      refine Go.step (S' := s₁.setTop (mkF m 41 #[.val (.ref o0), .val (.int x1), .val (.int x2), .val (.int cr), .val (.int i), .val (.int j)] [(.int (32768 : Int32)), (.int cr)])) (fun t k => X.ldcInt hx hown (mvT hZ (hw _ (List.mem_of_getElem? (i := 15) rfl))) (g := (mkF m 39 #[.val (.ref o0), .val (.int x1), .val (.int x2), .val (.int cr), .val (.int i), .val (.int j)] [(.int cr)])) rfl (hb hby d3_39) _ k) ?_
      refine Go.step (S' := s₁.setTop (mkF m 42 #[.val (.ref o0), .val (.int x1), .val (.int x2), .val (.int cr), .val (.int i), .val (.int j)] [(.int (cr &&& (32768 : Int32)))])) (fun t k => XS.iand X.here hx rfl (hb hby d3_41) rfl k) ?_
      by_cases hc3 : (cr &&& (32768 : Int32)) = (0 : Int32)
      · have hg := (show sit (n + 1) cr = sit n _ from (congrArg (sit n) (if_pos hc3))) ▸ hg
        refine Go.step (S' := s₁.setTop (mkF m 56 #[.val (.ref o0), .val (.int x1), .val (.int x2), .val (.int cr), .val (.int i), .val (.int j)] [])) (fun t k => XS.ifYes X.here hx rfl (pc0 := 42) (pc' := 56) rfl (hb hby d3_42) rfl ((if0 _ _).trans (teq hc3).1) (by decide) (by decide) k) ?_
        refine Go.step (S' := s₁.setTop (mkF m 57 #[.val (.ref o0), .val (.int x1), .val (.int x2), .val (.int cr), .val (.int i), .val (.int j)] [(.int cr)])) (fun t k => XS.iloadN X.here hx rfl (hb hby d3_56) rfl k) ?_
        refine Go.step (S' := s₁.setTop (mkF m 58 #[.val (.ref o0), .val (.int x1), .val (.int x2), .val (.int cr), .val (.int i), .val (.int j)] [(.int (1 : Int32)), (.int cr)])) (fun t k => XS.iconst X.here hx rfl (hb hby d3_57) k) ?_
        refine Go.step (S' := s₁.setTop (mkF m 59 #[.val (.ref o0), .val (.int x1), .val (.int x2), .val (.int cr), .val (.int i), .val (.int j)] [(.int (cr <<< ((1 : Int32) &&& 31)))])) (fun t k => XS.ishl X.here hx rfl (hb hby d3_58) rfl k) ?_
        refine Go.step (S' := s₁.setTop (mkF m 60 #[.val (.ref o0), .val (.int x1), .val (.int x2), .val (.int (cr <<< ((1 : Int32) &&& 31))), .val (.int i), .val (.int j)] [])) (fun t k => XS.istoreN X.here hx rfl (hb hby d3_59) rfl (l' := #[.val (.ref o0), .val (.int x1), .val (.int x2), .val (.int (cr <<< ((1 : Int32) &&& 31))), .val (.int i), .val (.int j)]) rfl k) ?_
        refine Go.step (S' := s₁.setTop (mkF m 63 #[.val (.ref o0), .val (.int x1), .val (.int x2), .val (.int (cr <<< ((1 : Int32) &&& 31))), .val (.int i), .val (.int (j + (1 : Int32)))] [])) (fun t k => XS.iinc X.here hx rfl (hb hby d3_60) rfl (l' := #[.val (.ref o0), .val (.int x1), .val (.int x2), .val (.int (cr <<< ((1 : Int32) &&& 31))), .val (.int i), .val (.int (j + (1 : Int32)))]) rfl k) ?_
        refine Go.step (S' := s₁.setTop (mkF m 31 #[.val (.ref o0), .val (.int x1), .val (.int x2), .val (.int (cr <<< ((1 : Int32) &&& 31))), .val (.int i), .val (.int (j + (1 : Int32)))] [])) (fun t k => XS.goto X.here hx rfl (pc0 := 63) (pc' := 31) rfl (hb hby d3_63) (by decide) (by decide) k) ?_
        refine ih _ _ i (by omega) hj1 ?_
        exact hg
      · have hg := (show sit (n + 1) cr = sit n _ from (congrArg (sit n) (if_neg hc3))) ▸ hg
        refine Go.step (S' := s₁.setTop (mkF m 45 #[.val (.ref o0), .val (.int x1), .val (.int x2), .val (.int cr), .val (.int i), .val (.int j)] [])) (fun t k => XS.ifNo X.here hx rfl (hb hby d3_42) rfl ((if0 _ _).trans (feq hc3).1) k) ?_
        refine Go.step (S' := s₁.setTop (mkF m 46 #[.val (.ref o0), .val (.int x1), .val (.int x2), .val (.int cr), .val (.int i), .val (.int j)] [(.int cr)])) (fun t k => XS.iloadN X.here hx rfl (hb hby d3_45) rfl k) ?_
        refine Go.step (S' := s₁.setTop (mkF m 47 #[.val (.ref o0), .val (.int x1), .val (.int x2), .val (.int cr), .val (.int i), .val (.int j)] [(.int (1 : Int32)), (.int cr)])) (fun t k => XS.iconst X.here hx rfl (hb hby d3_46) k) ?_
        refine Go.step (S' := s₁.setTop (mkF m 48 #[.val (.ref o0), .val (.int x1), .val (.int x2), .val (.int cr), .val (.int i), .val (.int j)] [(.int (cr <<< ((1 : Int32) &&& 31)))])) (fun t k => XS.ishl X.here hx rfl (hb hby d3_47) rfl k) ?_
        refine Go.step (S' := s₁.setTop (mkF m 51 #[.val (.ref o0), .val (.int x1), .val (.int x2), .val (.int cr), .val (.int i), .val (.int j)] [(.int (4129 : Int32)), (.int (cr <<< ((1 : Int32) &&& 31)))])) (fun t k => XS.sipush X.here hx rfl (hb hby d3_48) k) ?_
        refine Go.step (S' := s₁.setTop (mkF m 52 #[.val (.ref o0), .val (.int x1), .val (.int x2), .val (.int cr), .val (.int i), .val (.int j)] [(.int ((cr <<< ((1 : Int32) &&& 31)) ^^^ (4129 : Int32)))])) (fun t k => XS.ixor X.here hx rfl (hb hby d3_51) rfl k) ?_
        refine Go.step (S' := s₁.setTop (mkF m 53 #[.val (.ref o0), .val (.int x1), .val (.int x2), .val (.int ((cr <<< ((1 : Int32) &&& 31)) ^^^ (4129 : Int32))), .val (.int i), .val (.int j)] [])) (fun t k => XS.istoreN X.here hx rfl (hb hby d3_52) rfl (l' := #[.val (.ref o0), .val (.int x1), .val (.int x2), .val (.int ((cr <<< ((1 : Int32) &&& 31)) ^^^ (4129 : Int32))), .val (.int i), .val (.int j)]) rfl k) ?_
        refine Go.step (S' := s₁.setTop (mkF m 60 #[.val (.ref o0), .val (.int x1), .val (.int x2), .val (.int ((cr <<< ((1 : Int32) &&& 31)) ^^^ (4129 : Int32))), .val (.int i), .val (.int j)] [])) (fun t k => XS.goto X.here hx rfl (pc0 := 53) (pc' := 60) rfl (hb hby d3_53) (by decide) (by decide) k) ?_
        refine Go.step (S' := s₁.setTop (mkF m 63 #[.val (.ref o0), .val (.int x1), .val (.int x2), .val (.int ((cr <<< ((1 : Int32) &&& 31)) ^^^ (4129 : Int32))), .val (.int i), .val (.int (j + (1 : Int32)))] [])) (fun t k => XS.iinc X.here hx rfl (hb hby d3_60) rfl (l' := #[.val (.ref o0), .val (.int x1), .val (.int x2), .val (.int ((cr <<< ((1 : Int32) &&& 31)) ^^^ (4129 : Int32))), .val (.int i), .val (.int (j + (1 : Int32)))]) rfl k) ?_
        refine Go.step (S' := s₁.setTop (mkF m 31 #[.val (.ref o0), .val (.int x1), .val (.int x2), .val (.int ((cr <<< ((1 : Int32) &&& 31)) ^^^ (4129 : Int32))), .val (.int i), .val (.int (j + (1 : Int32)))] [])) (fun t k => XS.goto X.here hx rfl (pc0 := 63) (pc' := 31) rfl (hb hby d3_63) (by decide) (by decide) k) ?_
        refine ih _ _ i (by omega) hj1 ?_
        exact hg
  have Outer : ∀ (n : Nat) (i cr : Int32) (u5 : Slot), (u5 = .unset ∨ ∃ z : Int32, u5 = .val (.int z)) → 0 ≤ i.toInt → i.toInt + n = (x1 + x2).toInt → sout bv n i cr = r → Go p e below s (Q3 x1 x2 bv h0 n0) ({ frames := 0, cells := 0, slots := 0, locals := 0 } : Room).cells ({ frames := 0, cells := 0, slots := 0, locals := 0 } : Room).slots (s₁.setTop (mkF m 6 #[.val (.ref o0), .val (.int x1), .val (.int x2), .val (.int cr), .val (.int i), u5] [])) := by
    intro n
    induction n with
    | zero =>
      intro i cr u5 hu hi0 hi hr
      have hge : ¬ (i < (x1 + x2)) := by rw [Int32.lt_iff_toInt_lt]; omega
      refine Go.step (S' := s₁.setTop (mkF m 8 #[.val (.ref o0), .val (.int x1), .val (.int x2), .val (.int cr), .val (.int i), u5] [(.int i)])) (fun t k => XS.iload X.here hx rfl (hb hby d3_6) rfl k) ?_
      refine Go.step (S' := s₁.setTop (mkF m 9 #[.val (.ref o0), .val (.int x1), .val (.int x2), .val (.int cr), .val (.int i), u5] [(.int x1), (.int i)])) (fun t k => XS.iloadN X.here hx rfl (hb hby d3_8) rfl k) ?_
      refine Go.step (S' := s₁.setTop (mkF m 10 #[.val (.ref o0), .val (.int x1), .val (.int x2), .val (.int cr), .val (.int i), u5] [(.int x2), (.int x1), (.int i)])) (fun t k => XS.iloadN X.here hx rfl (hb hby d3_9) rfl k) ?_
      refine Go.step (S' := s₁.setTop (mkF m 11 #[.val (.ref o0), .val (.int x1), .val (.int x2), .val (.int cr), .val (.int i), u5] [(.int (x1 + x2)), (.int i)])) (fun t k => XS.iadd X.here hx rfl (hb hby d3_10) rfl k) ?_
      refine Go.step (S' := s₁.setTop (mkF m 77 #[.val (.ref o0), .val (.int x1), .val (.int x2), .val (.int cr), .val (.int i), u5] [])) (fun t k => XS.icmpYes X.here hx rfl (pc0 := 11) (pc' := 77) rfl (hb hby d3_11) rfl (flt hge).2.1 (by decide) (by decide) k) ?_
      exact Exit _ _ _ hr
    | succ n ih =>
      intro i cr u5 hu hi0 hi hr
      have hlt : i < (x1 + x2) := by rw [Int32.lt_iff_toInt_lt]; omega
      have hci : i.toNatClampNeg < 6 := by have q : ((i.toNatClampNeg : Nat) : Int) = i.toInt := (by show ((i.toInt.toNat : Nat) : Int) = _; omega); omega
      have hin : ¬ (i < 0 ∨ cl.slots.size ≤ i.toNatClampNeg) := by rw [hsz, Int32.lt_iff_toInt_lt, Int32.toInt_zero]; omega
      have hi1 : (i + (1 : Int32)).toInt = i.toInt + 1 := by rw [Jvm.Kit.i32_add (by rw [e1]; omega) (by rw [e1]; omega), e1]
      refine Go.step (S' := s₁.setTop (mkF m 8 #[.val (.ref o0), .val (.int x1), .val (.int x2), .val (.int cr), .val (.int i), u5] [(.int i)])) (fun t k => XS.iload X.here hx rfl (hb hby d3_6) rfl k) ?_
      refine Go.step (S' := s₁.setTop (mkF m 9 #[.val (.ref o0), .val (.int x1), .val (.int x2), .val (.int cr), .val (.int i), u5] [(.int x1), (.int i)])) (fun t k => XS.iloadN X.here hx rfl (hb hby d3_8) rfl k) ?_
      refine Go.step (S' := s₁.setTop (mkF m 10 #[.val (.ref o0), .val (.int x1), .val (.int x2), .val (.int cr), .val (.int i), u5] [(.int x2), (.int x1), (.int i)])) (fun t k => XS.iloadN X.here hx rfl (hb hby d3_9) rfl k) ?_
      refine Go.step (S' := s₁.setTop (mkF m 11 #[.val (.ref o0), .val (.int x1), .val (.int x2), .val (.int cr), .val (.int i), u5] [(.int (x1 + x2)), (.int i)])) (fun t k => XS.iadd X.here hx rfl (hb hby d3_10) rfl k) ?_
      refine Go.step (S' := s₁.setTop (mkF m 14 #[.val (.ref o0), .val (.int x1), .val (.int x2), .val (.int cr), .val (.int i), u5] [])) (fun t k => XS.icmpNo X.here hx rfl (hb hby d3_11) rfl (tlt hlt).2.1 k) ?_
      refine Go.step (S' := s₁.setTop (mkF m 15 #[.val (.ref o0), .val (.int x1), .val (.int x2), .val (.int cr), .val (.int i), u5] [(.int cr)])) (fun t k => XS.iloadN X.here hx rfl (hb hby d3_14) rfl k) ?_
      refine Go.step (S' := s₁.setTop (mkF m 16 #[.val (.ref o0), .val (.int x1), .val (.int x2), .val (.int cr), .val (.int i), u5] [(.ref o0), (.int cr)])) (fun t k => XS.aloadN X.here hx rfl (hb hby d3_15) rfl rfl k) ?_
      refine Go.step (S' := s₁.setTop (mkF m 18 #[.val (.ref o0), .val (.int x1), .val (.int x2), .val (.int cr), .val (.int i), u5] [(.int i), (.ref o0), (.int cr)])) (fun t k => XS.iload X.here hx rfl (hb hby d3_16) rfl k) ?_
      refine Go.step (S' := s₁.setTop (mkF m 19 #[.val (.ref o0), .val (.int x1), .val (.int x2), .val (.int cr), .val (.int i), u5] [(.int (bv i.toNatClampNeg)), (.int cr)])) (fun t k => X.baloadBytes hx (j := i) (v := (.int (bv i.toNatClampNeg))) (by rw [eT]; exact Ar.1) (State.isArrayOf_alike hZ.alike Ar.2.1) Ar.2.2 hin (hat _ hci) (g := (mkF m 18 #[.val (.ref o0), .val (.int x1), .val (.int x2), .val (.int cr), .val (.int i), u5] [(.int i), (.ref o0), (.int cr)])) rfl rfl (hb hby d3_18) _ k) ?_
      refine Go.step (S' := s₁.setTop (mkF m 22 #[.val (.ref o0), .val (.int x1), .val (.int x2), .val (.int cr), .val (.int i), u5] [(.int (255 : Int32)), (.int (bv i.toNatClampNeg)), (.int cr)])) (fun t k => XS.sipush X.here hx rfl (hb hby d3_19) k) ?_
      refine Go.step (S' := s₁.setTop (mkF m 23 #[.val (.ref o0), .val (.int x1), .val (.int x2), .val (.int cr), .val (.int i), u5] [(.int ((bv i.toNatClampNeg) &&& (255 : Int32))), (.int cr)])) (fun t k => XS.iand X.here hx rfl (hb hby d3_22) rfl k) ?_
      refine Go.step (S' := s₁.setTop (mkF m 25 #[.val (.ref o0), .val (.int x1), .val (.int x2), .val (.int cr), .val (.int i), u5] [(.int (8 : Int32)), (.int ((bv i.toNatClampNeg) &&& (255 : Int32))), (.int cr)])) (fun t k => XS.bipush X.here hx rfl (hb hby d3_23) k) ?_
      refine Go.step (S' := s₁.setTop (mkF m 26 #[.val (.ref o0), .val (.int x1), .val (.int x2), .val (.int cr), .val (.int i), u5] [(.int (((bv i.toNatClampNeg) &&& (255 : Int32)) <<< ((8 : Int32) &&& 31))), (.int cr)])) (fun t k => XS.ishl X.here hx rfl (hb hby d3_25) rfl k) ?_
      refine Go.step (S' := s₁.setTop (mkF m 27 #[.val (.ref o0), .val (.int x1), .val (.int x2), .val (.int cr), .val (.int i), u5] [(.int (cr ^^^ (((bv i.toNatClampNeg) &&& (255 : Int32)) <<< ((8 : Int32) &&& 31))))])) (fun t k => XS.ixor X.here hx rfl (hb hby d3_26) rfl k) ?_
      refine Go.step (S' := s₁.setTop (mkF m 28 #[.val (.ref o0), .val (.int x1), .val (.int x2), .val (.int (cr ^^^ (((bv i.toNatClampNeg) &&& (255 : Int32)) <<< ((8 : Int32) &&& 31)))), .val (.int i), u5] [])) (fun t k => XS.istoreN X.here hx rfl (hb hby d3_27) rfl (l' := #[.val (.ref o0), .val (.int x1), .val (.int x2), .val (.int (cr ^^^ (((bv i.toNatClampNeg) &&& (255 : Int32)) <<< ((8 : Int32) &&& 31)))), .val (.int i), u5]) rfl k) ?_
      refine Go.step (S' := s₁.setTop (mkF m 29 #[.val (.ref o0), .val (.int x1), .val (.int x2), .val (.int (cr ^^^ (((bv i.toNatClampNeg) &&& (255 : Int32)) <<< ((8 : Int32) &&& 31)))), .val (.int i), u5] [(.int (0 : Int32))])) (fun t k => XS.iconst X.here hx rfl (hb hby d3_28) k) ?_
      refine Go.step (S' := s₁.setTop (mkF m 31 #[.val (.ref o0), .val (.int x1), .val (.int x2), .val (.int (cr ^^^ (((bv i.toNatClampNeg) &&& (255 : Int32)) <<< ((8 : Int32) &&& 31)))), .val (.int i), .val (.int (0 : Int32))] [])) (fun t k => XS.istore X.here hx rfl (hb hby d3_29) rfl (l' := #[.val (.ref o0), .val (.int x1), .val (.int x2), .val (.int (cr ^^^ (((bv i.toNatClampNeg) &&& (255 : Int32)) <<< ((8 : Int32) &&& 31)))), .val (.int i), .val (.int (0 : Int32))]) (by rcases hu with rfl | ⟨z, rfl⟩ <;> rfl) k) ?_
      refine Inner 8 (0 : Int32) _ i (Nat.le_refl _) (by decide) ?_
      refine Go.step (S' := s₁.setTop (mkF m 67 #[.val (.ref o0), .val (.int x1), .val (.int x2), .val (.int (sit 8 (cr ^^^ (((bv i.toNatClampNeg) &&& (255 : Int32)) <<< ((8 : Int32) &&& 31))))), .val (.int i), .val (.int (8 : Int32))] [(.int (sit 8 (cr ^^^ (((bv i.toNatClampNeg) &&& (255 : Int32)) <<< ((8 : Int32) &&& 31)))))])) (fun t k => XS.iloadN X.here hx rfl (hb hby d3_66) rfl k) ?_
      refine Go.step (S' := s₁.setTop (mkF m 69 #[.val (.ref o0), .val (.int x1), .val (.int x2), .val (.int (sit 8 (cr ^^^ (((bv i.toNatClampNeg) &&& (255 : Int32)) <<< ((8 : Int32) &&& 31))))), .val (.int i), .val (.int (8 : Int32))] [(.int (65535 : Int32)), (.int (sit 8 (cr ^^^ (((bv i.toNatClampNeg) &&& (255 : Int32)) <<< ((8 : Int32) &&& 31)))))])) (fun t k => X.ldcInt hx hown (mvT hZ (hw _ (List.mem_of_getElem? (i := 14) rfl))) (g := (mkF m 67 #[.val (.ref o0), .val (.int x1), .val (.int x2), .val (.int (sit 8 (cr ^^^ (((bv i.toNatClampNeg) &&& (255 : Int32)) <<< ((8 : Int32) &&& 31))))), .val (.int i), .val (.int (8 : Int32))] [(.int (sit 8 (cr ^^^ (((bv i.toNatClampNeg) &&& (255 : Int32)) <<< ((8 : Int32) &&& 31)))))])) rfl (hb hby d3_67) _ k) ?_
      refine Go.step (S' := s₁.setTop (mkF m 70 #[.val (.ref o0), .val (.int x1), .val (.int x2), .val (.int (sit 8 (cr ^^^ (((bv i.toNatClampNeg) &&& (255 : Int32)) <<< ((8 : Int32) &&& 31))))), .val (.int i), .val (.int (8 : Int32))] [(.int ((sit 8 (cr ^^^ (((bv i.toNatClampNeg) &&& (255 : Int32)) <<< ((8 : Int32) &&& 31)))) &&& (65535 : Int32)))])) (fun t k => XS.iand X.here hx rfl (hb hby d3_69) rfl k) ?_
      refine Go.step (S' := s₁.setTop (mkF m 71 #[.val (.ref o0), .val (.int x1), .val (.int x2), .val (.int ((sit 8 (cr ^^^ (((bv i.toNatClampNeg) &&& (255 : Int32)) <<< ((8 : Int32) &&& 31)))) &&& (65535 : Int32))), .val (.int i), .val (.int (8 : Int32))] [])) (fun t k => XS.istoreN X.here hx rfl (hb hby d3_70) rfl (l' := #[.val (.ref o0), .val (.int x1), .val (.int x2), .val (.int ((sit 8 (cr ^^^ (((bv i.toNatClampNeg) &&& (255 : Int32)) <<< ((8 : Int32) &&& 31)))) &&& (65535 : Int32))), .val (.int i), .val (.int (8 : Int32))]) rfl k) ?_
      refine Go.step (S' := s₁.setTop (mkF m 74 #[.val (.ref o0), .val (.int x1), .val (.int x2), .val (.int ((sit 8 (cr ^^^ (((bv i.toNatClampNeg) &&& (255 : Int32)) <<< ((8 : Int32) &&& 31)))) &&& (65535 : Int32))), .val (.int (i + (1 : Int32))), .val (.int (8 : Int32))] [])) (fun t k => XS.iinc X.here hx rfl (hb hby d3_71) rfl (l' := #[.val (.ref o0), .val (.int x1), .val (.int x2), .val (.int ((sit 8 (cr ^^^ (((bv i.toNatClampNeg) &&& (255 : Int32)) <<< ((8 : Int32) &&& 31)))) &&& (65535 : Int32))), .val (.int (i + (1 : Int32))), .val (.int (8 : Int32))]) rfl k) ?_
      refine Go.step (S' := s₁.setTop (mkF m 6 #[.val (.ref o0), .val (.int x1), .val (.int x2), .val (.int ((sit 8 (cr ^^^ (((bv i.toNatClampNeg) &&& (255 : Int32)) <<< ((8 : Int32) &&& 31)))) &&& (65535 : Int32))), .val (.int (i + (1 : Int32))), .val (.int (8 : Int32))] [])) (fun t k => XS.goto X.here hx rfl (pc0 := 74) (pc' := 6) rfl (hb hby d3_74) (by decide) (by decide) k) ?_
      exact ih _ _ _ (Or.inr ⟨_, rfl⟩) (by omega) (by omega) hr
  show Go p e below s (Q3 x1 x2 bv h0 n0) ({ frames := 0, cells := 0, slots := 0, locals := 0 } : Room).cells ({ frames := 0, cells := 0, slots := 0, locals := 0 } : Room).slots (s₁.setTop (entryFrame m #[(.ref o0), (.int x1), (.int x2)] 6))
  rw [ef3]
  refine Go.step (S' := s₁.setTop (mkF m 2 #[.val (.ref o0), .val (.int x1), .val (.int x2), .unset, .unset, .unset] [(.int (65535 : Int32))])) (fun t k => X.ldcInt hx hown (mvT hZ (hw _ (List.mem_of_getElem? (i := 14) rfl))) (g := (mkF m 0 #[.val (.ref o0), .val (.int x1), .val (.int x2), .unset, .unset, .unset] [])) rfl (hb hby d3_0) _ k) ?_
  refine Go.step (S' := s₁.setTop (mkF m 3 #[.val (.ref o0), .val (.int x1), .val (.int x2), .val (.int (65535 : Int32)), .unset, .unset] [])) (fun t k => XS.istoreN X.here hx rfl (hb hby d3_2) rfl (l' := #[.val (.ref o0), .val (.int x1), .val (.int x2), .val (.int (65535 : Int32)), .unset, .unset]) rfl k) ?_
  refine Go.step (S' := s₁.setTop (mkF m 4 #[.val (.ref o0), .val (.int x1), .val (.int x2), .val (.int (65535 : Int32)), .unset, .unset] [(.int x1)])) (fun t k => XS.iloadN X.here hx rfl (hb hby d3_3) rfl k) ?_
  refine Go.step (S' := s₁.setTop (mkF m 6 #[.val (.ref o0), .val (.int x1), .val (.int x2), .val (.int (65535 : Int32)), .val (.int x1), .unset] [])) (fun t k => XS.istore X.here hx rfl (hb hby d3_4) rfl (l' := #[.val (.ref o0), .val (.int x1), .val (.int x2), .val (.int (65535 : Int32)), .val (.int x1), .unset]) rfl k) ?_
  exact Outer _ _ _ _ (Or.inl rfl) g1 (by rw [hsum]; have q : ((x2.toNatClampNeg : Nat) : Int) = x2.toInt := (by show ((x2.toInt.toNat : Nat) : Int) = _; omega); omega) hr0
def bvL0 (x0 x1 : Int32) (k : Nat) : Int32 := match k with
  | 0 => nar .byte (x0.toInt8.toInt32)
  | 1 => nar .byte (((x0.toUInt32 >>> ((8 : Int32) &&& 31).toUInt32).toInt32).toInt8.toInt32)
  | 2 => nar .byte (((x0.toUInt32 >>> ((16 : Int32) &&& 31).toUInt32).toInt32).toInt8.toInt32)
  | 3 => nar .byte (((x0.toUInt32 >>> ((24 : Int32) &&& 31).toUInt32).toInt32).toInt8.toInt32)
  | 4 => nar .byte (x1.toInt8.toInt32)
  | _ => nar .byte (((x1.toUInt32 >>> ((8 : Int32) &&& 31).toUInt32).toInt32).toInt8.toInt32)
def BY (Z : State) (h : Heap) (n0 : Nat) (a : Addr) (w : Nat → Int32) (n : Nat) : Prop :=
  n0 ≤ h.size ∧ n0 ≤ a ∧ ∃ c, Arr Z h a c .byte ∧ c.slots.size = 6 ∧ ∀ j, j < n → c.slots[j]? = some (.int (w j))
theorem BY.new {Z : State} {h h' : Heap} {n0 : Nat} {a : Addr} {w : Nat → Int32} {k : ClassId} (ha : a = h.size) (E : Ext h h') (Z0 : n0 ≤ h.size) (A : Arr Z h' a (newA k .byte 6) .byte) : BY Z h' n0 a w 0 :=
  ⟨Nat.le_trans Z0 E.1, by rw [ha]; exact Z0, _, A, by rw [sz_new]; rfl, fun j hj => absurd hj (Nat.not_lt_zero j)⟩
theorem BY.next {Z : State} {h h' : Heap} {n0 : Nat} {a : Addr} {w : Nat → Int32} {n : Nat} (B : BY Z h n0 a w n) (hn : n < 6) (W : Wr h h' a n (.int (w n))) : BY Z h' n0 a w (n + 1) := by
  obtain ⟨b1, b2, c, b5, b7, b8⟩ := B
  refine ⟨by rw [W.size]; exact b1, b2, _, b5.same W, ?_, fun j hj => ?_⟩
  · show (c.slots.setIfInBounds n _).size = 6
    rw [Array.size_setIfInBounds]; exact b7
  · show (c.slots.setIfInBounds n _)[j]? = _
    by_cases e : j = n
    · subst e; rw [Array.getElem?_setIfInBounds_self_of_lt (by omega)]
    · rw [Array.getElem?_setIfInBounds_ne (Ne.symm e)]; exact b8 j (by omega)
def offF (x2 : Int32) : Int32 := ((x2 &&& (2147483647 : Int32)) - ((x2 &&& (2147483647 : Int32)) / (7 : Int32)) * (7 : Int32))
def lenF (x2 : Int32) : Int32 := ((((x2.toUInt32 >>> ((8 : Int32) &&& 31).toUInt32).toInt32) &&& (2147483647 : Int32)) - ((((x2.toUInt32 >>> ((8 : Int32) &&& 31).toUInt32).toInt32) &&& (2147483647 : Int32)) / ((7 : Int32) - (offF x2))) * ((7 : Int32) - (offF x2)))
theorem own_rem (x y : Int32) : (x - (x / y) * y).toInt = x.toInt.tmod y.toInt := by
  have a := (x % y).toInt_lt; have b := (x % y).le_toInt
  rw [Int32.toInt_mod] at a b
  rw [Int32.toInt_sub, Int32.toInt_mul, Int32.toInt_div, Int.bmod_mul_bmod, Int.sub_bmod_bmod, Int.mul_comm, ← Int.tmod_def]
  exact Jvm.Kit.bmod32 b a
theorem own_off (x : Int32) : 0 ≤ (offF x).toInt ∧ (offF x).toInt < 7 := by
  have e := Jvm.Kit.i32_mask x 2147483647 (k := 31) (by decide) (by decide)
  have e7 : (7 : Int32).toInt = 7 := by decide
  unfold offF
  rw [own_rem, e, e7, Int.tmod_eq_emod_of_nonneg (by omega)]
  omega
theorem own_7 (x : Int32) : ((7 : Int32) - offF x).toInt = 7 - (offF x).toInt := by
  have h := own_off x
  have e7 : (7 : Int32).toInt = 7 := by decide
  rw [Jvm.Kit.i32_sub (by rw [e7]; omega) (by rw [e7]; omega), e7]
theorem own_nz (x : Int32) : (7 : Int32) - offF x ≠ 0 := by
  intro q
  have h := own_off x
  have h2 := own_7 x
  rw [q, Int32.toInt_zero] at h2
  omega
theorem own_len (x : Int32) : 0 ≤ (lenF x).toInt ∧ (lenF x).toInt < 7 - (offF x).toInt := by
  have h := own_off x
  have h7 := own_7 x
  have e := Jvm.Kit.i32_mask ((x.toUInt32 >>> ((8 : Int32) &&& 31).toUInt32).toInt32) 2147483647 (k := 31) (by decide) (by decide)
  unfold lenF
  rw [own_rem, e, h7, Int.tmod_eq_emod_of_nonneg (by omega)]
  exact ⟨Int.emod_nonneg _ (by omega), Int.emod_lt_of_pos _ (by omega)⟩
theorem own_g1 (x : Int32) : 0 ≤ (offF x).toInt := (own_off x).1
theorem own_g2 (x : Int32) : 0 ≤ (lenF x).toInt := (own_len x).1
theorem own_g3 (x : Int32) : (offF x).toInt + (lenF x).toInt ≤ 6 := by have h := own_off x; have h2 := own_len x; omega
theorem ef0 (m : MethodId) (x0 : Int32) (x1 : Int32) (x2 : Int32) : entryFrame m #[(.int x0), (.int x1), (.int x2)] maxLocals = mkF m 0 #[.val (.int x0), .val (.int x1), .val (.int x2), .unset, .unset, .unset, .unset, .unset] [] := by first | (simp [entryFrame, mkF, argsToLocals, Value.category, maxLocals]; done) | rfl
def f0 (x0 : Int32) (x1 : Int32) (x2 : Int32) : Int32 := (if (f3 (offF x2) (lenF x2) (bvL0 x0 x1)) = (f2 (f2 (f2 (f2 (f2 (f2 (65535 : Int32) (bvL0 x0 x1 0) (f1 (0 : Int32) (offF x2) (lenF x2))) (bvL0 x0 x1 1) (f1 (1 : Int32) (offF x2) (lenF x2))) (bvL0 x0 x1 2) (f1 (2 : Int32) (offF x2) (lenF x2))) (bvL0 x0 x1 3) (f1 (3 : Int32) (offF x2) (lenF x2))) (bvL0 x0 x1 4) (f1 (4 : Int32) (offF x2) (lenF x2))) (bvL0 x0 x1 5) (f1 (5 : Int32) (offF x2) (lenF x2))) then (1 : Int32) else (0 : Int32))
def Q0 (x0 : Int32) (x1 : Int32) (x2 : Int32) (h0 : Heap) (n0 : Nat) (v : Option Value) (h : Heap) (L : List Loc) : Prop := v = some (.int (f0 x0 x1 x2)) ∧ Fr n0 L
set_option maxRecDepth 65536 in
set_option maxHeartbeats 40000000 in
theorem rm0 (l : Launch) (Z : State) (a0 : Array Value) (hw : ∀ d ∈ tables_1, d.before a0 Z = true) (ws : List Jvm.Cond) (x0 : Int32) (x1 : Int32) (x2 : Int32) (h0 : Heap) (n0 : Nat) (Z0 : n0 ≤ h0.size) :
    MetFree l x (head1 (Jvm.Cond.code x code maxLocals ret :: ws) room_1) (fun a U => a = #[(.int x0), (.int x1), (.int x2)] ∧ Z.Warmed39 U.vm ∧ U.heap = h0) (fun _ _ _ _ _ => True) (fun _ U o U' => ∃ v L, o = .returned v ∧ Q0 x0 x1 x2 h0 n0 v U'.heap L ∧ FrameEnd U o U' L room_1.cells room_1.slots) := by
  refine MetFree.of_bodySF (plainFor_of_name pn0) hisR ?_
  intro p e s m args below meth c s₁ Bd hml0 hP hK
  obtain ⟨rfl, hZ, hh⟩ := hP
  have hx := Bd.exec
  have hby := Bd.bytes
  have hml : c.maxLocals = 8 := hml0
  have hown : s.vm.findClass "com/example/hearthwire/hearthwire/frame/Crc16ComputePinLaw" = some m.cls := findClass_of_methodNamed Bd.named
  have X0 : Stand p l e room_1 s m #[(.int x0), (.int x1), (.int x2)] below meth c s₁ [] 0 0 := Stand.of_body Bd
  have e0 : s₁.heap = h0 := by rw [← hh, Bd.state]; rfl
  obtain ⟨r, hr0⟩ : ∃ r, f0 x0 x1 x2 = r := ⟨_, rfl⟩
  have B0 : ∀  (T : State) (locs : List Loc) (X : Stand p l e room_1 s m #[(.int x0), (.int x1), (.int x2)] below meth c T locs 0 0) (eT : T.heap = h0) (NF : Fr n0 locs) (hr : f0 x0 x1 x2 = r), Go p e below s (Q0 x0 x1 x2 h0 n0) room_1.cells room_1.slots (T.setTop (mkF m 0 #[.val (.int x0), .val (.int x1), .val (.int x2), .unset, .unset, .unset, .unset, .unset] [])) := by
    intro  T locs X eT NF hr
    unfold f0 at hr
    refine Go.step (S' := T.setTop (mkF m 2 #[.val (.int x0), .val (.int x1), .val (.int x2), .unset, .unset, .unset, .unset, .unset] [(.int (6 : Int32))])) (fun t k => XS.bipush X.here hx rfl (hb hby at_0) k) ?_
    obtain ⟨T1, h1, k1, X1, e1, E1, A1, st1⟩ := newP X hx hZ (hw _ (List.mem_of_getElem? (i := 0) rfl)) eT (g := (mkF m 2 #[.val (.int x0), .val (.int x1), .val (.int x2), .unset, .unset, .unset, .unset, .unset] [(.int (6 : Int32))])) rfl (hb hby at_2) rfl (by decide) (cap := 6) (by decide) (by decide) (by decide) (by decide)
    obtain ⟨aN, ga⟩ : ∃ z, z = h0.size := ⟨_, rfl⟩
    rw [← ga] at A1 st1
    have Bf1 : BY Z h1 n0 aN (bvL0 x0 x1) 0 := BY.new ga E1 Z0 A1
    refine Go.step (S' := T1.setTop (mkF m 4 #[.val (.int x0), .val (.int x1), .val (.int x2), .unset, .unset, .unset, .unset, .unset] [(.ref aN)])) (fun t k => st1 t k) ?_
    refine Go.step (S' := T1.setTop (mkF m 5 #[.val (.int x0), .val (.int x1), .val (.int x2), .val (.ref aN), .unset, .unset, .unset, .unset] [])) (fun t k => XS.astoreN X1.here hx rfl (hb hby at_4) rfl rfl (l' := #[.val (.int x0), .val (.int x1), .val (.int x2), .val (.ref aN), .unset, .unset, .unset, .unset]) rfl k) ?_
    refine Go.step (S' := T1.setTop (mkF m 6 #[.val (.int x0), .val (.int x1), .val (.int x2), .val (.ref aN), .unset, .unset, .unset, .unset] [(.ref aN)])) (fun t k => XS.aloadN X1.here hx rfl (hb hby at_5) rfl rfl k) ?_
    refine Go.step (S' := T1.setTop (mkF m 7 #[.val (.int x0), .val (.int x1), .val (.int x2), .val (.ref aN), .unset, .unset, .unset, .unset] [(.int (0 : Int32)), (.ref aN)])) (fun t k => XS.iconst X1.here hx rfl (hb hby at_6) k) ?_
    refine Go.step (S' := T1.setTop (mkF m 8 #[.val (.int x0), .val (.int x1), .val (.int x2), .val (.ref aN), .unset, .unset, .unset, .unset] [(.int x0), (.int (0 : Int32)), (.ref aN)])) (fun t k => XS.iloadN X1.here hx rfl (hb hby at_7) rfl k) ?_
    refine Go.step (S' := T1.setTop (mkF m 9 #[.val (.int x0), .val (.int x1), .val (.int x2), .val (.ref aN), .unset, .unset, .unset, .unset] [(.int (x0.toInt8.toInt32)), (.int (0 : Int32)), (.ref aN)])) (fun t k => XS.i2b X1.here hx rfl (hb hby at_8) rfl k) ?_
    obtain ⟨_, _, cl2, Ar2, hsz2, -⟩ := id Bf1
    obtain ⟨T2, h2, X2, e2, W2, st2⟩ := stB X1 hx hZ e1 Ar2 (j := (0 : Int32)) (by rw [hsz2]; decide) (g := (mkF m 9 #[.val (.int x0), .val (.int x1), .val (.int x2), .val (.ref aN), .unset, .unset, .unset, .unset] [(.int (x0.toInt8.toInt32)), (.int (0 : Int32)), (.ref aN)])) rfl rfl (hb hby at_9)
    have Bf2 : BY Z h2 n0 aN (bvL0 x0 x1) 1 := Bf1.next (by decide) W2
    have N2 := Fr.snoc X2 NF Bf1.2.1
    refine Go.step (S' := T2.setTop (mkF m 10 #[.val (.int x0), .val (.int x1), .val (.int x2), .val (.ref aN), .unset, .unset, .unset, .unset] [])) (fun t k => st2 t k) ?_
    refine Go.step (S' := T2.setTop (mkF m 11 #[.val (.int x0), .val (.int x1), .val (.int x2), .val (.ref aN), .unset, .unset, .unset, .unset] [(.ref aN)])) (fun t k => XS.aloadN X2.here hx rfl (hb hby at_10) rfl rfl k) ?_
    refine Go.step (S' := T2.setTop (mkF m 12 #[.val (.int x0), .val (.int x1), .val (.int x2), .val (.ref aN), .unset, .unset, .unset, .unset] [(.int (1 : Int32)), (.ref aN)])) (fun t k => XS.iconst X2.here hx rfl (hb hby at_11) k) ?_
    refine Go.step (S' := T2.setTop (mkF m 13 #[.val (.int x0), .val (.int x1), .val (.int x2), .val (.ref aN), .unset, .unset, .unset, .unset] [(.int x0), (.int (1 : Int32)), (.ref aN)])) (fun t k => XS.iloadN X2.here hx rfl (hb hby at_12) rfl k) ?_
    refine Go.step (S' := T2.setTop (mkF m 15 #[.val (.int x0), .val (.int x1), .val (.int x2), .val (.ref aN), .unset, .unset, .unset, .unset] [(.int (8 : Int32)), (.int x0), (.int (1 : Int32)), (.ref aN)])) (fun t k => XS.bipush X2.here hx rfl (hb hby at_13) k) ?_
    refine Go.step (S' := T2.setTop (mkF m 16 #[.val (.int x0), .val (.int x1), .val (.int x2), .val (.ref aN), .unset, .unset, .unset, .unset] [(.int ((x0.toUInt32 >>> ((8 : Int32) &&& 31).toUInt32).toInt32)), (.int (1 : Int32)), (.ref aN)])) (fun t k => XS.iushr X2.here hx rfl (hb hby at_15) rfl k) ?_
    refine Go.step (S' := T2.setTop (mkF m 17 #[.val (.int x0), .val (.int x1), .val (.int x2), .val (.ref aN), .unset, .unset, .unset, .unset] [(.int (((x0.toUInt32 >>> ((8 : Int32) &&& 31).toUInt32).toInt32).toInt8.toInt32)), (.int (1 : Int32)), (.ref aN)])) (fun t k => XS.i2b X2.here hx rfl (hb hby at_16) rfl k) ?_
    obtain ⟨_, _, cl3, Ar3, hsz3, -⟩ := id Bf2
    obtain ⟨T3, h3, X3, e3, W3, st3⟩ := stB X2 hx hZ e2 Ar3 (j := (1 : Int32)) (by rw [hsz3]; decide) (g := (mkF m 17 #[.val (.int x0), .val (.int x1), .val (.int x2), .val (.ref aN), .unset, .unset, .unset, .unset] [(.int (((x0.toUInt32 >>> ((8 : Int32) &&& 31).toUInt32).toInt32).toInt8.toInt32)), (.int (1 : Int32)), (.ref aN)])) rfl rfl (hb hby at_17)
    have Bf3 : BY Z h3 n0 aN (bvL0 x0 x1) 2 := Bf2.next (by decide) W3
    have N3 := Fr.snoc X3 N2 Bf2.2.1
    refine Go.step (S' := T3.setTop (mkF m 18 #[.val (.int x0), .val (.int x1), .val (.int x2), .val (.ref aN), .unset, .unset, .unset, .unset] [])) (fun t k => st3 t k) ?_
    refine Go.step (S' := T3.setTop (mkF m 19 #[.val (.int x0), .val (.int x1), .val (.int x2), .val (.ref aN), .unset, .unset, .unset, .unset] [(.ref aN)])) (fun t k => XS.aloadN X3.here hx rfl (hb hby at_18) rfl rfl k) ?_
    refine Go.step (S' := T3.setTop (mkF m 20 #[.val (.int x0), .val (.int x1), .val (.int x2), .val (.ref aN), .unset, .unset, .unset, .unset] [(.int (2 : Int32)), (.ref aN)])) (fun t k => XS.iconst X3.here hx rfl (hb hby at_19) k) ?_
    refine Go.step (S' := T3.setTop (mkF m 21 #[.val (.int x0), .val (.int x1), .val (.int x2), .val (.ref aN), .unset, .unset, .unset, .unset] [(.int x0), (.int (2 : Int32)), (.ref aN)])) (fun t k => XS.iloadN X3.here hx rfl (hb hby at_20) rfl k) ?_
    refine Go.step (S' := T3.setTop (mkF m 23 #[.val (.int x0), .val (.int x1), .val (.int x2), .val (.ref aN), .unset, .unset, .unset, .unset] [(.int (16 : Int32)), (.int x0), (.int (2 : Int32)), (.ref aN)])) (fun t k => XS.bipush X3.here hx rfl (hb hby at_21) k) ?_
    refine Go.step (S' := T3.setTop (mkF m 24 #[.val (.int x0), .val (.int x1), .val (.int x2), .val (.ref aN), .unset, .unset, .unset, .unset] [(.int ((x0.toUInt32 >>> ((16 : Int32) &&& 31).toUInt32).toInt32)), (.int (2 : Int32)), (.ref aN)])) (fun t k => XS.iushr X3.here hx rfl (hb hby at_23) rfl k) ?_
    refine Go.step (S' := T3.setTop (mkF m 25 #[.val (.int x0), .val (.int x1), .val (.int x2), .val (.ref aN), .unset, .unset, .unset, .unset] [(.int (((x0.toUInt32 >>> ((16 : Int32) &&& 31).toUInt32).toInt32).toInt8.toInt32)), (.int (2 : Int32)), (.ref aN)])) (fun t k => XS.i2b X3.here hx rfl (hb hby at_24) rfl k) ?_
    obtain ⟨_, _, cl4, Ar4, hsz4, -⟩ := id Bf3
    obtain ⟨T4, h4, X4, e4, W4, st4⟩ := stB X3 hx hZ e3 Ar4 (j := (2 : Int32)) (by rw [hsz4]; decide) (g := (mkF m 25 #[.val (.int x0), .val (.int x1), .val (.int x2), .val (.ref aN), .unset, .unset, .unset, .unset] [(.int (((x0.toUInt32 >>> ((16 : Int32) &&& 31).toUInt32).toInt32).toInt8.toInt32)), (.int (2 : Int32)), (.ref aN)])) rfl rfl (hb hby at_25)
    have Bf4 : BY Z h4 n0 aN (bvL0 x0 x1) 3 := Bf3.next (by decide) W4
    have N4 := Fr.snoc X4 N3 Bf3.2.1
    refine Go.step (S' := T4.setTop (mkF m 26 #[.val (.int x0), .val (.int x1), .val (.int x2), .val (.ref aN), .unset, .unset, .unset, .unset] [])) (fun t k => st4 t k) ?_
    refine Go.step (S' := T4.setTop (mkF m 27 #[.val (.int x0), .val (.int x1), .val (.int x2), .val (.ref aN), .unset, .unset, .unset, .unset] [(.ref aN)])) (fun t k => XS.aloadN X4.here hx rfl (hb hby at_26) rfl rfl k) ?_
    refine Go.step (S' := T4.setTop (mkF m 28 #[.val (.int x0), .val (.int x1), .val (.int x2), .val (.ref aN), .unset, .unset, .unset, .unset] [(.int (3 : Int32)), (.ref aN)])) (fun t k => XS.iconst X4.here hx rfl (hb hby at_27) k) ?_
    refine Go.step (S' := T4.setTop (mkF m 29 #[.val (.int x0), .val (.int x1), .val (.int x2), .val (.ref aN), .unset, .unset, .unset, .unset] [(.int x0), (.int (3 : Int32)), (.ref aN)])) (fun t k => XS.iloadN X4.here hx rfl (hb hby at_28) rfl k) ?_
    refine Go.step (S' := T4.setTop (mkF m 31 #[.val (.int x0), .val (.int x1), .val (.int x2), .val (.ref aN), .unset, .unset, .unset, .unset] [(.int (24 : Int32)), (.int x0), (.int (3 : Int32)), (.ref aN)])) (fun t k => XS.bipush X4.here hx rfl (hb hby at_29) k) ?_
    refine Go.step (S' := T4.setTop (mkF m 32 #[.val (.int x0), .val (.int x1), .val (.int x2), .val (.ref aN), .unset, .unset, .unset, .unset] [(.int ((x0.toUInt32 >>> ((24 : Int32) &&& 31).toUInt32).toInt32)), (.int (3 : Int32)), (.ref aN)])) (fun t k => XS.iushr X4.here hx rfl (hb hby at_31) rfl k) ?_
    refine Go.step (S' := T4.setTop (mkF m 33 #[.val (.int x0), .val (.int x1), .val (.int x2), .val (.ref aN), .unset, .unset, .unset, .unset] [(.int (((x0.toUInt32 >>> ((24 : Int32) &&& 31).toUInt32).toInt32).toInt8.toInt32)), (.int (3 : Int32)), (.ref aN)])) (fun t k => XS.i2b X4.here hx rfl (hb hby at_32) rfl k) ?_
    obtain ⟨_, _, cl5, Ar5, hsz5, -⟩ := id Bf4
    obtain ⟨T5, h5, X5, e5, W5, st5⟩ := stB X4 hx hZ e4 Ar5 (j := (3 : Int32)) (by rw [hsz5]; decide) (g := (mkF m 33 #[.val (.int x0), .val (.int x1), .val (.int x2), .val (.ref aN), .unset, .unset, .unset, .unset] [(.int (((x0.toUInt32 >>> ((24 : Int32) &&& 31).toUInt32).toInt32).toInt8.toInt32)), (.int (3 : Int32)), (.ref aN)])) rfl rfl (hb hby at_33)
    have Bf5 : BY Z h5 n0 aN (bvL0 x0 x1) 4 := Bf4.next (by decide) W5
    have N5 := Fr.snoc X5 N4 Bf4.2.1
    refine Go.step (S' := T5.setTop (mkF m 34 #[.val (.int x0), .val (.int x1), .val (.int x2), .val (.ref aN), .unset, .unset, .unset, .unset] [])) (fun t k => st5 t k) ?_
    refine Go.step (S' := T5.setTop (mkF m 35 #[.val (.int x0), .val (.int x1), .val (.int x2), .val (.ref aN), .unset, .unset, .unset, .unset] [(.ref aN)])) (fun t k => XS.aloadN X5.here hx rfl (hb hby at_34) rfl rfl k) ?_
    refine Go.step (S' := T5.setTop (mkF m 36 #[.val (.int x0), .val (.int x1), .val (.int x2), .val (.ref aN), .unset, .unset, .unset, .unset] [(.int (4 : Int32)), (.ref aN)])) (fun t k => XS.iconst X5.here hx rfl (hb hby at_35) k) ?_
    refine Go.step (S' := T5.setTop (mkF m 37 #[.val (.int x0), .val (.int x1), .val (.int x2), .val (.ref aN), .unset, .unset, .unset, .unset] [(.int x1), (.int (4 : Int32)), (.ref aN)])) (fun t k => XS.iloadN X5.here hx rfl (hb hby at_36) rfl k) ?_
    refine Go.step (S' := T5.setTop (mkF m 38 #[.val (.int x0), .val (.int x1), .val (.int x2), .val (.ref aN), .unset, .unset, .unset, .unset] [(.int (x1.toInt8.toInt32)), (.int (4 : Int32)), (.ref aN)])) (fun t k => XS.i2b X5.here hx rfl (hb hby at_37) rfl k) ?_
    obtain ⟨_, _, cl6, Ar6, hsz6, -⟩ := id Bf5
    obtain ⟨T6, h6, X6, e6, W6, st6⟩ := stB X5 hx hZ e5 Ar6 (j := (4 : Int32)) (by rw [hsz6]; decide) (g := (mkF m 38 #[.val (.int x0), .val (.int x1), .val (.int x2), .val (.ref aN), .unset, .unset, .unset, .unset] [(.int (x1.toInt8.toInt32)), (.int (4 : Int32)), (.ref aN)])) rfl rfl (hb hby at_38)
    have Bf6 : BY Z h6 n0 aN (bvL0 x0 x1) 5 := Bf5.next (by decide) W6
    have N6 := Fr.snoc X6 N5 Bf5.2.1
    refine Go.step (S' := T6.setTop (mkF m 39 #[.val (.int x0), .val (.int x1), .val (.int x2), .val (.ref aN), .unset, .unset, .unset, .unset] [])) (fun t k => st6 t k) ?_
    refine Go.step (S' := T6.setTop (mkF m 40 #[.val (.int x0), .val (.int x1), .val (.int x2), .val (.ref aN), .unset, .unset, .unset, .unset] [(.ref aN)])) (fun t k => XS.aloadN X6.here hx rfl (hb hby at_39) rfl rfl k) ?_
    refine Go.step (S' := T6.setTop (mkF m 41 #[.val (.int x0), .val (.int x1), .val (.int x2), .val (.ref aN), .unset, .unset, .unset, .unset] [(.int (5 : Int32)), (.ref aN)])) (fun t k => XS.iconst X6.here hx rfl (hb hby at_40) k) ?_
    refine Go.step (S' := T6.setTop (mkF m 42 #[.val (.int x0), .val (.int x1), .val (.int x2), .val (.ref aN), .unset, .unset, .unset, .unset] [(.int x1), (.int (5 : Int32)), (.ref aN)])) (fun t k => XS.iloadN X6.here hx rfl (hb hby at_41) rfl k) ?_
    refine Go.step (S' := T6.setTop (mkF m 44 #[.val (.int x0), .val (.int x1), .val (.int x2), .val (.ref aN), .unset, .unset, .unset, .unset] [(.int (8 : Int32)), (.int x1), (.int (5 : Int32)), (.ref aN)])) (fun t k => XS.bipush X6.here hx rfl (hb hby at_42) k) ?_
    refine Go.step (S' := T6.setTop (mkF m 45 #[.val (.int x0), .val (.int x1), .val (.int x2), .val (.ref aN), .unset, .unset, .unset, .unset] [(.int ((x1.toUInt32 >>> ((8 : Int32) &&& 31).toUInt32).toInt32)), (.int (5 : Int32)), (.ref aN)])) (fun t k => XS.iushr X6.here hx rfl (hb hby at_44) rfl k) ?_
    refine Go.step (S' := T6.setTop (mkF m 46 #[.val (.int x0), .val (.int x1), .val (.int x2), .val (.ref aN), .unset, .unset, .unset, .unset] [(.int (((x1.toUInt32 >>> ((8 : Int32) &&& 31).toUInt32).toInt32).toInt8.toInt32)), (.int (5 : Int32)), (.ref aN)])) (fun t k => XS.i2b X6.here hx rfl (hb hby at_45) rfl k) ?_
    obtain ⟨_, _, cl7, Ar7, hsz7, -⟩ := id Bf6
    obtain ⟨T7, h7, X7, e7, W7, st7⟩ := stB X6 hx hZ e6 Ar7 (j := (5 : Int32)) (by rw [hsz7]; decide) (g := (mkF m 46 #[.val (.int x0), .val (.int x1), .val (.int x2), .val (.ref aN), .unset, .unset, .unset, .unset] [(.int (((x1.toUInt32 >>> ((8 : Int32) &&& 31).toUInt32).toInt32).toInt8.toInt32)), (.int (5 : Int32)), (.ref aN)])) rfl rfl (hb hby at_46)
    have Bf7 : BY Z h7 n0 aN (bvL0 x0 x1) 6 := Bf6.next (by decide) W7
    have N7 := Fr.snoc X7 N6 Bf6.2.1
    obtain ⟨cl, Ar, hsz, hat⟩ := Bf7.2.2
    skip
    refine Go.step (S' := T7.setTop (mkF m 47 #[.val (.int x0), .val (.int x1), .val (.int x2), .val (.ref aN), .unset, .unset, .unset, .unset] [])) (fun t k => st7 t k) ?_
    refine Go.step (S' := T7.setTop (mkF m 48 #[.val (.int x0), .val (.int x1), .val (.int x2), .val (.ref aN), .unset, .unset, .unset, .unset] [(.int x2)])) (fun t k => XS.iloadN X7.here hx rfl (hb hby at_47) rfl k) ?_
    refine Go.step (S' := T7.setTop (mkF m 50 #[.val (.int x0), .val (.int x1), .val (.int x2), .val (.ref aN), .unset, .unset, .unset, .unset] [(.int (2147483647 : Int32)), (.int x2)])) (fun t k => X7.ldcInt hx hown (mvT hZ (hw _ (List.mem_of_getElem? (i := 1) rfl))) (g := (mkF m 48 #[.val (.int x0), .val (.int x1), .val (.int x2), .val (.ref aN), .unset, .unset, .unset, .unset] [(.int x2)])) rfl (hb hby at_48) _ k) ?_
    refine Go.step (S' := T7.setTop (mkF m 51 #[.val (.int x0), .val (.int x1), .val (.int x2), .val (.ref aN), .unset, .unset, .unset, .unset] [(.int (x2 &&& (2147483647 : Int32)))])) (fun t k => XS.iand X7.here hx rfl (hb hby at_50) rfl k) ?_
    refine Go.step (S' := T7.setTop (mkF m 53 #[.val (.int x0), .val (.int x1), .val (.int x2), .val (.ref aN), .unset, .unset, .unset, .unset] [(.int (7 : Int32)), (.int (x2 &&& (2147483647 : Int32)))])) (fun t k => XS.bipush X7.here hx rfl (hb hby at_51) k) ?_
    refine Go.step (S' := T7.setTop (mkF m 54 #[.val (.int x0), .val (.int x1), .val (.int x2), .val (.ref aN), .unset, .unset, .unset, .unset] [(.int ((x2 &&& (2147483647 : Int32)) - ((x2 &&& (2147483647 : Int32)) / (7 : Int32)) * (7 : Int32)))])) (fun t k => XS.irem X7.here hx rfl (hb hby at_53) rfl (by decide) k) ?_
    refine Go.step (S' := T7.setTop (mkF m 56 #[.val (.int x0), .val (.int x1), .val (.int x2), .val (.ref aN), .val (.int (offF x2)), .unset, .unset, .unset] [])) (fun t k => XS.istore X7.here hx rfl (hb hby at_54) rfl (l' := #[.val (.int x0), .val (.int x1), .val (.int x2), .val (.ref aN), .val (.int (offF x2)), .unset, .unset, .unset]) rfl k) ?_
    refine Go.step (S' := T7.setTop (mkF m 57 #[.val (.int x0), .val (.int x1), .val (.int x2), .val (.ref aN), .val (.int (offF x2)), .unset, .unset, .unset] [(.int x2)])) (fun t k => XS.iloadN X7.here hx rfl (hb hby at_56) rfl k) ?_
    refine Go.step (S' := T7.setTop (mkF m 59 #[.val (.int x0), .val (.int x1), .val (.int x2), .val (.ref aN), .val (.int (offF x2)), .unset, .unset, .unset] [(.int (8 : Int32)), (.int x2)])) (fun t k => XS.bipush X7.here hx rfl (hb hby at_57) k) ?_
    refine Go.step (S' := T7.setTop (mkF m 60 #[.val (.int x0), .val (.int x1), .val (.int x2), .val (.ref aN), .val (.int (offF x2)), .unset, .unset, .unset] [(.int ((x2.toUInt32 >>> ((8 : Int32) &&& 31).toUInt32).toInt32))])) (fun t k => XS.iushr X7.here hx rfl (hb hby at_59) rfl k) ?_
    refine Go.step (S' := T7.setTop (mkF m 62 #[.val (.int x0), .val (.int x1), .val (.int x2), .val (.ref aN), .val (.int (offF x2)), .unset, .unset, .unset] [(.int (2147483647 : Int32)), (.int ((x2.toUInt32 >>> ((8 : Int32) &&& 31).toUInt32).toInt32))])) (fun t k => X7.ldcInt hx hown (mvT hZ (hw _ (List.mem_of_getElem? (i := 1) rfl))) (g := (mkF m 60 #[.val (.int x0), .val (.int x1), .val (.int x2), .val (.ref aN), .val (.int (offF x2)), .unset, .unset, .unset] [(.int ((x2.toUInt32 >>> ((8 : Int32) &&& 31).toUInt32).toInt32))])) rfl (hb hby at_60) _ k) ?_
    refine Go.step (S' := T7.setTop (mkF m 63 #[.val (.int x0), .val (.int x1), .val (.int x2), .val (.ref aN), .val (.int (offF x2)), .unset, .unset, .unset] [(.int (((x2.toUInt32 >>> ((8 : Int32) &&& 31).toUInt32).toInt32) &&& (2147483647 : Int32)))])) (fun t k => XS.iand X7.here hx rfl (hb hby at_62) rfl k) ?_
    refine Go.step (S' := T7.setTop (mkF m 65 #[.val (.int x0), .val (.int x1), .val (.int x2), .val (.ref aN), .val (.int (offF x2)), .unset, .unset, .unset] [(.int (7 : Int32)), (.int (((x2.toUInt32 >>> ((8 : Int32) &&& 31).toUInt32).toInt32) &&& (2147483647 : Int32)))])) (fun t k => XS.bipush X7.here hx rfl (hb hby at_63) k) ?_
    refine Go.step (S' := T7.setTop (mkF m 67 #[.val (.int x0), .val (.int x1), .val (.int x2), .val (.ref aN), .val (.int (offF x2)), .unset, .unset, .unset] [(.int (offF x2)), (.int (7 : Int32)), (.int (((x2.toUInt32 >>> ((8 : Int32) &&& 31).toUInt32).toInt32) &&& (2147483647 : Int32)))])) (fun t k => XS.iload X7.here hx rfl (hb hby at_65) rfl k) ?_
    refine Go.step (S' := T7.setTop (mkF m 68 #[.val (.int x0), .val (.int x1), .val (.int x2), .val (.ref aN), .val (.int (offF x2)), .unset, .unset, .unset] [(.int ((7 : Int32) - (offF x2))), (.int (((x2.toUInt32 >>> ((8 : Int32) &&& 31).toUInt32).toInt32) &&& (2147483647 : Int32)))])) (fun t k => XS.isub X7.here hx rfl (hb hby at_67) rfl k) ?_
    refine Go.step (S' := T7.setTop (mkF m 69 #[.val (.int x0), .val (.int x1), .val (.int x2), .val (.ref aN), .val (.int (offF x2)), .unset, .unset, .unset] [(.int ((((x2.toUInt32 >>> ((8 : Int32) &&& 31).toUInt32).toInt32) &&& (2147483647 : Int32)) - ((((x2.toUInt32 >>> ((8 : Int32) &&& 31).toUInt32).toInt32) &&& (2147483647 : Int32)) / ((7 : Int32) - (offF x2))) * ((7 : Int32) - (offF x2))))])) (fun t k => XS.irem X7.here hx rfl (hb hby at_68) rfl (own_nz _) k) ?_
    refine Go.step (S' := T7.setTop (mkF m 71 #[.val (.int x0), .val (.int x1), .val (.int x2), .val (.ref aN), .val (.int (offF x2)), .val (.int (lenF x2)), .unset, .unset] [])) (fun t k => XS.istore X7.here hx rfl (hb hby at_69) rfl (l' := #[.val (.int x0), .val (.int x1), .val (.int x2), .val (.ref aN), .val (.int (offF x2)), .val (.int (lenF x2)), .unset, .unset]) rfl k) ?_
    refine Go.step (S' := T7.setTop (mkF m 73 #[.val (.int x0), .val (.int x1), .val (.int x2), .val (.ref aN), .val (.int (offF x2)), .val (.int (lenF x2)), .unset, .unset] [(.int (65535 : Int32))])) (fun t k => X7.ldcInt hx hown (mvT hZ (hw _ (List.mem_of_getElem? (i := 2) rfl))) (g := (mkF m 71 #[.val (.int x0), .val (.int x1), .val (.int x2), .val (.ref aN), .val (.int (offF x2)), .val (.int (lenF x2)), .unset, .unset] [])) rfl (hb hby at_71) _ k) ?_
    refine Go.step (S' := T7.setTop (mkF m 75 #[.val (.int x0), .val (.int x1), .val (.int x2), .val (.ref aN), .val (.int (offF x2)), .val (.int (lenF x2)), .val (.int (65535 : Int32)), .unset] [])) (fun t k => XS.istore X7.here hx rfl (hb hby at_73) rfl (l' := #[.val (.int x0), .val (.int x1), .val (.int x2), .val (.ref aN), .val (.int (offF x2)), .val (.int (lenF x2)), .val (.int (65535 : Int32)), .unset]) rfl k) ?_
    refine Go.step (S' := T7.setTop (mkF m 77 #[.val (.int x0), .val (.int x1), .val (.int x2), .val (.ref aN), .val (.int (offF x2)), .val (.int (lenF x2)), .val (.int (65535 : Int32)), .unset] [(.int (65535 : Int32))])) (fun t k => XS.iload X7.here hx rfl (hb hby at_75) rfl k) ?_
    refine Go.step (S' := T7.setTop (mkF m 78 #[.val (.int x0), .val (.int x1), .val (.int x2), .val (.ref aN), .val (.int (offF x2)), .val (.int (lenF x2)), .val (.int (65535 : Int32)), .unset] [(.ref aN), (.int (65535 : Int32))])) (fun t k => XS.aloadN X7.here hx rfl (hb hby at_77) rfl rfl k) ?_
    refine Go.step (S' := T7.setTop (mkF m 79 #[.val (.int x0), .val (.int x1), .val (.int x2), .val (.ref aN), .val (.int (offF x2)), .val (.int (lenF x2)), .val (.int (65535 : Int32)), .unset] [(.int (0 : Int32)), (.ref aN), (.int (65535 : Int32))])) (fun t k => XS.iconst X7.here hx rfl (hb hby at_78) k) ?_
    refine Go.step (S' := T7.setTop (mkF m 80 #[.val (.int x0), .val (.int x1), .val (.int x2), .val (.ref aN), .val (.int (offF x2)), .val (.int (lenF x2)), .val (.int (65535 : Int32)), .unset] [(.int (bvL0 x0 x1 0)), (.int (65535 : Int32))])) (fun t k => X7.baloadBytes hx (j := (0 : Int32)) (v := (.int (bvL0 x0 x1 0))) (by rw [e7]; exact Ar.1) (State.isArrayOf_alike hZ.alike Ar.2.1) Ar.2.2 (by rw [hsz]; decide) (hat 0 (by decide)) (g := (mkF m 79 #[.val (.int x0), .val (.int x1), .val (.int x2), .val (.ref aN), .val (.int (offF x2)), .val (.int (lenF x2)), .val (.int (65535 : Int32)), .unset] [(.int (0 : Int32)), (.ref aN), (.int (65535 : Int32))])) rfl rfl (hb hby at_79) _ k) ?_
    refine Go.step (S' := T7.setTop (mkF m 81 #[.val (.int x0), .val (.int x1), .val (.int x2), .val (.ref aN), .val (.int (offF x2)), .val (.int (lenF x2)), .val (.int (65535 : Int32)), .unset] [(.int (0 : Int32)), (.int (bvL0 x0 x1 0)), (.int (65535 : Int32))])) (fun t k => XS.iconst X7.here hx rfl (hb hby at_80) k) ?_
    refine Go.step (S' := T7.setTop (mkF m 83 #[.val (.int x0), .val (.int x1), .val (.int x2), .val (.ref aN), .val (.int (offF x2)), .val (.int (lenF x2)), .val (.int (65535 : Int32)), .unset] [(.int (offF x2)), (.int (0 : Int32)), (.int (bvL0 x0 x1 0)), (.int (65535 : Int32))])) (fun t k => XS.iload X7.here hx rfl (hb hby at_81) rfl k) ?_
    refine Go.step (S' := T7.setTop (mkF m 85 #[.val (.int x0), .val (.int x1), .val (.int x2), .val (.ref aN), .val (.int (offF x2)), .val (.int (lenF x2)), .val (.int (65535 : Int32)), .unset] [(.int (lenF x2)), (.int (offF x2)), (.int (0 : Int32)), (.int (bvL0 x0 x1 0)), (.int (65535 : Int32))])) (fun t k => XS.iload X7.here hx rfl (hb hby at_83) rfl k) ?_
    obtain ⟨_, _, ⟨T9, L9, k9, n9⟩, -, X9, ⟨Lc9, hQ9, l9, y9, z9⟩, st9⟩ := Jvm.LawKit.callS X7 hx (y := (⟨"com/example/hearthwire/hearthwire/frame/Crc16ComputePinLaw", "in", "(III)Z"⟩ : MethodName)) hown (mvT hZ (hw _ (List.mem_of_getElem? (i := 3) rfl))) (mvT hZ (hw _ (List.mem_of_getElem? (i := 4) rfl))) (mvT hZ (hw _ (List.mem_of_getElem? (i := 5) rfl))) (mvT hZ (hw _ (List.mem_of_getElem? (i := 6) rfl))) (by decide) (backOf (W := 2) (rm1 l Z a0 hw [] (0 : Int32) (offF x2) (lenF x2) h7 n0 Bf7.1) hZ (hw _ (List.mem_of_getElem? (i := 6) rfl)) (hw _ (List.mem_of_getElem? (i := 5) rfl)) (by decide) (by decide)) (g := (mkF m 85 #[.val (.int x0), .val (.int x1), .val (.int x2), .val (.ref aN), .val (.int (offF x2)), .val (.int (lenF x2)), .val (.int (65535 : Int32)), .unset] [(.int (lenF x2)), (.int (offF x2)), (.int (0 : Int32)), (.int (bvL0 x0 x1 0)), (.int (65535 : Int32))])) rfl (by rw [hml]; rfl) (argsL := [(.int (0 : Int32)), (.int (offF x2)), (.int (lenF x2))]) (rest := [(.int (bvL0 x0 x1 0)), (.int (65535 : Int32))]) (lenOf pd0 rfl) rfl (by show 2 * 0 + _ ≤ _; exact Nat.le_of_eq rfl) (hb hby at_85) (fun _ _ => ⟨rfl, e7, (by decide : 1 + 0 ≤ _), (by decide : 6 + 0 ≤ _)⟩)
    dsimp only [Pt.U, Pt.locs, Pt.cells, Pt.slots] at X9 l9 y9 z9 st9 hQ9
    subst l9 y9 z9
    obtain ⟨rfl, Nq9, e9⟩ := hQ9
    have N9 := Fr.app N7 Nq9
    refine Go.step (S' := T9.setTop (mkF m 88 #[.val (.int x0), .val (.int x1), .val (.int x2), .val (.ref aN), .val (.int (offF x2)), .val (.int (lenF x2)), .val (.int (65535 : Int32)), .unset] [(.int (f1 (0 : Int32) (offF x2) (lenF x2))), (.int (bvL0 x0 x1 0)), (.int (65535 : Int32))])) (fun t k => st9 t k) ?_
    obtain ⟨_, _, ⟨T10, L10, k10, n10⟩, -, X10, ⟨Lc10, hQ10, l10, y10, z10⟩, st10⟩ := Jvm.LawKit.callS X9 hx (y := (⟨"com/example/hearthwire/hearthwire/frame/Crc16ComputePinLaw", "step", "(IBZ)I"⟩ : MethodName)) hown (mvT hZ (hw _ (List.mem_of_getElem? (i := 7) rfl))) (mvT hZ (hw _ (List.mem_of_getElem? (i := 8) rfl))) (mvT hZ (hw _ (List.mem_of_getElem? (i := 5) rfl))) (mvT hZ (hw _ (List.mem_of_getElem? (i := 9) rfl))) (by decide) (backOf (W := 0) (rm2 l Z a0 hw [] (65535 : Int32) (bvL0 x0 x1 0) (f1 (0 : Int32) (offF x2) (lenF x2)) h7 n0 Bf7.1) hZ (hw _ (List.mem_of_getElem? (i := 9) rfl)) (hw _ (List.mem_of_getElem? (i := 5) rfl)) (by decide) (by decide)) (g := (mkF m 88 #[.val (.int x0), .val (.int x1), .val (.int x2), .val (.ref aN), .val (.int (offF x2)), .val (.int (lenF x2)), .val (.int (65535 : Int32)), .unset] [(.int (f1 (0 : Int32) (offF x2) (lenF x2))), (.int (bvL0 x0 x1 0)), (.int (65535 : Int32))])) rfl (by rw [hml]; rfl) (argsL := [(.int (65535 : Int32)), (.int (bvL0 x0 x1 0)), (.int (f1 (0 : Int32) (offF x2) (lenF x2)))]) (rest := []) (lenOf pd1 rfl) rfl (by show 2 * 0 + _ ≤ _; exact Nat.le_of_eq rfl) (hb hby at_88) (fun _ _ => ⟨rfl, e9, (by decide : 1 + 0 ≤ _), (by decide : 6 + 0 ≤ _)⟩)
    dsimp only [Pt.U, Pt.locs, Pt.cells, Pt.slots] at X10 l10 y10 z10 st10 hQ10
    subst l10 y10 z10
    obtain ⟨rfl, Nq10, e10⟩ := hQ10
    have N10 := Fr.app N9 Nq10
    refine Go.step (S' := T10.setTop (mkF m 91 #[.val (.int x0), .val (.int x1), .val (.int x2), .val (.ref aN), .val (.int (offF x2)), .val (.int (lenF x2)), .val (.int (65535 : Int32)), .unset] [(.int (f2 (65535 : Int32) (bvL0 x0 x1 0) (f1 (0 : Int32) (offF x2) (lenF x2))))])) (fun t k => st10 t k) ?_
    refine Go.step (S' := T10.setTop (mkF m 93 #[.val (.int x0), .val (.int x1), .val (.int x2), .val (.ref aN), .val (.int (offF x2)), .val (.int (lenF x2)), .val (.int (f2 (65535 : Int32) (bvL0 x0 x1 0) (f1 (0 : Int32) (offF x2) (lenF x2)))), .unset] [])) (fun t k => XS.istore X10.here hx rfl (hb hby at_91) rfl (l' := #[.val (.int x0), .val (.int x1), .val (.int x2), .val (.ref aN), .val (.int (offF x2)), .val (.int (lenF x2)), .val (.int (f2 (65535 : Int32) (bvL0 x0 x1 0) (f1 (0 : Int32) (offF x2) (lenF x2)))), .unset]) rfl k) ?_
    refine Go.step (S' := T10.setTop (mkF m 95 #[.val (.int x0), .val (.int x1), .val (.int x2), .val (.ref aN), .val (.int (offF x2)), .val (.int (lenF x2)), .val (.int (f2 (65535 : Int32) (bvL0 x0 x1 0) (f1 (0 : Int32) (offF x2) (lenF x2)))), .unset] [(.int (f2 (65535 : Int32) (bvL0 x0 x1 0) (f1 (0 : Int32) (offF x2) (lenF x2))))])) (fun t k => XS.iload X10.here hx rfl (hb hby at_93) rfl k) ?_
    refine Go.step (S' := T10.setTop (mkF m 96 #[.val (.int x0), .val (.int x1), .val (.int x2), .val (.ref aN), .val (.int (offF x2)), .val (.int (lenF x2)), .val (.int (f2 (65535 : Int32) (bvL0 x0 x1 0) (f1 (0 : Int32) (offF x2) (lenF x2)))), .unset] [(.ref aN), (.int (f2 (65535 : Int32) (bvL0 x0 x1 0) (f1 (0 : Int32) (offF x2) (lenF x2))))])) (fun t k => XS.aloadN X10.here hx rfl (hb hby at_95) rfl rfl k) ?_
    refine Go.step (S' := T10.setTop (mkF m 97 #[.val (.int x0), .val (.int x1), .val (.int x2), .val (.ref aN), .val (.int (offF x2)), .val (.int (lenF x2)), .val (.int (f2 (65535 : Int32) (bvL0 x0 x1 0) (f1 (0 : Int32) (offF x2) (lenF x2)))), .unset] [(.int (1 : Int32)), (.ref aN), (.int (f2 (65535 : Int32) (bvL0 x0 x1 0) (f1 (0 : Int32) (offF x2) (lenF x2))))])) (fun t k => XS.iconst X10.here hx rfl (hb hby at_96) k) ?_
    refine Go.step (S' := T10.setTop (mkF m 98 #[.val (.int x0), .val (.int x1), .val (.int x2), .val (.ref aN), .val (.int (offF x2)), .val (.int (lenF x2)), .val (.int (f2 (65535 : Int32) (bvL0 x0 x1 0) (f1 (0 : Int32) (offF x2) (lenF x2)))), .unset] [(.int (bvL0 x0 x1 1)), (.int (f2 (65535 : Int32) (bvL0 x0 x1 0) (f1 (0 : Int32) (offF x2) (lenF x2))))])) (fun t k => X10.baloadBytes hx (j := (1 : Int32)) (v := (.int (bvL0 x0 x1 1))) (by rw [e10]; exact Ar.1) (State.isArrayOf_alike hZ.alike Ar.2.1) Ar.2.2 (by rw [hsz]; decide) (hat 1 (by decide)) (g := (mkF m 97 #[.val (.int x0), .val (.int x1), .val (.int x2), .val (.ref aN), .val (.int (offF x2)), .val (.int (lenF x2)), .val (.int (f2 (65535 : Int32) (bvL0 x0 x1 0) (f1 (0 : Int32) (offF x2) (lenF x2)))), .unset] [(.int (1 : Int32)), (.ref aN), (.int (f2 (65535 : Int32) (bvL0 x0 x1 0) (f1 (0 : Int32) (offF x2) (lenF x2))))])) rfl rfl (hb hby at_97) _ k) ?_
    refine Go.step (S' := T10.setTop (mkF m 99 #[.val (.int x0), .val (.int x1), .val (.int x2), .val (.ref aN), .val (.int (offF x2)), .val (.int (lenF x2)), .val (.int (f2 (65535 : Int32) (bvL0 x0 x1 0) (f1 (0 : Int32) (offF x2) (lenF x2)))), .unset] [(.int (1 : Int32)), (.int (bvL0 x0 x1 1)), (.int (f2 (65535 : Int32) (bvL0 x0 x1 0) (f1 (0 : Int32) (offF x2) (lenF x2))))])) (fun t k => XS.iconst X10.here hx rfl (hb hby at_98) k) ?_
    refine Go.step (S' := T10.setTop (mkF m 101 #[.val (.int x0), .val (.int x1), .val (.int x2), .val (.ref aN), .val (.int (offF x2)), .val (.int (lenF x2)), .val (.int (f2 (65535 : Int32) (bvL0 x0 x1 0) (f1 (0 : Int32) (offF x2) (lenF x2)))), .unset] [(.int (offF x2)), (.int (1 : Int32)), (.int (bvL0 x0 x1 1)), (.int (f2 (65535 : Int32) (bvL0 x0 x1 0) (f1 (0 : Int32) (offF x2) (lenF x2))))])) (fun t k => XS.iload X10.here hx rfl (hb hby at_99) rfl k) ?_
    refine Go.step (S' := T10.setTop (mkF m 103 #[.val (.int x0), .val (.int x1), .val (.int x2), .val (.ref aN), .val (.int (offF x2)), .val (.int (lenF x2)), .val (.int (f2 (65535 : Int32) (bvL0 x0 x1 0) (f1 (0 : Int32) (offF x2) (lenF x2)))), .unset] [(.int (lenF x2)), (.int (offF x2)), (.int (1 : Int32)), (.int (bvL0 x0 x1 1)), (.int (f2 (65535 : Int32) (bvL0 x0 x1 0) (f1 (0 : Int32) (offF x2) (lenF x2))))])) (fun t k => XS.iload X10.here hx rfl (hb hby at_101) rfl k) ?_
    obtain ⟨_, _, ⟨T12, L12, k12, n12⟩, -, X12, ⟨Lc12, hQ12, l12, y12, z12⟩, st12⟩ := Jvm.LawKit.callS X10 hx (y := (⟨"com/example/hearthwire/hearthwire/frame/Crc16ComputePinLaw", "in", "(III)Z"⟩ : MethodName)) hown (mvT hZ (hw _ (List.mem_of_getElem? (i := 3) rfl))) (mvT hZ (hw _ (List.mem_of_getElem? (i := 4) rfl))) (mvT hZ (hw _ (List.mem_of_getElem? (i := 5) rfl))) (mvT hZ (hw _ (List.mem_of_getElem? (i := 6) rfl))) (by decide) (backOf (W := 2) (rm1 l Z a0 hw [] (1 : Int32) (offF x2) (lenF x2) h7 n0 Bf7.1) hZ (hw _ (List.mem_of_getElem? (i := 6) rfl)) (hw _ (List.mem_of_getElem? (i := 5) rfl)) (by decide) (by decide)) (g := (mkF m 103 #[.val (.int x0), .val (.int x1), .val (.int x2), .val (.ref aN), .val (.int (offF x2)), .val (.int (lenF x2)), .val (.int (f2 (65535 : Int32) (bvL0 x0 x1 0) (f1 (0 : Int32) (offF x2) (lenF x2)))), .unset] [(.int (lenF x2)), (.int (offF x2)), (.int (1 : Int32)), (.int (bvL0 x0 x1 1)), (.int (f2 (65535 : Int32) (bvL0 x0 x1 0) (f1 (0 : Int32) (offF x2) (lenF x2))))])) rfl (by rw [hml]; rfl) (argsL := [(.int (1 : Int32)), (.int (offF x2)), (.int (lenF x2))]) (rest := [(.int (bvL0 x0 x1 1)), (.int (f2 (65535 : Int32) (bvL0 x0 x1 0) (f1 (0 : Int32) (offF x2) (lenF x2))))]) (lenOf pd0 rfl) rfl (by show 2 * 0 + _ ≤ _; exact Nat.le_of_eq rfl) (hb hby at_103) (fun _ _ => ⟨rfl, e10, (by decide : 1 + 0 ≤ _), (by decide : 6 + 0 ≤ _)⟩)
    dsimp only [Pt.U, Pt.locs, Pt.cells, Pt.slots] at X12 l12 y12 z12 st12 hQ12
    subst l12 y12 z12
    obtain ⟨rfl, Nq12, e12⟩ := hQ12
    have N12 := Fr.app N10 Nq12
    refine Go.step (S' := T12.setTop (mkF m 106 #[.val (.int x0), .val (.int x1), .val (.int x2), .val (.ref aN), .val (.int (offF x2)), .val (.int (lenF x2)), .val (.int (f2 (65535 : Int32) (bvL0 x0 x1 0) (f1 (0 : Int32) (offF x2) (lenF x2)))), .unset] [(.int (f1 (1 : Int32) (offF x2) (lenF x2))), (.int (bvL0 x0 x1 1)), (.int (f2 (65535 : Int32) (bvL0 x0 x1 0) (f1 (0 : Int32) (offF x2) (lenF x2))))])) (fun t k => st12 t k) ?_
    obtain ⟨_, _, ⟨T13, L13, k13, n13⟩, -, X13, ⟨Lc13, hQ13, l13, y13, z13⟩, st13⟩ := Jvm.LawKit.callS X12 hx (y := (⟨"com/example/hearthwire/hearthwire/frame/Crc16ComputePinLaw", "step", "(IBZ)I"⟩ : MethodName)) hown (mvT hZ (hw _ (List.mem_of_getElem? (i := 7) rfl))) (mvT hZ (hw _ (List.mem_of_getElem? (i := 8) rfl))) (mvT hZ (hw _ (List.mem_of_getElem? (i := 5) rfl))) (mvT hZ (hw _ (List.mem_of_getElem? (i := 9) rfl))) (by decide) (backOf (W := 0) (rm2 l Z a0 hw [] (f2 (65535 : Int32) (bvL0 x0 x1 0) (f1 (0 : Int32) (offF x2) (lenF x2))) (bvL0 x0 x1 1) (f1 (1 : Int32) (offF x2) (lenF x2)) h7 n0 Bf7.1) hZ (hw _ (List.mem_of_getElem? (i := 9) rfl)) (hw _ (List.mem_of_getElem? (i := 5) rfl)) (by decide) (by decide)) (g := (mkF m 106 #[.val (.int x0), .val (.int x1), .val (.int x2), .val (.ref aN), .val (.int (offF x2)), .val (.int (lenF x2)), .val (.int (f2 (65535 : Int32) (bvL0 x0 x1 0) (f1 (0 : Int32) (offF x2) (lenF x2)))), .unset] [(.int (f1 (1 : Int32) (offF x2) (lenF x2))), (.int (bvL0 x0 x1 1)), (.int (f2 (65535 : Int32) (bvL0 x0 x1 0) (f1 (0 : Int32) (offF x2) (lenF x2))))])) rfl (by rw [hml]; rfl) (argsL := [(.int (f2 (65535 : Int32) (bvL0 x0 x1 0) (f1 (0 : Int32) (offF x2) (lenF x2)))), (.int (bvL0 x0 x1 1)), (.int (f1 (1 : Int32) (offF x2) (lenF x2)))]) (rest := []) (lenOf pd1 rfl) rfl (by show 2 * 0 + _ ≤ _; exact Nat.le_of_eq rfl) (hb hby at_106) (fun _ _ => ⟨rfl, e12, (by decide : 1 + 0 ≤ _), (by decide : 6 + 0 ≤ _)⟩)
    dsimp only [Pt.U, Pt.locs, Pt.cells, Pt.slots] at X13 l13 y13 z13 st13 hQ13
    subst l13 y13 z13
    obtain ⟨rfl, Nq13, e13⟩ := hQ13
    have N13 := Fr.app N12 Nq13
    refine Go.step (S' := T13.setTop (mkF m 109 #[.val (.int x0), .val (.int x1), .val (.int x2), .val (.ref aN), .val (.int (offF x2)), .val (.int (lenF x2)), .val (.int (f2 (65535 : Int32) (bvL0 x0 x1 0) (f1 (0 : Int32) (offF x2) (lenF x2)))), .unset] [(.int (f2 (f2 (65535 : Int32) (bvL0 x0 x1 0) (f1 (0 : Int32) (offF x2) (lenF x2))) (bvL0 x0 x1 1) (f1 (1 : Int32) (offF x2) (lenF x2))))])) (fun t k => st13 t k) ?_
    refine Go.step (S' := T13.setTop (mkF m 111 #[.val (.int x0), .val (.int x1), .val (.int x2), .val (.ref aN), .val (.int (offF x2)), .val (.int (lenF x2)), .val (.int (f2 (f2 (65535 : Int32) (bvL0 x0 x1 0) (f1 (0 : Int32) (offF x2) (lenF x2))) (bvL0 x0 x1 1) (f1 (1 : Int32) (offF x2) (lenF x2)))), .unset] [])) (fun t k => XS.istore X13.here hx rfl (hb hby at_109) rfl (l' := #[.val (.int x0), .val (.int x1), .val (.int x2), .val (.ref aN), .val (.int (offF x2)), .val (.int (lenF x2)), .val (.int (f2 (f2 (65535 : Int32) (bvL0 x0 x1 0) (f1 (0 : Int32) (offF x2) (lenF x2))) (bvL0 x0 x1 1) (f1 (1 : Int32) (offF x2) (lenF x2)))), .unset]) rfl k) ?_
    refine Go.step (S' := T13.setTop (mkF m 113 #[.val (.int x0), .val (.int x1), .val (.int x2), .val (.ref aN), .val (.int (offF x2)), .val (.int (lenF x2)), .val (.int (f2 (f2 (65535 : Int32) (bvL0 x0 x1 0) (f1 (0 : Int32) (offF x2) (lenF x2))) (bvL0 x0 x1 1) (f1 (1 : Int32) (offF x2) (lenF x2)))), .unset] [(.int (f2 (f2 (65535 : Int32) (bvL0 x0 x1 0) (f1 (0 : Int32) (offF x2) (lenF x2))) (bvL0 x0 x1 1) (f1 (1 : Int32) (offF x2) (lenF x2))))])) (fun t k => XS.iload X13.here hx rfl (hb hby at_111) rfl k) ?_
    refine Go.step (S' := T13.setTop (mkF m 114 #[.val (.int x0), .val (.int x1), .val (.int x2), .val (.ref aN), .val (.int (offF x2)), .val (.int (lenF x2)), .val (.int (f2 (f2 (65535 : Int32) (bvL0 x0 x1 0) (f1 (0 : Int32) (offF x2) (lenF x2))) (bvL0 x0 x1 1) (f1 (1 : Int32) (offF x2) (lenF x2)))), .unset] [(.ref aN), (.int (f2 (f2 (65535 : Int32) (bvL0 x0 x1 0) (f1 (0 : Int32) (offF x2) (lenF x2))) (bvL0 x0 x1 1) (f1 (1 : Int32) (offF x2) (lenF x2))))])) (fun t k => XS.aloadN X13.here hx rfl (hb hby at_113) rfl rfl k) ?_
    refine Go.step (S' := T13.setTop (mkF m 115 #[.val (.int x0), .val (.int x1), .val (.int x2), .val (.ref aN), .val (.int (offF x2)), .val (.int (lenF x2)), .val (.int (f2 (f2 (65535 : Int32) (bvL0 x0 x1 0) (f1 (0 : Int32) (offF x2) (lenF x2))) (bvL0 x0 x1 1) (f1 (1 : Int32) (offF x2) (lenF x2)))), .unset] [(.int (2 : Int32)), (.ref aN), (.int (f2 (f2 (65535 : Int32) (bvL0 x0 x1 0) (f1 (0 : Int32) (offF x2) (lenF x2))) (bvL0 x0 x1 1) (f1 (1 : Int32) (offF x2) (lenF x2))))])) (fun t k => XS.iconst X13.here hx rfl (hb hby at_114) k) ?_
    refine Go.step (S' := T13.setTop (mkF m 116 #[.val (.int x0), .val (.int x1), .val (.int x2), .val (.ref aN), .val (.int (offF x2)), .val (.int (lenF x2)), .val (.int (f2 (f2 (65535 : Int32) (bvL0 x0 x1 0) (f1 (0 : Int32) (offF x2) (lenF x2))) (bvL0 x0 x1 1) (f1 (1 : Int32) (offF x2) (lenF x2)))), .unset] [(.int (bvL0 x0 x1 2)), (.int (f2 (f2 (65535 : Int32) (bvL0 x0 x1 0) (f1 (0 : Int32) (offF x2) (lenF x2))) (bvL0 x0 x1 1) (f1 (1 : Int32) (offF x2) (lenF x2))))])) (fun t k => X13.baloadBytes hx (j := (2 : Int32)) (v := (.int (bvL0 x0 x1 2))) (by rw [e13]; exact Ar.1) (State.isArrayOf_alike hZ.alike Ar.2.1) Ar.2.2 (by rw [hsz]; decide) (hat 2 (by decide)) (g := (mkF m 115 #[.val (.int x0), .val (.int x1), .val (.int x2), .val (.ref aN), .val (.int (offF x2)), .val (.int (lenF x2)), .val (.int (f2 (f2 (65535 : Int32) (bvL0 x0 x1 0) (f1 (0 : Int32) (offF x2) (lenF x2))) (bvL0 x0 x1 1) (f1 (1 : Int32) (offF x2) (lenF x2)))), .unset] [(.int (2 : Int32)), (.ref aN), (.int (f2 (f2 (65535 : Int32) (bvL0 x0 x1 0) (f1 (0 : Int32) (offF x2) (lenF x2))) (bvL0 x0 x1 1) (f1 (1 : Int32) (offF x2) (lenF x2))))])) rfl rfl (hb hby at_115) _ k) ?_
    refine Go.step (S' := T13.setTop (mkF m 117 #[.val (.int x0), .val (.int x1), .val (.int x2), .val (.ref aN), .val (.int (offF x2)), .val (.int (lenF x2)), .val (.int (f2 (f2 (65535 : Int32) (bvL0 x0 x1 0) (f1 (0 : Int32) (offF x2) (lenF x2))) (bvL0 x0 x1 1) (f1 (1 : Int32) (offF x2) (lenF x2)))), .unset] [(.int (2 : Int32)), (.int (bvL0 x0 x1 2)), (.int (f2 (f2 (65535 : Int32) (bvL0 x0 x1 0) (f1 (0 : Int32) (offF x2) (lenF x2))) (bvL0 x0 x1 1) (f1 (1 : Int32) (offF x2) (lenF x2))))])) (fun t k => XS.iconst X13.here hx rfl (hb hby at_116) k) ?_
    refine Go.step (S' := T13.setTop (mkF m 119 #[.val (.int x0), .val (.int x1), .val (.int x2), .val (.ref aN), .val (.int (offF x2)), .val (.int (lenF x2)), .val (.int (f2 (f2 (65535 : Int32) (bvL0 x0 x1 0) (f1 (0 : Int32) (offF x2) (lenF x2))) (bvL0 x0 x1 1) (f1 (1 : Int32) (offF x2) (lenF x2)))), .unset] [(.int (offF x2)), (.int (2 : Int32)), (.int (bvL0 x0 x1 2)), (.int (f2 (f2 (65535 : Int32) (bvL0 x0 x1 0) (f1 (0 : Int32) (offF x2) (lenF x2))) (bvL0 x0 x1 1) (f1 (1 : Int32) (offF x2) (lenF x2))))])) (fun t k => XS.iload X13.here hx rfl (hb hby at_117) rfl k) ?_
    refine Go.step (S' := T13.setTop (mkF m 121 #[.val (.int x0), .val (.int x1), .val (.int x2), .val (.ref aN), .val (.int (offF x2)), .val (.int (lenF x2)), .val (.int (f2 (f2 (65535 : Int32) (bvL0 x0 x1 0) (f1 (0 : Int32) (offF x2) (lenF x2))) (bvL0 x0 x1 1) (f1 (1 : Int32) (offF x2) (lenF x2)))), .unset] [(.int (lenF x2)), (.int (offF x2)), (.int (2 : Int32)), (.int (bvL0 x0 x1 2)), (.int (f2 (f2 (65535 : Int32) (bvL0 x0 x1 0) (f1 (0 : Int32) (offF x2) (lenF x2))) (bvL0 x0 x1 1) (f1 (1 : Int32) (offF x2) (lenF x2))))])) (fun t k => XS.iload X13.here hx rfl (hb hby at_119) rfl k) ?_
    obtain ⟨_, _, ⟨T15, L15, k15, n15⟩, -, X15, ⟨Lc15, hQ15, l15, y15, z15⟩, st15⟩ := Jvm.LawKit.callS X13 hx (y := (⟨"com/example/hearthwire/hearthwire/frame/Crc16ComputePinLaw", "in", "(III)Z"⟩ : MethodName)) hown (mvT hZ (hw _ (List.mem_of_getElem? (i := 3) rfl))) (mvT hZ (hw _ (List.mem_of_getElem? (i := 4) rfl))) (mvT hZ (hw _ (List.mem_of_getElem? (i := 5) rfl))) (mvT hZ (hw _ (List.mem_of_getElem? (i := 6) rfl))) (by decide) (backOf (W := 2) (rm1 l Z a0 hw [] (2 : Int32) (offF x2) (lenF x2) h7 n0 Bf7.1) hZ (hw _ (List.mem_of_getElem? (i := 6) rfl)) (hw _ (List.mem_of_getElem? (i := 5) rfl)) (by decide) (by decide)) (g := (mkF m 121 #[.val (.int x0), .val (.int x1), .val (.int x2), .val (.ref aN), .val (.int (offF x2)), .val (.int (lenF x2)), .val (.int (f2 (f2 (65535 : Int32) (bvL0 x0 x1 0) (f1 (0 : Int32) (offF x2) (lenF x2))) (bvL0 x0 x1 1) (f1 (1 : Int32) (offF x2) (lenF x2)))), .unset] [(.int (lenF x2)), (.int (offF x2)), (.int (2 : Int32)), (.int (bvL0 x0 x1 2)), (.int (f2 (f2 (65535 : Int32) (bvL0 x0 x1 0) (f1 (0 : Int32) (offF x2) (lenF x2))) (bvL0 x0 x1 1) (f1 (1 : Int32) (offF x2) (lenF x2))))])) rfl (by rw [hml]; rfl) (argsL := [(.int (2 : Int32)), (.int (offF x2)), (.int (lenF x2))]) (rest := [(.int (bvL0 x0 x1 2)), (.int (f2 (f2 (65535 : Int32) (bvL0 x0 x1 0) (f1 (0 : Int32) (offF x2) (lenF x2))) (bvL0 x0 x1 1) (f1 (1 : Int32) (offF x2) (lenF x2))))]) (lenOf pd0 rfl) rfl (by show 2 * 0 + _ ≤ _; exact Nat.le_of_eq rfl) (hb hby at_121) (fun _ _ => ⟨rfl, e13, (by decide : 1 + 0 ≤ _), (by decide : 6 + 0 ≤ _)⟩)
    dsimp only [Pt.U, Pt.locs, Pt.cells, Pt.slots] at X15 l15 y15 z15 st15 hQ15
    subst l15 y15 z15
    obtain ⟨rfl, Nq15, e15⟩ := hQ15
    have N15 := Fr.app N13 Nq15
    refine Go.step (S' := T15.setTop (mkF m 124 #[.val (.int x0), .val (.int x1), .val (.int x2), .val (.ref aN), .val (.int (offF x2)), .val (.int (lenF x2)), .val (.int (f2 (f2 (65535 : Int32) (bvL0 x0 x1 0) (f1 (0 : Int32) (offF x2) (lenF x2))) (bvL0 x0 x1 1) (f1 (1 : Int32) (offF x2) (lenF x2)))), .unset] [(.int (f1 (2 : Int32) (offF x2) (lenF x2))), (.int (bvL0 x0 x1 2)), (.int (f2 (f2 (65535 : Int32) (bvL0 x0 x1 0) (f1 (0 : Int32) (offF x2) (lenF x2))) (bvL0 x0 x1 1) (f1 (1 : Int32) (offF x2) (lenF x2))))])) (fun t k => st15 t k) ?_
    obtain ⟨_, _, ⟨T16, L16, k16, n16⟩, -, X16, ⟨Lc16, hQ16, l16, y16, z16⟩, st16⟩ := Jvm.LawKit.callS X15 hx (y := (⟨"com/example/hearthwire/hearthwire/frame/Crc16ComputePinLaw", "step", "(IBZ)I"⟩ : MethodName)) hown (mvT hZ (hw _ (List.mem_of_getElem? (i := 7) rfl))) (mvT hZ (hw _ (List.mem_of_getElem? (i := 8) rfl))) (mvT hZ (hw _ (List.mem_of_getElem? (i := 5) rfl))) (mvT hZ (hw _ (List.mem_of_getElem? (i := 9) rfl))) (by decide) (backOf (W := 0) (rm2 l Z a0 hw [] (f2 (f2 (65535 : Int32) (bvL0 x0 x1 0) (f1 (0 : Int32) (offF x2) (lenF x2))) (bvL0 x0 x1 1) (f1 (1 : Int32) (offF x2) (lenF x2))) (bvL0 x0 x1 2) (f1 (2 : Int32) (offF x2) (lenF x2)) h7 n0 Bf7.1) hZ (hw _ (List.mem_of_getElem? (i := 9) rfl)) (hw _ (List.mem_of_getElem? (i := 5) rfl)) (by decide) (by decide)) (g := (mkF m 124 #[.val (.int x0), .val (.int x1), .val (.int x2), .val (.ref aN), .val (.int (offF x2)), .val (.int (lenF x2)), .val (.int (f2 (f2 (65535 : Int32) (bvL0 x0 x1 0) (f1 (0 : Int32) (offF x2) (lenF x2))) (bvL0 x0 x1 1) (f1 (1 : Int32) (offF x2) (lenF x2)))), .unset] [(.int (f1 (2 : Int32) (offF x2) (lenF x2))), (.int (bvL0 x0 x1 2)), (.int (f2 (f2 (65535 : Int32) (bvL0 x0 x1 0) (f1 (0 : Int32) (offF x2) (lenF x2))) (bvL0 x0 x1 1) (f1 (1 : Int32) (offF x2) (lenF x2))))])) rfl (by rw [hml]; rfl) (argsL := [(.int (f2 (f2 (65535 : Int32) (bvL0 x0 x1 0) (f1 (0 : Int32) (offF x2) (lenF x2))) (bvL0 x0 x1 1) (f1 (1 : Int32) (offF x2) (lenF x2)))), (.int (bvL0 x0 x1 2)), (.int (f1 (2 : Int32) (offF x2) (lenF x2)))]) (rest := []) (lenOf pd1 rfl) rfl (by show 2 * 0 + _ ≤ _; exact Nat.le_of_eq rfl) (hb hby at_124) (fun _ _ => ⟨rfl, e15, (by decide : 1 + 0 ≤ _), (by decide : 6 + 0 ≤ _)⟩)
    dsimp only [Pt.U, Pt.locs, Pt.cells, Pt.slots] at X16 l16 y16 z16 st16 hQ16
    subst l16 y16 z16
    obtain ⟨rfl, Nq16, e16⟩ := hQ16
    have N16 := Fr.app N15 Nq16
    refine Go.step (S' := T16.setTop (mkF m 127 #[.val (.int x0), .val (.int x1), .val (.int x2), .val (.ref aN), .val (.int (offF x2)), .val (.int (lenF x2)), .val (.int (f2 (f2 (65535 : Int32) (bvL0 x0 x1 0) (f1 (0 : Int32) (offF x2) (lenF x2))) (bvL0 x0 x1 1) (f1 (1 : Int32) (offF x2) (lenF x2)))), .unset] [(.int (f2 (f2 (f2 (65535 : Int32) (bvL0 x0 x1 0) (f1 (0 : Int32) (offF x2) (lenF x2))) (bvL0 x0 x1 1) (f1 (1 : Int32) (offF x2) (lenF x2))) (bvL0 x0 x1 2) (f1 (2 : Int32) (offF x2) (lenF x2))))])) (fun t k => st16 t k) ?_
    refine Go.step (S' := T16.setTop (mkF m 129 #[.val (.int x0), .val (.int x1), .val (.int x2), .val (.ref aN), .val (.int (offF x2)), .val (.int (lenF x2)), .val (.int (f2 (f2 (f2 (65535 : Int32) (bvL0 x0 x1 0) (f1 (0 : Int32) (offF x2) (lenF x2))) (bvL0 x0 x1 1) (f1 (1 : Int32) (offF x2) (lenF x2))) (bvL0 x0 x1 2) (f1 (2 : Int32) (offF x2) (lenF x2)))), .unset] [])) (fun t k => XS.istore X16.here hx rfl (hb hby at_127) rfl (l' := #[.val (.int x0), .val (.int x1), .val (.int x2), .val (.ref aN), .val (.int (offF x2)), .val (.int (lenF x2)), .val (.int (f2 (f2 (f2 (65535 : Int32) (bvL0 x0 x1 0) (f1 (0 : Int32) (offF x2) (lenF x2))) (bvL0 x0 x1 1) (f1 (1 : Int32) (offF x2) (lenF x2))) (bvL0 x0 x1 2) (f1 (2 : Int32) (offF x2) (lenF x2)))), .unset]) rfl k) ?_
    refine Go.step (S' := T16.setTop (mkF m 131 #[.val (.int x0), .val (.int x1), .val (.int x2), .val (.ref aN), .val (.int (offF x2)), .val (.int (lenF x2)), .val (.int (f2 (f2 (f2 (65535 : Int32) (bvL0 x0 x1 0) (f1 (0 : Int32) (offF x2) (lenF x2))) (bvL0 x0 x1 1) (f1 (1 : Int32) (offF x2) (lenF x2))) (bvL0 x0 x1 2) (f1 (2 : Int32) (offF x2) (lenF x2)))), .unset] [(.int (f2 (f2 (f2 (65535 : Int32) (bvL0 x0 x1 0) (f1 (0 : Int32) (offF x2) (lenF x2))) (bvL0 x0 x1 1) (f1 (1 : Int32) (offF x2) (lenF x2))) (bvL0 x0 x1 2) (f1 (2 : Int32) (offF x2) (lenF x2))))])) (fun t k => XS.iload X16.here hx rfl (hb hby at_129) rfl k) ?_
    refine Go.step (S' := T16.setTop (mkF m 132 #[.val (.int x0), .val (.int x1), .val (.int x2), .val (.ref aN), .val (.int (offF x2)), .val (.int (lenF x2)), .val (.int (f2 (f2 (f2 (65535 : Int32) (bvL0 x0 x1 0) (f1 (0 : Int32) (offF x2) (lenF x2))) (bvL0 x0 x1 1) (f1 (1 : Int32) (offF x2) (lenF x2))) (bvL0 x0 x1 2) (f1 (2 : Int32) (offF x2) (lenF x2)))), .unset] [(.ref aN), (.int (f2 (f2 (f2 (65535 : Int32) (bvL0 x0 x1 0) (f1 (0 : Int32) (offF x2) (lenF x2))) (bvL0 x0 x1 1) (f1 (1 : Int32) (offF x2) (lenF x2))) (bvL0 x0 x1 2) (f1 (2 : Int32) (offF x2) (lenF x2))))])) (fun t k => XS.aloadN X16.here hx rfl (hb hby at_131) rfl rfl k) ?_
    refine Go.step (S' := T16.setTop (mkF m 133 #[.val (.int x0), .val (.int x1), .val (.int x2), .val (.ref aN), .val (.int (offF x2)), .val (.int (lenF x2)), .val (.int (f2 (f2 (f2 (65535 : Int32) (bvL0 x0 x1 0) (f1 (0 : Int32) (offF x2) (lenF x2))) (bvL0 x0 x1 1) (f1 (1 : Int32) (offF x2) (lenF x2))) (bvL0 x0 x1 2) (f1 (2 : Int32) (offF x2) (lenF x2)))), .unset] [(.int (3 : Int32)), (.ref aN), (.int (f2 (f2 (f2 (65535 : Int32) (bvL0 x0 x1 0) (f1 (0 : Int32) (offF x2) (lenF x2))) (bvL0 x0 x1 1) (f1 (1 : Int32) (offF x2) (lenF x2))) (bvL0 x0 x1 2) (f1 (2 : Int32) (offF x2) (lenF x2))))])) (fun t k => XS.iconst X16.here hx rfl (hb hby at_132) k) ?_
    refine Go.step (S' := T16.setTop (mkF m 134 #[.val (.int x0), .val (.int x1), .val (.int x2), .val (.ref aN), .val (.int (offF x2)), .val (.int (lenF x2)), .val (.int (f2 (f2 (f2 (65535 : Int32) (bvL0 x0 x1 0) (f1 (0 : Int32) (offF x2) (lenF x2))) (bvL0 x0 x1 1) (f1 (1 : Int32) (offF x2) (lenF x2))) (bvL0 x0 x1 2) (f1 (2 : Int32) (offF x2) (lenF x2)))), .unset] [(.int (bvL0 x0 x1 3)), (.int (f2 (f2 (f2 (65535 : Int32) (bvL0 x0 x1 0) (f1 (0 : Int32) (offF x2) (lenF x2))) (bvL0 x0 x1 1) (f1 (1 : Int32) (offF x2) (lenF x2))) (bvL0 x0 x1 2) (f1 (2 : Int32) (offF x2) (lenF x2))))])) (fun t k => X16.baloadBytes hx (j := (3 : Int32)) (v := (.int (bvL0 x0 x1 3))) (by rw [e16]; exact Ar.1) (State.isArrayOf_alike hZ.alike Ar.2.1) Ar.2.2 (by rw [hsz]; decide) (hat 3 (by decide)) (g := (mkF m 133 #[.val (.int x0), .val (.int x1), .val (.int x2), .val (.ref aN), .val (.int (offF x2)), .val (.int (lenF x2)), .val (.int (f2 (f2 (f2 (65535 : Int32) (bvL0 x0 x1 0) (f1 (0 : Int32) (offF x2) (lenF x2))) (bvL0 x0 x1 1) (f1 (1 : Int32) (offF x2) (lenF x2))) (bvL0 x0 x1 2) (f1 (2 : Int32) (offF x2) (lenF x2)))), .unset] [(.int (3 : Int32)), (.ref aN), (.int (f2 (f2 (f2 (65535 : Int32) (bvL0 x0 x1 0) (f1 (0 : Int32) (offF x2) (lenF x2))) (bvL0 x0 x1 1) (f1 (1 : Int32) (offF x2) (lenF x2))) (bvL0 x0 x1 2) (f1 (2 : Int32) (offF x2) (lenF x2))))])) rfl rfl (hb hby at_133) _ k) ?_
    refine Go.step (S' := T16.setTop (mkF m 135 #[.val (.int x0), .val (.int x1), .val (.int x2), .val (.ref aN), .val (.int (offF x2)), .val (.int (lenF x2)), .val (.int (f2 (f2 (f2 (65535 : Int32) (bvL0 x0 x1 0) (f1 (0 : Int32) (offF x2) (lenF x2))) (bvL0 x0 x1 1) (f1 (1 : Int32) (offF x2) (lenF x2))) (bvL0 x0 x1 2) (f1 (2 : Int32) (offF x2) (lenF x2)))), .unset] [(.int (3 : Int32)), (.int (bvL0 x0 x1 3)), (.int (f2 (f2 (f2 (65535 : Int32) (bvL0 x0 x1 0) (f1 (0 : Int32) (offF x2) (lenF x2))) (bvL0 x0 x1 1) (f1 (1 : Int32) (offF x2) (lenF x2))) (bvL0 x0 x1 2) (f1 (2 : Int32) (offF x2) (lenF x2))))])) (fun t k => XS.iconst X16.here hx rfl (hb hby at_134) k) ?_
    refine Go.step (S' := T16.setTop (mkF m 137 #[.val (.int x0), .val (.int x1), .val (.int x2), .val (.ref aN), .val (.int (offF x2)), .val (.int (lenF x2)), .val (.int (f2 (f2 (f2 (65535 : Int32) (bvL0 x0 x1 0) (f1 (0 : Int32) (offF x2) (lenF x2))) (bvL0 x0 x1 1) (f1 (1 : Int32) (offF x2) (lenF x2))) (bvL0 x0 x1 2) (f1 (2 : Int32) (offF x2) (lenF x2)))), .unset] [(.int (offF x2)), (.int (3 : Int32)), (.int (bvL0 x0 x1 3)), (.int (f2 (f2 (f2 (65535 : Int32) (bvL0 x0 x1 0) (f1 (0 : Int32) (offF x2) (lenF x2))) (bvL0 x0 x1 1) (f1 (1 : Int32) (offF x2) (lenF x2))) (bvL0 x0 x1 2) (f1 (2 : Int32) (offF x2) (lenF x2))))])) (fun t k => XS.iload X16.here hx rfl (hb hby at_135) rfl k) ?_
    refine Go.step (S' := T16.setTop (mkF m 139 #[.val (.int x0), .val (.int x1), .val (.int x2), .val (.ref aN), .val (.int (offF x2)), .val (.int (lenF x2)), .val (.int (f2 (f2 (f2 (65535 : Int32) (bvL0 x0 x1 0) (f1 (0 : Int32) (offF x2) (lenF x2))) (bvL0 x0 x1 1) (f1 (1 : Int32) (offF x2) (lenF x2))) (bvL0 x0 x1 2) (f1 (2 : Int32) (offF x2) (lenF x2)))), .unset] [(.int (lenF x2)), (.int (offF x2)), (.int (3 : Int32)), (.int (bvL0 x0 x1 3)), (.int (f2 (f2 (f2 (65535 : Int32) (bvL0 x0 x1 0) (f1 (0 : Int32) (offF x2) (lenF x2))) (bvL0 x0 x1 1) (f1 (1 : Int32) (offF x2) (lenF x2))) (bvL0 x0 x1 2) (f1 (2 : Int32) (offF x2) (lenF x2))))])) (fun t k => XS.iload X16.here hx rfl (hb hby at_137) rfl k) ?_
    obtain ⟨_, _, ⟨T18, L18, k18, n18⟩, -, X18, ⟨Lc18, hQ18, l18, y18, z18⟩, st18⟩ := Jvm.LawKit.callS X16 hx (y := (⟨"com/example/hearthwire/hearthwire/frame/Crc16ComputePinLaw", "in", "(III)Z"⟩ : MethodName)) hown (mvT hZ (hw _ (List.mem_of_getElem? (i := 3) rfl))) (mvT hZ (hw _ (List.mem_of_getElem? (i := 4) rfl))) (mvT hZ (hw _ (List.mem_of_getElem? (i := 5) rfl))) (mvT hZ (hw _ (List.mem_of_getElem? (i := 6) rfl))) (by decide) (backOf (W := 2) (rm1 l Z a0 hw [] (3 : Int32) (offF x2) (lenF x2) h7 n0 Bf7.1) hZ (hw _ (List.mem_of_getElem? (i := 6) rfl)) (hw _ (List.mem_of_getElem? (i := 5) rfl)) (by decide) (by decide)) (g := (mkF m 139 #[.val (.int x0), .val (.int x1), .val (.int x2), .val (.ref aN), .val (.int (offF x2)), .val (.int (lenF x2)), .val (.int (f2 (f2 (f2 (65535 : Int32) (bvL0 x0 x1 0) (f1 (0 : Int32) (offF x2) (lenF x2))) (bvL0 x0 x1 1) (f1 (1 : Int32) (offF x2) (lenF x2))) (bvL0 x0 x1 2) (f1 (2 : Int32) (offF x2) (lenF x2)))), .unset] [(.int (lenF x2)), (.int (offF x2)), (.int (3 : Int32)), (.int (bvL0 x0 x1 3)), (.int (f2 (f2 (f2 (65535 : Int32) (bvL0 x0 x1 0) (f1 (0 : Int32) (offF x2) (lenF x2))) (bvL0 x0 x1 1) (f1 (1 : Int32) (offF x2) (lenF x2))) (bvL0 x0 x1 2) (f1 (2 : Int32) (offF x2) (lenF x2))))])) rfl (by rw [hml]; rfl) (argsL := [(.int (3 : Int32)), (.int (offF x2)), (.int (lenF x2))]) (rest := [(.int (bvL0 x0 x1 3)), (.int (f2 (f2 (f2 (65535 : Int32) (bvL0 x0 x1 0) (f1 (0 : Int32) (offF x2) (lenF x2))) (bvL0 x0 x1 1) (f1 (1 : Int32) (offF x2) (lenF x2))) (bvL0 x0 x1 2) (f1 (2 : Int32) (offF x2) (lenF x2))))]) (lenOf pd0 rfl) rfl (by show 2 * 0 + _ ≤ _; exact Nat.le_of_eq rfl) (hb hby at_139) (fun _ _ => ⟨rfl, e16, (by decide : 1 + 0 ≤ _), (by decide : 6 + 0 ≤ _)⟩)
    dsimp only [Pt.U, Pt.locs, Pt.cells, Pt.slots] at X18 l18 y18 z18 st18 hQ18
    subst l18 y18 z18
    obtain ⟨rfl, Nq18, e18⟩ := hQ18
    have N18 := Fr.app N16 Nq18
    refine Go.step (S' := T18.setTop (mkF m 142 #[.val (.int x0), .val (.int x1), .val (.int x2), .val (.ref aN), .val (.int (offF x2)), .val (.int (lenF x2)), .val (.int (f2 (f2 (f2 (65535 : Int32) (bvL0 x0 x1 0) (f1 (0 : Int32) (offF x2) (lenF x2))) (bvL0 x0 x1 1) (f1 (1 : Int32) (offF x2) (lenF x2))) (bvL0 x0 x1 2) (f1 (2 : Int32) (offF x2) (lenF x2)))), .unset] [(.int (f1 (3 : Int32) (offF x2) (lenF x2))), (.int (bvL0 x0 x1 3)), (.int (f2 (f2 (f2 (65535 : Int32) (bvL0 x0 x1 0) (f1 (0 : Int32) (offF x2) (lenF x2))) (bvL0 x0 x1 1) (f1 (1 : Int32) (offF x2) (lenF x2))) (bvL0 x0 x1 2) (f1 (2 : Int32) (offF x2) (lenF x2))))])) (fun t k => st18 t k) ?_
    obtain ⟨_, _, ⟨T19, L19, k19, n19⟩, -, X19, ⟨Lc19, hQ19, l19, y19, z19⟩, st19⟩ := Jvm.LawKit.callS X18 hx (y := (⟨"com/example/hearthwire/hearthwire/frame/Crc16ComputePinLaw", "step", "(IBZ)I"⟩ : MethodName)) hown (mvT hZ (hw _ (List.mem_of_getElem? (i := 7) rfl))) (mvT hZ (hw _ (List.mem_of_getElem? (i := 8) rfl))) (mvT hZ (hw _ (List.mem_of_getElem? (i := 5) rfl))) (mvT hZ (hw _ (List.mem_of_getElem? (i := 9) rfl))) (by decide) (backOf (W := 0) (rm2 l Z a0 hw [] (f2 (f2 (f2 (65535 : Int32) (bvL0 x0 x1 0) (f1 (0 : Int32) (offF x2) (lenF x2))) (bvL0 x0 x1 1) (f1 (1 : Int32) (offF x2) (lenF x2))) (bvL0 x0 x1 2) (f1 (2 : Int32) (offF x2) (lenF x2))) (bvL0 x0 x1 3) (f1 (3 : Int32) (offF x2) (lenF x2)) h7 n0 Bf7.1) hZ (hw _ (List.mem_of_getElem? (i := 9) rfl)) (hw _ (List.mem_of_getElem? (i := 5) rfl)) (by decide) (by decide)) (g := (mkF m 142 #[.val (.int x0), .val (.int x1), .val (.int x2), .val (.ref aN), .val (.int (offF x2)), .val (.int (lenF x2)), .val (.int (f2 (f2 (f2 (65535 : Int32) (bvL0 x0 x1 0) (f1 (0 : Int32) (offF x2) (lenF x2))) (bvL0 x0 x1 1) (f1 (1 : Int32) (offF x2) (lenF x2))) (bvL0 x0 x1 2) (f1 (2 : Int32) (offF x2) (lenF x2)))), .unset] [(.int (f1 (3 : Int32) (offF x2) (lenF x2))), (.int (bvL0 x0 x1 3)), (.int (f2 (f2 (f2 (65535 : Int32) (bvL0 x0 x1 0) (f1 (0 : Int32) (offF x2) (lenF x2))) (bvL0 x0 x1 1) (f1 (1 : Int32) (offF x2) (lenF x2))) (bvL0 x0 x1 2) (f1 (2 : Int32) (offF x2) (lenF x2))))])) rfl (by rw [hml]; rfl) (argsL := [(.int (f2 (f2 (f2 (65535 : Int32) (bvL0 x0 x1 0) (f1 (0 : Int32) (offF x2) (lenF x2))) (bvL0 x0 x1 1) (f1 (1 : Int32) (offF x2) (lenF x2))) (bvL0 x0 x1 2) (f1 (2 : Int32) (offF x2) (lenF x2)))), (.int (bvL0 x0 x1 3)), (.int (f1 (3 : Int32) (offF x2) (lenF x2)))]) (rest := []) (lenOf pd1 rfl) rfl (by show 2 * 0 + _ ≤ _; exact Nat.le_of_eq rfl) (hb hby at_142) (fun _ _ => ⟨rfl, e18, (by decide : 1 + 0 ≤ _), (by decide : 6 + 0 ≤ _)⟩)
    dsimp only [Pt.U, Pt.locs, Pt.cells, Pt.slots] at X19 l19 y19 z19 st19 hQ19
    subst l19 y19 z19
    obtain ⟨rfl, Nq19, e19⟩ := hQ19
    have N19 := Fr.app N18 Nq19
    refine Go.step (S' := T19.setTop (mkF m 145 #[.val (.int x0), .val (.int x1), .val (.int x2), .val (.ref aN), .val (.int (offF x2)), .val (.int (lenF x2)), .val (.int (f2 (f2 (f2 (65535 : Int32) (bvL0 x0 x1 0) (f1 (0 : Int32) (offF x2) (lenF x2))) (bvL0 x0 x1 1) (f1 (1 : Int32) (offF x2) (lenF x2))) (bvL0 x0 x1 2) (f1 (2 : Int32) (offF x2) (lenF x2)))), .unset] [(.int (f2 (f2 (f2 (f2 (65535 : Int32) (bvL0 x0 x1 0) (f1 (0 : Int32) (offF x2) (lenF x2))) (bvL0 x0 x1 1) (f1 (1 : Int32) (offF x2) (lenF x2))) (bvL0 x0 x1 2) (f1 (2 : Int32) (offF x2) (lenF x2))) (bvL0 x0 x1 3) (f1 (3 : Int32) (offF x2) (lenF x2))))])) (fun t k => st19 t k) ?_
    refine Go.step (S' := T19.setTop (mkF m 147 #[.val (.int x0), .val (.int x1), .val (.int x2), .val (.ref aN), .val (.int (offF x2)), .val (.int (lenF x2)), .val (.int (f2 (f2 (f2 (f2 (65535 : Int32) (bvL0 x0 x1 0) (f1 (0 : Int32) (offF x2) (lenF x2))) (bvL0 x0 x1 1) (f1 (1 : Int32) (offF x2) (lenF x2))) (bvL0 x0 x1 2) (f1 (2 : Int32) (offF x2) (lenF x2))) (bvL0 x0 x1 3) (f1 (3 : Int32) (offF x2) (lenF x2)))), .unset] [])) (fun t k => XS.istore X19.here hx rfl (hb hby at_145) rfl (l' := #[.val (.int x0), .val (.int x1), .val (.int x2), .val (.ref aN), .val (.int (offF x2)), .val (.int (lenF x2)), .val (.int (f2 (f2 (f2 (f2 (65535 : Int32) (bvL0 x0 x1 0) (f1 (0 : Int32) (offF x2) (lenF x2))) (bvL0 x0 x1 1) (f1 (1 : Int32) (offF x2) (lenF x2))) (bvL0 x0 x1 2) (f1 (2 : Int32) (offF x2) (lenF x2))) (bvL0 x0 x1 3) (f1 (3 : Int32) (offF x2) (lenF x2)))), .unset]) rfl k) ?_
    refine Go.step (S' := T19.setTop (mkF m 149 #[.val (.int x0), .val (.int x1), .val (.int x2), .val (.ref aN), .val (.int (offF x2)), .val (.int (lenF x2)), .val (.int (f2 (f2 (f2 (f2 (65535 : Int32) (bvL0 x0 x1 0) (f1 (0 : Int32) (offF x2) (lenF x2))) (bvL0 x0 x1 1) (f1 (1 : Int32) (offF x2) (lenF x2))) (bvL0 x0 x1 2) (f1 (2 : Int32) (offF x2) (lenF x2))) (bvL0 x0 x1 3) (f1 (3 : Int32) (offF x2) (lenF x2)))), .unset] [(.int (f2 (f2 (f2 (f2 (65535 : Int32) (bvL0 x0 x1 0) (f1 (0 : Int32) (offF x2) (lenF x2))) (bvL0 x0 x1 1) (f1 (1 : Int32) (offF x2) (lenF x2))) (bvL0 x0 x1 2) (f1 (2 : Int32) (offF x2) (lenF x2))) (bvL0 x0 x1 3) (f1 (3 : Int32) (offF x2) (lenF x2))))])) (fun t k => XS.iload X19.here hx rfl (hb hby at_147) rfl k) ?_
    refine Go.step (S' := T19.setTop (mkF m 150 #[.val (.int x0), .val (.int x1), .val (.int x2), .val (.ref aN), .val (.int (offF x2)), .val (.int (lenF x2)), .val (.int (f2 (f2 (f2 (f2 (65535 : Int32) (bvL0 x0 x1 0) (f1 (0 : Int32) (offF x2) (lenF x2))) (bvL0 x0 x1 1) (f1 (1 : Int32) (offF x2) (lenF x2))) (bvL0 x0 x1 2) (f1 (2 : Int32) (offF x2) (lenF x2))) (bvL0 x0 x1 3) (f1 (3 : Int32) (offF x2) (lenF x2)))), .unset] [(.ref aN), (.int (f2 (f2 (f2 (f2 (65535 : Int32) (bvL0 x0 x1 0) (f1 (0 : Int32) (offF x2) (lenF x2))) (bvL0 x0 x1 1) (f1 (1 : Int32) (offF x2) (lenF x2))) (bvL0 x0 x1 2) (f1 (2 : Int32) (offF x2) (lenF x2))) (bvL0 x0 x1 3) (f1 (3 : Int32) (offF x2) (lenF x2))))])) (fun t k => XS.aloadN X19.here hx rfl (hb hby at_149) rfl rfl k) ?_
    refine Go.step (S' := T19.setTop (mkF m 151 #[.val (.int x0), .val (.int x1), .val (.int x2), .val (.ref aN), .val (.int (offF x2)), .val (.int (lenF x2)), .val (.int (f2 (f2 (f2 (f2 (65535 : Int32) (bvL0 x0 x1 0) (f1 (0 : Int32) (offF x2) (lenF x2))) (bvL0 x0 x1 1) (f1 (1 : Int32) (offF x2) (lenF x2))) (bvL0 x0 x1 2) (f1 (2 : Int32) (offF x2) (lenF x2))) (bvL0 x0 x1 3) (f1 (3 : Int32) (offF x2) (lenF x2)))), .unset] [(.int (4 : Int32)), (.ref aN), (.int (f2 (f2 (f2 (f2 (65535 : Int32) (bvL0 x0 x1 0) (f1 (0 : Int32) (offF x2) (lenF x2))) (bvL0 x0 x1 1) (f1 (1 : Int32) (offF x2) (lenF x2))) (bvL0 x0 x1 2) (f1 (2 : Int32) (offF x2) (lenF x2))) (bvL0 x0 x1 3) (f1 (3 : Int32) (offF x2) (lenF x2))))])) (fun t k => XS.iconst X19.here hx rfl (hb hby at_150) k) ?_
    refine Go.step (S' := T19.setTop (mkF m 152 #[.val (.int x0), .val (.int x1), .val (.int x2), .val (.ref aN), .val (.int (offF x2)), .val (.int (lenF x2)), .val (.int (f2 (f2 (f2 (f2 (65535 : Int32) (bvL0 x0 x1 0) (f1 (0 : Int32) (offF x2) (lenF x2))) (bvL0 x0 x1 1) (f1 (1 : Int32) (offF x2) (lenF x2))) (bvL0 x0 x1 2) (f1 (2 : Int32) (offF x2) (lenF x2))) (bvL0 x0 x1 3) (f1 (3 : Int32) (offF x2) (lenF x2)))), .unset] [(.int (bvL0 x0 x1 4)), (.int (f2 (f2 (f2 (f2 (65535 : Int32) (bvL0 x0 x1 0) (f1 (0 : Int32) (offF x2) (lenF x2))) (bvL0 x0 x1 1) (f1 (1 : Int32) (offF x2) (lenF x2))) (bvL0 x0 x1 2) (f1 (2 : Int32) (offF x2) (lenF x2))) (bvL0 x0 x1 3) (f1 (3 : Int32) (offF x2) (lenF x2))))])) (fun t k => X19.baloadBytes hx (j := (4 : Int32)) (v := (.int (bvL0 x0 x1 4))) (by rw [e19]; exact Ar.1) (State.isArrayOf_alike hZ.alike Ar.2.1) Ar.2.2 (by rw [hsz]; decide) (hat 4 (by decide)) (g := (mkF m 151 #[.val (.int x0), .val (.int x1), .val (.int x2), .val (.ref aN), .val (.int (offF x2)), .val (.int (lenF x2)), .val (.int (f2 (f2 (f2 (f2 (65535 : Int32) (bvL0 x0 x1 0) (f1 (0 : Int32) (offF x2) (lenF x2))) (bvL0 x0 x1 1) (f1 (1 : Int32) (offF x2) (lenF x2))) (bvL0 x0 x1 2) (f1 (2 : Int32) (offF x2) (lenF x2))) (bvL0 x0 x1 3) (f1 (3 : Int32) (offF x2) (lenF x2)))), .unset] [(.int (4 : Int32)), (.ref aN), (.int (f2 (f2 (f2 (f2 (65535 : Int32) (bvL0 x0 x1 0) (f1 (0 : Int32) (offF x2) (lenF x2))) (bvL0 x0 x1 1) (f1 (1 : Int32) (offF x2) (lenF x2))) (bvL0 x0 x1 2) (f1 (2 : Int32) (offF x2) (lenF x2))) (bvL0 x0 x1 3) (f1 (3 : Int32) (offF x2) (lenF x2))))])) rfl rfl (hb hby at_151) _ k) ?_
    refine Go.step (S' := T19.setTop (mkF m 153 #[.val (.int x0), .val (.int x1), .val (.int x2), .val (.ref aN), .val (.int (offF x2)), .val (.int (lenF x2)), .val (.int (f2 (f2 (f2 (f2 (65535 : Int32) (bvL0 x0 x1 0) (f1 (0 : Int32) (offF x2) (lenF x2))) (bvL0 x0 x1 1) (f1 (1 : Int32) (offF x2) (lenF x2))) (bvL0 x0 x1 2) (f1 (2 : Int32) (offF x2) (lenF x2))) (bvL0 x0 x1 3) (f1 (3 : Int32) (offF x2) (lenF x2)))), .unset] [(.int (4 : Int32)), (.int (bvL0 x0 x1 4)), (.int (f2 (f2 (f2 (f2 (65535 : Int32) (bvL0 x0 x1 0) (f1 (0 : Int32) (offF x2) (lenF x2))) (bvL0 x0 x1 1) (f1 (1 : Int32) (offF x2) (lenF x2))) (bvL0 x0 x1 2) (f1 (2 : Int32) (offF x2) (lenF x2))) (bvL0 x0 x1 3) (f1 (3 : Int32) (offF x2) (lenF x2))))])) (fun t k => XS.iconst X19.here hx rfl (hb hby at_152) k) ?_
    refine Go.step (S' := T19.setTop (mkF m 155 #[.val (.int x0), .val (.int x1), .val (.int x2), .val (.ref aN), .val (.int (offF x2)), .val (.int (lenF x2)), .val (.int (f2 (f2 (f2 (f2 (65535 : Int32) (bvL0 x0 x1 0) (f1 (0 : Int32) (offF x2) (lenF x2))) (bvL0 x0 x1 1) (f1 (1 : Int32) (offF x2) (lenF x2))) (bvL0 x0 x1 2) (f1 (2 : Int32) (offF x2) (lenF x2))) (bvL0 x0 x1 3) (f1 (3 : Int32) (offF x2) (lenF x2)))), .unset] [(.int (offF x2)), (.int (4 : Int32)), (.int (bvL0 x0 x1 4)), (.int (f2 (f2 (f2 (f2 (65535 : Int32) (bvL0 x0 x1 0) (f1 (0 : Int32) (offF x2) (lenF x2))) (bvL0 x0 x1 1) (f1 (1 : Int32) (offF x2) (lenF x2))) (bvL0 x0 x1 2) (f1 (2 : Int32) (offF x2) (lenF x2))) (bvL0 x0 x1 3) (f1 (3 : Int32) (offF x2) (lenF x2))))])) (fun t k => XS.iload X19.here hx rfl (hb hby at_153) rfl k) ?_
    refine Go.step (S' := T19.setTop (mkF m 157 #[.val (.int x0), .val (.int x1), .val (.int x2), .val (.ref aN), .val (.int (offF x2)), .val (.int (lenF x2)), .val (.int (f2 (f2 (f2 (f2 (65535 : Int32) (bvL0 x0 x1 0) (f1 (0 : Int32) (offF x2) (lenF x2))) (bvL0 x0 x1 1) (f1 (1 : Int32) (offF x2) (lenF x2))) (bvL0 x0 x1 2) (f1 (2 : Int32) (offF x2) (lenF x2))) (bvL0 x0 x1 3) (f1 (3 : Int32) (offF x2) (lenF x2)))), .unset] [(.int (lenF x2)), (.int (offF x2)), (.int (4 : Int32)), (.int (bvL0 x0 x1 4)), (.int (f2 (f2 (f2 (f2 (65535 : Int32) (bvL0 x0 x1 0) (f1 (0 : Int32) (offF x2) (lenF x2))) (bvL0 x0 x1 1) (f1 (1 : Int32) (offF x2) (lenF x2))) (bvL0 x0 x1 2) (f1 (2 : Int32) (offF x2) (lenF x2))) (bvL0 x0 x1 3) (f1 (3 : Int32) (offF x2) (lenF x2))))])) (fun t k => XS.iload X19.here hx rfl (hb hby at_155) rfl k) ?_
    obtain ⟨_, _, ⟨T21, L21, k21, n21⟩, -, X21, ⟨Lc21, hQ21, l21, y21, z21⟩, st21⟩ := Jvm.LawKit.callS X19 hx (y := (⟨"com/example/hearthwire/hearthwire/frame/Crc16ComputePinLaw", "in", "(III)Z"⟩ : MethodName)) hown (mvT hZ (hw _ (List.mem_of_getElem? (i := 3) rfl))) (mvT hZ (hw _ (List.mem_of_getElem? (i := 4) rfl))) (mvT hZ (hw _ (List.mem_of_getElem? (i := 5) rfl))) (mvT hZ (hw _ (List.mem_of_getElem? (i := 6) rfl))) (by decide) (backOf (W := 2) (rm1 l Z a0 hw [] (4 : Int32) (offF x2) (lenF x2) h7 n0 Bf7.1) hZ (hw _ (List.mem_of_getElem? (i := 6) rfl)) (hw _ (List.mem_of_getElem? (i := 5) rfl)) (by decide) (by decide)) (g := (mkF m 157 #[.val (.int x0), .val (.int x1), .val (.int x2), .val (.ref aN), .val (.int (offF x2)), .val (.int (lenF x2)), .val (.int (f2 (f2 (f2 (f2 (65535 : Int32) (bvL0 x0 x1 0) (f1 (0 : Int32) (offF x2) (lenF x2))) (bvL0 x0 x1 1) (f1 (1 : Int32) (offF x2) (lenF x2))) (bvL0 x0 x1 2) (f1 (2 : Int32) (offF x2) (lenF x2))) (bvL0 x0 x1 3) (f1 (3 : Int32) (offF x2) (lenF x2)))), .unset] [(.int (lenF x2)), (.int (offF x2)), (.int (4 : Int32)), (.int (bvL0 x0 x1 4)), (.int (f2 (f2 (f2 (f2 (65535 : Int32) (bvL0 x0 x1 0) (f1 (0 : Int32) (offF x2) (lenF x2))) (bvL0 x0 x1 1) (f1 (1 : Int32) (offF x2) (lenF x2))) (bvL0 x0 x1 2) (f1 (2 : Int32) (offF x2) (lenF x2))) (bvL0 x0 x1 3) (f1 (3 : Int32) (offF x2) (lenF x2))))])) rfl (by rw [hml]; rfl) (argsL := [(.int (4 : Int32)), (.int (offF x2)), (.int (lenF x2))]) (rest := [(.int (bvL0 x0 x1 4)), (.int (f2 (f2 (f2 (f2 (65535 : Int32) (bvL0 x0 x1 0) (f1 (0 : Int32) (offF x2) (lenF x2))) (bvL0 x0 x1 1) (f1 (1 : Int32) (offF x2) (lenF x2))) (bvL0 x0 x1 2) (f1 (2 : Int32) (offF x2) (lenF x2))) (bvL0 x0 x1 3) (f1 (3 : Int32) (offF x2) (lenF x2))))]) (lenOf pd0 rfl) rfl (by show 2 * 0 + _ ≤ _; exact Nat.le_of_eq rfl) (hb hby at_157) (fun _ _ => ⟨rfl, e19, (by decide : 1 + 0 ≤ _), (by decide : 6 + 0 ≤ _)⟩)
    dsimp only [Pt.U, Pt.locs, Pt.cells, Pt.slots] at X21 l21 y21 z21 st21 hQ21
    subst l21 y21 z21
    obtain ⟨rfl, Nq21, e21⟩ := hQ21
    have N21 := Fr.app N19 Nq21
    refine Go.step (S' := T21.setTop (mkF m 160 #[.val (.int x0), .val (.int x1), .val (.int x2), .val (.ref aN), .val (.int (offF x2)), .val (.int (lenF x2)), .val (.int (f2 (f2 (f2 (f2 (65535 : Int32) (bvL0 x0 x1 0) (f1 (0 : Int32) (offF x2) (lenF x2))) (bvL0 x0 x1 1) (f1 (1 : Int32) (offF x2) (lenF x2))) (bvL0 x0 x1 2) (f1 (2 : Int32) (offF x2) (lenF x2))) (bvL0 x0 x1 3) (f1 (3 : Int32) (offF x2) (lenF x2)))), .unset] [(.int (f1 (4 : Int32) (offF x2) (lenF x2))), (.int (bvL0 x0 x1 4)), (.int (f2 (f2 (f2 (f2 (65535 : Int32) (bvL0 x0 x1 0) (f1 (0 : Int32) (offF x2) (lenF x2))) (bvL0 x0 x1 1) (f1 (1 : Int32) (offF x2) (lenF x2))) (bvL0 x0 x1 2) (f1 (2 : Int32) (offF x2) (lenF x2))) (bvL0 x0 x1 3) (f1 (3 : Int32) (offF x2) (lenF x2))))])) (fun t k => st21 t k) ?_
    obtain ⟨_, _, ⟨T22, L22, k22, n22⟩, -, X22, ⟨Lc22, hQ22, l22, y22, z22⟩, st22⟩ := Jvm.LawKit.callS X21 hx (y := (⟨"com/example/hearthwire/hearthwire/frame/Crc16ComputePinLaw", "step", "(IBZ)I"⟩ : MethodName)) hown (mvT hZ (hw _ (List.mem_of_getElem? (i := 7) rfl))) (mvT hZ (hw _ (List.mem_of_getElem? (i := 8) rfl))) (mvT hZ (hw _ (List.mem_of_getElem? (i := 5) rfl))) (mvT hZ (hw _ (List.mem_of_getElem? (i := 9) rfl))) (by decide) (backOf (W := 0) (rm2 l Z a0 hw [] (f2 (f2 (f2 (f2 (65535 : Int32) (bvL0 x0 x1 0) (f1 (0 : Int32) (offF x2) (lenF x2))) (bvL0 x0 x1 1) (f1 (1 : Int32) (offF x2) (lenF x2))) (bvL0 x0 x1 2) (f1 (2 : Int32) (offF x2) (lenF x2))) (bvL0 x0 x1 3) (f1 (3 : Int32) (offF x2) (lenF x2))) (bvL0 x0 x1 4) (f1 (4 : Int32) (offF x2) (lenF x2)) h7 n0 Bf7.1) hZ (hw _ (List.mem_of_getElem? (i := 9) rfl)) (hw _ (List.mem_of_getElem? (i := 5) rfl)) (by decide) (by decide)) (g := (mkF m 160 #[.val (.int x0), .val (.int x1), .val (.int x2), .val (.ref aN), .val (.int (offF x2)), .val (.int (lenF x2)), .val (.int (f2 (f2 (f2 (f2 (65535 : Int32) (bvL0 x0 x1 0) (f1 (0 : Int32) (offF x2) (lenF x2))) (bvL0 x0 x1 1) (f1 (1 : Int32) (offF x2) (lenF x2))) (bvL0 x0 x1 2) (f1 (2 : Int32) (offF x2) (lenF x2))) (bvL0 x0 x1 3) (f1 (3 : Int32) (offF x2) (lenF x2)))), .unset] [(.int (f1 (4 : Int32) (offF x2) (lenF x2))), (.int (bvL0 x0 x1 4)), (.int (f2 (f2 (f2 (f2 (65535 : Int32) (bvL0 x0 x1 0) (f1 (0 : Int32) (offF x2) (lenF x2))) (bvL0 x0 x1 1) (f1 (1 : Int32) (offF x2) (lenF x2))) (bvL0 x0 x1 2) (f1 (2 : Int32) (offF x2) (lenF x2))) (bvL0 x0 x1 3) (f1 (3 : Int32) (offF x2) (lenF x2))))])) rfl (by rw [hml]; rfl) (argsL := [(.int (f2 (f2 (f2 (f2 (65535 : Int32) (bvL0 x0 x1 0) (f1 (0 : Int32) (offF x2) (lenF x2))) (bvL0 x0 x1 1) (f1 (1 : Int32) (offF x2) (lenF x2))) (bvL0 x0 x1 2) (f1 (2 : Int32) (offF x2) (lenF x2))) (bvL0 x0 x1 3) (f1 (3 : Int32) (offF x2) (lenF x2)))), (.int (bvL0 x0 x1 4)), (.int (f1 (4 : Int32) (offF x2) (lenF x2)))]) (rest := []) (lenOf pd1 rfl) rfl (by show 2 * 0 + _ ≤ _; exact Nat.le_of_eq rfl) (hb hby at_160) (fun _ _ => ⟨rfl, e21, (by decide : 1 + 0 ≤ _), (by decide : 6 + 0 ≤ _)⟩)
    dsimp only [Pt.U, Pt.locs, Pt.cells, Pt.slots] at X22 l22 y22 z22 st22 hQ22
    subst l22 y22 z22
    obtain ⟨rfl, Nq22, e22⟩ := hQ22
    have N22 := Fr.app N21 Nq22
    refine Go.step (S' := T22.setTop (mkF m 163 #[.val (.int x0), .val (.int x1), .val (.int x2), .val (.ref aN), .val (.int (offF x2)), .val (.int (lenF x2)), .val (.int (f2 (f2 (f2 (f2 (65535 : Int32) (bvL0 x0 x1 0) (f1 (0 : Int32) (offF x2) (lenF x2))) (bvL0 x0 x1 1) (f1 (1 : Int32) (offF x2) (lenF x2))) (bvL0 x0 x1 2) (f1 (2 : Int32) (offF x2) (lenF x2))) (bvL0 x0 x1 3) (f1 (3 : Int32) (offF x2) (lenF x2)))), .unset] [(.int (f2 (f2 (f2 (f2 (f2 (65535 : Int32) (bvL0 x0 x1 0) (f1 (0 : Int32) (offF x2) (lenF x2))) (bvL0 x0 x1 1) (f1 (1 : Int32) (offF x2) (lenF x2))) (bvL0 x0 x1 2) (f1 (2 : Int32) (offF x2) (lenF x2))) (bvL0 x0 x1 3) (f1 (3 : Int32) (offF x2) (lenF x2))) (bvL0 x0 x1 4) (f1 (4 : Int32) (offF x2) (lenF x2))))])) (fun t k => st22 t k) ?_
    refine Go.step (S' := T22.setTop (mkF m 165 #[.val (.int x0), .val (.int x1), .val (.int x2), .val (.ref aN), .val (.int (offF x2)), .val (.int (lenF x2)), .val (.int (f2 (f2 (f2 (f2 (f2 (65535 : Int32) (bvL0 x0 x1 0) (f1 (0 : Int32) (offF x2) (lenF x2))) (bvL0 x0 x1 1) (f1 (1 : Int32) (offF x2) (lenF x2))) (bvL0 x0 x1 2) (f1 (2 : Int32) (offF x2) (lenF x2))) (bvL0 x0 x1 3) (f1 (3 : Int32) (offF x2) (lenF x2))) (bvL0 x0 x1 4) (f1 (4 : Int32) (offF x2) (lenF x2)))), .unset] [])) (fun t k => XS.istore X22.here hx rfl (hb hby at_163) rfl (l' := #[.val (.int x0), .val (.int x1), .val (.int x2), .val (.ref aN), .val (.int (offF x2)), .val (.int (lenF x2)), .val (.int (f2 (f2 (f2 (f2 (f2 (65535 : Int32) (bvL0 x0 x1 0) (f1 (0 : Int32) (offF x2) (lenF x2))) (bvL0 x0 x1 1) (f1 (1 : Int32) (offF x2) (lenF x2))) (bvL0 x0 x1 2) (f1 (2 : Int32) (offF x2) (lenF x2))) (bvL0 x0 x1 3) (f1 (3 : Int32) (offF x2) (lenF x2))) (bvL0 x0 x1 4) (f1 (4 : Int32) (offF x2) (lenF x2)))), .unset]) rfl k) ?_
    refine Go.step (S' := T22.setTop (mkF m 167 #[.val (.int x0), .val (.int x1), .val (.int x2), .val (.ref aN), .val (.int (offF x2)), .val (.int (lenF x2)), .val (.int (f2 (f2 (f2 (f2 (f2 (65535 : Int32) (bvL0 x0 x1 0) (f1 (0 : Int32) (offF x2) (lenF x2))) (bvL0 x0 x1 1) (f1 (1 : Int32) (offF x2) (lenF x2))) (bvL0 x0 x1 2) (f1 (2 : Int32) (offF x2) (lenF x2))) (bvL0 x0 x1 3) (f1 (3 : Int32) (offF x2) (lenF x2))) (bvL0 x0 x1 4) (f1 (4 : Int32) (offF x2) (lenF x2)))), .unset] [(.int (f2 (f2 (f2 (f2 (f2 (65535 : Int32) (bvL0 x0 x1 0) (f1 (0 : Int32) (offF x2) (lenF x2))) (bvL0 x0 x1 1) (f1 (1 : Int32) (offF x2) (lenF x2))) (bvL0 x0 x1 2) (f1 (2 : Int32) (offF x2) (lenF x2))) (bvL0 x0 x1 3) (f1 (3 : Int32) (offF x2) (lenF x2))) (bvL0 x0 x1 4) (f1 (4 : Int32) (offF x2) (lenF x2))))])) (fun t k => XS.iload X22.here hx rfl (hb hby at_165) rfl k) ?_
    refine Go.step (S' := T22.setTop (mkF m 168 #[.val (.int x0), .val (.int x1), .val (.int x2), .val (.ref aN), .val (.int (offF x2)), .val (.int (lenF x2)), .val (.int (f2 (f2 (f2 (f2 (f2 (65535 : Int32) (bvL0 x0 x1 0) (f1 (0 : Int32) (offF x2) (lenF x2))) (bvL0 x0 x1 1) (f1 (1 : Int32) (offF x2) (lenF x2))) (bvL0 x0 x1 2) (f1 (2 : Int32) (offF x2) (lenF x2))) (bvL0 x0 x1 3) (f1 (3 : Int32) (offF x2) (lenF x2))) (bvL0 x0 x1 4) (f1 (4 : Int32) (offF x2) (lenF x2)))), .unset] [(.ref aN), (.int (f2 (f2 (f2 (f2 (f2 (65535 : Int32) (bvL0 x0 x1 0) (f1 (0 : Int32) (offF x2) (lenF x2))) (bvL0 x0 x1 1) (f1 (1 : Int32) (offF x2) (lenF x2))) (bvL0 x0 x1 2) (f1 (2 : Int32) (offF x2) (lenF x2))) (bvL0 x0 x1 3) (f1 (3 : Int32) (offF x2) (lenF x2))) (bvL0 x0 x1 4) (f1 (4 : Int32) (offF x2) (lenF x2))))])) (fun t k => XS.aloadN X22.here hx rfl (hb hby at_167) rfl rfl k) ?_
    refine Go.step (S' := T22.setTop (mkF m 169 #[.val (.int x0), .val (.int x1), .val (.int x2), .val (.ref aN), .val (.int (offF x2)), .val (.int (lenF x2)), .val (.int (f2 (f2 (f2 (f2 (f2 (65535 : Int32) (bvL0 x0 x1 0) (f1 (0 : Int32) (offF x2) (lenF x2))) (bvL0 x0 x1 1) (f1 (1 : Int32) (offF x2) (lenF x2))) (bvL0 x0 x1 2) (f1 (2 : Int32) (offF x2) (lenF x2))) (bvL0 x0 x1 3) (f1 (3 : Int32) (offF x2) (lenF x2))) (bvL0 x0 x1 4) (f1 (4 : Int32) (offF x2) (lenF x2)))), .unset] [(.int (5 : Int32)), (.ref aN), (.int (f2 (f2 (f2 (f2 (f2 (65535 : Int32) (bvL0 x0 x1 0) (f1 (0 : Int32) (offF x2) (lenF x2))) (bvL0 x0 x1 1) (f1 (1 : Int32) (offF x2) (lenF x2))) (bvL0 x0 x1 2) (f1 (2 : Int32) (offF x2) (lenF x2))) (bvL0 x0 x1 3) (f1 (3 : Int32) (offF x2) (lenF x2))) (bvL0 x0 x1 4) (f1 (4 : Int32) (offF x2) (lenF x2))))])) (fun t k => XS.iconst X22.here hx rfl (hb hby at_168) k) ?_
    refine Go.step (S' := T22.setTop (mkF m 170 #[.val (.int x0), .val (.int x1), .val (.int x2), .val (.ref aN), .val (.int (offF x2)), .val (.int (lenF x2)), .val (.int (f2 (f2 (f2 (f2 (f2 (65535 : Int32) (bvL0 x0 x1 0) (f1 (0 : Int32) (offF x2) (lenF x2))) (bvL0 x0 x1 1) (f1 (1 : Int32) (offF x2) (lenF x2))) (bvL0 x0 x1 2) (f1 (2 : Int32) (offF x2) (lenF x2))) (bvL0 x0 x1 3) (f1 (3 : Int32) (offF x2) (lenF x2))) (bvL0 x0 x1 4) (f1 (4 : Int32) (offF x2) (lenF x2)))), .unset] [(.int (bvL0 x0 x1 5)), (.int (f2 (f2 (f2 (f2 (f2 (65535 : Int32) (bvL0 x0 x1 0) (f1 (0 : Int32) (offF x2) (lenF x2))) (bvL0 x0 x1 1) (f1 (1 : Int32) (offF x2) (lenF x2))) (bvL0 x0 x1 2) (f1 (2 : Int32) (offF x2) (lenF x2))) (bvL0 x0 x1 3) (f1 (3 : Int32) (offF x2) (lenF x2))) (bvL0 x0 x1 4) (f1 (4 : Int32) (offF x2) (lenF x2))))])) (fun t k => X22.baloadBytes hx (j := (5 : Int32)) (v := (.int (bvL0 x0 x1 5))) (by rw [e22]; exact Ar.1) (State.isArrayOf_alike hZ.alike Ar.2.1) Ar.2.2 (by rw [hsz]; decide) (hat 5 (by decide)) (g := (mkF m 169 #[.val (.int x0), .val (.int x1), .val (.int x2), .val (.ref aN), .val (.int (offF x2)), .val (.int (lenF x2)), .val (.int (f2 (f2 (f2 (f2 (f2 (65535 : Int32) (bvL0 x0 x1 0) (f1 (0 : Int32) (offF x2) (lenF x2))) (bvL0 x0 x1 1) (f1 (1 : Int32) (offF x2) (lenF x2))) (bvL0 x0 x1 2) (f1 (2 : Int32) (offF x2) (lenF x2))) (bvL0 x0 x1 3) (f1 (3 : Int32) (offF x2) (lenF x2))) (bvL0 x0 x1 4) (f1 (4 : Int32) (offF x2) (lenF x2)))), .unset] [(.int (5 : Int32)), (.ref aN), (.int (f2 (f2 (f2 (f2 (f2 (65535 : Int32) (bvL0 x0 x1 0) (f1 (0 : Int32) (offF x2) (lenF x2))) (bvL0 x0 x1 1) (f1 (1 : Int32) (offF x2) (lenF x2))) (bvL0 x0 x1 2) (f1 (2 : Int32) (offF x2) (lenF x2))) (bvL0 x0 x1 3) (f1 (3 : Int32) (offF x2) (lenF x2))) (bvL0 x0 x1 4) (f1 (4 : Int32) (offF x2) (lenF x2))))])) rfl rfl (hb hby at_169) _ k) ?_
    refine Go.step (S' := T22.setTop (mkF m 171 #[.val (.int x0), .val (.int x1), .val (.int x2), .val (.ref aN), .val (.int (offF x2)), .val (.int (lenF x2)), .val (.int (f2 (f2 (f2 (f2 (f2 (65535 : Int32) (bvL0 x0 x1 0) (f1 (0 : Int32) (offF x2) (lenF x2))) (bvL0 x0 x1 1) (f1 (1 : Int32) (offF x2) (lenF x2))) (bvL0 x0 x1 2) (f1 (2 : Int32) (offF x2) (lenF x2))) (bvL0 x0 x1 3) (f1 (3 : Int32) (offF x2) (lenF x2))) (bvL0 x0 x1 4) (f1 (4 : Int32) (offF x2) (lenF x2)))), .unset] [(.int (5 : Int32)), (.int (bvL0 x0 x1 5)), (.int (f2 (f2 (f2 (f2 (f2 (65535 : Int32) (bvL0 x0 x1 0) (f1 (0 : Int32) (offF x2) (lenF x2))) (bvL0 x0 x1 1) (f1 (1 : Int32) (offF x2) (lenF x2))) (bvL0 x0 x1 2) (f1 (2 : Int32) (offF x2) (lenF x2))) (bvL0 x0 x1 3) (f1 (3 : Int32) (offF x2) (lenF x2))) (bvL0 x0 x1 4) (f1 (4 : Int32) (offF x2) (lenF x2))))])) (fun t k => XS.iconst X22.here hx rfl (hb hby at_170) k) ?_
    refine Go.step (S' := T22.setTop (mkF m 173 #[.val (.int x0), .val (.int x1), .val (.int x2), .val (.ref aN), .val (.int (offF x2)), .val (.int (lenF x2)), .val (.int (f2 (f2 (f2 (f2 (f2 (65535 : Int32) (bvL0 x0 x1 0) (f1 (0 : Int32) (offF x2) (lenF x2))) (bvL0 x0 x1 1) (f1 (1 : Int32) (offF x2) (lenF x2))) (bvL0 x0 x1 2) (f1 (2 : Int32) (offF x2) (lenF x2))) (bvL0 x0 x1 3) (f1 (3 : Int32) (offF x2) (lenF x2))) (bvL0 x0 x1 4) (f1 (4 : Int32) (offF x2) (lenF x2)))), .unset] [(.int (offF x2)), (.int (5 : Int32)), (.int (bvL0 x0 x1 5)), (.int (f2 (f2 (f2 (f2 (f2 (65535 : Int32) (bvL0 x0 x1 0) (f1 (0 : Int32) (offF x2) (lenF x2))) (bvL0 x0 x1 1) (f1 (1 : Int32) (offF x2) (lenF x2))) (bvL0 x0 x1 2) (f1 (2 : Int32) (offF x2) (lenF x2))) (bvL0 x0 x1 3) (f1 (3 : Int32) (offF x2) (lenF x2))) (bvL0 x0 x1 4) (f1 (4 : Int32) (offF x2) (lenF x2))))])) (fun t k => XS.iload X22.here hx rfl (hb hby at_171) rfl k) ?_
    refine Go.step (S' := T22.setTop (mkF m 175 #[.val (.int x0), .val (.int x1), .val (.int x2), .val (.ref aN), .val (.int (offF x2)), .val (.int (lenF x2)), .val (.int (f2 (f2 (f2 (f2 (f2 (65535 : Int32) (bvL0 x0 x1 0) (f1 (0 : Int32) (offF x2) (lenF x2))) (bvL0 x0 x1 1) (f1 (1 : Int32) (offF x2) (lenF x2))) (bvL0 x0 x1 2) (f1 (2 : Int32) (offF x2) (lenF x2))) (bvL0 x0 x1 3) (f1 (3 : Int32) (offF x2) (lenF x2))) (bvL0 x0 x1 4) (f1 (4 : Int32) (offF x2) (lenF x2)))), .unset] [(.int (lenF x2)), (.int (offF x2)), (.int (5 : Int32)), (.int (bvL0 x0 x1 5)), (.int (f2 (f2 (f2 (f2 (f2 (65535 : Int32) (bvL0 x0 x1 0) (f1 (0 : Int32) (offF x2) (lenF x2))) (bvL0 x0 x1 1) (f1 (1 : Int32) (offF x2) (lenF x2))) (bvL0 x0 x1 2) (f1 (2 : Int32) (offF x2) (lenF x2))) (bvL0 x0 x1 3) (f1 (3 : Int32) (offF x2) (lenF x2))) (bvL0 x0 x1 4) (f1 (4 : Int32) (offF x2) (lenF x2))))])) (fun t k => XS.iload X22.here hx rfl (hb hby at_173) rfl k) ?_
    obtain ⟨_, _, ⟨T24, L24, k24, n24⟩, -, X24, ⟨Lc24, hQ24, l24, y24, z24⟩, st24⟩ := Jvm.LawKit.callS X22 hx (y := (⟨"com/example/hearthwire/hearthwire/frame/Crc16ComputePinLaw", "in", "(III)Z"⟩ : MethodName)) hown (mvT hZ (hw _ (List.mem_of_getElem? (i := 3) rfl))) (mvT hZ (hw _ (List.mem_of_getElem? (i := 4) rfl))) (mvT hZ (hw _ (List.mem_of_getElem? (i := 5) rfl))) (mvT hZ (hw _ (List.mem_of_getElem? (i := 6) rfl))) (by decide) (backOf (W := 2) (rm1 l Z a0 hw [] (5 : Int32) (offF x2) (lenF x2) h7 n0 Bf7.1) hZ (hw _ (List.mem_of_getElem? (i := 6) rfl)) (hw _ (List.mem_of_getElem? (i := 5) rfl)) (by decide) (by decide)) (g := (mkF m 175 #[.val (.int x0), .val (.int x1), .val (.int x2), .val (.ref aN), .val (.int (offF x2)), .val (.int (lenF x2)), .val (.int (f2 (f2 (f2 (f2 (f2 (65535 : Int32) (bvL0 x0 x1 0) (f1 (0 : Int32) (offF x2) (lenF x2))) (bvL0 x0 x1 1) (f1 (1 : Int32) (offF x2) (lenF x2))) (bvL0 x0 x1 2) (f1 (2 : Int32) (offF x2) (lenF x2))) (bvL0 x0 x1 3) (f1 (3 : Int32) (offF x2) (lenF x2))) (bvL0 x0 x1 4) (f1 (4 : Int32) (offF x2) (lenF x2)))), .unset] [(.int (lenF x2)), (.int (offF x2)), (.int (5 : Int32)), (.int (bvL0 x0 x1 5)), (.int (f2 (f2 (f2 (f2 (f2 (65535 : Int32) (bvL0 x0 x1 0) (f1 (0 : Int32) (offF x2) (lenF x2))) (bvL0 x0 x1 1) (f1 (1 : Int32) (offF x2) (lenF x2))) (bvL0 x0 x1 2) (f1 (2 : Int32) (offF x2) (lenF x2))) (bvL0 x0 x1 3) (f1 (3 : Int32) (offF x2) (lenF x2))) (bvL0 x0 x1 4) (f1 (4 : Int32) (offF x2) (lenF x2))))])) rfl (by rw [hml]; rfl) (argsL := [(.int (5 : Int32)), (.int (offF x2)), (.int (lenF x2))]) (rest := [(.int (bvL0 x0 x1 5)), (.int (f2 (f2 (f2 (f2 (f2 (65535 : Int32) (bvL0 x0 x1 0) (f1 (0 : Int32) (offF x2) (lenF x2))) (bvL0 x0 x1 1) (f1 (1 : Int32) (offF x2) (lenF x2))) (bvL0 x0 x1 2) (f1 (2 : Int32) (offF x2) (lenF x2))) (bvL0 x0 x1 3) (f1 (3 : Int32) (offF x2) (lenF x2))) (bvL0 x0 x1 4) (f1 (4 : Int32) (offF x2) (lenF x2))))]) (lenOf pd0 rfl) rfl (by show 2 * 0 + _ ≤ _; exact Nat.le_of_eq rfl) (hb hby at_175) (fun _ _ => ⟨rfl, e22, (by decide : 1 + 0 ≤ _), (by decide : 6 + 0 ≤ _)⟩)
    dsimp only [Pt.U, Pt.locs, Pt.cells, Pt.slots] at X24 l24 y24 z24 st24 hQ24
    subst l24 y24 z24
    obtain ⟨rfl, Nq24, e24⟩ := hQ24
    have N24 := Fr.app N22 Nq24
    refine Go.step (S' := T24.setTop (mkF m 178 #[.val (.int x0), .val (.int x1), .val (.int x2), .val (.ref aN), .val (.int (offF x2)), .val (.int (lenF x2)), .val (.int (f2 (f2 (f2 (f2 (f2 (65535 : Int32) (bvL0 x0 x1 0) (f1 (0 : Int32) (offF x2) (lenF x2))) (bvL0 x0 x1 1) (f1 (1 : Int32) (offF x2) (lenF x2))) (bvL0 x0 x1 2) (f1 (2 : Int32) (offF x2) (lenF x2))) (bvL0 x0 x1 3) (f1 (3 : Int32) (offF x2) (lenF x2))) (bvL0 x0 x1 4) (f1 (4 : Int32) (offF x2) (lenF x2)))), .unset] [(.int (f1 (5 : Int32) (offF x2) (lenF x2))), (.int (bvL0 x0 x1 5)), (.int (f2 (f2 (f2 (f2 (f2 (65535 : Int32) (bvL0 x0 x1 0) (f1 (0 : Int32) (offF x2) (lenF x2))) (bvL0 x0 x1 1) (f1 (1 : Int32) (offF x2) (lenF x2))) (bvL0 x0 x1 2) (f1 (2 : Int32) (offF x2) (lenF x2))) (bvL0 x0 x1 3) (f1 (3 : Int32) (offF x2) (lenF x2))) (bvL0 x0 x1 4) (f1 (4 : Int32) (offF x2) (lenF x2))))])) (fun t k => st24 t k) ?_
    obtain ⟨_, _, ⟨T25, L25, k25, n25⟩, -, X25, ⟨Lc25, hQ25, l25, y25, z25⟩, st25⟩ := Jvm.LawKit.callS X24 hx (y := (⟨"com/example/hearthwire/hearthwire/frame/Crc16ComputePinLaw", "step", "(IBZ)I"⟩ : MethodName)) hown (mvT hZ (hw _ (List.mem_of_getElem? (i := 7) rfl))) (mvT hZ (hw _ (List.mem_of_getElem? (i := 8) rfl))) (mvT hZ (hw _ (List.mem_of_getElem? (i := 5) rfl))) (mvT hZ (hw _ (List.mem_of_getElem? (i := 9) rfl))) (by decide) (backOf (W := 0) (rm2 l Z a0 hw [] (f2 (f2 (f2 (f2 (f2 (65535 : Int32) (bvL0 x0 x1 0) (f1 (0 : Int32) (offF x2) (lenF x2))) (bvL0 x0 x1 1) (f1 (1 : Int32) (offF x2) (lenF x2))) (bvL0 x0 x1 2) (f1 (2 : Int32) (offF x2) (lenF x2))) (bvL0 x0 x1 3) (f1 (3 : Int32) (offF x2) (lenF x2))) (bvL0 x0 x1 4) (f1 (4 : Int32) (offF x2) (lenF x2))) (bvL0 x0 x1 5) (f1 (5 : Int32) (offF x2) (lenF x2)) h7 n0 Bf7.1) hZ (hw _ (List.mem_of_getElem? (i := 9) rfl)) (hw _ (List.mem_of_getElem? (i := 5) rfl)) (by decide) (by decide)) (g := (mkF m 178 #[.val (.int x0), .val (.int x1), .val (.int x2), .val (.ref aN), .val (.int (offF x2)), .val (.int (lenF x2)), .val (.int (f2 (f2 (f2 (f2 (f2 (65535 : Int32) (bvL0 x0 x1 0) (f1 (0 : Int32) (offF x2) (lenF x2))) (bvL0 x0 x1 1) (f1 (1 : Int32) (offF x2) (lenF x2))) (bvL0 x0 x1 2) (f1 (2 : Int32) (offF x2) (lenF x2))) (bvL0 x0 x1 3) (f1 (3 : Int32) (offF x2) (lenF x2))) (bvL0 x0 x1 4) (f1 (4 : Int32) (offF x2) (lenF x2)))), .unset] [(.int (f1 (5 : Int32) (offF x2) (lenF x2))), (.int (bvL0 x0 x1 5)), (.int (f2 (f2 (f2 (f2 (f2 (65535 : Int32) (bvL0 x0 x1 0) (f1 (0 : Int32) (offF x2) (lenF x2))) (bvL0 x0 x1 1) (f1 (1 : Int32) (offF x2) (lenF x2))) (bvL0 x0 x1 2) (f1 (2 : Int32) (offF x2) (lenF x2))) (bvL0 x0 x1 3) (f1 (3 : Int32) (offF x2) (lenF x2))) (bvL0 x0 x1 4) (f1 (4 : Int32) (offF x2) (lenF x2))))])) rfl (by rw [hml]; rfl) (argsL := [(.int (f2 (f2 (f2 (f2 (f2 (65535 : Int32) (bvL0 x0 x1 0) (f1 (0 : Int32) (offF x2) (lenF x2))) (bvL0 x0 x1 1) (f1 (1 : Int32) (offF x2) (lenF x2))) (bvL0 x0 x1 2) (f1 (2 : Int32) (offF x2) (lenF x2))) (bvL0 x0 x1 3) (f1 (3 : Int32) (offF x2) (lenF x2))) (bvL0 x0 x1 4) (f1 (4 : Int32) (offF x2) (lenF x2)))), (.int (bvL0 x0 x1 5)), (.int (f1 (5 : Int32) (offF x2) (lenF x2)))]) (rest := []) (lenOf pd1 rfl) rfl (by show 2 * 0 + _ ≤ _; exact Nat.le_of_eq rfl) (hb hby at_178) (fun _ _ => ⟨rfl, e24, (by decide : 1 + 0 ≤ _), (by decide : 6 + 0 ≤ _)⟩)
    dsimp only [Pt.U, Pt.locs, Pt.cells, Pt.slots] at X25 l25 y25 z25 st25 hQ25
    subst l25 y25 z25
    obtain ⟨rfl, Nq25, e25⟩ := hQ25
    have N25 := Fr.app N24 Nq25
    refine Go.step (S' := T25.setTop (mkF m 181 #[.val (.int x0), .val (.int x1), .val (.int x2), .val (.ref aN), .val (.int (offF x2)), .val (.int (lenF x2)), .val (.int (f2 (f2 (f2 (f2 (f2 (65535 : Int32) (bvL0 x0 x1 0) (f1 (0 : Int32) (offF x2) (lenF x2))) (bvL0 x0 x1 1) (f1 (1 : Int32) (offF x2) (lenF x2))) (bvL0 x0 x1 2) (f1 (2 : Int32) (offF x2) (lenF x2))) (bvL0 x0 x1 3) (f1 (3 : Int32) (offF x2) (lenF x2))) (bvL0 x0 x1 4) (f1 (4 : Int32) (offF x2) (lenF x2)))), .unset] [(.int (f2 (f2 (f2 (f2 (f2 (f2 (65535 : Int32) (bvL0 x0 x1 0) (f1 (0 : Int32) (offF x2) (lenF x2))) (bvL0 x0 x1 1) (f1 (1 : Int32) (offF x2) (lenF x2))) (bvL0 x0 x1 2) (f1 (2 : Int32) (offF x2) (lenF x2))) (bvL0 x0 x1 3) (f1 (3 : Int32) (offF x2) (lenF x2))) (bvL0 x0 x1 4) (f1 (4 : Int32) (offF x2) (lenF x2))) (bvL0 x0 x1 5) (f1 (5 : Int32) (offF x2) (lenF x2))))])) (fun t k => st25 t k) ?_
    refine Go.step (S' := T25.setTop (mkF m 183 #[.val (.int x0), .val (.int x1), .val (.int x2), .val (.ref aN), .val (.int (offF x2)), .val (.int (lenF x2)), .val (.int (f2 (f2 (f2 (f2 (f2 (f2 (65535 : Int32) (bvL0 x0 x1 0) (f1 (0 : Int32) (offF x2) (lenF x2))) (bvL0 x0 x1 1) (f1 (1 : Int32) (offF x2) (lenF x2))) (bvL0 x0 x1 2) (f1 (2 : Int32) (offF x2) (lenF x2))) (bvL0 x0 x1 3) (f1 (3 : Int32) (offF x2) (lenF x2))) (bvL0 x0 x1 4) (f1 (4 : Int32) (offF x2) (lenF x2))) (bvL0 x0 x1 5) (f1 (5 : Int32) (offF x2) (lenF x2)))), .unset] [])) (fun t k => XS.istore X25.here hx rfl (hb hby at_181) rfl (l' := #[.val (.int x0), .val (.int x1), .val (.int x2), .val (.ref aN), .val (.int (offF x2)), .val (.int (lenF x2)), .val (.int (f2 (f2 (f2 (f2 (f2 (f2 (65535 : Int32) (bvL0 x0 x1 0) (f1 (0 : Int32) (offF x2) (lenF x2))) (bvL0 x0 x1 1) (f1 (1 : Int32) (offF x2) (lenF x2))) (bvL0 x0 x1 2) (f1 (2 : Int32) (offF x2) (lenF x2))) (bvL0 x0 x1 3) (f1 (3 : Int32) (offF x2) (lenF x2))) (bvL0 x0 x1 4) (f1 (4 : Int32) (offF x2) (lenF x2))) (bvL0 x0 x1 5) (f1 (5 : Int32) (offF x2) (lenF x2)))), .unset]) rfl k) ?_
    refine Go.step (S' := T25.setTop (mkF m 184 #[.val (.int x0), .val (.int x1), .val (.int x2), .val (.ref aN), .val (.int (offF x2)), .val (.int (lenF x2)), .val (.int (f2 (f2 (f2 (f2 (f2 (f2 (65535 : Int32) (bvL0 x0 x1 0) (f1 (0 : Int32) (offF x2) (lenF x2))) (bvL0 x0 x1 1) (f1 (1 : Int32) (offF x2) (lenF x2))) (bvL0 x0 x1 2) (f1 (2 : Int32) (offF x2) (lenF x2))) (bvL0 x0 x1 3) (f1 (3 : Int32) (offF x2) (lenF x2))) (bvL0 x0 x1 4) (f1 (4 : Int32) (offF x2) (lenF x2))) (bvL0 x0 x1 5) (f1 (5 : Int32) (offF x2) (lenF x2)))), .unset] [(.ref aN)])) (fun t k => XS.aloadN X25.here hx rfl (hb hby at_183) rfl rfl k) ?_
    refine Go.step (S' := T25.setTop (mkF m 186 #[.val (.int x0), .val (.int x1), .val (.int x2), .val (.ref aN), .val (.int (offF x2)), .val (.int (lenF x2)), .val (.int (f2 (f2 (f2 (f2 (f2 (f2 (65535 : Int32) (bvL0 x0 x1 0) (f1 (0 : Int32) (offF x2) (lenF x2))) (bvL0 x0 x1 1) (f1 (1 : Int32) (offF x2) (lenF x2))) (bvL0 x0 x1 2) (f1 (2 : Int32) (offF x2) (lenF x2))) (bvL0 x0 x1 3) (f1 (3 : Int32) (offF x2) (lenF x2))) (bvL0 x0 x1 4) (f1 (4 : Int32) (offF x2) (lenF x2))) (bvL0 x0 x1 5) (f1 (5 : Int32) (offF x2) (lenF x2)))), .unset] [(.int (offF x2)), (.ref aN)])) (fun t k => XS.iload X25.here hx rfl (hb hby at_184) rfl k) ?_
    refine Go.step (S' := T25.setTop (mkF m 188 #[.val (.int x0), .val (.int x1), .val (.int x2), .val (.ref aN), .val (.int (offF x2)), .val (.int (lenF x2)), .val (.int (f2 (f2 (f2 (f2 (f2 (f2 (65535 : Int32) (bvL0 x0 x1 0) (f1 (0 : Int32) (offF x2) (lenF x2))) (bvL0 x0 x1 1) (f1 (1 : Int32) (offF x2) (lenF x2))) (bvL0 x0 x1 2) (f1 (2 : Int32) (offF x2) (lenF x2))) (bvL0 x0 x1 3) (f1 (3 : Int32) (offF x2) (lenF x2))) (bvL0 x0 x1 4) (f1 (4 : Int32) (offF x2) (lenF x2))) (bvL0 x0 x1 5) (f1 (5 : Int32) (offF x2) (lenF x2)))), .unset] [(.int (lenF x2)), (.int (offF x2)), (.ref aN)])) (fun t k => XS.iload X25.here hx rfl (hb hby at_186) rfl k) ?_
    obtain ⟨_, _, ⟨T26, L26, k26, n26⟩, -, X26, ⟨Lc26, hQ26, l26, y26, z26⟩, st26⟩ := Jvm.LawKit.callS X25 hx (y := (⟨"com/example/hearthwire/hearthwire/frame/Crc16", "compute", "([BII)I"⟩ : MethodName)) hown (mvT hZ (hw _ (List.mem_of_getElem? (i := 10) rfl))) (mvT hZ (hw _ (List.mem_of_getElem? (i := 11) rfl))) (mvT hZ (hw _ (List.mem_of_getElem? (i := 12) rfl))) (mvT hZ (hw _ (List.mem_of_getElem? (i := 13) rfl))) (by decide) (backOf (W := 0) (rm3 l Z a0 hw [] aN (offF x2) (lenF x2) (bvL0 x0 x1) h7 n0 Bf7.1 cl Ar hsz hat (own_g1 _) (own_g2 _) (own_g3 _)) hZ (hw _ (List.mem_of_getElem? (i := 13) rfl)) (hw _ (List.mem_of_getElem? (i := 12) rfl)) (by decide) (by decide)) (g := (mkF m 188 #[.val (.int x0), .val (.int x1), .val (.int x2), .val (.ref aN), .val (.int (offF x2)), .val (.int (lenF x2)), .val (.int (f2 (f2 (f2 (f2 (f2 (f2 (65535 : Int32) (bvL0 x0 x1 0) (f1 (0 : Int32) (offF x2) (lenF x2))) (bvL0 x0 x1 1) (f1 (1 : Int32) (offF x2) (lenF x2))) (bvL0 x0 x1 2) (f1 (2 : Int32) (offF x2) (lenF x2))) (bvL0 x0 x1 3) (f1 (3 : Int32) (offF x2) (lenF x2))) (bvL0 x0 x1 4) (f1 (4 : Int32) (offF x2) (lenF x2))) (bvL0 x0 x1 5) (f1 (5 : Int32) (offF x2) (lenF x2)))), .unset] [(.int (lenF x2)), (.int (offF x2)), (.ref aN)])) rfl (by rw [hml]; rfl) (argsL := [(.ref aN), (.int (offF x2)), (.int (lenF x2))]) (rest := []) (lenOf pd2 rfl) rfl (by show 2 * 0 + _ ≤ _; exact Nat.le_of_eq rfl) (hb hby at_188) (fun _ _ => ⟨rfl, e25, (by decide : 1 + 0 ≤ _), (by decide : 6 + 0 ≤ _)⟩)
    dsimp only [Pt.U, Pt.locs, Pt.cells, Pt.slots] at X26 l26 y26 z26 st26 hQ26
    subst l26 y26 z26
    obtain ⟨rfl, Nq26, e26⟩ := hQ26
    have N26 := Fr.app N25 Nq26
    refine Go.step (S' := T26.setTop (mkF m 191 #[.val (.int x0), .val (.int x1), .val (.int x2), .val (.ref aN), .val (.int (offF x2)), .val (.int (lenF x2)), .val (.int (f2 (f2 (f2 (f2 (f2 (f2 (65535 : Int32) (bvL0 x0 x1 0) (f1 (0 : Int32) (offF x2) (lenF x2))) (bvL0 x0 x1 1) (f1 (1 : Int32) (offF x2) (lenF x2))) (bvL0 x0 x1 2) (f1 (2 : Int32) (offF x2) (lenF x2))) (bvL0 x0 x1 3) (f1 (3 : Int32) (offF x2) (lenF x2))) (bvL0 x0 x1 4) (f1 (4 : Int32) (offF x2) (lenF x2))) (bvL0 x0 x1 5) (f1 (5 : Int32) (offF x2) (lenF x2)))), .unset] [(.int (f3 (offF x2) (lenF x2) (bvL0 x0 x1)))])) (fun t k => st26 t k) ?_
    refine Go.step (S' := T26.setTop (mkF m 193 #[.val (.int x0), .val (.int x1), .val (.int x2), .val (.ref aN), .val (.int (offF x2)), .val (.int (lenF x2)), .val (.int (f2 (f2 (f2 (f2 (f2 (f2 (65535 : Int32) (bvL0 x0 x1 0) (f1 (0 : Int32) (offF x2) (lenF x2))) (bvL0 x0 x1 1) (f1 (1 : Int32) (offF x2) (lenF x2))) (bvL0 x0 x1 2) (f1 (2 : Int32) (offF x2) (lenF x2))) (bvL0 x0 x1 3) (f1 (3 : Int32) (offF x2) (lenF x2))) (bvL0 x0 x1 4) (f1 (4 : Int32) (offF x2) (lenF x2))) (bvL0 x0 x1 5) (f1 (5 : Int32) (offF x2) (lenF x2)))), .val (.int (f3 (offF x2) (lenF x2) (bvL0 x0 x1)))] [])) (fun t k => XS.istore X26.here hx rfl (hb hby at_191) rfl (l' := #[.val (.int x0), .val (.int x1), .val (.int x2), .val (.ref aN), .val (.int (offF x2)), .val (.int (lenF x2)), .val (.int (f2 (f2 (f2 (f2 (f2 (f2 (65535 : Int32) (bvL0 x0 x1 0) (f1 (0 : Int32) (offF x2) (lenF x2))) (bvL0 x0 x1 1) (f1 (1 : Int32) (offF x2) (lenF x2))) (bvL0 x0 x1 2) (f1 (2 : Int32) (offF x2) (lenF x2))) (bvL0 x0 x1 3) (f1 (3 : Int32) (offF x2) (lenF x2))) (bvL0 x0 x1 4) (f1 (4 : Int32) (offF x2) (lenF x2))) (bvL0 x0 x1 5) (f1 (5 : Int32) (offF x2) (lenF x2)))), .val (.int (f3 (offF x2) (lenF x2) (bvL0 x0 x1)))]) rfl k) ?_
    refine Go.step (S' := T26.setTop (mkF m 195 #[.val (.int x0), .val (.int x1), .val (.int x2), .val (.ref aN), .val (.int (offF x2)), .val (.int (lenF x2)), .val (.int (f2 (f2 (f2 (f2 (f2 (f2 (65535 : Int32) (bvL0 x0 x1 0) (f1 (0 : Int32) (offF x2) (lenF x2))) (bvL0 x0 x1 1) (f1 (1 : Int32) (offF x2) (lenF x2))) (bvL0 x0 x1 2) (f1 (2 : Int32) (offF x2) (lenF x2))) (bvL0 x0 x1 3) (f1 (3 : Int32) (offF x2) (lenF x2))) (bvL0 x0 x1 4) (f1 (4 : Int32) (offF x2) (lenF x2))) (bvL0 x0 x1 5) (f1 (5 : Int32) (offF x2) (lenF x2)))), .val (.int (f3 (offF x2) (lenF x2) (bvL0 x0 x1)))] [(.int (f3 (offF x2) (lenF x2) (bvL0 x0 x1)))])) (fun t k => XS.iload X26.here hx rfl (hb hby at_193) rfl k) ?_
    refine Go.step (S' := T26.setTop (mkF m 197 #[.val (.int x0), .val (.int x1), .val (.int x2), .val (.ref aN), .val (.int (offF x2)), .val (.int (lenF x2)), .val (.int (f2 (f2 (f2 (f2 (f2 (f2 (65535 : Int32) (bvL0 x0 x1 0) (f1 (0 : Int32) (offF x2) (lenF x2))) (bvL0 x0 x1 1) (f1 (1 : Int32) (offF x2) (lenF x2))) (bvL0 x0 x1 2) (f1 (2 : Int32) (offF x2) (lenF x2))) (bvL0 x0 x1 3) (f1 (3 : Int32) (offF x2) (lenF x2))) (bvL0 x0 x1 4) (f1 (4 : Int32) (offF x2) (lenF x2))) (bvL0 x0 x1 5) (f1 (5 : Int32) (offF x2) (lenF x2)))), .val (.int (f3 (offF x2) (lenF x2) (bvL0 x0 x1)))] [(.int (f2 (f2 (f2 (f2 (f2 (f2 (65535 : Int32) (bvL0 x0 x1 0) (f1 (0 : Int32) (offF x2) (lenF x2))) (bvL0 x0 x1 1) (f1 (1 : Int32) (offF x2) (lenF x2))) (bvL0 x0 x1 2) (f1 (2 : Int32) (offF x2) (lenF x2))) (bvL0 x0 x1 3) (f1 (3 : Int32) (offF x2) (lenF x2))) (bvL0 x0 x1 4) (f1 (4 : Int32) (offF x2) (lenF x2))) (bvL0 x0 x1 5) (f1 (5 : Int32) (offF x2) (lenF x2)))), (.int (f3 (offF x2) (lenF x2) (bvL0 x0 x1)))])) (fun t k => XS.iload X26.here hx rfl (hb hby at_195) rfl k) ?_
    by_cases hc27 : (f3 (offF x2) (lenF x2) (bvL0 x0 x1)) = (f2 (f2 (f2 (f2 (f2 (f2 (65535 : Int32) (bvL0 x0 x1 0) (f1 (0 : Int32) (offF x2) (lenF x2))) (bvL0 x0 x1 1) (f1 (1 : Int32) (offF x2) (lenF x2))) (bvL0 x0 x1 2) (f1 (2 : Int32) (offF x2) (lenF x2))) (bvL0 x0 x1 3) (f1 (3 : Int32) (offF x2) (lenF x2))) (bvL0 x0 x1 4) (f1 (4 : Int32) (offF x2) (lenF x2))) (bvL0 x0 x1 5) (f1 (5 : Int32) (offF x2) (lenF x2)))
    · rw [if_pos hc27] at hr
      refine Go.step (S' := T26.setTop (mkF m 200 #[.val (.int x0), .val (.int x1), .val (.int x2), .val (.ref aN), .val (.int (offF x2)), .val (.int (lenF x2)), .val (.int (f2 (f2 (f2 (f2 (f2 (f2 (65535 : Int32) (bvL0 x0 x1 0) (f1 (0 : Int32) (offF x2) (lenF x2))) (bvL0 x0 x1 1) (f1 (1 : Int32) (offF x2) (lenF x2))) (bvL0 x0 x1 2) (f1 (2 : Int32) (offF x2) (lenF x2))) (bvL0 x0 x1 3) (f1 (3 : Int32) (offF x2) (lenF x2))) (bvL0 x0 x1 4) (f1 (4 : Int32) (offF x2) (lenF x2))) (bvL0 x0 x1 5) (f1 (5 : Int32) (offF x2) (lenF x2)))), .val (.int (f3 (offF x2) (lenF x2) (bvL0 x0 x1)))] [])) (fun t k => XS.icmpNo X26.here hx rfl (hb hby at_197) rfl (teq hc27).2 k) ?_
      refine Go.step (S' := T26.setTop (mkF m 201 #[.val (.int x0), .val (.int x1), .val (.int x2), .val (.ref aN), .val (.int (offF x2)), .val (.int (lenF x2)), .val (.int (f2 (f2 (f2 (f2 (f2 (f2 (65535 : Int32) (bvL0 x0 x1 0) (f1 (0 : Int32) (offF x2) (lenF x2))) (bvL0 x0 x1 1) (f1 (1 : Int32) (offF x2) (lenF x2))) (bvL0 x0 x1 2) (f1 (2 : Int32) (offF x2) (lenF x2))) (bvL0 x0 x1 3) (f1 (3 : Int32) (offF x2) (lenF x2))) (bvL0 x0 x1 4) (f1 (4 : Int32) (offF x2) (lenF x2))) (bvL0 x0 x1 5) (f1 (5 : Int32) (offF x2) (lenF x2)))), .val (.int (f3 (offF x2) (lenF x2) (bvL0 x0 x1)))] [(.int (1 : Int32))])) (fun t k => XS.iconst X26.here hx rfl (hb hby at_200) k) ?_
      refine Go.step (S' := T26.setTop (mkF m 205 #[.val (.int x0), .val (.int x1), .val (.int x2), .val (.ref aN), .val (.int (offF x2)), .val (.int (lenF x2)), .val (.int (f2 (f2 (f2 (f2 (f2 (f2 (65535 : Int32) (bvL0 x0 x1 0) (f1 (0 : Int32) (offF x2) (lenF x2))) (bvL0 x0 x1 1) (f1 (1 : Int32) (offF x2) (lenF x2))) (bvL0 x0 x1 2) (f1 (2 : Int32) (offF x2) (lenF x2))) (bvL0 x0 x1 3) (f1 (3 : Int32) (offF x2) (lenF x2))) (bvL0 x0 x1 4) (f1 (4 : Int32) (offF x2) (lenF x2))) (bvL0 x0 x1 5) (f1 (5 : Int32) (offF x2) (lenF x2)))), .val (.int (f3 (offF x2) (lenF x2) (bvL0 x0 x1)))] [(.int (1 : Int32))])) (fun t k => XS.goto X26.here hx rfl (pc0 := 201) (pc' := 205) rfl (hb hby at_201) (by decide) (by decide) k) ?_
      exact Go.retN X26 hx (t := .boolean) Bd.returns (by simp) Bd.notSynchronized (hb hby at_205) ⟨by rw [hr0, ← hr]; first | done | rfl, N26⟩ (by decide) (by decide)
    · rw [if_neg hc27] at hr
      refine Go.step (S' := T26.setTop (mkF m 204 #[.val (.int x0), .val (.int x1), .val (.int x2), .val (.ref aN), .val (.int (offF x2)), .val (.int (lenF x2)), .val (.int (f2 (f2 (f2 (f2 (f2 (f2 (65535 : Int32) (bvL0 x0 x1 0) (f1 (0 : Int32) (offF x2) (lenF x2))) (bvL0 x0 x1 1) (f1 (1 : Int32) (offF x2) (lenF x2))) (bvL0 x0 x1 2) (f1 (2 : Int32) (offF x2) (lenF x2))) (bvL0 x0 x1 3) (f1 (3 : Int32) (offF x2) (lenF x2))) (bvL0 x0 x1 4) (f1 (4 : Int32) (offF x2) (lenF x2))) (bvL0 x0 x1 5) (f1 (5 : Int32) (offF x2) (lenF x2)))), .val (.int (f3 (offF x2) (lenF x2) (bvL0 x0 x1)))] [])) (fun t k => XS.icmpYes X26.here hx rfl (pc0 := 197) (pc' := 204) rfl (hb hby at_197) rfl (feq hc27).2 (by decide) (by decide) k) ?_
      refine Go.step (S' := T26.setTop (mkF m 205 #[.val (.int x0), .val (.int x1), .val (.int x2), .val (.ref aN), .val (.int (offF x2)), .val (.int (lenF x2)), .val (.int (f2 (f2 (f2 (f2 (f2 (f2 (65535 : Int32) (bvL0 x0 x1 0) (f1 (0 : Int32) (offF x2) (lenF x2))) (bvL0 x0 x1 1) (f1 (1 : Int32) (offF x2) (lenF x2))) (bvL0 x0 x1 2) (f1 (2 : Int32) (offF x2) (lenF x2))) (bvL0 x0 x1 3) (f1 (3 : Int32) (offF x2) (lenF x2))) (bvL0 x0 x1 4) (f1 (4 : Int32) (offF x2) (lenF x2))) (bvL0 x0 x1 5) (f1 (5 : Int32) (offF x2) (lenF x2)))), .val (.int (f3 (offF x2) (lenF x2) (bvL0 x0 x1)))] [(.int (0 : Int32))])) (fun t k => XS.iconst X26.here hx rfl (hb hby at_204) k) ?_
      exact Go.retN X26 hx (t := .boolean) Bd.returns (by simp) Bd.notSynchronized (hb hby at_205) ⟨by rw [hr0, ← hr]; first | done | rfl, N26⟩ (by decide) (by decide)
  show Go p e below s (Q0 x0 x1 x2 h0 n0) room_1.cells room_1.slots (s₁.setTop (entryFrame m #[(.int x0), (.int x1), (.int x2)] maxLocals))
  rw [ef0]
  exact B0 s₁ [] X0 e0 (Fr.nil n0) hr0
def bs (v : BitVec 32) : BitVec 32 := (v <<< 1) ^^^ (if v.getLsbD 15 then 4129#32 else 0#32)
theorem own_bx (a b : BitVec 32) : bs (a ^^^ b) = bs a ^^^ bs b := by
  unfold bs
  rw [BitVec.shiftLeft_xor_distrib, BitVec.getLsbD_xor]
  have e : ∀ p q r s : BitVec 32, (p ^^^ q) ^^^ (r ^^^ s) = (p ^^^ r) ^^^ (q ^^^ s) := by intro p q r s; ac_rfl
  rw [← e]
  congr 1
  cases a.getLsbD 15 <;> cases b.getLsbD 15 <;> decide
def bs8 (v : BitVec 32) : BitVec 32 := bs (bs (bs (bs (bs (bs (bs (bs v)))))))
theorem own_b8 (a b : BitVec 32) : bs8 (a ^^^ b) = bs8 a ^^^ bs8 b := by
  unfold bs8; simp only [own_bx]
theorem own_lo : ∀ n : Fin 256, bs8 (BitVec.ofNat 32 n) = BitVec.ofNat 32 n <<< 8 := by decide +kernel
def own_hxf (v : BitVec 32) : BitVec 32 := ((v ^^^ (v >>> 4)) <<< 12) ^^^ ((v ^^^ (v >>> 4)) <<< 5) ^^^ (v ^^^ (v >>> 4))
theorem own_hi : ∀ n : Fin 256, (bs8 (BitVec.ofNat 32 n <<< 8)) &&& 65535#32 = (own_hxf (BitVec.ofNat 32 n)) &&& 65535#32 := by decide +kernel
theorem own_m8 (i : Nat) : (255#32).getLsbD i = decide (i < 8) := by
  rw [BitVec.getLsbD_ofNat, show (255 : Nat) = 2 ^ 8 - 1 from rfl, Nat.testBit_two_pow_sub_one]
  by_cases h : i < 8 <;> simp [h]; omega
theorem own_m16 (i : Nat) : (65535#32).getLsbD i = decide (i < 16) := by
  rw [BitVec.getLsbD_ofNat, show (65535 : Nat) = 2 ^ 16 - 1 from rfl, Nat.testBit_two_pow_sub_one]
  by_cases h : i < 16 <;> simp [h]; omega
theorem own_x0 (c d : BitVec 32) (hc : c &&& 65535#32 = c) : ((c >>> 8) ^^^ (d &&& 255#32)) &&& 255#32 = (c ^^^ ((d &&& 255#32) <<< 8)) >>> 8 := by
  rw [← hc]
  apply BitVec.eq_of_getLsbD_eq
  intro i hi
  simp only [BitVec.getLsbD_and, BitVec.getLsbD_xor, BitVec.getLsbD_ushiftRight, BitVec.getLsbD_shiftLeft, own_m8, own_m16]
  by_cases h : i < 8
  · have h1 : 8 + i < 32 := by omega
    have h2 : ¬ (8 + i < 8) := by omega
    have h3 : 8 + i - 8 = i := by omega
    have h4 : 8 + i < 16 := by omega
    simp [h, h1, h2, h3, h4]
  · have h4 : ¬ (8 + i < 16) := by omega
    have h5 : 8 + i - 8 = i := by omega
    simp [h, h4, h5]
theorem own_split (c : BitVec 32) (hc : c &&& 65535#32 = c) : c = ((c >>> 8) <<< 8) ^^^ (c &&& 255#32) := by
  apply BitVec.eq_of_getLsbD_eq
  intro i hi
  simp only [BitVec.getLsbD_and, BitVec.getLsbD_xor, BitVec.getLsbD_ushiftRight, BitVec.getLsbD_shiftLeft, own_m8]
  by_cases h : i < 8
  · simp [h]
  · have h2 : 8 + (i - 8) = i := by omega
    simp [h, hi, h2]
theorem own_lo2 (c d : BitVec 32) : ((c ^^^ ((d &&& 255#32) <<< 8)) &&& 255#32) = c &&& 255#32 := by
  apply BitVec.eq_of_getLsbD_eq
  intro i hi
  simp only [BitVec.getLsbD_and, BitVec.getLsbD_xor, BitVec.getLsbD_shiftLeft, own_m8]
  by_cases h : i < 8
  · simp [h]
  · simp [h]
theorem own_lo3 (c : BitVec 32) : ((c &&& 255#32) <<< 8) &&& 65535#32 = (c <<< 8) &&& 65535#32 := by
  apply BitVec.eq_of_getLsbD_eq
  intro i hi
  simp only [BitVec.getLsbD_and, BitVec.getLsbD_shiftLeft, own_m8, own_m16]
  by_cases h : i < 16
  · by_cases h2 : i < 8
    · simp [h2]
    · have h3 : i - 8 < 8 := by omega
      simp [h, h2, h3, hi]
  · simp [h]
theorem own_w16 (c d : BitVec 32) (hc : c &&& 65535#32 = c) : (c ^^^ ((d &&& 255#32) <<< 8)) &&& 65535#32 = (c ^^^ ((d &&& 255#32) <<< 8)) := by
  apply BitVec.eq_of_getLsbD_eq
  intro i hi
  have q : c.getLsbD i = (c.getLsbD i && decide (i < 16)) := by
    have := congrArg (fun v => v.getLsbD i) hc
    simp only [BitVec.getLsbD_and, own_m16] at this
    exact this.symm
  simp only [BitVec.getLsbD_and, BitVec.getLsbD_xor, BitVec.getLsbD_shiftLeft, own_m8, own_m16]
  by_cases h : i < 16
  · simp [h]
  · have h2 : ¬ (i - 8 < 8) := by omega
    rw [q]; simp [h, h2]
theorem own_xa (a b m : BitVec 32) : (a ^^^ b) &&& m = (a &&& m) ^^^ (b &&& m) := by
  apply BitVec.eq_of_getLsbD_eq
  intro i hi
  simp only [BitVec.getLsbD_and, BitVec.getLsbD_xor]
  cases a.getLsbD i <;> cases b.getLsbD i <;> cases m.getLsbD i <;> rfl
theorem own_small (v : BitVec 32) (h : v &&& 255#32 = v) : ∃ n : Fin 256, v = BitVec.ofNat 32 n := by
  refine ⟨⟨v.toNat % 256, Nat.mod_lt _ (by decide)⟩, ?_⟩
  apply BitVec.eq_of_toNat_eq
  have q := congrArg BitVec.toNat h
  rw [BitVec.toNat_and, show (255#32).toNat = 2 ^ 8 - 1 from rfl, Nat.and_two_pow_sub_one_eq_mod] at q
  rw [BitVec.toNat_ofNat]
  show v.toNat = v.toNat % 256 % 2 ^ 32
  omega
theorem own_byte (c d : BitVec 32) (hc : c &&& 65535#32 = c) : (bs8 (c ^^^ ((d &&& 255#32) <<< 8))) &&& 65535#32 = ((c <<< 8) ^^^ own_hxf (((c >>> 8) ^^^ (d &&& 255#32)) &&& 255#32)) &&& 65535#32 := by
  rw [own_x0 c d hc]
  have hs := own_split _ (own_w16 c d hc)
  rw [own_lo2] at hs
  have h1 : ((c ^^^ ((d &&& 255#32) <<< 8)) >>> 8) &&& 255#32 = ((c ^^^ ((d &&& 255#32) <<< 8)) >>> 8) := by
    rw [← own_x0 c d hc, BitVec.and_assoc]; rfl
  generalize hv : (c ^^^ ((d &&& 255#32) <<< 8)) >>> 8 = v at *
  rw [hs, own_b8, own_xa, own_xa]
  obtain ⟨n, rfl⟩ := own_small v h1
  rw [own_hi]
  have h2 : (c &&& 255#32) &&& 255#32 = c &&& 255#32 := by rw [BitVec.and_assoc]; rfl
  obtain ⟨k, hk⟩ := own_small _ h2
  rw [hk, own_lo, ← hk, own_lo3, BitVec.xor_comm]
theorem own_sbit (c : Int32) : (sbit c).toBitVec = bs c.toBitVec := by
  have key : ((c &&& (32768 : Int32)) = 0) ↔ c.toBitVec.getLsbD 15 = false := by
    rw [← Int32.toBitVec_inj]
    show c.toBitVec &&& 32768#32 = 0#32 ↔ _
    rw [show 32768#32 = BitVec.twoPow 32 15 from rfl, BitVec.and_twoPow]
    cases c.toBitVec.getLsbD 15
    · simp
    · simp only [if_true]; exact ⟨fun h => absurd h (by decide), fun h => absurd h (by decide)⟩
  unfold sbit bs
  by_cases h : (c &&& (32768 : Int32)) = 0
  · rw [if_pos h, key.mp h]
    show c.toBitVec <<< 1 = c.toBitVec <<< 1 ^^^ 0#32
    rw [BitVec.xor_zero]
  · rw [if_neg h]
    have h2 : c.toBitVec.getLsbD 15 = true := by
      cases q : c.toBitVec.getLsbD 15
      · exact absurd (key.mpr q) h
      · rfl
    rw [h2]; rfl
theorem own_sby (c d : Int32) : (sby c d).toBitVec = (bs8 (c.toBitVec ^^^ ((d.toBitVec &&& 255#32) <<< 8))) &&& 65535#32 := by
  unfold sby
  show (sit 8 _).toBitVec &&& 65535#32 = _
  show (sbit (sbit (sbit (sbit (sbit (sbit (sbit (sbit _)))))))).toBitVec &&& 65535#32 = _
  simp only [own_sbit]
  rfl
def W16 (c : Int32) : Prop := c.toBitVec &&& 65535#32 = c.toBitVec
theorem own_Wsby (c d : Int32) : W16 (sby c d) := by
  unfold W16; rw [own_sby, BitVec.and_assoc]; rfl
theorem own_W0 : W16 65535 := rfl
theorem own_f21 (c d : Int32) (h : W16 c) : f2 c d 1 = sby c d := by
  apply Int32.toBitVec_inj.mp
  rw [own_sby, own_byte _ _ h]
  unfold f2
  rw [if_neg (by decide)]
  unfold own_hxf
  have e : ∀ a p q r : BitVec 32, a ^^^ (p ^^^ q ^^^ r) = ((a ^^^ p) ^^^ q) ^^^ r := by intro a p q r; ac_rfl
  rw [e]
  rfl
theorem own_f20 (c d : Int32) : f2 c d 0 = c := by unfold f2; rw [if_pos rfl]
theorem own_i32 {x : Int32} {k : Int32} {z : Int} (h : x.toInt = z) (hk : k.toInt = z) : x = k := Int32.toInt_inj.mp (h.trans hk.symm)
def chain (bv : Nat → Int32) (o l : Int32) : Int32 := (f2 (f2 (f2 (f2 (f2 (f2 (65535 : Int32) (bv 0) (f1 (0 : Int32) o l)) (bv 1) (f1 (1 : Int32) o l)) (bv 2) (f1 (2 : Int32) o l)) (bv 3) (f1 (3 : Int32) o l)) (bv 4) (f1 (4 : Int32) o l)) (bv 5) (f1 (5 : Int32) o l))
theorem own_c0_0 (bv : Nat → Int32) : f3 0 0 bv = chain bv 0 0 := by
  have q0 : f1 (0 : Int32) 0 0 = 0 := by decide +kernel
  have q1 : f1 (1 : Int32) 0 0 = 0 := by decide +kernel
  have q2 : f1 (2 : Int32) 0 0 = 0 := by decide +kernel
  have q3 : f1 (3 : Int32) 0 0 = 0 := by decide +kernel
  have q4 : f1 (4 : Int32) 0 0 = 0 := by decide +kernel
  have q5 : f1 (5 : Int32) 0 0 = 0 := by decide +kernel
  unfold chain
  rw [q0, q1, q2, q3, q4, q5]
  exact (show f3 0 0 bv = (65535 : Int32) from rfl).trans ((congrArg (fun z => f2 z (bv 5) 0) ((congrArg (fun z => f2 z (bv 4) 0) ((congrArg (fun z => f2 z (bv 3) 0) ((congrArg (fun z => f2 z (bv 2) 0) ((congrArg (fun z => f2 z (bv 1) 0) (own_f20 (65535 : Int32) (bv 0))).trans (own_f20 (65535 : Int32) (bv 1)))).trans (own_f20 (65535 : Int32) (bv 2)))).trans (own_f20 (65535 : Int32) (bv 3)))).trans (own_f20 (65535 : Int32) (bv 4)))).trans (own_f20 (65535 : Int32) (bv 5))).symm
theorem own_c0_1 (bv : Nat → Int32) : f3 0 1 bv = chain bv 0 1 := by
  have q0 : f1 (0 : Int32) 0 1 = 1 := by decide +kernel
  have q1 : f1 (1 : Int32) 0 1 = 0 := by decide +kernel
  have q2 : f1 (2 : Int32) 0 1 = 0 := by decide +kernel
  have q3 : f1 (3 : Int32) 0 1 = 0 := by decide +kernel
  have q4 : f1 (4 : Int32) 0 1 = 0 := by decide +kernel
  have q5 : f1 (5 : Int32) 0 1 = 0 := by decide +kernel
  unfold chain
  rw [q0, q1, q2, q3, q4, q5]
  exact (show f3 0 1 bv = (sby (65535 : Int32) (bv 0)) from rfl).trans ((congrArg (fun z => f2 z (bv 5) 0) ((congrArg (fun z => f2 z (bv 4) 0) ((congrArg (fun z => f2 z (bv 3) 0) ((congrArg (fun z => f2 z (bv 2) 0) ((congrArg (fun z => f2 z (bv 1) 0) (own_f21 (65535 : Int32) (bv 0) own_W0)).trans (own_f20 (sby (65535 : Int32) (bv 0)) (bv 1)))).trans (own_f20 (sby (65535 : Int32) (bv 0)) (bv 2)))).trans (own_f20 (sby (65535 : Int32) (bv 0)) (bv 3)))).trans (own_f20 (sby (65535 : Int32) (bv 0)) (bv 4)))).trans (own_f20 (sby (65535 : Int32) (bv 0)) (bv 5))).symm
theorem own_c0_2 (bv : Nat → Int32) : f3 0 2 bv = chain bv 0 2 := by
  have q0 : f1 (0 : Int32) 0 2 = 1 := by decide +kernel
  have q1 : f1 (1 : Int32) 0 2 = 1 := by decide +kernel
  have q2 : f1 (2 : Int32) 0 2 = 0 := by decide +kernel
  have q3 : f1 (3 : Int32) 0 2 = 0 := by decide +kernel
  have q4 : f1 (4 : Int32) 0 2 = 0 := by decide +kernel
  have q5 : f1 (5 : Int32) 0 2 = 0 := by decide +kernel
  unfold chain
  rw [q0, q1, q2, q3, q4, q5]
  exact (show f3 0 2 bv = (sby (sby (65535 : Int32) (bv 0)) (bv 1)) from rfl).trans ((congrArg (fun z => f2 z (bv 5) 0) ((congrArg (fun z => f2 z (bv 4) 0) ((congrArg (fun z => f2 z (bv 3) 0) ((congrArg (fun z => f2 z (bv 2) 0) ((congrArg (fun z => f2 z (bv 1) 1) (own_f21 (65535 : Int32) (bv 0) own_W0)).trans (own_f21 (sby (65535 : Int32) (bv 0)) (bv 1) (own_Wsby _ _)))).trans (own_f20 (sby (sby (65535 : Int32) (bv 0)) (bv 1)) (bv 2)))).trans (own_f20 (sby (sby (65535 : Int32) (bv 0)) (bv 1)) (bv 3)))).trans (own_f20 (sby (sby (65535 : Int32) (bv 0)) (bv 1)) (bv 4)))).trans (own_f20 (sby (sby (65535 : Int32) (bv 0)) (bv 1)) (bv 5))).symm
theorem own_c0_3 (bv : Nat → Int32) : f3 0 3 bv = chain bv 0 3 := by
  have q0 : f1 (0 : Int32) 0 3 = 1 := by decide +kernel
  have q1 : f1 (1 : Int32) 0 3 = 1 := by decide +kernel
  have q2 : f1 (2 : Int32) 0 3 = 1 := by decide +kernel
  have q3 : f1 (3 : Int32) 0 3 = 0 := by decide +kernel
  have q4 : f1 (4 : Int32) 0 3 = 0 := by decide +kernel
  have q5 : f1 (5 : Int32) 0 3 = 0 := by decide +kernel
  unfold chain
  rw [q0, q1, q2, q3, q4, q5]
  exact (show f3 0 3 bv = (sby (sby (sby (65535 : Int32) (bv 0)) (bv 1)) (bv 2)) from rfl).trans ((congrArg (fun z => f2 z (bv 5) 0) ((congrArg (fun z => f2 z (bv 4) 0) ((congrArg (fun z => f2 z (bv 3) 0) ((congrArg (fun z => f2 z (bv 2) 1) ((congrArg (fun z => f2 z (bv 1) 1) (own_f21 (65535 : Int32) (bv 0) own_W0)).trans (own_f21 (sby (65535 : Int32) (bv 0)) (bv 1) (own_Wsby _ _)))).trans (own_f21 (sby (sby (65535 : Int32) (bv 0)) (bv 1)) (bv 2) (own_Wsby _ _)))).trans (own_f20 (sby (sby (sby (65535 : Int32) (bv 0)) (bv 1)) (bv 2)) (bv 3)))).trans (own_f20 (sby (sby (sby (65535 : Int32) (bv 0)) (bv 1)) (bv 2)) (bv 4)))).trans (own_f20 (sby (sby (sby (65535 : Int32) (bv 0)) (bv 1)) (bv 2)) (bv 5))).symm
theorem own_c0_4 (bv : Nat → Int32) : f3 0 4 bv = chain bv 0 4 := by
  have q0 : f1 (0 : Int32) 0 4 = 1 := by decide +kernel
  have q1 : f1 (1 : Int32) 0 4 = 1 := by decide +kernel
  have q2 : f1 (2 : Int32) 0 4 = 1 := by decide +kernel
  have q3 : f1 (3 : Int32) 0 4 = 1 := by decide +kernel
  have q4 : f1 (4 : Int32) 0 4 = 0 := by decide +kernel
  have q5 : f1 (5 : Int32) 0 4 = 0 := by decide +kernel
  unfold chain
  rw [q0, q1, q2, q3, q4, q5]
  exact (show f3 0 4 bv = (sby (sby (sby (sby (65535 : Int32) (bv 0)) (bv 1)) (bv 2)) (bv 3)) from rfl).trans ((congrArg (fun z => f2 z (bv 5) 0) ((congrArg (fun z => f2 z (bv 4) 0) ((congrArg (fun z => f2 z (bv 3) 1) ((congrArg (fun z => f2 z (bv 2) 1) ((congrArg (fun z => f2 z (bv 1) 1) (own_f21 (65535 : Int32) (bv 0) own_W0)).trans (own_f21 (sby (65535 : Int32) (bv 0)) (bv 1) (own_Wsby _ _)))).trans (own_f21 (sby (sby (65535 : Int32) (bv 0)) (bv 1)) (bv 2) (own_Wsby _ _)))).trans (own_f21 (sby (sby (sby (65535 : Int32) (bv 0)) (bv 1)) (bv 2)) (bv 3) (own_Wsby _ _)))).trans (own_f20 (sby (sby (sby (sby (65535 : Int32) (bv 0)) (bv 1)) (bv 2)) (bv 3)) (bv 4)))).trans (own_f20 (sby (sby (sby (sby (65535 : Int32) (bv 0)) (bv 1)) (bv 2)) (bv 3)) (bv 5))).symm
theorem own_c0_5 (bv : Nat → Int32) : f3 0 5 bv = chain bv 0 5 := by
  have q0 : f1 (0 : Int32) 0 5 = 1 := by decide +kernel
  have q1 : f1 (1 : Int32) 0 5 = 1 := by decide +kernel
  have q2 : f1 (2 : Int32) 0 5 = 1 := by decide +kernel
  have q3 : f1 (3 : Int32) 0 5 = 1 := by decide +kernel
  have q4 : f1 (4 : Int32) 0 5 = 1 := by decide +kernel
  have q5 : f1 (5 : Int32) 0 5 = 0 := by decide +kernel
  unfold chain
  rw [q0, q1, q2, q3, q4, q5]
  exact (show f3 0 5 bv = (sby (sby (sby (sby (sby (65535 : Int32) (bv 0)) (bv 1)) (bv 2)) (bv 3)) (bv 4)) from rfl).trans ((congrArg (fun z => f2 z (bv 5) 0) ((congrArg (fun z => f2 z (bv 4) 1) ((congrArg (fun z => f2 z (bv 3) 1) ((congrArg (fun z => f2 z (bv 2) 1) ((congrArg (fun z => f2 z (bv 1) 1) (own_f21 (65535 : Int32) (bv 0) own_W0)).trans (own_f21 (sby (65535 : Int32) (bv 0)) (bv 1) (own_Wsby _ _)))).trans (own_f21 (sby (sby (65535 : Int32) (bv 0)) (bv 1)) (bv 2) (own_Wsby _ _)))).trans (own_f21 (sby (sby (sby (65535 : Int32) (bv 0)) (bv 1)) (bv 2)) (bv 3) (own_Wsby _ _)))).trans (own_f21 (sby (sby (sby (sby (65535 : Int32) (bv 0)) (bv 1)) (bv 2)) (bv 3)) (bv 4) (own_Wsby _ _)))).trans (own_f20 (sby (sby (sby (sby (sby (65535 : Int32) (bv 0)) (bv 1)) (bv 2)) (bv 3)) (bv 4)) (bv 5))).symm
theorem own_c0_6 (bv : Nat → Int32) : f3 0 6 bv = chain bv 0 6 := by
  have q0 : f1 (0 : Int32) 0 6 = 1 := by decide +kernel
  have q1 : f1 (1 : Int32) 0 6 = 1 := by decide +kernel
  have q2 : f1 (2 : Int32) 0 6 = 1 := by decide +kernel
  have q3 : f1 (3 : Int32) 0 6 = 1 := by decide +kernel
  have q4 : f1 (4 : Int32) 0 6 = 1 := by decide +kernel
  have q5 : f1 (5 : Int32) 0 6 = 1 := by decide +kernel
  unfold chain
  rw [q0, q1, q2, q3, q4, q5]
  exact (show f3 0 6 bv = (sby (sby (sby (sby (sby (sby (65535 : Int32) (bv 0)) (bv 1)) (bv 2)) (bv 3)) (bv 4)) (bv 5)) from rfl).trans ((congrArg (fun z => f2 z (bv 5) 1) ((congrArg (fun z => f2 z (bv 4) 1) ((congrArg (fun z => f2 z (bv 3) 1) ((congrArg (fun z => f2 z (bv 2) 1) ((congrArg (fun z => f2 z (bv 1) 1) (own_f21 (65535 : Int32) (bv 0) own_W0)).trans (own_f21 (sby (65535 : Int32) (bv 0)) (bv 1) (own_Wsby _ _)))).trans (own_f21 (sby (sby (65535 : Int32) (bv 0)) (bv 1)) (bv 2) (own_Wsby _ _)))).trans (own_f21 (sby (sby (sby (65535 : Int32) (bv 0)) (bv 1)) (bv 2)) (bv 3) (own_Wsby _ _)))).trans (own_f21 (sby (sby (sby (sby (65535 : Int32) (bv 0)) (bv 1)) (bv 2)) (bv 3)) (bv 4) (own_Wsby _ _)))).trans (own_f21 (sby (sby (sby (sby (sby (65535 : Int32) (bv 0)) (bv 1)) (bv 2)) (bv 3)) (bv 4)) (bv 5) (own_Wsby _ _))).symm
theorem own_c1_0 (bv : Nat → Int32) : f3 1 0 bv = chain bv 1 0 := by
  have q0 : f1 (0 : Int32) 1 0 = 0 := by decide +kernel
  have q1 : f1 (1 : Int32) 1 0 = 0 := by decide +kernel
  have q2 : f1 (2 : Int32) 1 0 = 0 := by decide +kernel
  have q3 : f1 (3 : Int32) 1 0 = 0 := by decide +kernel
  have q4 : f1 (4 : Int32) 1 0 = 0 := by decide +kernel
  have q5 : f1 (5 : Int32) 1 0 = 0 := by decide +kernel
  unfold chain
  rw [q0, q1, q2, q3, q4, q5]
  exact (show f3 1 0 bv = (65535 : Int32) from rfl).trans ((congrArg (fun z => f2 z (bv 5) 0) ((congrArg (fun z => f2 z (bv 4) 0) ((congrArg (fun z => f2 z (bv 3) 0) ((congrArg (fun z => f2 z (bv 2) 0) ((congrArg (fun z => f2 z (bv 1) 0) (own_f20 (65535 : Int32) (bv 0))).trans (own_f20 (65535 : Int32) (bv 1)))).trans (own_f20 (65535 : Int32) (bv 2)))).trans (own_f20 (65535 : Int32) (bv 3)))).trans (own_f20 (65535 : Int32) (bv 4)))).trans (own_f20 (65535 : Int32) (bv 5))).symm
theorem own_c1_1 (bv : Nat → Int32) : f3 1 1 bv = chain bv 1 1 := by
  have q0 : f1 (0 : Int32) 1 1 = 0 := by decide +kernel
  have q1 : f1 (1 : Int32) 1 1 = 1 := by decide +kernel
  have q2 : f1 (2 : Int32) 1 1 = 0 := by decide +kernel
  have q3 : f1 (3 : Int32) 1 1 = 0 := by decide +kernel
  have q4 : f1 (4 : Int32) 1 1 = 0 := by decide +kernel
  have q5 : f1 (5 : Int32) 1 1 = 0 := by decide +kernel
  unfold chain
  rw [q0, q1, q2, q3, q4, q5]
  exact (show f3 1 1 bv = (sby (65535 : Int32) (bv 1)) from rfl).trans ((congrArg (fun z => f2 z (bv 5) 0) ((congrArg (fun z => f2 z (bv 4) 0) ((congrArg (fun z => f2 z (bv 3) 0) ((congrArg (fun z => f2 z (bv 2) 0) ((congrArg (fun z => f2 z (bv 1) 1) (own_f20 (65535 : Int32) (bv 0))).trans (own_f21 (65535 : Int32) (bv 1) own_W0))).trans (own_f20 (sby (65535 : Int32) (bv 1)) (bv 2)))).trans (own_f20 (sby (65535 : Int32) (bv 1)) (bv 3)))).trans (own_f20 (sby (65535 : Int32) (bv 1)) (bv 4)))).trans (own_f20 (sby (65535 : Int32) (bv 1)) (bv 5))).symm
theorem own_c1_2 (bv : Nat → Int32) : f3 1 2 bv = chain bv 1 2 := by
  have q0 : f1 (0 : Int32) 1 2 = 0 := by decide +kernel
  have q1 : f1 (1 : Int32) 1 2 = 1 := by decide +kernel
  have q2 : f1 (2 : Int32) 1 2 = 1 := by decide +kernel
  have q3 : f1 (3 : Int32) 1 2 = 0 := by decide +kernel
  have q4 : f1 (4 : Int32) 1 2 = 0 := by decide +kernel
  have q5 : f1 (5 : Int32) 1 2 = 0 := by decide +kernel
  unfold chain
  rw [q0, q1, q2, q3, q4, q5]
  exact (show f3 1 2 bv = (sby (sby (65535 : Int32) (bv 1)) (bv 2)) from rfl).trans ((congrArg (fun z => f2 z (bv 5) 0) ((congrArg (fun z => f2 z (bv 4) 0) ((congrArg (fun z => f2 z (bv 3) 0) ((congrArg (fun z => f2 z (bv 2) 1) ((congrArg (fun z => f2 z (bv 1) 1) (own_f20 (65535 : Int32) (bv 0))).trans (own_f21 (65535 : Int32) (bv 1) own_W0))).trans (own_f21 (sby (65535 : Int32) (bv 1)) (bv 2) (own_Wsby _ _)))).trans (own_f20 (sby (sby (65535 : Int32) (bv 1)) (bv 2)) (bv 3)))).trans (own_f20 (sby (sby (65535 : Int32) (bv 1)) (bv 2)) (bv 4)))).trans (own_f20 (sby (sby (65535 : Int32) (bv 1)) (bv 2)) (bv 5))).symm
theorem own_c1_3 (bv : Nat → Int32) : f3 1 3 bv = chain bv 1 3 := by
  have q0 : f1 (0 : Int32) 1 3 = 0 := by decide +kernel
  have q1 : f1 (1 : Int32) 1 3 = 1 := by decide +kernel
  have q2 : f1 (2 : Int32) 1 3 = 1 := by decide +kernel
  have q3 : f1 (3 : Int32) 1 3 = 1 := by decide +kernel
  have q4 : f1 (4 : Int32) 1 3 = 0 := by decide +kernel
  have q5 : f1 (5 : Int32) 1 3 = 0 := by decide +kernel
  unfold chain
  rw [q0, q1, q2, q3, q4, q5]
  exact (show f3 1 3 bv = (sby (sby (sby (65535 : Int32) (bv 1)) (bv 2)) (bv 3)) from rfl).trans ((congrArg (fun z => f2 z (bv 5) 0) ((congrArg (fun z => f2 z (bv 4) 0) ((congrArg (fun z => f2 z (bv 3) 1) ((congrArg (fun z => f2 z (bv 2) 1) ((congrArg (fun z => f2 z (bv 1) 1) (own_f20 (65535 : Int32) (bv 0))).trans (own_f21 (65535 : Int32) (bv 1) own_W0))).trans (own_f21 (sby (65535 : Int32) (bv 1)) (bv 2) (own_Wsby _ _)))).trans (own_f21 (sby (sby (65535 : Int32) (bv 1)) (bv 2)) (bv 3) (own_Wsby _ _)))).trans (own_f20 (sby (sby (sby (65535 : Int32) (bv 1)) (bv 2)) (bv 3)) (bv 4)))).trans (own_f20 (sby (sby (sby (65535 : Int32) (bv 1)) (bv 2)) (bv 3)) (bv 5))).symm
theorem own_c1_4 (bv : Nat → Int32) : f3 1 4 bv = chain bv 1 4 := by
  have q0 : f1 (0 : Int32) 1 4 = 0 := by decide +kernel
  have q1 : f1 (1 : Int32) 1 4 = 1 := by decide +kernel
  have q2 : f1 (2 : Int32) 1 4 = 1 := by decide +kernel
  have q3 : f1 (3 : Int32) 1 4 = 1 := by decide +kernel
  have q4 : f1 (4 : Int32) 1 4 = 1 := by decide +kernel
  have q5 : f1 (5 : Int32) 1 4 = 0 := by decide +kernel
  unfold chain
  rw [q0, q1, q2, q3, q4, q5]
  exact (show f3 1 4 bv = (sby (sby (sby (sby (65535 : Int32) (bv 1)) (bv 2)) (bv 3)) (bv 4)) from rfl).trans ((congrArg (fun z => f2 z (bv 5) 0) ((congrArg (fun z => f2 z (bv 4) 1) ((congrArg (fun z => f2 z (bv 3) 1) ((congrArg (fun z => f2 z (bv 2) 1) ((congrArg (fun z => f2 z (bv 1) 1) (own_f20 (65535 : Int32) (bv 0))).trans (own_f21 (65535 : Int32) (bv 1) own_W0))).trans (own_f21 (sby (65535 : Int32) (bv 1)) (bv 2) (own_Wsby _ _)))).trans (own_f21 (sby (sby (65535 : Int32) (bv 1)) (bv 2)) (bv 3) (own_Wsby _ _)))).trans (own_f21 (sby (sby (sby (65535 : Int32) (bv 1)) (bv 2)) (bv 3)) (bv 4) (own_Wsby _ _)))).trans (own_f20 (sby (sby (sby (sby (65535 : Int32) (bv 1)) (bv 2)) (bv 3)) (bv 4)) (bv 5))).symm
theorem own_c1_5 (bv : Nat → Int32) : f3 1 5 bv = chain bv 1 5 := by
  have q0 : f1 (0 : Int32) 1 5 = 0 := by decide +kernel
  have q1 : f1 (1 : Int32) 1 5 = 1 := by decide +kernel
  have q2 : f1 (2 : Int32) 1 5 = 1 := by decide +kernel
  have q3 : f1 (3 : Int32) 1 5 = 1 := by decide +kernel
  have q4 : f1 (4 : Int32) 1 5 = 1 := by decide +kernel
  have q5 : f1 (5 : Int32) 1 5 = 1 := by decide +kernel
  unfold chain
  rw [q0, q1, q2, q3, q4, q5]
  exact (show f3 1 5 bv = (sby (sby (sby (sby (sby (65535 : Int32) (bv 1)) (bv 2)) (bv 3)) (bv 4)) (bv 5)) from rfl).trans ((congrArg (fun z => f2 z (bv 5) 1) ((congrArg (fun z => f2 z (bv 4) 1) ((congrArg (fun z => f2 z (bv 3) 1) ((congrArg (fun z => f2 z (bv 2) 1) ((congrArg (fun z => f2 z (bv 1) 1) (own_f20 (65535 : Int32) (bv 0))).trans (own_f21 (65535 : Int32) (bv 1) own_W0))).trans (own_f21 (sby (65535 : Int32) (bv 1)) (bv 2) (own_Wsby _ _)))).trans (own_f21 (sby (sby (65535 : Int32) (bv 1)) (bv 2)) (bv 3) (own_Wsby _ _)))).trans (own_f21 (sby (sby (sby (65535 : Int32) (bv 1)) (bv 2)) (bv 3)) (bv 4) (own_Wsby _ _)))).trans (own_f21 (sby (sby (sby (sby (65535 : Int32) (bv 1)) (bv 2)) (bv 3)) (bv 4)) (bv 5) (own_Wsby _ _))).symm
theorem own_c2_0 (bv : Nat → Int32) : f3 2 0 bv = chain bv 2 0 := by
  have q0 : f1 (0 : Int32) 2 0 = 0 := by decide +kernel
  have q1 : f1 (1 : Int32) 2 0 = 0 := by decide +kernel
  have q2 : f1 (2 : Int32) 2 0 = 0 := by decide +kernel
  have q3 : f1 (3 : Int32) 2 0 = 0 := by decide +kernel
  have q4 : f1 (4 : Int32) 2 0 = 0 := by decide +kernel
  have q5 : f1 (5 : Int32) 2 0 = 0 := by decide +kernel
  unfold chain
  rw [q0, q1, q2, q3, q4, q5]
  exact (show f3 2 0 bv = (65535 : Int32) from rfl).trans ((congrArg (fun z => f2 z (bv 5) 0) ((congrArg (fun z => f2 z (bv 4) 0) ((congrArg (fun z => f2 z (bv 3) 0) ((congrArg (fun z => f2 z (bv 2) 0) ((congrArg (fun z => f2 z (bv 1) 0) (own_f20 (65535 : Int32) (bv 0))).trans (own_f20 (65535 : Int32) (bv 1)))).trans (own_f20 (65535 : Int32) (bv 2)))).trans (own_f20 (65535 : Int32) (bv 3)))).trans (own_f20 (65535 : Int32) (bv 4)))).trans (own_f20 (65535 : Int32) (bv 5))).symm
theorem own_c2_1 (bv : Nat → Int32) : f3 2 1 bv = chain bv 2 1 := by
  have q0 : f1 (0 : Int32) 2 1 = 0 := by decide +kernel
  have q1 : f1 (1 : Int32) 2 1 = 0 := by decide +kernel
  have q2 : f1 (2 : Int32) 2 1 = 1 := by decide +kernel
  have q3 : f1 (3 : Int32) 2 1 = 0 := by decide +kernel
  have q4 : f1 (4 : Int32) 2 1 = 0 := by decide +kernel
  have q5 : f1 (5 : Int32) 2 1 = 0 := by decide +kernel
  unfold chain
  rw [q0, q1, q2, q3, q4, q5]
  exact (show f3 2 1 bv = (sby (65535 : Int32) (bv 2)) from rfl).trans ((congrArg (fun z => f2 z (bv 5) 0) ((congrArg (fun z => f2 z (bv 4) 0) ((congrArg (fun z => f2 z (bv 3) 0) ((congrArg (fun z => f2 z (bv 2) 1) ((congrArg (fun z => f2 z (bv 1) 0) (own_f20 (65535 : Int32) (bv 0))).trans (own_f20 (65535 : Int32) (bv 1)))).trans (own_f21 (65535 : Int32) (bv 2) own_W0))).trans (own_f20 (sby (65535 : Int32) (bv 2)) (bv 3)))).trans (own_f20 (sby (65535 : Int32) (bv 2)) (bv 4)))).trans (own_f20 (sby (65535 : Int32) (bv 2)) (bv 5))).symm
theorem own_c2_2 (bv : Nat → Int32) : f3 2 2 bv = chain bv 2 2 := by
  have q0 : f1 (0 : Int32) 2 2 = 0 := by decide +kernel
  have q1 : f1 (1 : Int32) 2 2 = 0 := by decide +kernel
  have q2 : f1 (2 : Int32) 2 2 = 1 := by decide +kernel
  have q3 : f1 (3 : Int32) 2 2 = 1 := by decide +kernel
  have q4 : f1 (4 : Int32) 2 2 = 0 := by decide +kernel
  have q5 : f1 (5 : Int32) 2 2 = 0 := by decide +kernel
  unfold chain
  rw [q0, q1, q2, q3, q4, q5]
  exact (show f3 2 2 bv = (sby (sby (65535 : Int32) (bv 2)) (bv 3)) from rfl).trans ((congrArg (fun z => f2 z (bv 5) 0) ((congrArg (fun z => f2 z (bv 4) 0) ((congrArg (fun z => f2 z (bv 3) 1) ((congrArg (fun z => f2 z (bv 2) 1) ((congrArg (fun z => f2 z (bv 1) 0) (own_f20 (65535 : Int32) (bv 0))).trans (own_f20 (65535 : Int32) (bv 1)))).trans (own_f21 (65535 : Int32) (bv 2) own_W0))).trans (own_f21 (sby (65535 : Int32) (bv 2)) (bv 3) (own_Wsby _ _)))).trans (own_f20 (sby (sby (65535 : Int32) (bv 2)) (bv 3)) (bv 4)))).trans (own_f20 (sby (sby (65535 : Int32) (bv 2)) (bv 3)) (bv 5))).symm
theorem own_c2_3 (bv : Nat → Int32) : f3 2 3 bv = chain bv 2 3 := by
  have q0 : f1 (0 : Int32) 2 3 = 0 := by decide +kernel
  have q1 : f1 (1 : Int32) 2 3 = 0 := by decide +kernel
  have q2 : f1 (2 : Int32) 2 3 = 1 := by decide +kernel
  have q3 : f1 (3 : Int32) 2 3 = 1 := by decide +kernel
  have q4 : f1 (4 : Int32) 2 3 = 1 := by decide +kernel
  have q5 : f1 (5 : Int32) 2 3 = 0 := by decide +kernel
  unfold chain
  rw [q0, q1, q2, q3, q4, q5]
  exact (show f3 2 3 bv = (sby (sby (sby (65535 : Int32) (bv 2)) (bv 3)) (bv 4)) from rfl).trans ((congrArg (fun z => f2 z (bv 5) 0) ((congrArg (fun z => f2 z (bv 4) 1) ((congrArg (fun z => f2 z (bv 3) 1) ((congrArg (fun z => f2 z (bv 2) 1) ((congrArg (fun z => f2 z (bv 1) 0) (own_f20 (65535 : Int32) (bv 0))).trans (own_f20 (65535 : Int32) (bv 1)))).trans (own_f21 (65535 : Int32) (bv 2) own_W0))).trans (own_f21 (sby (65535 : Int32) (bv 2)) (bv 3) (own_Wsby _ _)))).trans (own_f21 (sby (sby (65535 : Int32) (bv 2)) (bv 3)) (bv 4) (own_Wsby _ _)))).trans (own_f20 (sby (sby (sby (65535 : Int32) (bv 2)) (bv 3)) (bv 4)) (bv 5))).symm
theorem own_c2_4 (bv : Nat → Int32) : f3 2 4 bv = chain bv 2 4 := by
  have q0 : f1 (0 : Int32) 2 4 = 0 := by decide +kernel
  have q1 : f1 (1 : Int32) 2 4 = 0 := by decide +kernel
  have q2 : f1 (2 : Int32) 2 4 = 1 := by decide +kernel
  have q3 : f1 (3 : Int32) 2 4 = 1 := by decide +kernel
  have q4 : f1 (4 : Int32) 2 4 = 1 := by decide +kernel
  have q5 : f1 (5 : Int32) 2 4 = 1 := by decide +kernel
  unfold chain
  rw [q0, q1, q2, q3, q4, q5]
  exact (show f3 2 4 bv = (sby (sby (sby (sby (65535 : Int32) (bv 2)) (bv 3)) (bv 4)) (bv 5)) from rfl).trans ((congrArg (fun z => f2 z (bv 5) 1) ((congrArg (fun z => f2 z (bv 4) 1) ((congrArg (fun z => f2 z (bv 3) 1) ((congrArg (fun z => f2 z (bv 2) 1) ((congrArg (fun z => f2 z (bv 1) 0) (own_f20 (65535 : Int32) (bv 0))).trans (own_f20 (65535 : Int32) (bv 1)))).trans (own_f21 (65535 : Int32) (bv 2) own_W0))).trans (own_f21 (sby (65535 : Int32) (bv 2)) (bv 3) (own_Wsby _ _)))).trans (own_f21 (sby (sby (65535 : Int32) (bv 2)) (bv 3)) (bv 4) (own_Wsby _ _)))).trans (own_f21 (sby (sby (sby (65535 : Int32) (bv 2)) (bv 3)) (bv 4)) (bv 5) (own_Wsby _ _))).symm
theorem own_c3_0 (bv : Nat → Int32) : f3 3 0 bv = chain bv 3 0 := by
  have q0 : f1 (0 : Int32) 3 0 = 0 := by decide +kernel
  have q1 : f1 (1 : Int32) 3 0 = 0 := by decide +kernel
  have q2 : f1 (2 : Int32) 3 0 = 0 := by decide +kernel
  have q3 : f1 (3 : Int32) 3 0 = 0 := by decide +kernel
  have q4 : f1 (4 : Int32) 3 0 = 0 := by decide +kernel
  have q5 : f1 (5 : Int32) 3 0 = 0 := by decide +kernel
  unfold chain
  rw [q0, q1, q2, q3, q4, q5]
  exact (show f3 3 0 bv = (65535 : Int32) from rfl).trans ((congrArg (fun z => f2 z (bv 5) 0) ((congrArg (fun z => f2 z (bv 4) 0) ((congrArg (fun z => f2 z (bv 3) 0) ((congrArg (fun z => f2 z (bv 2) 0) ((congrArg (fun z => f2 z (bv 1) 0) (own_f20 (65535 : Int32) (bv 0))).trans (own_f20 (65535 : Int32) (bv 1)))).trans (own_f20 (65535 : Int32) (bv 2)))).trans (own_f20 (65535 : Int32) (bv 3)))).trans (own_f20 (65535 : Int32) (bv 4)))).trans (own_f20 (65535 : Int32) (bv 5))).symm
theorem own_c3_1 (bv : Nat → Int32) : f3 3 1 bv = chain bv 3 1 := by
  have q0 : f1 (0 : Int32) 3 1 = 0 := by decide +kernel
  have q1 : f1 (1 : Int32) 3 1 = 0 := by decide +kernel
  have q2 : f1 (2 : Int32) 3 1 = 0 := by decide +kernel
  have q3 : f1 (3 : Int32) 3 1 = 1 := by decide +kernel
  have q4 : f1 (4 : Int32) 3 1 = 0 := by decide +kernel
  have q5 : f1 (5 : Int32) 3 1 = 0 := by decide +kernel
  unfold chain
  rw [q0, q1, q2, q3, q4, q5]
  exact (show f3 3 1 bv = (sby (65535 : Int32) (bv 3)) from rfl).trans ((congrArg (fun z => f2 z (bv 5) 0) ((congrArg (fun z => f2 z (bv 4) 0) ((congrArg (fun z => f2 z (bv 3) 1) ((congrArg (fun z => f2 z (bv 2) 0) ((congrArg (fun z => f2 z (bv 1) 0) (own_f20 (65535 : Int32) (bv 0))).trans (own_f20 (65535 : Int32) (bv 1)))).trans (own_f20 (65535 : Int32) (bv 2)))).trans (own_f21 (65535 : Int32) (bv 3) own_W0))).trans (own_f20 (sby (65535 : Int32) (bv 3)) (bv 4)))).trans (own_f20 (sby (65535 : Int32) (bv 3)) (bv 5))).symm
theorem own_c3_2 (bv : Nat → Int32) : f3 3 2 bv = chain bv 3 2 := by
  have q0 : f1 (0 : Int32) 3 2 = 0 := by decide +kernel
  have q1 : f1 (1 : Int32) 3 2 = 0 := by decide +kernel
  have q2 : f1 (2 : Int32) 3 2 = 0 := by decide +kernel
  have q3 : f1 (3 : Int32) 3 2 = 1 := by decide +kernel
  have q4 : f1 (4 : Int32) 3 2 = 1 := by decide +kernel
  have q5 : f1 (5 : Int32) 3 2 = 0 := by decide +kernel
  unfold chain
  rw [q0, q1, q2, q3, q4, q5]
  exact (show f3 3 2 bv = (sby (sby (65535 : Int32) (bv 3)) (bv 4)) from rfl).trans ((congrArg (fun z => f2 z (bv 5) 0) ((congrArg (fun z => f2 z (bv 4) 1) ((congrArg (fun z => f2 z (bv 3) 1) ((congrArg (fun z => f2 z (bv 2) 0) ((congrArg (fun z => f2 z (bv 1) 0) (own_f20 (65535 : Int32) (bv 0))).trans (own_f20 (65535 : Int32) (bv 1)))).trans (own_f20 (65535 : Int32) (bv 2)))).trans (own_f21 (65535 : Int32) (bv 3) own_W0))).trans (own_f21 (sby (65535 : Int32) (bv 3)) (bv 4) (own_Wsby _ _)))).trans (own_f20 (sby (sby (65535 : Int32) (bv 3)) (bv 4)) (bv 5))).symm
theorem own_c3_3 (bv : Nat → Int32) : f3 3 3 bv = chain bv 3 3 := by
  have q0 : f1 (0 : Int32) 3 3 = 0 := by decide +kernel
  have q1 : f1 (1 : Int32) 3 3 = 0 := by decide +kernel
  have q2 : f1 (2 : Int32) 3 3 = 0 := by decide +kernel
  have q3 : f1 (3 : Int32) 3 3 = 1 := by decide +kernel
  have q4 : f1 (4 : Int32) 3 3 = 1 := by decide +kernel
  have q5 : f1 (5 : Int32) 3 3 = 1 := by decide +kernel
  unfold chain
  rw [q0, q1, q2, q3, q4, q5]
  exact (show f3 3 3 bv = (sby (sby (sby (65535 : Int32) (bv 3)) (bv 4)) (bv 5)) from rfl).trans ((congrArg (fun z => f2 z (bv 5) 1) ((congrArg (fun z => f2 z (bv 4) 1) ((congrArg (fun z => f2 z (bv 3) 1) ((congrArg (fun z => f2 z (bv 2) 0) ((congrArg (fun z => f2 z (bv 1) 0) (own_f20 (65535 : Int32) (bv 0))).trans (own_f20 (65535 : Int32) (bv 1)))).trans (own_f20 (65535 : Int32) (bv 2)))).trans (own_f21 (65535 : Int32) (bv 3) own_W0))).trans (own_f21 (sby (65535 : Int32) (bv 3)) (bv 4) (own_Wsby _ _)))).trans (own_f21 (sby (sby (65535 : Int32) (bv 3)) (bv 4)) (bv 5) (own_Wsby _ _))).symm
theorem own_c4_0 (bv : Nat → Int32) : f3 4 0 bv = chain bv 4 0 := by
  have q0 : f1 (0 : Int32) 4 0 = 0 := by decide +kernel
  have q1 : f1 (1 : Int32) 4 0 = 0 := by decide +kernel
  have q2 : f1 (2 : Int32) 4 0 = 0 := by decide +kernel
  have q3 : f1 (3 : Int32) 4 0 = 0 := by decide +kernel
  have q4 : f1 (4 : Int32) 4 0 = 0 := by decide +kernel
  have q5 : f1 (5 : Int32) 4 0 = 0 := by decide +kernel
  unfold chain
  rw [q0, q1, q2, q3, q4, q5]
  exact (show f3 4 0 bv = (65535 : Int32) from rfl).trans ((congrArg (fun z => f2 z (bv 5) 0) ((congrArg (fun z => f2 z (bv 4) 0) ((congrArg (fun z => f2 z (bv 3) 0) ((congrArg (fun z => f2 z (bv 2) 0) ((congrArg (fun z => f2 z (bv 1) 0) (own_f20 (65535 : Int32) (bv 0))).trans (own_f20 (65535 : Int32) (bv 1)))).trans (own_f20 (65535 : Int32) (bv 2)))).trans (own_f20 (65535 : Int32) (bv 3)))).trans (own_f20 (65535 : Int32) (bv 4)))).trans (own_f20 (65535 : Int32) (bv 5))).symm
theorem own_c4_1 (bv : Nat → Int32) : f3 4 1 bv = chain bv 4 1 := by
  have q0 : f1 (0 : Int32) 4 1 = 0 := by decide +kernel
  have q1 : f1 (1 : Int32) 4 1 = 0 := by decide +kernel
  have q2 : f1 (2 : Int32) 4 1 = 0 := by decide +kernel
  have q3 : f1 (3 : Int32) 4 1 = 0 := by decide +kernel
  have q4 : f1 (4 : Int32) 4 1 = 1 := by decide +kernel
  have q5 : f1 (5 : Int32) 4 1 = 0 := by decide +kernel
  unfold chain
  rw [q0, q1, q2, q3, q4, q5]
  exact (show f3 4 1 bv = (sby (65535 : Int32) (bv 4)) from rfl).trans ((congrArg (fun z => f2 z (bv 5) 0) ((congrArg (fun z => f2 z (bv 4) 1) ((congrArg (fun z => f2 z (bv 3) 0) ((congrArg (fun z => f2 z (bv 2) 0) ((congrArg (fun z => f2 z (bv 1) 0) (own_f20 (65535 : Int32) (bv 0))).trans (own_f20 (65535 : Int32) (bv 1)))).trans (own_f20 (65535 : Int32) (bv 2)))).trans (own_f20 (65535 : Int32) (bv 3)))).trans (own_f21 (65535 : Int32) (bv 4) own_W0))).trans (own_f20 (sby (65535 : Int32) (bv 4)) (bv 5))).symm
theorem own_c4_2 (bv : Nat → Int32) : f3 4 2 bv = chain bv 4 2 := by
  have q0 : f1 (0 : Int32) 4 2 = 0 := by decide +kernel
  have q1 : f1 (1 : Int32) 4 2 = 0 := by decide +kernel
  have q2 : f1 (2 : Int32) 4 2 = 0 := by decide +kernel
  have q3 : f1 (3 : Int32) 4 2 = 0 := by decide +kernel
  have q4 : f1 (4 : Int32) 4 2 = 1 := by decide +kernel
  have q5 : f1 (5 : Int32) 4 2 = 1 := by decide +kernel
  unfold chain
  rw [q0, q1, q2, q3, q4, q5]
  exact (show f3 4 2 bv = (sby (sby (65535 : Int32) (bv 4)) (bv 5)) from rfl).trans ((congrArg (fun z => f2 z (bv 5) 1) ((congrArg (fun z => f2 z (bv 4) 1) ((congrArg (fun z => f2 z (bv 3) 0) ((congrArg (fun z => f2 z (bv 2) 0) ((congrArg (fun z => f2 z (bv 1) 0) (own_f20 (65535 : Int32) (bv 0))).trans (own_f20 (65535 : Int32) (bv 1)))).trans (own_f20 (65535 : Int32) (bv 2)))).trans (own_f20 (65535 : Int32) (bv 3)))).trans (own_f21 (65535 : Int32) (bv 4) own_W0))).trans (own_f21 (sby (65535 : Int32) (bv 4)) (bv 5) (own_Wsby _ _))).symm
theorem own_c5_0 (bv : Nat → Int32) : f3 5 0 bv = chain bv 5 0 := by
  have q0 : f1 (0 : Int32) 5 0 = 0 := by decide +kernel
  have q1 : f1 (1 : Int32) 5 0 = 0 := by decide +kernel
  have q2 : f1 (2 : Int32) 5 0 = 0 := by decide +kernel
  have q3 : f1 (3 : Int32) 5 0 = 0 := by decide +kernel
  have q4 : f1 (4 : Int32) 5 0 = 0 := by decide +kernel
  have q5 : f1 (5 : Int32) 5 0 = 0 := by decide +kernel
  unfold chain
  rw [q0, q1, q2, q3, q4, q5]
  exact (show f3 5 0 bv = (65535 : Int32) from rfl).trans ((congrArg (fun z => f2 z (bv 5) 0) ((congrArg (fun z => f2 z (bv 4) 0) ((congrArg (fun z => f2 z (bv 3) 0) ((congrArg (fun z => f2 z (bv 2) 0) ((congrArg (fun z => f2 z (bv 1) 0) (own_f20 (65535 : Int32) (bv 0))).trans (own_f20 (65535 : Int32) (bv 1)))).trans (own_f20 (65535 : Int32) (bv 2)))).trans (own_f20 (65535 : Int32) (bv 3)))).trans (own_f20 (65535 : Int32) (bv 4)))).trans (own_f20 (65535 : Int32) (bv 5))).symm
theorem own_c5_1 (bv : Nat → Int32) : f3 5 1 bv = chain bv 5 1 := by
  have q0 : f1 (0 : Int32) 5 1 = 0 := by decide +kernel
  have q1 : f1 (1 : Int32) 5 1 = 0 := by decide +kernel
  have q2 : f1 (2 : Int32) 5 1 = 0 := by decide +kernel
  have q3 : f1 (3 : Int32) 5 1 = 0 := by decide +kernel
  have q4 : f1 (4 : Int32) 5 1 = 0 := by decide +kernel
  have q5 : f1 (5 : Int32) 5 1 = 1 := by decide +kernel
  unfold chain
  rw [q0, q1, q2, q3, q4, q5]
  exact (show f3 5 1 bv = (sby (65535 : Int32) (bv 5)) from rfl).trans ((congrArg (fun z => f2 z (bv 5) 1) ((congrArg (fun z => f2 z (bv 4) 0) ((congrArg (fun z => f2 z (bv 3) 0) ((congrArg (fun z => f2 z (bv 2) 0) ((congrArg (fun z => f2 z (bv 1) 0) (own_f20 (65535 : Int32) (bv 0))).trans (own_f20 (65535 : Int32) (bv 1)))).trans (own_f20 (65535 : Int32) (bv 2)))).trans (own_f20 (65535 : Int32) (bv 3)))).trans (own_f20 (65535 : Int32) (bv 4)))).trans (own_f21 (65535 : Int32) (bv 5) own_W0)).symm
theorem own_c6_0 (bv : Nat → Int32) : f3 6 0 bv = chain bv 6 0 := by
  have q0 : f1 (0 : Int32) 6 0 = 0 := by decide +kernel
  have q1 : f1 (1 : Int32) 6 0 = 0 := by decide +kernel
  have q2 : f1 (2 : Int32) 6 0 = 0 := by decide +kernel
  have q3 : f1 (3 : Int32) 6 0 = 0 := by decide +kernel
  have q4 : f1 (4 : Int32) 6 0 = 0 := by decide +kernel
  have q5 : f1 (5 : Int32) 6 0 = 0 := by decide +kernel
  unfold chain
  rw [q0, q1, q2, q3, q4, q5]
  exact (show f3 6 0 bv = (65535 : Int32) from rfl).trans ((congrArg (fun z => f2 z (bv 5) 0) ((congrArg (fun z => f2 z (bv 4) 0) ((congrArg (fun z => f2 z (bv 3) 0) ((congrArg (fun z => f2 z (bv 2) 0) ((congrArg (fun z => f2 z (bv 1) 0) (own_f20 (65535 : Int32) (bv 0))).trans (own_f20 (65535 : Int32) (bv 1)))).trans (own_f20 (65535 : Int32) (bv 2)))).trans (own_f20 (65535 : Int32) (bv 3)))).trans (own_f20 (65535 : Int32) (bv 4)))).trans (own_f20 (65535 : Int32) (bv 5))).symm
theorem own_all (bv : Nat → Int32) (o l : Int32) (h1 : 0 ≤ o.toInt) (h2 : 0 ≤ l.toInt) (h3 : o.toInt + l.toInt ≤ 6) : f3 o l bv = chain bv o l := by
  have ho : o.toInt = 0 ∨ o.toInt = 1 ∨ o.toInt = 2 ∨ o.toInt = 3 ∨ o.toInt = 4 ∨ o.toInt = 5 ∨ o.toInt = 6 := by omega
  have hl : l.toInt = 0 ∨ l.toInt = 1 ∨ l.toInt = 2 ∨ l.toInt = 3 ∨ l.toInt = 4 ∨ l.toInt = 5 ∨ l.toInt = 6 := by omega
  rcases ho with ho | ho | ho | ho | ho | ho | ho
  · obtain rfl := own_i32 (k := 0) ho (by decide)
    rcases hl with hl | hl | hl | hl | hl | hl | hl
    · obtain rfl := own_i32 (k := 0) hl (by decide); exact own_c0_0 bv
    · obtain rfl := own_i32 (k := 1) hl (by decide); exact own_c0_1 bv
    · obtain rfl := own_i32 (k := 2) hl (by decide); exact own_c0_2 bv
    · obtain rfl := own_i32 (k := 3) hl (by decide); exact own_c0_3 bv
    · obtain rfl := own_i32 (k := 4) hl (by decide); exact own_c0_4 bv
    · obtain rfl := own_i32 (k := 5) hl (by decide); exact own_c0_5 bv
    · obtain rfl := own_i32 (k := 6) hl (by decide); exact own_c0_6 bv
  · obtain rfl := own_i32 (k := 1) ho (by decide)
    rcases hl with hl | hl | hl | hl | hl | hl | hl
    · obtain rfl := own_i32 (k := 0) hl (by decide); exact own_c1_0 bv
    · obtain rfl := own_i32 (k := 1) hl (by decide); exact own_c1_1 bv
    · obtain rfl := own_i32 (k := 2) hl (by decide); exact own_c1_2 bv
    · obtain rfl := own_i32 (k := 3) hl (by decide); exact own_c1_3 bv
    · obtain rfl := own_i32 (k := 4) hl (by decide); exact own_c1_4 bv
    · obtain rfl := own_i32 (k := 5) hl (by decide); exact own_c1_5 bv
    · exfalso; rw [ho, hl] at h3; omega
  · obtain rfl := own_i32 (k := 2) ho (by decide)
    rcases hl with hl | hl | hl | hl | hl | hl | hl
    · obtain rfl := own_i32 (k := 0) hl (by decide); exact own_c2_0 bv
    · obtain rfl := own_i32 (k := 1) hl (by decide); exact own_c2_1 bv
    · obtain rfl := own_i32 (k := 2) hl (by decide); exact own_c2_2 bv
    · obtain rfl := own_i32 (k := 3) hl (by decide); exact own_c2_3 bv
    · obtain rfl := own_i32 (k := 4) hl (by decide); exact own_c2_4 bv
    · exfalso; rw [ho, hl] at h3; omega
    · exfalso; rw [ho, hl] at h3; omega
  · obtain rfl := own_i32 (k := 3) ho (by decide)
    rcases hl with hl | hl | hl | hl | hl | hl | hl
    · obtain rfl := own_i32 (k := 0) hl (by decide); exact own_c3_0 bv
    · obtain rfl := own_i32 (k := 1) hl (by decide); exact own_c3_1 bv
    · obtain rfl := own_i32 (k := 2) hl (by decide); exact own_c3_2 bv
    · obtain rfl := own_i32 (k := 3) hl (by decide); exact own_c3_3 bv
    · exfalso; rw [ho, hl] at h3; omega
    · exfalso; rw [ho, hl] at h3; omega
    · exfalso; rw [ho, hl] at h3; omega
  · obtain rfl := own_i32 (k := 4) ho (by decide)
    rcases hl with hl | hl | hl | hl | hl | hl | hl
    · obtain rfl := own_i32 (k := 0) hl (by decide); exact own_c4_0 bv
    · obtain rfl := own_i32 (k := 1) hl (by decide); exact own_c4_1 bv
    · obtain rfl := own_i32 (k := 2) hl (by decide); exact own_c4_2 bv
    · exfalso; rw [ho, hl] at h3; omega
    · exfalso; rw [ho, hl] at h3; omega
    · exfalso; rw [ho, hl] at h3; omega
    · exfalso; rw [ho, hl] at h3; omega
  · obtain rfl := own_i32 (k := 5) ho (by decide)
    rcases hl with hl | hl | hl | hl | hl | hl | hl
    · obtain rfl := own_i32 (k := 0) hl (by decide); exact own_c5_0 bv
    · obtain rfl := own_i32 (k := 1) hl (by decide); exact own_c5_1 bv
    · exfalso; rw [ho, hl] at h3; omega
    · exfalso; rw [ho, hl] at h3; omega
    · exfalso; rw [ho, hl] at h3; omega
    · exfalso; rw [ho, hl] at h3; omega
    · exfalso; rw [ho, hl] at h3; omega
  · obtain rfl := own_i32 (k := 6) ho (by decide)
    rcases hl with hl | hl | hl | hl | hl | hl | hl
    · obtain rfl := own_i32 (k := 0) hl (by decide); exact own_c6_0 bv
    · exfalso; rw [ho, hl] at h3; omega
    · exfalso; rw [ho, hl] at h3; omega
    · exfalso; rw [ho, hl] at h3; omega
    · exfalso; rw [ho, hl] at h3; omega
    · exfalso; rw [ho, hl] at h3; omega
    · exfalso; rw [ho, hl] at h3; omega
theorem own_law (x0 x1 x2 : Int32) : f0 x0 x1 x2 = 1 := by
  unfold f0
  exact if_pos (own_all (bvL0 x0 x1) (offF x2) (lenF x2) (own_g1 x2) (own_g2 x2) (own_g3 x2))
set_option maxRecDepth 65536 in
set_option maxHeartbeats 40000000 in
theorem comes_1 {Post : Tables → Env → Array Value → State → Outcome → State → Prop} (hpost : ∀ tb e args s v u, (limb_1_1.after args s (.returned v) u = true ∧ limb_1_2.after args s (.returned v) u = true ∧ True) → FrameEnd s (.returned v) u (Jvm.fieldLocs frame_1_writes args s ++ Jvm.arrayLocs frame_1_arrays args s ++ Jvm.staticLocs frame_1_statics s) 16 128 → Post tb e args s (.returned v) u) :
    ArmFor flags0 classFile x code maxLocals ret World_1 tables_1 room_1 Calls_1 rest_1 Pre_1 Post := by
  intro l hfl _ _ p e ha hc hk s m args below hf hA hF happ hP
  obtain ⟨hcalls, hrest, hpre⟩ := hP
  obtain ⟨-, -, -, hnamed, -, -, -, hat⟩ := (Spec.applies_iff hf).mp happ
  obtain ⟨hg, hn⟩ := and_e (Cond.before_iff.mp (show (Jvm.Cond.and given_1 narrow_1).before args s = true from hpre))
  obtain ⟨hcount, hg⟩ := and_e hg
  obtain ⟨ha0, hg⟩ := and_e hg
  obtain ⟨ha1, hg⟩ := and_e hg
  obtain ⟨w0, w1, w2, rfl⟩ : ∃ w0 w1 w2 : Value, args = #[w0, w1, w2] := by
    have hs : args.size = 3 := by simpa [Cond.value, given_1] using hcount
    obtain ⟨L⟩ := args
    match L, hs with
    | [w0, w1, w2], _ => exact ⟨w0, w1, w2, rfl⟩
  have hw := fun d (hd : d ∈ tables_1) => atoms_spec (ws := Jvm.Cond.code x code maxLocals ret :: tables_1) hat d (List.mem_cons_of_mem _ hd)
  obtain ⟨i0, ei0⟩ := is_v ha0
  obtain rfl : w0 = (.int i0) := Option.some.inj ei0
  obtain ⟨i1, ei1⟩ := is_v ha1
  obtain rfl : w1 = (.int i1) := Option.some.inj ei1
  obtain ⟨i2, ei2⟩ := is_v hg
  obtain rfl : w2 = (.int i2) := Option.some.inj ei2
  obtain ⟨n, o, h1, h2, h3, v, L, rfl, ⟨hv, N⟩, hq⟩ := rm0 l s _ hw tables_1 i0 i1 i2 s.heap s.heap.size (Nat.le_refl _) p e ha hc hk s m _ below hf ((Spec.applies_iff_loose hf).mp happ).1 ⟨rfl, State.Warmed39.refl s, rfl⟩ trivial
  rw [own_law i0 i1 i2] at hv
  subst hv
  refine ⟨n, _, h1, h2, h3, hpost _ _ _ _ _ _ ⟨Cond.after_iff.mpr rfl, Cond.after_iff.mpr (eq_i res_at (Term.int_eval (1)) rfl), trivial⟩ ⟨hq.1, hq.2.1, (hq.2.2.sift fun y hy => Or.inr (N y hy)).mono (by decide) (by decide)⟩⟩
theorem main_1_1 : Claimed_1_1 := comes_1 fun _ _ _ _ _ _ h hF => ⟨h.1, hF⟩
theorem main_1_2 : Claimed_1_2 := comes_1 fun _ _ _ _ _ _ h hF => ⟨h.2.1, hF⟩
end Jvm.Pilot.@@N@@
namespace Jvm.Pilot.@@N@@
open Jvm Jvm.ClassFile Sem Op Lib Jvm.Free Jvm.Stand Jvm.Pilot.@@N@@.Jvm.D
/-! MADE BY PROGRAM (witnessworld.py) out of the Statement's table words and the real class files: 7 classes; the members and pool entries that the words name. The judged class is class 1, her method 3. -/
namespace start1
open Jvm.ClassFile
def u (s : String) : CpInfo := .utf8 (stringToUtf16 s)
/-- a pool by its gaps: so many unusable entries, then the entry; so many at the end -/
def gap : Nat → List CpInfo → List CpInfo
  | 0, r => r
  | n + 1, r => .unusable :: gap n r
def poolList (es : List (Nat × CpInfo)) (last : Nat) : List CpInfo := es.foldr (fun e r => gap e.1 (e.2 :: r)) (gap last [])
def pool (es : List (Nat × CpInfo)) (last : Nat) : Array CpInfo := ⟨poolList es last⟩
def fileOf (pool : Array CpInfo) (this : Nat) (attrs : Array Attribute := #[]) (ms : Array MethodInfo := #[]) (fl : Nat := 33) (sup : Nat := 0) (ifs : Array Nat := #[]) (fds : Array FieldInfo := #[]) : ClassFile where
  minorVersion := 0
  majorVersion := 65
  constantPool := pool
  accessFlags := fl
  thisClass := this
  superClass := sup
  interfaces := ifs
  fields := fds
  methods := ms
  attributes := attrs
def plain (name : String) (sup : Option ClassId) : Class where
  name := name
  kind := .ordinary
  loader := none
  accessFlags := 33
  super := sup
  interfaces := #[]
  cf := none
  fields := #[]
  methods := #[]
  instanceTypes := #[]
  staticTypes := #[]
  resolved := #[]
  callSites := []
  init := .initialized
  statics := none
  mirror := none

def pool0 : Array CpInfo := pool [(5, u "<init>"), (0, u "()V"), (1, .class_ 10), (1, u "java/lang/Object")] 113

def k0m0 : Method := { name := "<init>", desc := "()V", sig := { parameters := [], returnType := none }, accessFlags := 1, code := none }
/-- java/lang/Object -/
def k0 : Class := { plain "java/lang/Object" none with
  accessFlags := 33
  interfaces := #[]
  cf := some (fileOf pool0 8 #[] #[{ accessFlags := 1, nameIndex := 5, descriptorIndex := 6, attributes := #[] }] 33 0 #[] #[])
  fields := #[]
  methods := #[k0m0]
  instanceTypes := #[]
  staticTypes := #[]
  resolved := Array.replicate 124 none
  statics := none }

def pool1 : Array CpInfo := pool [(2, .class_ 4), (1, u "java/lang/Object"), (0, u "<init>"), (0, u "()V"), (0, .integer 65535), (0, .integer 2147483647), (0, .methodref 10 11), (0, .class_ 12), (0, .nameAndType 13 14), (0, u "com/example/hearthwire/hearthwire/frame/Crc16ComputePinLaw"), (0, u "in"), (0, u "(III)Z"), (0, .methodref 10 16), (0, .nameAndType 17 18), (0, u "step"), (0, u "(IBZ)I"), (0, .methodref 20 21), (0, .class_ 22), (0, .nameAndType 23 24), (0, u "com/example/hearthwire/hearthwire/frame/Crc16"), (0, u "compute"), (0, u "([BII)I"), (3, u "law")] 4

def k1m0 : Method := { name := "<init>", desc := "()V", sig := { parameters := [], returnType := none }, accessFlags := 2, code := none }
def k1c1 : Code := { maxStack := 3, maxLocals := 4, code := method_2_code, exceptionTable := #[], attributes := #[] }
def k1m1 : Method := { name := "step", desc := "(IBZ)I", sig := { parameters := [.int, .byte, .boolean], returnType := some .int }, accessFlags := 10, code := some k1c1 }
def k1c2 : Code := { maxStack := 3, maxLocals := 3, code := method_3_code, exceptionTable := #[], attributes := #[] }
def k1m2 : Method := { name := "in", desc := "(III)Z", sig := { parameters := [.int, .int, .int], returnType := some .boolean }, accessFlags := 10, code := some k1c2 }
def k1c3 : Code := { maxStack := 5, maxLocals := 8, code := code, exceptionTable := #[], attributes := #[] }
def k1m3 : Method := { name := "law", desc := "(III)Z", sig := { parameters := [.int, .int, .int], returnType := some .boolean }, accessFlags := 9, code := some k1c3 }
/-- com/example/hearthwire/hearthwire/frame/Crc16ComputePinLaw -/
def k1 : Class := { plain "com/example/hearthwire/hearthwire/frame/Crc16ComputePinLaw" (some 0) with
  accessFlags := 49
  interfaces := #[]
  cf := some (fileOf pool1 10 #[] #[{ accessFlags := 2, nameIndex := 5, descriptorIndex := 6, attributes := #[] }, { accessFlags := 10, nameIndex := 17, descriptorIndex := 18, attributes := #[] }, { accessFlags := 10, nameIndex := 13, descriptorIndex := 14, attributes := #[] }, { accessFlags := 9, nameIndex := 28, descriptorIndex := 14, attributes := #[] }] 49 2 #[] #[])
  fields := #[]
  methods := #[k1m0, k1m1, k1m2, k1m3]
  instanceTypes := #[]
  staticTypes := #[]
  resolved := Array.replicate 33 none
  statics := none }

def pool2 : Array CpInfo := pool [(2, .class_ 4), (1, u "java/lang/Object"), (0, u "<init>"), (0, u "()V"), (0, .class_ 8), (0, u "com/example/hearthwire/hearthwire/frame/Crc16"), (0, .integer 65535), (0, .integer 32768), (0, u "POLYNOMIAL"), (0, u "I"), (2, u "INITIAL"), (2, u "compute"), (0, u "([BII)I")] 3

def k2m0 : Method := { name := "<init>", desc := "()V", sig := { parameters := [], returnType := none }, accessFlags := 2, code := none }
def k2c1 : Code := { maxStack := 3, maxLocals := 6, code := prog_54_method_2_code, exceptionTable := #[], attributes := #[] }
def k2m1 : Method := { name := "compute", desc := "([BII)I", sig := { parameters := [(.array .byte), .int, .int], returnType := some .int }, accessFlags := 8, code := some k2c1 }
/-- com/example/hearthwire/hearthwire/frame/Crc16 -/
def k2 : Class := { plain "com/example/hearthwire/hearthwire/frame/Crc16" (some 0) with
  accessFlags := 48
  interfaces := #[]
  cf := some (fileOf pool2 7 #[] #[{ accessFlags := 2, nameIndex := 5, descriptorIndex := 6, attributes := #[] }, { accessFlags := 8, nameIndex := 18, descriptorIndex := 19, attributes := #[] }] 48 2 #[] #[{ accessFlags := 26, nameIndex := 11, descriptorIndex := 12, attributes := #[] }, { accessFlags := 26, nameIndex := 15, descriptorIndex := 12, attributes := #[] }])
  fields := #[{ name := "POLYNOMIAL", type := .int, accessFlags := 26, slot := 0, constantValue := 0 }, { name := "INITIAL", type := .int, accessFlags := 26, slot := 1, constantValue := 0 }]
  methods := #[k2m0, k2m1]
  instanceTypes := #[]
  staticTypes := #[.int, .int]
  resolved := Array.replicate 23 none
  statics := none }

def pool3 : Array CpInfo := pool [(1, u "java/lang/Cloneable"), (0, .class_ 1), (0, u "java/lang/Object"), (0, .class_ 3)] 3

/-- java/lang/Cloneable -/
def k3 : Class := { plain "java/lang/Cloneable" (some 0) with
  accessFlags := 1537
  interfaces := #[]
  cf := some (fileOf pool3 2 #[] #[] 1537 4 #[] #[])
  fields := #[]
  methods := #[]
  instanceTypes := #[]
  staticTypes := #[]
  resolved := Array.replicate 8 none
  statics := none }

def pool4 : Array CpInfo := pool [(1, u "java/io/Serializable"), (0, .class_ 1), (0, u "java/lang/Object"), (0, .class_ 3)] 3

/-- java/io/Serializable -/
def k4 : Class := { plain "java/io/Serializable" (some 0) with
  accessFlags := 1537
  interfaces := #[]
  cf := some (fileOf pool4 2 #[] #[] 1537 4 #[] #[])
  fields := #[]
  methods := #[]
  instanceTypes := #[]
  staticTypes := #[]
  resolved := Array.replicate 8 none
  statics := none }

/-- the primitive byte -/
def k5 : Class := { plain "byte" none with kind := .primitive 'B', accessFlags := 0x411 }
/-- [B -/
def k6 : Class := { plain "[B" (some 0) with kind := .array 5 .byte, interfaces := #[3, 4], accessFlags := 1041 }

def heap : Heap := #[]
def classes : Array Class := #[k0, k1, k2, k3, k4, k5, k6]
def interned : List (Array UInt16 × Addr) := []
def slotsUsed : Nat := 0
def theMethod : MethodId := ⟨1, 3⟩
def args0 : Array Value := #[.int 5, .int 3, .int 9]
def aboutOver (below : List Frame) : State where
  vm := { classes := classes, interned := interned.toArray }
  heap := heap
  slotsUsed := slotsUsed
  threads := #[{ frames := .invoking theMethod args0 :: below }]
def below0 : List Frame := [.native { method := ⟨0, 0⟩, args := #[] }]
def about1 : State := aboutOver below0
def p0 : Program := .bare "" "" ""
def e0 : Env := launch0.env 0 0 0
theorem w_frames : about1.frames = Frame.invoking theMethod args0 :: below0 := rfl
set_option maxRecDepth 65536 in
theorem w_args : argsFit about1.vm theMethod args0 = true := by decide +kernel
set_option maxRecDepth 65536 in
theorem w_heap : heapFits about1 = true := by decide +kernel
set_option maxRecDepth 65536 in
theorem w_runnable : about1.curStatus? = some .runnable := by decide +kernel
set_option maxRecDepth 65536 in
theorem w_alone : about1.alone = true := by decide +kernel
set_option maxRecDepth 65536 in
theorem w_named : about1.methodNamed? x = some theMethod := by decide +kernel
set_option maxRecDepth 65536 in
theorem w_hears : about1.hears theMethod below0 = true := by decide +kernel
set_option maxRecDepth 65536 in
theorem w_ripe : about1.ripe theMethod args0 below0 = true := by decide +kernel
theorem w_running : about1.status = .running := rfl
set_option maxRecDepth 65536 in
theorem w_room : about1.hasRoom e0.platform room_1 = true :=
  launch0.hasRoom_least _ room_1 (by decide +kernel) (by decide +kernel) (by decide +kernel) (by decide +kernel) (by decide +kernel) (by decide +kernel)
theorem allAtoms_all (ts : List Jvm.Cond) (a : Array Jvm.Value) (st : Jvm.State) : (allAtoms ts).before a st = ts.all (fun c => c.before a st) := by
  induction ts with
  | nil => rfl
  | cons c t ih =>
    show (Jvm.Cond.and c (allAtoms t)).before a st = _
    rw [Jvm.Cond.before_and, ih, List.all_cons]
def words1 : List Jvm.Cond := Jvm.Cond.code x code maxLocals ret :: tables_1
/-- a 'code' word, met by the world's own term for the bytes: nothing is compared byte by byte -/
theorem code_word {y : MethodName} {bytes : ByteArray} {mx : Nat} {rt : Option FieldType} {a : Array Value} {s : State} {m : MethodId} {meth : Method} {c : Code} (h1 : s.methodNamed? y = some m) (h2 : s.vm.method? m = some meth) (h3 : meth.code = some c) (h4 : c.code = bytes)
    (h5 : (c.maxLocals == mx && c.exceptionTable.isEmpty && decide (c.maxStack ≤ mostOperands) && decide (meth.sig.returnType = rt) && !meth.locks && decide (parseMethodDescriptor y.desc = some meth.sig)) = true) : (Jvm.Cond.code y bytes mx rt).before a s = true := by
  simp only [Bool.and_eq_true, beq_iff_eq, Bool.not_eq_true', decide_eq_true_eq] at h5
  obtain ⟨⟨⟨⟨⟨g1, g2⟩, g3⟩, g4⟩, g5⟩, g6⟩ := h5
  simp [Cond.before, Cond.holds, Cond.value, h1, h2, h3, h4, g1, g2, g3, g4, g5, g6]
def isCode : Jvm.Cond → Bool
  | .code _ _ _ _ => true
  | _ => false
theorem all_split {L : List Jvm.Cond} {P : Jvm.Cond → Bool} (h1 : L.all (fun c => isCode c || P c) = true) (h2 : ∀ c ∈ L.filter isCode, P c = true) : L.all P = true := by
  refine List.all_eq_true.mpr fun c hc => ?_
  have h := List.all_eq_true.mp h1 c hc
  rcases Bool.eq_false_or_eq_true (isCode c) with hi | hi
  · exact h2 c (List.mem_filter.mpr ⟨hc, hi⟩)
  · simpa [hi] using h
set_option maxRecDepth 65536 in
theorem w_c0 : (Jvm.Cond.code x code maxLocals ret).before args0 about1 = true := code_word (m := ⟨1, 3⟩) (meth := k1m3) (c := k1c3) (by decide +kernel) rfl rfl rfl (by decide +kernel)
set_option maxRecDepth 65536 in
theorem w_c1 : (Jvm.Cond.code ({ cls := "com/example/hearthwire/hearthwire/frame/Crc16ComputePinLaw", name := "in", desc := "(III)Z" } : Jvm.MethodName) method_3_code (3 : Nat) (Option.some Jvm.ClassFile.FieldType.boolean)).before args0 about1 = true := code_word (m := ⟨1, 2⟩) (meth := k1m2) (c := k1c2) (by decide +kernel) rfl rfl rfl (by decide +kernel)
set_option maxRecDepth 65536 in
theorem w_c2 : (Jvm.Cond.code ({ cls := "com/example/hearthwire/hearthwire/frame/Crc16ComputePinLaw", name := "step", desc := "(IBZ)I" } : Jvm.MethodName) method_2_code (4 : Nat) (Option.some Jvm.ClassFile.FieldType.int)).before args0 about1 = true := code_word (m := ⟨1, 1⟩) (meth := k1m1) (c := k1c1) (by decide +kernel) rfl rfl rfl (by decide +kernel)
set_option maxRecDepth 65536 in
theorem w_c3 : (Jvm.Cond.code ({ cls := "com/example/hearthwire/hearthwire/frame/Crc16", name := "compute", desc := "([BII)I" } : Jvm.MethodName) prog_54_method_2_code (6 : Nat) (Option.some Jvm.ClassFile.FieldType.int)).before args0 about1 = true := code_word (m := ⟨2, 1⟩) (meth := k2m1) (c := k2c1) (by decide +kernel) rfl rfl rfl (by decide +kernel)
def codes1 : List Jvm.Cond := [Jvm.Cond.code x code maxLocals ret, Jvm.Cond.code ({ cls := "com/example/hearthwire/hearthwire/frame/Crc16ComputePinLaw", name := "in", desc := "(III)Z" } : Jvm.MethodName) method_3_code (3 : Nat) (Option.some Jvm.ClassFile.FieldType.boolean), Jvm.Cond.code ({ cls := "com/example/hearthwire/hearthwire/frame/Crc16ComputePinLaw", name := "step", desc := "(IBZ)I" } : Jvm.MethodName) method_2_code (4 : Nat) (Option.some Jvm.ClassFile.FieldType.int), Jvm.Cond.code ({ cls := "com/example/hearthwire/hearthwire/frame/Crc16", name := "compute", desc := "([BII)I" } : Jvm.MethodName) prog_54_method_2_code (6 : Nat) (Option.some Jvm.ClassFile.FieldType.int)]
set_option maxRecDepth 65536 in
theorem codes_eq : words1.filter isCode = codes1 := rfl
theorem w_codes : ∀ c ∈ words1.filter isCode, c.before args0 about1 = true := by
  rw [codes_eq]
  intro c hc
  simp only [codes1, List.mem_cons, List.not_mem_nil, or_false] at hc
  rcases hc with rfl | rfl | rfl | rfl
  · exact w_c0
  · exact w_c1
  · exact w_c2
  · exact w_c3
set_option maxRecDepth 65536 in
theorem w_t1 : words1.all (fun c => isCode c || c.before args0 about1) = true := by decide +kernel
theorem w_tables : (allAtoms (Jvm.Cond.code x code maxLocals ret :: tables_1)).before args0 about1 = true := by
  rw [allAtoms_all]
  show words1.all (fun c => c.before args0 about1) = true
  refine all_split ?_ w_codes
  rw [w_t1]
set_option maxRecDepth 65536 in
theorem w_case : (Jvm.Cond.and given_1 narrow_1).before args0 about1 = true := by decide +kernel
theorem w_applies : (headSpec (Jvm.Cond.code x code maxLocals ret :: tables_1) room_1).applies x e0.platform about1 = true :=
  (Spec.applies_iff w_frames).mpr ⟨w_running, w_runnable, w_alone, w_named, w_hears, w_ripe, w_room, w_tables⟩
theorem atStart : AtStart classFile x code maxLocals ret World_1 tables_1 room_1 Calls_1 rest_1 Pre_1 launch0 p0 e0 about1 theMethod args0 below0 :=
  ⟨lists_1, trivial, launch0.admits_env _ _ _, launch0.least_env, fairChoices_fair.cas, fairChoices_fair.clock, w_frames, w_args, w_heap, w_applies, trivial, trivial, w_case⟩
end start1
theorem witness_1 : WitnessClaimed_1 := ⟨start1.p0, start1.e0, start1.about1, start1.theMethod, start1.args0, start1.below0, start1.atStart⟩
end Jvm.Pilot.@@N@@
