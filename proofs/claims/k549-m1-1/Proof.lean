import JvmDerived
import JvmDerived.Pilot.@@N@@Statement
import JvmDerived.Pilot.@@N@@Code
set_option linter.unusedVariables false
set_option linter.unusedSimpArgs false
namespace Jvm.RoadKit
open Sem ClassFile Op Lib Jvm.Stand Jvm.Free Jvm.LawKit
section New
variable {p : Program} {l : Launch} {e : Env} {R : Room} {s : State} {m : MethodId} {args : Array Value} {below : List Frame} {meth : Method} {c : Code} {T : State} {locs : List Loc} {cells slots : Nat}
theorem retI (X : Stand p l e R s m args below meth c T locs cells slots) (hx : p.tables.exec = Jvm.exec) {pc : Nat} {Ls : Array Slot} {z : Int32} {rest : List Value} (hret : meth.sig.returnType = some .int) (hd : decode c.code pc = .ok (.ireturn, 1)) {fs : List Frame}
    (hl : ∀ (f : JFrame) (acts : List Action), f.method = m → f.locked = none → f.entered = [] → (doReturn e (T.setTop f) acts (some (.int z))).1 = T.setFrames fs) : Steps p.tables e below (T.setTop (mkF m pc Ls (.int z :: rest))) (T.setFrames fs) := by
  have hm' : T.vm.method? m = some meth := X.method'
  have hn : narrow .int (.int z) = .int z := rfl
  show Steps p.tables e below (T.setTop { method := m, pc := pc, locals := Ls, stack := _ :: rest, locked := none }) _
  jvm_step X.here [X.here.top, hx, hd, hm', hret, hn]
  first | (intro acts; rw [hl _ acts rfl rfl rfl]) | rw [hl _ _ rfl rfl rfl]
  exact Steps.refl _
/-- from here the run ends and leaves what Q says -/
def Go (p : Program) (e : Env) (below : List Frame) (s : State) (Q : Option Value → Heap → List Loc → Prop) (C N : Nat) (S : State) : Prop :=
  ∃ s₂ o, Steps p.tables e below S s₂ ∧ s₂.status = .running ∧ Ended s₂ below o ∧ ∃ v L, o = .returned v ∧ Q v s₂.heap L ∧ FrameEnd s o s₂ L C N
variable {Q : Option Value → Heap → List Loc → Prop} {C N : Nat}
theorem Go.step {S S' : State} (k : ∀ t, Steps p.tables e below S' t → Steps p.tables e below S t) (g : Go p e below s Q C N S') : Go p e below s Q C N S := by
  obtain ⟨s2, o, h1, h2⟩ := g
  exact ⟨s2, o, k _ h1, h2⟩
theorem Go.retN (X : Stand p l e R s m args below meth c T locs cells slots) (hx : p.tables.exec = Jvm.exec) {pc : Nat} {Ls : Array Slot} {z : Int32} {t : FieldType} {rest : List Value} (hret : meth.sig.returnType = some t) (ht : t = .boolean ∨ t = .byte ∨ t = .char ∨ t = .short) (hlk : meth.locks = false) (hd : decode c.code pc = .ok (.ireturn, 1))
    (hq : Q (some (.int (nar t z))) T.heap locs) (hc : cells ≤ C) (hs : slots ≤ N) : Go p e below s Q C N (T.setTop (mkF m pc Ls (.int z :: rest))) := by
  obtain ⟨fs, hr, hrun, hended, hW, hsame⟩ := X.leave (v := some (.int (nar t z))) (fun h => by rw [hret] at h; cases h) hlk
  exact ⟨_, _, Jvm.RoadKit.retN X hx (t := t) hret ht hd hr, hrun, hended, _, _, rfl, hq, ⟨_, rfl⟩, hW, hsame.mono hc hs⟩
theorem Go.retI (X : Stand p l e R s m args below meth c T locs cells slots) (hx : p.tables.exec = Jvm.exec) {pc : Nat} {Ls : Array Slot} {z : Int32} {rest : List Value} (hret : meth.sig.returnType = some .int) (hlk : meth.locks = false) (hd : decode c.code pc = .ok (.ireturn, 1))
    (hq : Q (some (.int z)) T.heap locs) (hc : cells ≤ C) (hs : slots ≤ N) : Go p e below s Q C N (T.setTop (mkF m pc Ls (.int z :: rest))) := by
  obtain ⟨fs, hr, hrun, hended, hW, hsame⟩ := X.leave (v := some (.int z)) (fun h => by rw [hret] at h; cases h) hlk
  exact ⟨_, _, Jvm.RoadKit.retI X hx hret hd hr, hrun, hended, _, _, rfl, hq, ⟨_, rfl⟩, hW, hsame.mono hc hs⟩
theorem Go.retA (X : Stand p l e R s m args below meth c T locs cells slots) (hx : p.tables.exec = Jvm.exec) {pc : Nat} {Ls : Array Slot} {v : Value} {rest : List Value} {t : FieldType} (hret : meth.sig.returnType = some t) (ht : t.isReference = true) (hv : v.isRef = true) (hlk : meth.locks = false) (hd : decode c.code pc = .ok (.areturn, 1))
    (hq : Q (some v) T.heap locs) (hc : cells ≤ C) (hs : slots ≤ N) : Go p e below s Q C N (T.setTop (mkF m pc Ls (v :: rest))) := by
  obtain ⟨fs, hr, hrun, hended, hW, hsame⟩ := X.leave (v := some v) (fun h => by rw [hret] at h; cases h) hlk
  refine ⟨_, _, ?_, hrun, hended, _, _, rfl, hq, ⟨_, rfl⟩, hW, hsame.mono hc hs⟩
  have hm' : T.vm.method? m = some meth := X.method'
  show Steps p.tables e below (T.setTop { method := m, pc := pc, locals := Ls, stack := v :: rest, locked := none }) _
  jvm_step X.here [X.here.top, hx, hd, hm', hret, hv, ht]
  first | (intro acts; rw [hr _ acts rfl rfl rfl]) | rw [hr _ _ rfl rfl rfl]
  exact Steps.refl _
theorem own_ne {x k : Int32} {z : Int} (hz : k.toInt = z) (h : ¬ x = k) : x.toInt ≠ z := fun q => h (Int32.toInt_inj.mp (q.trans hz.symm))
end New
end Jvm.RoadKit
namespace Jvm.Pilot.@@N@@
open Jvm Jvm.ClassFile Sem Op Lib Jvm.Free Jvm.Stand Jvm.LawKit Jvm.RoadKit Bundle Jvm.Pilot.@@N@@.Jvm.D
theorem d2_0 : decode method_2_code 0 = .ok (.iload_n 0, 1) := by decide +kernel
theorem d2_1 : decode method_2_code 1 = .ok (.iload_n 1, 1) := by decide +kernel
theorem d2_2 : decode method_2_code 2 = .ok (.if_icmp .lt 12, 3) := by decide +kernel
theorem d2_5 : decode method_2_code 5 = .ok (.iload_n 0, 1) := by decide +kernel
theorem d2_6 : decode method_2_code 6 = .ok (.iload_n 2, 1) := by decide +kernel
theorem d2_7 : decode method_2_code 7 = .ok (.if_icmp .gt 7, 3) := by decide +kernel
theorem d2_10 : decode method_2_code 10 = .ok (.iconst 1, 1) := by decide +kernel
theorem d2_11 : decode method_2_code 11 = .ok (.goto 4, 3) := by decide +kernel
theorem d2_14 : decode method_2_code 14 = .ok (.iconst 0, 1) := by decide +kernel
theorem d2_15 : decode method_2_code 15 = .ok (.ireturn, 1) := by decide +kernel
theorem pn0 : plainName "com/example/tessera/tessera/model/NameIsStartCharacterPinLaw" = true := by first | (simp [plainName, overriddenIn]; done) | decide +kernel
theorem pd0 : parseMethodDescriptor "(III)Z" = some ⟨[.int, .int, .int], some .boolean⟩ := by decide +kernel
theorem ef2 (m : MethodId) (x0 : Int32) (x1 : Int32) (x2 : Int32) : entryFrame m #[(.int x0), (.int x1), (.int x2)] 3 = mkF m 0 #[.val (.int x0), .val (.int x1), .val (.int x2)] [] := by first | (simp [entryFrame, mkF, argsToLocals, Value.category]; done) | rfl
def f2 (x0 : Int32) (x1 : Int32) (x2 : Int32) : Int32 := (if x0 < x1 then (0 : Int32) else (if x2 < x0 then (0 : Int32) else (1 : Int32)))
def Q2 (x0 : Int32) (x1 : Int32) (x2 : Int32) (h0 : Heap) (n0 : Nat) (v : Option Value) (h : Heap) (L : List Loc) : Prop := v = some (.int (f2 x0 x1 x2)) ∧ Fr n0 L ∧ h = h0
set_option maxRecDepth 65536 in
set_option maxHeartbeats 40000000 in
theorem rm2 (l : Launch) (Z : State) (a0 : Array Value) (hw : ∀ d ∈ tables_1, d.before a0 Z = true) (ws : List Jvm.Cond) (x0 : Int32) (x1 : Int32) (x2 : Int32) (h0 : Heap) (n0 : Nat) (Z0 : n0 ≤ h0.size) :
    MetFree l (⟨"com/example/tessera/tessera/model/NameIsStartCharacterPinLaw", "in", "(III)Z"⟩ : MethodName) (head1 (Jvm.Cond.code (⟨"com/example/tessera/tessera/model/NameIsStartCharacterPinLaw", "in", "(III)Z"⟩ : MethodName) method_2_code 3 (some .boolean) :: ws) ({ frames := 0, cells := 0, slots := 0, locals := 0 } : Room)) (fun a U => a = #[(.int x0), (.int x1), (.int x2)] ∧ Z.Warmed39 U.vm ∧ U.heap = h0) (fun _ _ _ _ _ => True) (fun _ U o U' => ∃ v L, o = .returned v ∧ Q2 x0 x1 x2 h0 n0 v U'.heap L ∧ FrameEnd U o U' L ({ frames := 0, cells := 0, slots := 0, locals := 0 } : Room).cells ({ frames := 0, cells := 0, slots := 0, locals := 0 } : Room).slots) := by
  refine MetFree.of_bodySF (plainFor_of_name pn0) hisR ?_
  intro p e s m args below meth c s₁ Bd hml0 hP hK
  obtain ⟨rfl, hZ, hh⟩ := hP
  have hx := Bd.exec
  have hby := Bd.bytes
  have hml : c.maxLocals = 3 := hml0
  have hown : s.vm.findClass "com/example/tessera/tessera/model/NameIsStartCharacterPinLaw" = some m.cls := findClass_of_methodNamed Bd.named
  have X0 : Stand p l e ({ frames := 0, cells := 0, slots := 0, locals := 0 } : Room) s m #[(.int x0), (.int x1), (.int x2)] below meth c s₁ [] 0 0 := Stand.of_body Bd
  have e0 : s₁.heap = h0 := by rw [← hh, Bd.state]; rfl
  obtain ⟨r, hr0⟩ : ∃ r, f2 x0 x1 x2 = r := ⟨_, rfl⟩
  have B0 : ∀  (T : State) (locs : List Loc) (X : Stand p l e ({ frames := 0, cells := 0, slots := 0, locals := 0 } : Room) s m #[(.int x0), (.int x1), (.int x2)] below meth c T locs 0 0) (eT : T.heap = h0) (NF : Fr n0 locs) (hr : f2 x0 x1 x2 = r), Go p e below s (Q2 x0 x1 x2 h0 n0) ({ frames := 0, cells := 0, slots := 0, locals := 0 } : Room).cells ({ frames := 0, cells := 0, slots := 0, locals := 0 } : Room).slots (T.setTop (mkF m 0 #[.val (.int x0), .val (.int x1), .val (.int x2)] [])) := by
    intro  T locs X eT NF hr
    unfold f2 at hr
    refine Go.step (S' := T.setTop (mkF m 1 #[.val (.int x0), .val (.int x1), .val (.int x2)] [(.int x0)])) (fun t k => XS.iloadN X.here hx rfl (hb hby d2_0) rfl k) ?_
    refine Go.step (S' := T.setTop (mkF m 2 #[.val (.int x0), .val (.int x1), .val (.int x2)] [(.int x1), (.int x0)])) (fun t k => XS.iloadN X.here hx rfl (hb hby d2_1) rfl k) ?_
    by_cases hc1 : x0 < x1
    · rw [if_pos hc1] at hr
      refine Go.step (S' := T.setTop (mkF m 14 #[.val (.int x0), .val (.int x1), .val (.int x2)] [])) (fun t k => XS.icmpYes X.here hx rfl (pc0 := 2) (pc' := 14) rfl (hb hby d2_2) rfl (tlt hc1).1 (by decide) (by decide) k) ?_
      refine Go.step (S' := T.setTop (mkF m 15 #[.val (.int x0), .val (.int x1), .val (.int x2)] [(.int (0 : Int32))])) (fun t k => XS.iconst X.here hx rfl (hb hby d2_14) k) ?_
      exact Go.retN X hx (t := .boolean) Bd.returns (by simp) Bd.notSynchronized (hb hby d2_15) ⟨by rw [hr0, ← hr]; first | done | rfl, NF, eT⟩ (by decide) (by decide)
    · rw [if_neg hc1] at hr
      refine Go.step (S' := T.setTop (mkF m 5 #[.val (.int x0), .val (.int x1), .val (.int x2)] [])) (fun t k => XS.icmpNo X.here hx rfl (hb hby d2_2) rfl (flt hc1).1 k) ?_
      refine Go.step (S' := T.setTop (mkF m 6 #[.val (.int x0), .val (.int x1), .val (.int x2)] [(.int x0)])) (fun t k => XS.iloadN X.here hx rfl (hb hby d2_5) rfl k) ?_
      refine Go.step (S' := T.setTop (mkF m 7 #[.val (.int x0), .val (.int x1), .val (.int x2)] [(.int x2), (.int x0)])) (fun t k => XS.iloadN X.here hx rfl (hb hby d2_6) rfl k) ?_
      by_cases hc2 : x2 < x0
      · rw [if_pos hc2] at hr
        refine Go.step (S' := T.setTop (mkF m 14 #[.val (.int x0), .val (.int x1), .val (.int x2)] [])) (fun t k => XS.icmpYes X.here hx rfl (pc0 := 7) (pc' := 14) rfl (hb hby d2_7) rfl (tlt hc2).2.2.1 (by decide) (by decide) k) ?_
        refine Go.step (S' := T.setTop (mkF m 15 #[.val (.int x0), .val (.int x1), .val (.int x2)] [(.int (0 : Int32))])) (fun t k => XS.iconst X.here hx rfl (hb hby d2_14) k) ?_
        exact Go.retN X hx (t := .boolean) Bd.returns (by simp) Bd.notSynchronized (hb hby d2_15) ⟨by rw [hr0, ← hr]; first | done | rfl, NF, eT⟩ (by decide) (by decide)
      · rw [if_neg hc2] at hr
        refine Go.step (S' := T.setTop (mkF m 10 #[.val (.int x0), .val (.int x1), .val (.int x2)] [])) (fun t k => XS.icmpNo X.here hx rfl (hb hby d2_7) rfl (flt hc2).2.2.1 k) ?_
        refine Go.step (S' := T.setTop (mkF m 11 #[.val (.int x0), .val (.int x1), .val (.int x2)] [(.int (1 : Int32))])) (fun t k => XS.iconst X.here hx rfl (hb hby d2_10) k) ?_
        refine Go.step (S' := T.setTop (mkF m 15 #[.val (.int x0), .val (.int x1), .val (.int x2)] [(.int (1 : Int32))])) (fun t k => XS.goto X.here hx rfl (pc0 := 11) (pc' := 15) rfl (hb hby d2_11) (by decide) (by decide) k) ?_
        exact Go.retN X hx (t := .boolean) Bd.returns (by simp) Bd.notSynchronized (hb hby d2_15) ⟨by rw [hr0, ← hr]; first | done | rfl, NF, eT⟩ (by decide) (by decide)
  show Go p e below s (Q2 x0 x1 x2 h0 n0) ({ frames := 0, cells := 0, slots := 0, locals := 0 } : Room).cells ({ frames := 0, cells := 0, slots := 0, locals := 0 } : Room).slots (s₁.setTop (entryFrame m #[(.int x0), (.int x1), (.int x2)] 3))
  rw [ef2]
  exact B0 s₁ [] X0 e0 (Fr.nil n0) hr0
theorem d1_0 : decode method_3_code 0 = .ok (.iload_n 0, 1) := by decide +kernel
theorem d1_1 : decode method_3_code 1 = .ok (.ifCond .lt 9, 3) := by decide +kernel
theorem d1_4 : decode method_3_code 4 = .ok (.iload_n 0, 1) := by decide +kernel
theorem d1_5 : decode method_3_code 5 = .ok (.ldc 7, 2) := by decide +kernel
theorem d1_7 : decode method_3_code 7 = .ok (.if_icmp .le 5, 3) := by decide +kernel
theorem d1_10 : decode method_3_code 10 = .ok (.iconst 1, 1) := by decide +kernel
theorem d1_11 : decode method_3_code 11 = .ok (.ireturn, 1) := by decide +kernel
theorem d1_12 : decode method_3_code 12 = .ok (.iload_n 0, 1) := by decide +kernel
theorem d1_13 : decode method_3_code 13 = .ok (.sipush 128, 3) := by decide +kernel
theorem d1_16 : decode method_3_code 16 = .ok (.if_icmp .ge 58, 3) := by decide +kernel
theorem d1_19 : decode method_3_code 19 = .ok (.iload_n 0, 1) := by decide +kernel
theorem d1_20 : decode method_3_code 20 = .ok (.iconst 0, 1) := by decide +kernel
theorem d1_21 : decode method_3_code 21 = .ok (.bipush 57, 2) := by decide +kernel
theorem d1_23 : decode method_3_code 23 = .ok (.invokestatic 8, 3) := by decide +kernel
theorem d1_26 : decode method_3_code 26 = .ok (.ifCond .ne 42, 3) := by decide +kernel
theorem d1_29 : decode method_3_code 29 = .ok (.iload_n 0, 1) := by decide +kernel
theorem d1_30 : decode method_3_code 30 = .ok (.bipush 59, 2) := by decide +kernel
theorem d1_32 : decode method_3_code 32 = .ok (.bipush 64, 2) := by decide +kernel
theorem d1_34 : decode method_3_code 34 = .ok (.invokestatic 8, 3) := by decide +kernel
theorem d1_37 : decode method_3_code 37 = .ok (.ifCond .ne 31, 3) := by decide +kernel
theorem d1_40 : decode method_3_code 40 = .ok (.iload_n 0, 1) := by decide +kernel
theorem d1_41 : decode method_3_code 41 = .ok (.bipush 91, 2) := by decide +kernel
theorem d1_43 : decode method_3_code 43 = .ok (.bipush 94, 2) := by decide +kernel
theorem d1_45 : decode method_3_code 45 = .ok (.invokestatic 8, 3) := by decide +kernel
theorem d1_48 : decode method_3_code 48 = .ok (.ifCond .ne 20, 3) := by decide +kernel
theorem d1_51 : decode method_3_code 51 = .ok (.iload_n 0, 1) := by decide +kernel
theorem d1_52 : decode method_3_code 52 = .ok (.bipush 96, 2) := by decide +kernel
theorem d1_54 : decode method_3_code 54 = .ok (.if_icmp .eq 14, 3) := by decide +kernel
theorem d1_57 : decode method_3_code 57 = .ok (.iload_n 0, 1) := by decide +kernel
theorem d1_58 : decode method_3_code 58 = .ok (.bipush 123, 2) := by decide +kernel
theorem d1_60 : decode method_3_code 60 = .ok (.bipush 127, 2) := by decide +kernel
theorem d1_62 : decode method_3_code 62 = .ok (.invokestatic 8, 3) := by decide +kernel
theorem d1_65 : decode method_3_code 65 = .ok (.ifCond .eq 7, 3) := by decide +kernel
theorem d1_68 : decode method_3_code 68 = .ok (.iconst 1, 1) := by decide +kernel
theorem d1_69 : decode method_3_code 69 = .ok (.goto 4, 3) := by decide +kernel
theorem d1_72 : decode method_3_code 72 = .ok (.iconst 0, 1) := by decide +kernel
theorem d1_73 : decode method_3_code 73 = .ok (.ireturn, 1) := by decide +kernel
theorem d1_74 : decode method_3_code 74 = .ok (.iload_n 0, 1) := by decide +kernel
theorem d1_75 : decode method_3_code 75 = .ok (.sipush 128, 3) := by decide +kernel
theorem d1_78 : decode method_3_code 78 = .ok (.sipush 191, 3) := by decide +kernel
theorem d1_81 : decode method_3_code 81 = .ok (.invokestatic 8, 3) := by decide +kernel
theorem d1_84 : decode method_3_code 84 = .ok (.ifCond .ne 122, 3) := by decide +kernel
theorem d1_87 : decode method_3_code 87 = .ok (.iload_n 0, 1) := by decide +kernel
theorem d1_88 : decode method_3_code 88 = .ok (.sipush 215, 3) := by decide +kernel
theorem d1_91 : decode method_3_code 91 = .ok (.if_icmp .eq 115, 3) := by decide +kernel
theorem d1_94 : decode method_3_code 94 = .ok (.iload_n 0, 1) := by decide +kernel
theorem d1_95 : decode method_3_code 95 = .ok (.sipush 247, 3) := by decide +kernel
theorem d1_98 : decode method_3_code 98 = .ok (.if_icmp .eq 108, 3) := by decide +kernel
theorem d1_101 : decode method_3_code 101 = .ok (.iload_n 0, 1) := by decide +kernel
theorem d1_102 : decode method_3_code 102 = .ok (.sipush 768, 3) := by decide +kernel
theorem d1_105 : decode method_3_code 105 = .ok (.sipush 879, 3) := by decide +kernel
theorem d1_108 : decode method_3_code 108 = .ok (.invokestatic 8, 3) := by decide +kernel
theorem d1_111 : decode method_3_code 111 = .ok (.ifCond .ne 95, 3) := by decide +kernel
theorem d1_114 : decode method_3_code 114 = .ok (.iload_n 0, 1) := by decide +kernel
theorem d1_115 : decode method_3_code 115 = .ok (.sipush 894, 3) := by decide +kernel
theorem d1_118 : decode method_3_code 118 = .ok (.if_icmp .eq 88, 3) := by decide +kernel
theorem d1_121 : decode method_3_code 121 = .ok (.iload_n 0, 1) := by decide +kernel
theorem d1_122 : decode method_3_code 122 = .ok (.sipush 8192, 3) := by decide +kernel
theorem d1_125 : decode method_3_code 125 = .ok (.sipush 8203, 3) := by decide +kernel
theorem d1_128 : decode method_3_code 128 = .ok (.invokestatic 8, 3) := by decide +kernel
theorem d1_131 : decode method_3_code 131 = .ok (.ifCond .ne 75, 3) := by decide +kernel
theorem d1_134 : decode method_3_code 134 = .ok (.iload_n 0, 1) := by decide +kernel
theorem d1_135 : decode method_3_code 135 = .ok (.sipush 8206, 3) := by decide +kernel
theorem d1_138 : decode method_3_code 138 = .ok (.sipush 8303, 3) := by decide +kernel
theorem d1_141 : decode method_3_code 141 = .ok (.invokestatic 8, 3) := by decide +kernel
theorem d1_144 : decode method_3_code 144 = .ok (.ifCond .ne 62, 3) := by decide +kernel
theorem d1_147 : decode method_3_code 147 = .ok (.iload_n 0, 1) := by decide +kernel
theorem d1_148 : decode method_3_code 148 = .ok (.sipush 8592, 3) := by decide +kernel
theorem d1_151 : decode method_3_code 151 = .ok (.sipush 11263, 3) := by decide +kernel
theorem d1_154 : decode method_3_code 154 = .ok (.invokestatic 8, 3) := by decide +kernel
theorem d1_157 : decode method_3_code 157 = .ok (.ifCond .ne 49, 3) := by decide +kernel
theorem d1_160 : decode method_3_code 160 = .ok (.iload_n 0, 1) := by decide +kernel
theorem d1_161 : decode method_3_code 161 = .ok (.sipush 12272, 3) := by decide +kernel
theorem d1_164 : decode method_3_code 164 = .ok (.sipush 12288, 3) := by decide +kernel
theorem d1_167 : decode method_3_code 167 = .ok (.invokestatic 8, 3) := by decide +kernel
theorem d1_170 : decode method_3_code 170 = .ok (.ifCond .ne 36, 3) := by decide +kernel
theorem d1_173 : decode method_3_code 173 = .ok (.iload_n 0, 1) := by decide +kernel
theorem d1_174 : decode method_3_code 174 = .ok (.ldc 14, 2) := by decide +kernel
theorem d1_176 : decode method_3_code 176 = .ok (.ldc 15, 2) := by decide +kernel
theorem d1_178 : decode method_3_code 178 = .ok (.invokestatic 8, 3) := by decide +kernel
theorem d1_181 : decode method_3_code 181 = .ok (.ifCond .ne 25, 3) := by decide +kernel
theorem d1_184 : decode method_3_code 184 = .ok (.iload_n 0, 1) := by decide +kernel
theorem d1_185 : decode method_3_code 185 = .ok (.ldc 16, 2) := by decide +kernel
theorem d1_187 : decode method_3_code 187 = .ok (.ldc 17, 2) := by decide +kernel
theorem d1_189 : decode method_3_code 189 = .ok (.invokestatic 8, 3) := by decide +kernel
theorem d1_192 : decode method_3_code 192 = .ok (.ifCond .ne 14, 3) := by decide +kernel
theorem d1_195 : decode method_3_code 195 = .ok (.iload_n 0, 1) := by decide +kernel
theorem d1_196 : decode method_3_code 196 = .ok (.ldc 18, 2) := by decide +kernel
theorem d1_198 : decode method_3_code 198 = .ok (.ldc 19, 2) := by decide +kernel
theorem d1_200 : decode method_3_code 200 = .ok (.invokestatic 8, 3) := by decide +kernel
theorem d1_203 : decode method_3_code 203 = .ok (.ifCond .eq 7, 3) := by decide +kernel
theorem d1_206 : decode method_3_code 206 = .ok (.iconst 1, 1) := by decide +kernel
theorem d1_207 : decode method_3_code 207 = .ok (.goto 4, 3) := by decide +kernel
theorem d1_210 : decode method_3_code 210 = .ok (.iconst 0, 1) := by decide +kernel
theorem d1_211 : decode method_3_code 211 = .ok (.ireturn, 1) := by decide +kernel
theorem pd1 : parseMethodDescriptor "(I)Z" = some ⟨[.int], some .boolean⟩ := by decide +kernel
theorem ef1 (m : MethodId) (x0 : Int32) : entryFrame m #[(.int x0)] 1 = mkF m 0 #[.val (.int x0)] [] := by first | (simp [entryFrame, mkF, argsToLocals, Value.category]; done) | rfl
def f1 (x0 : Int32) : Int32 := (if x0 < (0 : Int32) then (1 : Int32) else (if (983039 : Int32) < x0 then (1 : Int32) else (if x0 < (128 : Int32) then (if (f2 x0 (0 : Int32) (57 : Int32)) = (0 : Int32) then (if (f2 x0 (59 : Int32) (64 : Int32)) = (0 : Int32) then (if (f2 x0 (91 : Int32) (94 : Int32)) = (0 : Int32) then (if x0 = (96 : Int32) then (1 : Int32) else (if (f2 x0 (123 : Int32) (127 : Int32)) = (0 : Int32) then (0 : Int32) else (1 : Int32))) else (1 : Int32)) else (1 : Int32)) else (1 : Int32)) else (if (f2 x0 (128 : Int32) (191 : Int32)) = (0 : Int32) then (if x0 = (215 : Int32) then (1 : Int32) else (if x0 = (247 : Int32) then (1 : Int32) else (if (f2 x0 (768 : Int32) (879 : Int32)) = (0 : Int32) then (if x0 = (894 : Int32) then (1 : Int32) else (if (f2 x0 (8192 : Int32) (8203 : Int32)) = (0 : Int32) then (if (f2 x0 (8206 : Int32) (8303 : Int32)) = (0 : Int32) then (if (f2 x0 (8592 : Int32) (11263 : Int32)) = (0 : Int32) then (if (f2 x0 (12272 : Int32) (12288 : Int32)) = (0 : Int32) then (if (f2 x0 (55296 : Int32) (63743 : Int32)) = (0 : Int32) then (if (f2 x0 (64976 : Int32) (65007 : Int32)) = (0 : Int32) then (if (f2 x0 (65534 : Int32) (65535 : Int32)) = (0 : Int32) then (0 : Int32) else (1 : Int32)) else (1 : Int32)) else (1 : Int32)) else (1 : Int32)) else (1 : Int32)) else (1 : Int32)) else (1 : Int32))) else (1 : Int32)))) else (1 : Int32)))))
def Q1 (x0 : Int32) (h0 : Heap) (n0 : Nat) (v : Option Value) (h : Heap) (L : List Loc) : Prop := v = some (.int (f1 x0)) ∧ Fr n0 L ∧ h = h0
set_option maxRecDepth 65536 in
set_option maxHeartbeats 40000000 in
theorem rm1 (l : Launch) (Z : State) (a0 : Array Value) (hw : ∀ d ∈ tables_1, d.before a0 Z = true) (ws : List Jvm.Cond) (x0 : Int32) (h0 : Heap) (n0 : Nat) (Z0 : n0 ≤ h0.size) :
    MetFree l (⟨"com/example/tessera/tessera/model/NameIsStartCharacterPinLaw", "inGap", "(I)Z"⟩ : MethodName) (head1 (Jvm.Cond.code (⟨"com/example/tessera/tessera/model/NameIsStartCharacterPinLaw", "inGap", "(I)Z"⟩ : MethodName) method_3_code 1 (some .boolean) :: ws) ({ frames := 1, cells := 0, slots := 0, locals := 14 } : Room)) (fun a U => a = #[(.int x0)] ∧ Z.Warmed39 U.vm ∧ U.heap = h0) (fun _ _ _ _ _ => True) (fun _ U o U' => ∃ v L, o = .returned v ∧ Q1 x0 h0 n0 v U'.heap L ∧ FrameEnd U o U' L ({ frames := 1, cells := 0, slots := 0, locals := 14 } : Room).cells ({ frames := 1, cells := 0, slots := 0, locals := 14 } : Room).slots) := by
  refine MetFree.of_bodySF (plainFor_of_name pn0) hisR ?_
  intro p e s m args below meth c s₁ Bd hml0 hP hK
  obtain ⟨rfl, hZ, hh⟩ := hP
  have hx := Bd.exec
  have hby := Bd.bytes
  have hml : c.maxLocals = 1 := hml0
  have hown : s.vm.findClass "com/example/tessera/tessera/model/NameIsStartCharacterPinLaw" = some m.cls := findClass_of_methodNamed Bd.named
  have X0 : Stand p l e ({ frames := 1, cells := 0, slots := 0, locals := 14 } : Room) s m #[(.int x0)] below meth c s₁ [] 0 0 := Stand.of_body Bd
  have e0 : s₁.heap = h0 := by rw [← hh, Bd.state]; rfl
  obtain ⟨r, hr0⟩ : ∃ r, f1 x0 = r := ⟨_, rfl⟩
  have B0 : ∀  (T : State) (locs : List Loc) (X : Stand p l e ({ frames := 1, cells := 0, slots := 0, locals := 14 } : Room) s m #[(.int x0)] below meth c T locs 0 0) (eT : T.heap = h0) (NF : Fr n0 locs) (hr : f1 x0 = r), Go p e below s (Q1 x0 h0 n0) ({ frames := 1, cells := 0, slots := 0, locals := 14 } : Room).cells ({ frames := 1, cells := 0, slots := 0, locals := 14 } : Room).slots (T.setTop (mkF m 0 #[.val (.int x0)] [])) := by
    intro  T locs X eT NF hr
    unfold f1 at hr
    refine Go.step (S' := T.setTop (mkF m 1 #[.val (.int x0)] [(.int x0)])) (fun t k => XS.iloadN X.here hx rfl (hb hby d1_0) rfl k) ?_
    by_cases hc1 : x0 < (0 : Int32)
    · rw [if_pos hc1] at hr
      refine Go.step (S' := T.setTop (mkF m 10 #[.val (.int x0)] [])) (fun t k => XS.ifYes X.here hx rfl (pc0 := 1) (pc' := 10) rfl (hb hby d1_1) rfl ((if0 _ _).trans (tlt hc1).1) (by decide) (by decide) k) ?_
      refine Go.step (S' := T.setTop (mkF m 11 #[.val (.int x0)] [(.int (1 : Int32))])) (fun t k => XS.iconst X.here hx rfl (hb hby d1_10) k) ?_
      exact Go.retN X hx (t := .boolean) Bd.returns (by simp) Bd.notSynchronized (hb hby d1_11) ⟨by rw [hr0, ← hr]; first | done | rfl, NF, eT⟩ (by decide) (by decide)
    · rw [if_neg hc1] at hr
      refine Go.step (S' := T.setTop (mkF m 4 #[.val (.int x0)] [])) (fun t k => XS.ifNo X.here hx rfl (hb hby d1_1) rfl ((if0 _ _).trans (flt hc1).1) k) ?_
      refine Go.step (S' := T.setTop (mkF m 5 #[.val (.int x0)] [(.int x0)])) (fun t k => XS.iloadN X.here hx rfl (hb hby d1_4) rfl k) ?_
      refine Go.step (S' := T.setTop (mkF m 7 #[.val (.int x0)] [(.int (983039 : Int32)), (.int x0)])) (fun t k => X.ldcInt hx hown (mvT hZ (hw _ (List.mem_of_getElem? (i := 5) rfl))) (g := (mkF m 5 #[.val (.int x0)] [(.int x0)])) rfl (hb hby d1_5) _ k) ?_
      by_cases hc2 : (983039 : Int32) < x0
      · rw [if_pos hc2] at hr
        refine Go.step (S' := T.setTop (mkF m 10 #[.val (.int x0)] [])) (fun t k => XS.icmpNo X.here hx rfl (hb hby d1_7) rfl (tlt hc2).2.2.2 k) ?_
        refine Go.step (S' := T.setTop (mkF m 11 #[.val (.int x0)] [(.int (1 : Int32))])) (fun t k => XS.iconst X.here hx rfl (hb hby d1_10) k) ?_
        exact Go.retN X hx (t := .boolean) Bd.returns (by simp) Bd.notSynchronized (hb hby d1_11) ⟨by rw [hr0, ← hr]; first | done | rfl, NF, eT⟩ (by decide) (by decide)
      · rw [if_neg hc2] at hr
        refine Go.step (S' := T.setTop (mkF m 12 #[.val (.int x0)] [])) (fun t k => XS.icmpYes X.here hx rfl (pc0 := 7) (pc' := 12) rfl (hb hby d1_7) rfl (flt hc2).2.2.2 (by decide) (by decide) k) ?_
        refine Go.step (S' := T.setTop (mkF m 13 #[.val (.int x0)] [(.int x0)])) (fun t k => XS.iloadN X.here hx rfl (hb hby d1_12) rfl k) ?_
        refine Go.step (S' := T.setTop (mkF m 16 #[.val (.int x0)] [(.int (128 : Int32)), (.int x0)])) (fun t k => XS.sipush X.here hx rfl (hb hby d1_13) k) ?_
        by_cases hc3 : x0 < (128 : Int32)
        · rw [if_pos hc3] at hr
          refine Go.step (S' := T.setTop (mkF m 19 #[.val (.int x0)] [])) (fun t k => XS.icmpNo X.here hx rfl (hb hby d1_16) rfl (tlt hc3).2.1 k) ?_
          refine Go.step (S' := T.setTop (mkF m 20 #[.val (.int x0)] [(.int x0)])) (fun t k => XS.iloadN X.here hx rfl (hb hby d1_19) rfl k) ?_
          refine Go.step (S' := T.setTop (mkF m 21 #[.val (.int x0)] [(.int (0 : Int32)), (.int x0)])) (fun t k => XS.iconst X.here hx rfl (hb hby d1_20) k) ?_
          refine Go.step (S' := T.setTop (mkF m 23 #[.val (.int x0)] [(.int (57 : Int32)), (.int (0 : Int32)), (.int x0)])) (fun t k => XS.bipush X.here hx rfl (hb hby d1_21) k) ?_
          obtain ⟨_, _, ⟨T4, L4, k4, n4⟩, -, X4, ⟨Lc4, hQ4, l4, y4, z4⟩, st4⟩ := Jvm.LawKit.callS X hx (y := (⟨"com/example/tessera/tessera/model/NameIsStartCharacterPinLaw", "in", "(III)Z"⟩ : MethodName)) hown (mvT hZ (hw _ (List.mem_of_getElem? (i := 6) rfl))) (mvT hZ (hw _ (List.mem_of_getElem? (i := 7) rfl))) (mvT hZ (hw _ (List.mem_of_getElem? (i := 3) rfl))) (mvT hZ (hw _ (List.mem_of_getElem? (i := 8) rfl))) (by decide) (backOf (W := 0) (rm2 l Z a0 hw [] x0 (0 : Int32) (57 : Int32) h0 n0 Z0) hZ (hw _ (List.mem_of_getElem? (i := 8) rfl)) (hw _ (List.mem_of_getElem? (i := 3) rfl)) (by decide) (by decide)) (g := (mkF m 23 #[.val (.int x0)] [(.int (57 : Int32)), (.int (0 : Int32)), (.int x0)])) rfl (by rw [hml]; rfl) (argsL := [(.int x0), (.int (0 : Int32)), (.int (57 : Int32))]) (rest := []) (lenOf pd0 rfl) rfl (by show 2 * 0 + _ ≤ _; exact Nat.le_of_eq rfl) (hb hby d1_23) (fun _ _ => ⟨rfl, eT, (by decide : 0 + 0 ≤ _), (by decide : 0 + 0 ≤ _)⟩)
          dsimp only [Pt.U, Pt.locs, Pt.cells, Pt.slots] at X4 l4 y4 z4 st4 hQ4
          subst l4 y4 z4
          obtain ⟨rfl, Nq4, e4⟩ := hQ4
          have N4 := Fr.app NF Nq4
          refine Go.step (S' := T4.setTop (mkF m 26 #[.val (.int x0)] [(.int (f2 x0 (0 : Int32) (57 : Int32)))])) (fun t k => st4 t k) ?_
          by_cases hc5 : (f2 x0 (0 : Int32) (57 : Int32)) = (0 : Int32)
          · rw [if_pos hc5] at hr
            refine Go.step (S' := T4.setTop (mkF m 29 #[.val (.int x0)] [])) (fun t k => XS.ifNo X4.here hx rfl (hb hby d1_26) rfl ((if0 _ _).trans (teq hc5).2) k) ?_
            refine Go.step (S' := T4.setTop (mkF m 30 #[.val (.int x0)] [(.int x0)])) (fun t k => XS.iloadN X4.here hx rfl (hb hby d1_29) rfl k) ?_
            refine Go.step (S' := T4.setTop (mkF m 32 #[.val (.int x0)] [(.int (59 : Int32)), (.int x0)])) (fun t k => XS.bipush X4.here hx rfl (hb hby d1_30) k) ?_
            refine Go.step (S' := T4.setTop (mkF m 34 #[.val (.int x0)] [(.int (64 : Int32)), (.int (59 : Int32)), (.int x0)])) (fun t k => XS.bipush X4.here hx rfl (hb hby d1_32) k) ?_
            obtain ⟨_, _, ⟨T6, L6, k6, n6⟩, -, X6, ⟨Lc6, hQ6, l6, y6, z6⟩, st6⟩ := Jvm.LawKit.callS X4 hx (y := (⟨"com/example/tessera/tessera/model/NameIsStartCharacterPinLaw", "in", "(III)Z"⟩ : MethodName)) hown (mvT hZ (hw _ (List.mem_of_getElem? (i := 6) rfl))) (mvT hZ (hw _ (List.mem_of_getElem? (i := 7) rfl))) (mvT hZ (hw _ (List.mem_of_getElem? (i := 3) rfl))) (mvT hZ (hw _ (List.mem_of_getElem? (i := 8) rfl))) (by decide) (backOf (W := 0) (rm2 l Z a0 hw [] x0 (59 : Int32) (64 : Int32) h0 n0 Z0) hZ (hw _ (List.mem_of_getElem? (i := 8) rfl)) (hw _ (List.mem_of_getElem? (i := 3) rfl)) (by decide) (by decide)) (g := (mkF m 34 #[.val (.int x0)] [(.int (64 : Int32)), (.int (59 : Int32)), (.int x0)])) rfl (by rw [hml]; rfl) (argsL := [(.int x0), (.int (59 : Int32)), (.int (64 : Int32))]) (rest := []) (lenOf pd0 rfl) rfl (by show 2 * 0 + _ ≤ _; exact Nat.le_of_eq rfl) (hb hby d1_34) (fun _ _ => ⟨rfl, e4, (by decide : 0 + 0 ≤ _), (by decide : 0 + 0 ≤ _)⟩)
            dsimp only [Pt.U, Pt.locs, Pt.cells, Pt.slots] at X6 l6 y6 z6 st6 hQ6
            subst l6 y6 z6
            obtain ⟨rfl, Nq6, e6⟩ := hQ6
            have N6 := Fr.app N4 Nq6
            refine Go.step (S' := T6.setTop (mkF m 37 #[.val (.int x0)] [(.int (f2 x0 (59 : Int32) (64 : Int32)))])) (fun t k => st6 t k) ?_
            by_cases hc7 : (f2 x0 (59 : Int32) (64 : Int32)) = (0 : Int32)
            · rw [if_pos hc7] at hr
              refine Go.step (S' := T6.setTop (mkF m 40 #[.val (.int x0)] [])) (fun t k => XS.ifNo X6.here hx rfl (hb hby d1_37) rfl ((if0 _ _).trans (teq hc7).2) k) ?_
              refine Go.step (S' := T6.setTop (mkF m 41 #[.val (.int x0)] [(.int x0)])) (fun t k => XS.iloadN X6.here hx rfl (hb hby d1_40) rfl k) ?_
              refine Go.step (S' := T6.setTop (mkF m 43 #[.val (.int x0)] [(.int (91 : Int32)), (.int x0)])) (fun t k => XS.bipush X6.here hx rfl (hb hby d1_41) k) ?_
              refine Go.step (S' := T6.setTop (mkF m 45 #[.val (.int x0)] [(.int (94 : Int32)), (.int (91 : Int32)), (.int x0)])) (fun t k => XS.bipush X6.here hx rfl (hb hby d1_43) k) ?_
              obtain ⟨_, _, ⟨T8, L8, k8, n8⟩, -, X8, ⟨Lc8, hQ8, l8, y8, z8⟩, st8⟩ := Jvm.LawKit.callS X6 hx (y := (⟨"com/example/tessera/tessera/model/NameIsStartCharacterPinLaw", "in", "(III)Z"⟩ : MethodName)) hown (mvT hZ (hw _ (List.mem_of_getElem? (i := 6) rfl))) (mvT hZ (hw _ (List.mem_of_getElem? (i := 7) rfl))) (mvT hZ (hw _ (List.mem_of_getElem? (i := 3) rfl))) (mvT hZ (hw _ (List.mem_of_getElem? (i := 8) rfl))) (by decide) (backOf (W := 0) (rm2 l Z a0 hw [] x0 (91 : Int32) (94 : Int32) h0 n0 Z0) hZ (hw _ (List.mem_of_getElem? (i := 8) rfl)) (hw _ (List.mem_of_getElem? (i := 3) rfl)) (by decide) (by decide)) (g := (mkF m 45 #[.val (.int x0)] [(.int (94 : Int32)), (.int (91 : Int32)), (.int x0)])) rfl (by rw [hml]; rfl) (argsL := [(.int x0), (.int (91 : Int32)), (.int (94 : Int32))]) (rest := []) (lenOf pd0 rfl) rfl (by show 2 * 0 + _ ≤ _; exact Nat.le_of_eq rfl) (hb hby d1_45) (fun _ _ => ⟨rfl, e6, (by decide : 0 + 0 ≤ _), (by decide : 0 + 0 ≤ _)⟩)
              dsimp only [Pt.U, Pt.locs, Pt.cells, Pt.slots] at X8 l8 y8 z8 st8 hQ8
              subst l8 y8 z8
              obtain ⟨rfl, Nq8, e8⟩ := hQ8
              have N8 := Fr.app N6 Nq8
              refine Go.step (S' := T8.setTop (mkF m 48 #[.val (.int x0)] [(.int (f2 x0 (91 : Int32) (94 : Int32)))])) (fun t k => st8 t k) ?_
              by_cases hc9 : (f2 x0 (91 : Int32) (94 : Int32)) = (0 : Int32)
              · rw [if_pos hc9] at hr
                refine Go.step (S' := T8.setTop (mkF m 51 #[.val (.int x0)] [])) (fun t k => XS.ifNo X8.here hx rfl (hb hby d1_48) rfl ((if0 _ _).trans (teq hc9).2) k) ?_
                refine Go.step (S' := T8.setTop (mkF m 52 #[.val (.int x0)] [(.int x0)])) (fun t k => XS.iloadN X8.here hx rfl (hb hby d1_51) rfl k) ?_
                refine Go.step (S' := T8.setTop (mkF m 54 #[.val (.int x0)] [(.int (96 : Int32)), (.int x0)])) (fun t k => XS.bipush X8.here hx rfl (hb hby d1_52) k) ?_
                by_cases hc10 : x0 = (96 : Int32)
                · rw [if_pos hc10] at hr
                  refine Go.step (S' := T8.setTop (mkF m 68 #[.val (.int x0)] [])) (fun t k => XS.icmpYes X8.here hx rfl (pc0 := 54) (pc' := 68) rfl (hb hby d1_54) rfl (teq hc10).1 (by decide) (by decide) k) ?_
                  refine Go.step (S' := T8.setTop (mkF m 69 #[.val (.int x0)] [(.int (1 : Int32))])) (fun t k => XS.iconst X8.here hx rfl (hb hby d1_68) k) ?_
                  refine Go.step (S' := T8.setTop (mkF m 73 #[.val (.int x0)] [(.int (1 : Int32))])) (fun t k => XS.goto X8.here hx rfl (pc0 := 69) (pc' := 73) rfl (hb hby d1_69) (by decide) (by decide) k) ?_
                  exact Go.retN X8 hx (t := .boolean) Bd.returns (by simp) Bd.notSynchronized (hb hby d1_73) ⟨by rw [hr0, ← hr]; first | done | rfl, N8, e8⟩ (by decide) (by decide)
                · rw [if_neg hc10] at hr
                  refine Go.step (S' := T8.setTop (mkF m 57 #[.val (.int x0)] [])) (fun t k => XS.icmpNo X8.here hx rfl (hb hby d1_54) rfl (feq hc10).1 k) ?_
                  refine Go.step (S' := T8.setTop (mkF m 58 #[.val (.int x0)] [(.int x0)])) (fun t k => XS.iloadN X8.here hx rfl (hb hby d1_57) rfl k) ?_
                  refine Go.step (S' := T8.setTop (mkF m 60 #[.val (.int x0)] [(.int (123 : Int32)), (.int x0)])) (fun t k => XS.bipush X8.here hx rfl (hb hby d1_58) k) ?_
                  refine Go.step (S' := T8.setTop (mkF m 62 #[.val (.int x0)] [(.int (127 : Int32)), (.int (123 : Int32)), (.int x0)])) (fun t k => XS.bipush X8.here hx rfl (hb hby d1_60) k) ?_
                  obtain ⟨_, _, ⟨T11, L11, k11, n11⟩, -, X11, ⟨Lc11, hQ11, l11, y11, z11⟩, st11⟩ := Jvm.LawKit.callS X8 hx (y := (⟨"com/example/tessera/tessera/model/NameIsStartCharacterPinLaw", "in", "(III)Z"⟩ : MethodName)) hown (mvT hZ (hw _ (List.mem_of_getElem? (i := 6) rfl))) (mvT hZ (hw _ (List.mem_of_getElem? (i := 7) rfl))) (mvT hZ (hw _ (List.mem_of_getElem? (i := 3) rfl))) (mvT hZ (hw _ (List.mem_of_getElem? (i := 8) rfl))) (by decide) (backOf (W := 0) (rm2 l Z a0 hw [] x0 (123 : Int32) (127 : Int32) h0 n0 Z0) hZ (hw _ (List.mem_of_getElem? (i := 8) rfl)) (hw _ (List.mem_of_getElem? (i := 3) rfl)) (by decide) (by decide)) (g := (mkF m 62 #[.val (.int x0)] [(.int (127 : Int32)), (.int (123 : Int32)), (.int x0)])) rfl (by rw [hml]; rfl) (argsL := [(.int x0), (.int (123 : Int32)), (.int (127 : Int32))]) (rest := []) (lenOf pd0 rfl) rfl (by show 2 * 0 + _ ≤ _; exact Nat.le_of_eq rfl) (hb hby d1_62) (fun _ _ => ⟨rfl, e8, (by decide : 0 + 0 ≤ _), (by decide : 0 + 0 ≤ _)⟩)
                  dsimp only [Pt.U, Pt.locs, Pt.cells, Pt.slots] at X11 l11 y11 z11 st11 hQ11
                  subst l11 y11 z11
                  obtain ⟨rfl, Nq11, e11⟩ := hQ11
                  have N11 := Fr.app N8 Nq11
                  refine Go.step (S' := T11.setTop (mkF m 65 #[.val (.int x0)] [(.int (f2 x0 (123 : Int32) (127 : Int32)))])) (fun t k => st11 t k) ?_
                  by_cases hc12 : (f2 x0 (123 : Int32) (127 : Int32)) = (0 : Int32)
                  · rw [if_pos hc12] at hr
                    refine Go.step (S' := T11.setTop (mkF m 72 #[.val (.int x0)] [])) (fun t k => XS.ifYes X11.here hx rfl (pc0 := 65) (pc' := 72) rfl (hb hby d1_65) rfl ((if0 _ _).trans (teq hc12).1) (by decide) (by decide) k) ?_
                    refine Go.step (S' := T11.setTop (mkF m 73 #[.val (.int x0)] [(.int (0 : Int32))])) (fun t k => XS.iconst X11.here hx rfl (hb hby d1_72) k) ?_
                    exact Go.retN X11 hx (t := .boolean) Bd.returns (by simp) Bd.notSynchronized (hb hby d1_73) ⟨by rw [hr0, ← hr]; first | done | rfl, N11, e11⟩ (by decide) (by decide)
                  · rw [if_neg hc12] at hr
                    refine Go.step (S' := T11.setTop (mkF m 68 #[.val (.int x0)] [])) (fun t k => XS.ifNo X11.here hx rfl (hb hby d1_65) rfl ((if0 _ _).trans (feq hc12).1) k) ?_
                    refine Go.step (S' := T11.setTop (mkF m 69 #[.val (.int x0)] [(.int (1 : Int32))])) (fun t k => XS.iconst X11.here hx rfl (hb hby d1_68) k) ?_
                    refine Go.step (S' := T11.setTop (mkF m 73 #[.val (.int x0)] [(.int (1 : Int32))])) (fun t k => XS.goto X11.here hx rfl (pc0 := 69) (pc' := 73) rfl (hb hby d1_69) (by decide) (by decide) k) ?_
                    exact Go.retN X11 hx (t := .boolean) Bd.returns (by simp) Bd.notSynchronized (hb hby d1_73) ⟨by rw [hr0, ← hr]; first | done | rfl, N11, e11⟩ (by decide) (by decide)
              · rw [if_neg hc9] at hr
                refine Go.step (S' := T8.setTop (mkF m 68 #[.val (.int x0)] [])) (fun t k => XS.ifYes X8.here hx rfl (pc0 := 48) (pc' := 68) rfl (hb hby d1_48) rfl ((if0 _ _).trans (feq hc9).2) (by decide) (by decide) k) ?_
                refine Go.step (S' := T8.setTop (mkF m 69 #[.val (.int x0)] [(.int (1 : Int32))])) (fun t k => XS.iconst X8.here hx rfl (hb hby d1_68) k) ?_
                refine Go.step (S' := T8.setTop (mkF m 73 #[.val (.int x0)] [(.int (1 : Int32))])) (fun t k => XS.goto X8.here hx rfl (pc0 := 69) (pc' := 73) rfl (hb hby d1_69) (by decide) (by decide) k) ?_
                exact Go.retN X8 hx (t := .boolean) Bd.returns (by simp) Bd.notSynchronized (hb hby d1_73) ⟨by rw [hr0, ← hr]; first | done | rfl, N8, e8⟩ (by decide) (by decide)
            · rw [if_neg hc7] at hr
              refine Go.step (S' := T6.setTop (mkF m 68 #[.val (.int x0)] [])) (fun t k => XS.ifYes X6.here hx rfl (pc0 := 37) (pc' := 68) rfl (hb hby d1_37) rfl ((if0 _ _).trans (feq hc7).2) (by decide) (by decide) k) ?_
              refine Go.step (S' := T6.setTop (mkF m 69 #[.val (.int x0)] [(.int (1 : Int32))])) (fun t k => XS.iconst X6.here hx rfl (hb hby d1_68) k) ?_
              refine Go.step (S' := T6.setTop (mkF m 73 #[.val (.int x0)] [(.int (1 : Int32))])) (fun t k => XS.goto X6.here hx rfl (pc0 := 69) (pc' := 73) rfl (hb hby d1_69) (by decide) (by decide) k) ?_
              exact Go.retN X6 hx (t := .boolean) Bd.returns (by simp) Bd.notSynchronized (hb hby d1_73) ⟨by rw [hr0, ← hr]; first | done | rfl, N6, e6⟩ (by decide) (by decide)
          · rw [if_neg hc5] at hr
            refine Go.step (S' := T4.setTop (mkF m 68 #[.val (.int x0)] [])) (fun t k => XS.ifYes X4.here hx rfl (pc0 := 26) (pc' := 68) rfl (hb hby d1_26) rfl ((if0 _ _).trans (feq hc5).2) (by decide) (by decide) k) ?_
            refine Go.step (S' := T4.setTop (mkF m 69 #[.val (.int x0)] [(.int (1 : Int32))])) (fun t k => XS.iconst X4.here hx rfl (hb hby d1_68) k) ?_
            refine Go.step (S' := T4.setTop (mkF m 73 #[.val (.int x0)] [(.int (1 : Int32))])) (fun t k => XS.goto X4.here hx rfl (pc0 := 69) (pc' := 73) rfl (hb hby d1_69) (by decide) (by decide) k) ?_
            exact Go.retN X4 hx (t := .boolean) Bd.returns (by simp) Bd.notSynchronized (hb hby d1_73) ⟨by rw [hr0, ← hr]; first | done | rfl, N4, e4⟩ (by decide) (by decide)
        · rw [if_neg hc3] at hr
          refine Go.step (S' := T.setTop (mkF m 74 #[.val (.int x0)] [])) (fun t k => XS.icmpYes X.here hx rfl (pc0 := 16) (pc' := 74) rfl (hb hby d1_16) rfl (flt hc3).2.1 (by decide) (by decide) k) ?_
          refine Go.step (S' := T.setTop (mkF m 75 #[.val (.int x0)] [(.int x0)])) (fun t k => XS.iloadN X.here hx rfl (hb hby d1_74) rfl k) ?_
          refine Go.step (S' := T.setTop (mkF m 78 #[.val (.int x0)] [(.int (128 : Int32)), (.int x0)])) (fun t k => XS.sipush X.here hx rfl (hb hby d1_75) k) ?_
          refine Go.step (S' := T.setTop (mkF m 81 #[.val (.int x0)] [(.int (191 : Int32)), (.int (128 : Int32)), (.int x0)])) (fun t k => XS.sipush X.here hx rfl (hb hby d1_78) k) ?_
          obtain ⟨_, _, ⟨T13, L13, k13, n13⟩, -, X13, ⟨Lc13, hQ13, l13, y13, z13⟩, st13⟩ := Jvm.LawKit.callS X hx (y := (⟨"com/example/tessera/tessera/model/NameIsStartCharacterPinLaw", "in", "(III)Z"⟩ : MethodName)) hown (mvT hZ (hw _ (List.mem_of_getElem? (i := 6) rfl))) (mvT hZ (hw _ (List.mem_of_getElem? (i := 7) rfl))) (mvT hZ (hw _ (List.mem_of_getElem? (i := 3) rfl))) (mvT hZ (hw _ (List.mem_of_getElem? (i := 8) rfl))) (by decide) (backOf (W := 0) (rm2 l Z a0 hw [] x0 (128 : Int32) (191 : Int32) h0 n0 Z0) hZ (hw _ (List.mem_of_getElem? (i := 8) rfl)) (hw _ (List.mem_of_getElem? (i := 3) rfl)) (by decide) (by decide)) (g := (mkF m 81 #[.val (.int x0)] [(.int (191 : Int32)), (.int (128 : Int32)), (.int x0)])) rfl (by rw [hml]; rfl) (argsL := [(.int x0), (.int (128 : Int32)), (.int (191 : Int32))]) (rest := []) (lenOf pd0 rfl) rfl (by show 2 * 0 + _ ≤ _; exact Nat.le_of_eq rfl) (hb hby d1_81) (fun _ _ => ⟨rfl, eT, (by decide : 0 + 0 ≤ _), (by decide : 0 + 0 ≤ _)⟩)
          dsimp only [Pt.U, Pt.locs, Pt.cells, Pt.slots] at X13 l13 y13 z13 st13 hQ13
          subst l13 y13 z13
          obtain ⟨rfl, Nq13, e13⟩ := hQ13
          have N13 := Fr.app NF Nq13
          refine Go.step (S' := T13.setTop (mkF m 84 #[.val (.int x0)] [(.int (f2 x0 (128 : Int32) (191 : Int32)))])) (fun t k => st13 t k) ?_
          by_cases hc14 : (f2 x0 (128 : Int32) (191 : Int32)) = (0 : Int32)
          · rw [if_pos hc14] at hr
            refine Go.step (S' := T13.setTop (mkF m 87 #[.val (.int x0)] [])) (fun t k => XS.ifNo X13.here hx rfl (hb hby d1_84) rfl ((if0 _ _).trans (teq hc14).2) k) ?_
            refine Go.step (S' := T13.setTop (mkF m 88 #[.val (.int x0)] [(.int x0)])) (fun t k => XS.iloadN X13.here hx rfl (hb hby d1_87) rfl k) ?_
            refine Go.step (S' := T13.setTop (mkF m 91 #[.val (.int x0)] [(.int (215 : Int32)), (.int x0)])) (fun t k => XS.sipush X13.here hx rfl (hb hby d1_88) k) ?_
            by_cases hc15 : x0 = (215 : Int32)
            · rw [if_pos hc15] at hr
              refine Go.step (S' := T13.setTop (mkF m 206 #[.val (.int x0)] [])) (fun t k => XS.icmpYes X13.here hx rfl (pc0 := 91) (pc' := 206) rfl (hb hby d1_91) rfl (teq hc15).1 (by decide) (by decide) k) ?_
              refine Go.step (S' := T13.setTop (mkF m 207 #[.val (.int x0)] [(.int (1 : Int32))])) (fun t k => XS.iconst X13.here hx rfl (hb hby d1_206) k) ?_
              refine Go.step (S' := T13.setTop (mkF m 211 #[.val (.int x0)] [(.int (1 : Int32))])) (fun t k => XS.goto X13.here hx rfl (pc0 := 207) (pc' := 211) rfl (hb hby d1_207) (by decide) (by decide) k) ?_
              exact Go.retN X13 hx (t := .boolean) Bd.returns (by simp) Bd.notSynchronized (hb hby d1_211) ⟨by rw [hr0, ← hr]; first | done | rfl, N13, e13⟩ (by decide) (by decide)
            · rw [if_neg hc15] at hr
              refine Go.step (S' := T13.setTop (mkF m 94 #[.val (.int x0)] [])) (fun t k => XS.icmpNo X13.here hx rfl (hb hby d1_91) rfl (feq hc15).1 k) ?_
              refine Go.step (S' := T13.setTop (mkF m 95 #[.val (.int x0)] [(.int x0)])) (fun t k => XS.iloadN X13.here hx rfl (hb hby d1_94) rfl k) ?_
              refine Go.step (S' := T13.setTop (mkF m 98 #[.val (.int x0)] [(.int (247 : Int32)), (.int x0)])) (fun t k => XS.sipush X13.here hx rfl (hb hby d1_95) k) ?_
              by_cases hc16 : x0 = (247 : Int32)
              · rw [if_pos hc16] at hr
                refine Go.step (S' := T13.setTop (mkF m 206 #[.val (.int x0)] [])) (fun t k => XS.icmpYes X13.here hx rfl (pc0 := 98) (pc' := 206) rfl (hb hby d1_98) rfl (teq hc16).1 (by decide) (by decide) k) ?_
                refine Go.step (S' := T13.setTop (mkF m 207 #[.val (.int x0)] [(.int (1 : Int32))])) (fun t k => XS.iconst X13.here hx rfl (hb hby d1_206) k) ?_
                refine Go.step (S' := T13.setTop (mkF m 211 #[.val (.int x0)] [(.int (1 : Int32))])) (fun t k => XS.goto X13.here hx rfl (pc0 := 207) (pc' := 211) rfl (hb hby d1_207) (by decide) (by decide) k) ?_
                exact Go.retN X13 hx (t := .boolean) Bd.returns (by simp) Bd.notSynchronized (hb hby d1_211) ⟨by rw [hr0, ← hr]; first | done | rfl, N13, e13⟩ (by decide) (by decide)
              · rw [if_neg hc16] at hr
                refine Go.step (S' := T13.setTop (mkF m 101 #[.val (.int x0)] [])) (fun t k => XS.icmpNo X13.here hx rfl (hb hby d1_98) rfl (feq hc16).1 k) ?_
                refine Go.step (S' := T13.setTop (mkF m 102 #[.val (.int x0)] [(.int x0)])) (fun t k => XS.iloadN X13.here hx rfl (hb hby d1_101) rfl k) ?_
                refine Go.step (S' := T13.setTop (mkF m 105 #[.val (.int x0)] [(.int (768 : Int32)), (.int x0)])) (fun t k => XS.sipush X13.here hx rfl (hb hby d1_102) k) ?_
                refine Go.step (S' := T13.setTop (mkF m 108 #[.val (.int x0)] [(.int (879 : Int32)), (.int (768 : Int32)), (.int x0)])) (fun t k => XS.sipush X13.here hx rfl (hb hby d1_105) k) ?_
                obtain ⟨_, _, ⟨T17, L17, k17, n17⟩, -, X17, ⟨Lc17, hQ17, l17, y17, z17⟩, st17⟩ := Jvm.LawKit.callS X13 hx (y := (⟨"com/example/tessera/tessera/model/NameIsStartCharacterPinLaw", "in", "(III)Z"⟩ : MethodName)) hown (mvT hZ (hw _ (List.mem_of_getElem? (i := 6) rfl))) (mvT hZ (hw _ (List.mem_of_getElem? (i := 7) rfl))) (mvT hZ (hw _ (List.mem_of_getElem? (i := 3) rfl))) (mvT hZ (hw _ (List.mem_of_getElem? (i := 8) rfl))) (by decide) (backOf (W := 0) (rm2 l Z a0 hw [] x0 (768 : Int32) (879 : Int32) h0 n0 Z0) hZ (hw _ (List.mem_of_getElem? (i := 8) rfl)) (hw _ (List.mem_of_getElem? (i := 3) rfl)) (by decide) (by decide)) (g := (mkF m 108 #[.val (.int x0)] [(.int (879 : Int32)), (.int (768 : Int32)), (.int x0)])) rfl (by rw [hml]; rfl) (argsL := [(.int x0), (.int (768 : Int32)), (.int (879 : Int32))]) (rest := []) (lenOf pd0 rfl) rfl (by show 2 * 0 + _ ≤ _; exact Nat.le_of_eq rfl) (hb hby d1_108) (fun _ _ => ⟨rfl, e13, (by decide : 0 + 0 ≤ _), (by decide : 0 + 0 ≤ _)⟩)
                dsimp only [Pt.U, Pt.locs, Pt.cells, Pt.slots] at X17 l17 y17 z17 st17 hQ17
                subst l17 y17 z17
                obtain ⟨rfl, Nq17, e17⟩ := hQ17
                have N17 := Fr.app N13 Nq17
                refine Go.step (S' := T17.setTop (mkF m 111 #[.val (.int x0)] [(.int (f2 x0 (768 : Int32) (879 : Int32)))])) (fun t k => st17 t k) ?_
                by_cases hc18 : (f2 x0 (768 : Int32) (879 : Int32)) = (0 : Int32)
                · rw [if_pos hc18] at hr
                  refine Go.step (S' := T17.setTop (mkF m 114 #[.val (.int x0)] [])) (fun t k => XS.ifNo X17.here hx rfl (hb hby d1_111) rfl ((if0 _ _).trans (teq hc18).2) k) ?_
                  refine Go.step (S' := T17.setTop (mkF m 115 #[.val (.int x0)] [(.int x0)])) (fun t k => XS.iloadN X17.here hx rfl (hb hby d1_114) rfl k) ?_
                  refine Go.step (S' := T17.setTop (mkF m 118 #[.val (.int x0)] [(.int (894 : Int32)), (.int x0)])) (fun t k => XS.sipush X17.here hx rfl (hb hby d1_115) k) ?_
                  by_cases hc19 : x0 = (894 : Int32)
                  · rw [if_pos hc19] at hr
                    refine Go.step (S' := T17.setTop (mkF m 206 #[.val (.int x0)] [])) (fun t k => XS.icmpYes X17.here hx rfl (pc0 := 118) (pc' := 206) rfl (hb hby d1_118) rfl (teq hc19).1 (by decide) (by decide) k) ?_
                    refine Go.step (S' := T17.setTop (mkF m 207 #[.val (.int x0)] [(.int (1 : Int32))])) (fun t k => XS.iconst X17.here hx rfl (hb hby d1_206) k) ?_
                    refine Go.step (S' := T17.setTop (mkF m 211 #[.val (.int x0)] [(.int (1 : Int32))])) (fun t k => XS.goto X17.here hx rfl (pc0 := 207) (pc' := 211) rfl (hb hby d1_207) (by decide) (by decide) k) ?_
                    exact Go.retN X17 hx (t := .boolean) Bd.returns (by simp) Bd.notSynchronized (hb hby d1_211) ⟨by rw [hr0, ← hr]; first | done | rfl, N17, e17⟩ (by decide) (by decide)
                  · rw [if_neg hc19] at hr
                    refine Go.step (S' := T17.setTop (mkF m 121 #[.val (.int x0)] [])) (fun t k => XS.icmpNo X17.here hx rfl (hb hby d1_118) rfl (feq hc19).1 k) ?_
                    refine Go.step (S' := T17.setTop (mkF m 122 #[.val (.int x0)] [(.int x0)])) (fun t k => XS.iloadN X17.here hx rfl (hb hby d1_121) rfl k) ?_
                    refine Go.step (S' := T17.setTop (mkF m 125 #[.val (.int x0)] [(.int (8192 : Int32)), (.int x0)])) (fun t k => XS.sipush X17.here hx rfl (hb hby d1_122) k) ?_
                    refine Go.step (S' := T17.setTop (mkF m 128 #[.val (.int x0)] [(.int (8203 : Int32)), (.int (8192 : Int32)), (.int x0)])) (fun t k => XS.sipush X17.here hx rfl (hb hby d1_125) k) ?_
                    obtain ⟨_, _, ⟨T20, L20, k20, n20⟩, -, X20, ⟨Lc20, hQ20, l20, y20, z20⟩, st20⟩ := Jvm.LawKit.callS X17 hx (y := (⟨"com/example/tessera/tessera/model/NameIsStartCharacterPinLaw", "in", "(III)Z"⟩ : MethodName)) hown (mvT hZ (hw _ (List.mem_of_getElem? (i := 6) rfl))) (mvT hZ (hw _ (List.mem_of_getElem? (i := 7) rfl))) (mvT hZ (hw _ (List.mem_of_getElem? (i := 3) rfl))) (mvT hZ (hw _ (List.mem_of_getElem? (i := 8) rfl))) (by decide) (backOf (W := 0) (rm2 l Z a0 hw [] x0 (8192 : Int32) (8203 : Int32) h0 n0 Z0) hZ (hw _ (List.mem_of_getElem? (i := 8) rfl)) (hw _ (List.mem_of_getElem? (i := 3) rfl)) (by decide) (by decide)) (g := (mkF m 128 #[.val (.int x0)] [(.int (8203 : Int32)), (.int (8192 : Int32)), (.int x0)])) rfl (by rw [hml]; rfl) (argsL := [(.int x0), (.int (8192 : Int32)), (.int (8203 : Int32))]) (rest := []) (lenOf pd0 rfl) rfl (by show 2 * 0 + _ ≤ _; exact Nat.le_of_eq rfl) (hb hby d1_128) (fun _ _ => ⟨rfl, e17, (by decide : 0 + 0 ≤ _), (by decide : 0 + 0 ≤ _)⟩)
                    dsimp only [Pt.U, Pt.locs, Pt.cells, Pt.slots] at X20 l20 y20 z20 st20 hQ20
                    subst l20 y20 z20
                    obtain ⟨rfl, Nq20, e20⟩ := hQ20
                    have N20 := Fr.app N17 Nq20
                    refine Go.step (S' := T20.setTop (mkF m 131 #[.val (.int x0)] [(.int (f2 x0 (8192 : Int32) (8203 : Int32)))])) (fun t k => st20 t k) ?_
                    by_cases hc21 : (f2 x0 (8192 : Int32) (8203 : Int32)) = (0 : Int32)
                    · rw [if_pos hc21] at hr
                      refine Go.step (S' := T20.setTop (mkF m 134 #[.val (.int x0)] [])) (fun t k => XS.ifNo X20.here hx rfl (hb hby d1_131) rfl ((if0 _ _).trans (teq hc21).2) k) ?_
                      refine Go.step (S' := T20.setTop (mkF m 135 #[.val (.int x0)] [(.int x0)])) (fun t k => XS.iloadN X20.here hx rfl (hb hby d1_134) rfl k) ?_
                      refine Go.step (S' := T20.setTop (mkF m 138 #[.val (.int x0)] [(.int (8206 : Int32)), (.int x0)])) (fun t k => XS.sipush X20.here hx rfl (hb hby d1_135) k) ?_
                      refine Go.step (S' := T20.setTop (mkF m 141 #[.val (.int x0)] [(.int (8303 : Int32)), (.int (8206 : Int32)), (.int x0)])) (fun t k => XS.sipush X20.here hx rfl (hb hby d1_138) k) ?_
                      obtain ⟨_, _, ⟨T22, L22, k22, n22⟩, -, X22, ⟨Lc22, hQ22, l22, y22, z22⟩, st22⟩ := Jvm.LawKit.callS X20 hx (y := (⟨"com/example/tessera/tessera/model/NameIsStartCharacterPinLaw", "in", "(III)Z"⟩ : MethodName)) hown (mvT hZ (hw _ (List.mem_of_getElem? (i := 6) rfl))) (mvT hZ (hw _ (List.mem_of_getElem? (i := 7) rfl))) (mvT hZ (hw _ (List.mem_of_getElem? (i := 3) rfl))) (mvT hZ (hw _ (List.mem_of_getElem? (i := 8) rfl))) (by decide) (backOf (W := 0) (rm2 l Z a0 hw [] x0 (8206 : Int32) (8303 : Int32) h0 n0 Z0) hZ (hw _ (List.mem_of_getElem? (i := 8) rfl)) (hw _ (List.mem_of_getElem? (i := 3) rfl)) (by decide) (by decide)) (g := (mkF m 141 #[.val (.int x0)] [(.int (8303 : Int32)), (.int (8206 : Int32)), (.int x0)])) rfl (by rw [hml]; rfl) (argsL := [(.int x0), (.int (8206 : Int32)), (.int (8303 : Int32))]) (rest := []) (lenOf pd0 rfl) rfl (by show 2 * 0 + _ ≤ _; exact Nat.le_of_eq rfl) (hb hby d1_141) (fun _ _ => ⟨rfl, e20, (by decide : 0 + 0 ≤ _), (by decide : 0 + 0 ≤ _)⟩)
                      dsimp only [Pt.U, Pt.locs, Pt.cells, Pt.slots] at X22 l22 y22 z22 st22 hQ22
                      subst l22 y22 z22
                      obtain ⟨rfl, Nq22, e22⟩ := hQ22
                      have N22 := Fr.app N20 Nq22
                      refine Go.step (S' := T22.setTop (mkF m 144 #[.val (.int x0)] [(.int (f2 x0 (8206 : Int32) (8303 : Int32)))])) (fun t k => st22 t k) ?_
                      by_cases hc23 : (f2 x0 (8206 : Int32) (8303 : Int32)) = (0 : Int32)
                      · rw [if_pos hc23] at hr
                        refine Go.step (S' := T22.setTop (mkF m 147 #[.val (.int x0)] [])) (fun t k => XS.ifNo X22.here hx rfl (hb hby d1_144) rfl ((if0 _ _).trans (teq hc23).2) k) ?_
                        refine Go.step (S' := T22.setTop (mkF m 148 #[.val (.int x0)] [(.int x0)])) (fun t k => XS.iloadN X22.here hx rfl (hb hby d1_147) rfl k) ?_
                        refine Go.step (S' := T22.setTop (mkF m 151 #[.val (.int x0)] [(.int (8592 : Int32)), (.int x0)])) (fun t k => XS.sipush X22.here hx rfl (hb hby d1_148) k) ?_
                        refine Go.step (S' := T22.setTop (mkF m 154 #[.val (.int x0)] [(.int (11263 : Int32)), (.int (8592 : Int32)), (.int x0)])) (fun t k => XS.sipush X22.here hx rfl (hb hby d1_151) k) ?_
                        obtain ⟨_, _, ⟨T24, L24, k24, n24⟩, -, X24, ⟨Lc24, hQ24, l24, y24, z24⟩, st24⟩ := Jvm.LawKit.callS X22 hx (y := (⟨"com/example/tessera/tessera/model/NameIsStartCharacterPinLaw", "in", "(III)Z"⟩ : MethodName)) hown (mvT hZ (hw _ (List.mem_of_getElem? (i := 6) rfl))) (mvT hZ (hw _ (List.mem_of_getElem? (i := 7) rfl))) (mvT hZ (hw _ (List.mem_of_getElem? (i := 3) rfl))) (mvT hZ (hw _ (List.mem_of_getElem? (i := 8) rfl))) (by decide) (backOf (W := 0) (rm2 l Z a0 hw [] x0 (8592 : Int32) (11263 : Int32) h0 n0 Z0) hZ (hw _ (List.mem_of_getElem? (i := 8) rfl)) (hw _ (List.mem_of_getElem? (i := 3) rfl)) (by decide) (by decide)) (g := (mkF m 154 #[.val (.int x0)] [(.int (11263 : Int32)), (.int (8592 : Int32)), (.int x0)])) rfl (by rw [hml]; rfl) (argsL := [(.int x0), (.int (8592 : Int32)), (.int (11263 : Int32))]) (rest := []) (lenOf pd0 rfl) rfl (by show 2 * 0 + _ ≤ _; exact Nat.le_of_eq rfl) (hb hby d1_154) (fun _ _ => ⟨rfl, e22, (by decide : 0 + 0 ≤ _), (by decide : 0 + 0 ≤ _)⟩)
                        dsimp only [Pt.U, Pt.locs, Pt.cells, Pt.slots] at X24 l24 y24 z24 st24 hQ24
                        subst l24 y24 z24
                        obtain ⟨rfl, Nq24, e24⟩ := hQ24
                        have N24 := Fr.app N22 Nq24
                        refine Go.step (S' := T24.setTop (mkF m 157 #[.val (.int x0)] [(.int (f2 x0 (8592 : Int32) (11263 : Int32)))])) (fun t k => st24 t k) ?_
                        by_cases hc25 : (f2 x0 (8592 : Int32) (11263 : Int32)) = (0 : Int32)
                        · rw [if_pos hc25] at hr
                          refine Go.step (S' := T24.setTop (mkF m 160 #[.val (.int x0)] [])) (fun t k => XS.ifNo X24.here hx rfl (hb hby d1_157) rfl ((if0 _ _).trans (teq hc25).2) k) ?_
                          refine Go.step (S' := T24.setTop (mkF m 161 #[.val (.int x0)] [(.int x0)])) (fun t k => XS.iloadN X24.here hx rfl (hb hby d1_160) rfl k) ?_
                          refine Go.step (S' := T24.setTop (mkF m 164 #[.val (.int x0)] [(.int (12272 : Int32)), (.int x0)])) (fun t k => XS.sipush X24.here hx rfl (hb hby d1_161) k) ?_
                          refine Go.step (S' := T24.setTop (mkF m 167 #[.val (.int x0)] [(.int (12288 : Int32)), (.int (12272 : Int32)), (.int x0)])) (fun t k => XS.sipush X24.here hx rfl (hb hby d1_164) k) ?_
                          obtain ⟨_, _, ⟨T26, L26, k26, n26⟩, -, X26, ⟨Lc26, hQ26, l26, y26, z26⟩, st26⟩ := Jvm.LawKit.callS X24 hx (y := (⟨"com/example/tessera/tessera/model/NameIsStartCharacterPinLaw", "in", "(III)Z"⟩ : MethodName)) hown (mvT hZ (hw _ (List.mem_of_getElem? (i := 6) rfl))) (mvT hZ (hw _ (List.mem_of_getElem? (i := 7) rfl))) (mvT hZ (hw _ (List.mem_of_getElem? (i := 3) rfl))) (mvT hZ (hw _ (List.mem_of_getElem? (i := 8) rfl))) (by decide) (backOf (W := 0) (rm2 l Z a0 hw [] x0 (12272 : Int32) (12288 : Int32) h0 n0 Z0) hZ (hw _ (List.mem_of_getElem? (i := 8) rfl)) (hw _ (List.mem_of_getElem? (i := 3) rfl)) (by decide) (by decide)) (g := (mkF m 167 #[.val (.int x0)] [(.int (12288 : Int32)), (.int (12272 : Int32)), (.int x0)])) rfl (by rw [hml]; rfl) (argsL := [(.int x0), (.int (12272 : Int32)), (.int (12288 : Int32))]) (rest := []) (lenOf pd0 rfl) rfl (by show 2 * 0 + _ ≤ _; exact Nat.le_of_eq rfl) (hb hby d1_167) (fun _ _ => ⟨rfl, e24, (by decide : 0 + 0 ≤ _), (by decide : 0 + 0 ≤ _)⟩)
                          dsimp only [Pt.U, Pt.locs, Pt.cells, Pt.slots] at X26 l26 y26 z26 st26 hQ26
                          subst l26 y26 z26
                          obtain ⟨rfl, Nq26, e26⟩ := hQ26
                          have N26 := Fr.app N24 Nq26
                          refine Go.step (S' := T26.setTop (mkF m 170 #[.val (.int x0)] [(.int (f2 x0 (12272 : Int32) (12288 : Int32)))])) (fun t k => st26 t k) ?_
                          by_cases hc27 : (f2 x0 (12272 : Int32) (12288 : Int32)) = (0 : Int32)
                          · rw [if_pos hc27] at hr
                            refine Go.step (S' := T26.setTop (mkF m 173 #[.val (.int x0)] [])) (fun t k => XS.ifNo X26.here hx rfl (hb hby d1_170) rfl ((if0 _ _).trans (teq hc27).2) k) ?_
                            refine Go.step (S' := T26.setTop (mkF m 174 #[.val (.int x0)] [(.int x0)])) (fun t k => XS.iloadN X26.here hx rfl (hb hby d1_173) rfl k) ?_
                            refine Go.step (S' := T26.setTop (mkF m 176 #[.val (.int x0)] [(.int (55296 : Int32)), (.int x0)])) (fun t k => X26.ldcInt hx hown (mvT hZ (hw _ (List.mem_of_getElem? (i := 13) rfl))) (g := (mkF m 174 #[.val (.int x0)] [(.int x0)])) rfl (hb hby d1_174) _ k) ?_
                            refine Go.step (S' := T26.setTop (mkF m 178 #[.val (.int x0)] [(.int (63743 : Int32)), (.int (55296 : Int32)), (.int x0)])) (fun t k => X26.ldcInt hx hown (mvT hZ (hw _ (List.mem_of_getElem? (i := 14) rfl))) (g := (mkF m 176 #[.val (.int x0)] [(.int (55296 : Int32)), (.int x0)])) rfl (hb hby d1_176) _ k) ?_
                            obtain ⟨_, _, ⟨T28, L28, k28, n28⟩, -, X28, ⟨Lc28, hQ28, l28, y28, z28⟩, st28⟩ := Jvm.LawKit.callS X26 hx (y := (⟨"com/example/tessera/tessera/model/NameIsStartCharacterPinLaw", "in", "(III)Z"⟩ : MethodName)) hown (mvT hZ (hw _ (List.mem_of_getElem? (i := 6) rfl))) (mvT hZ (hw _ (List.mem_of_getElem? (i := 7) rfl))) (mvT hZ (hw _ (List.mem_of_getElem? (i := 3) rfl))) (mvT hZ (hw _ (List.mem_of_getElem? (i := 8) rfl))) (by decide) (backOf (W := 0) (rm2 l Z a0 hw [] x0 (55296 : Int32) (63743 : Int32) h0 n0 Z0) hZ (hw _ (List.mem_of_getElem? (i := 8) rfl)) (hw _ (List.mem_of_getElem? (i := 3) rfl)) (by decide) (by decide)) (g := (mkF m 178 #[.val (.int x0)] [(.int (63743 : Int32)), (.int (55296 : Int32)), (.int x0)])) rfl (by rw [hml]; rfl) (argsL := [(.int x0), (.int (55296 : Int32)), (.int (63743 : Int32))]) (rest := []) (lenOf pd0 rfl) rfl (by show 2 * 0 + _ ≤ _; exact Nat.le_of_eq rfl) (hb hby d1_178) (fun _ _ => ⟨rfl, e26, (by decide : 0 + 0 ≤ _), (by decide : 0 + 0 ≤ _)⟩)
                            dsimp only [Pt.U, Pt.locs, Pt.cells, Pt.slots] at X28 l28 y28 z28 st28 hQ28
                            subst l28 y28 z28
                            obtain ⟨rfl, Nq28, e28⟩ := hQ28
                            have N28 := Fr.app N26 Nq28
                            refine Go.step (S' := T28.setTop (mkF m 181 #[.val (.int x0)] [(.int (f2 x0 (55296 : Int32) (63743 : Int32)))])) (fun t k => st28 t k) ?_
                            by_cases hc29 : (f2 x0 (55296 : Int32) (63743 : Int32)) = (0 : Int32)
                            · rw [if_pos hc29] at hr
                              refine Go.step (S' := T28.setTop (mkF m 184 #[.val (.int x0)] [])) (fun t k => XS.ifNo X28.here hx rfl (hb hby d1_181) rfl ((if0 _ _).trans (teq hc29).2) k) ?_
                              refine Go.step (S' := T28.setTop (mkF m 185 #[.val (.int x0)] [(.int x0)])) (fun t k => XS.iloadN X28.here hx rfl (hb hby d1_184) rfl k) ?_
                              refine Go.step (S' := T28.setTop (mkF m 187 #[.val (.int x0)] [(.int (64976 : Int32)), (.int x0)])) (fun t k => X28.ldcInt hx hown (mvT hZ (hw _ (List.mem_of_getElem? (i := 15) rfl))) (g := (mkF m 185 #[.val (.int x0)] [(.int x0)])) rfl (hb hby d1_185) _ k) ?_
                              refine Go.step (S' := T28.setTop (mkF m 189 #[.val (.int x0)] [(.int (65007 : Int32)), (.int (64976 : Int32)), (.int x0)])) (fun t k => X28.ldcInt hx hown (mvT hZ (hw _ (List.mem_of_getElem? (i := 16) rfl))) (g := (mkF m 187 #[.val (.int x0)] [(.int (64976 : Int32)), (.int x0)])) rfl (hb hby d1_187) _ k) ?_
                              obtain ⟨_, _, ⟨T30, L30, k30, n30⟩, -, X30, ⟨Lc30, hQ30, l30, y30, z30⟩, st30⟩ := Jvm.LawKit.callS X28 hx (y := (⟨"com/example/tessera/tessera/model/NameIsStartCharacterPinLaw", "in", "(III)Z"⟩ : MethodName)) hown (mvT hZ (hw _ (List.mem_of_getElem? (i := 6) rfl))) (mvT hZ (hw _ (List.mem_of_getElem? (i := 7) rfl))) (mvT hZ (hw _ (List.mem_of_getElem? (i := 3) rfl))) (mvT hZ (hw _ (List.mem_of_getElem? (i := 8) rfl))) (by decide) (backOf (W := 0) (rm2 l Z a0 hw [] x0 (64976 : Int32) (65007 : Int32) h0 n0 Z0) hZ (hw _ (List.mem_of_getElem? (i := 8) rfl)) (hw _ (List.mem_of_getElem? (i := 3) rfl)) (by decide) (by decide)) (g := (mkF m 189 #[.val (.int x0)] [(.int (65007 : Int32)), (.int (64976 : Int32)), (.int x0)])) rfl (by rw [hml]; rfl) (argsL := [(.int x0), (.int (64976 : Int32)), (.int (65007 : Int32))]) (rest := []) (lenOf pd0 rfl) rfl (by show 2 * 0 + _ ≤ _; exact Nat.le_of_eq rfl) (hb hby d1_189) (fun _ _ => ⟨rfl, e28, (by decide : 0 + 0 ≤ _), (by decide : 0 + 0 ≤ _)⟩)
                              dsimp only [Pt.U, Pt.locs, Pt.cells, Pt.slots] at X30 l30 y30 z30 st30 hQ30
                              subst l30 y30 z30
                              obtain ⟨rfl, Nq30, e30⟩ := hQ30
                              have N30 := Fr.app N28 Nq30
                              refine Go.step (S' := T30.setTop (mkF m 192 #[.val (.int x0)] [(.int (f2 x0 (64976 : Int32) (65007 : Int32)))])) (fun t k => st30 t k) ?_
                              by_cases hc31 : (f2 x0 (64976 : Int32) (65007 : Int32)) = (0 : Int32)
                              · rw [if_pos hc31] at hr
                                refine Go.step (S' := T30.setTop (mkF m 195 #[.val (.int x0)] [])) (fun t k => XS.ifNo X30.here hx rfl (hb hby d1_192) rfl ((if0 _ _).trans (teq hc31).2) k) ?_
                                refine Go.step (S' := T30.setTop (mkF m 196 #[.val (.int x0)] [(.int x0)])) (fun t k => XS.iloadN X30.here hx rfl (hb hby d1_195) rfl k) ?_
                                refine Go.step (S' := T30.setTop (mkF m 198 #[.val (.int x0)] [(.int (65534 : Int32)), (.int x0)])) (fun t k => X30.ldcInt hx hown (mvT hZ (hw _ (List.mem_of_getElem? (i := 17) rfl))) (g := (mkF m 196 #[.val (.int x0)] [(.int x0)])) rfl (hb hby d1_196) _ k) ?_
                                refine Go.step (S' := T30.setTop (mkF m 200 #[.val (.int x0)] [(.int (65535 : Int32)), (.int (65534 : Int32)), (.int x0)])) (fun t k => X30.ldcInt hx hown (mvT hZ (hw _ (List.mem_of_getElem? (i := 18) rfl))) (g := (mkF m 198 #[.val (.int x0)] [(.int (65534 : Int32)), (.int x0)])) rfl (hb hby d1_198) _ k) ?_
                                obtain ⟨_, _, ⟨T32, L32, k32, n32⟩, -, X32, ⟨Lc32, hQ32, l32, y32, z32⟩, st32⟩ := Jvm.LawKit.callS X30 hx (y := (⟨"com/example/tessera/tessera/model/NameIsStartCharacterPinLaw", "in", "(III)Z"⟩ : MethodName)) hown (mvT hZ (hw _ (List.mem_of_getElem? (i := 6) rfl))) (mvT hZ (hw _ (List.mem_of_getElem? (i := 7) rfl))) (mvT hZ (hw _ (List.mem_of_getElem? (i := 3) rfl))) (mvT hZ (hw _ (List.mem_of_getElem? (i := 8) rfl))) (by decide) (backOf (W := 0) (rm2 l Z a0 hw [] x0 (65534 : Int32) (65535 : Int32) h0 n0 Z0) hZ (hw _ (List.mem_of_getElem? (i := 8) rfl)) (hw _ (List.mem_of_getElem? (i := 3) rfl)) (by decide) (by decide)) (g := (mkF m 200 #[.val (.int x0)] [(.int (65535 : Int32)), (.int (65534 : Int32)), (.int x0)])) rfl (by rw [hml]; rfl) (argsL := [(.int x0), (.int (65534 : Int32)), (.int (65535 : Int32))]) (rest := []) (lenOf pd0 rfl) rfl (by show 2 * 0 + _ ≤ _; exact Nat.le_of_eq rfl) (hb hby d1_200) (fun _ _ => ⟨rfl, e30, (by decide : 0 + 0 ≤ _), (by decide : 0 + 0 ≤ _)⟩)
                                dsimp only [Pt.U, Pt.locs, Pt.cells, Pt.slots] at X32 l32 y32 z32 st32 hQ32
                                subst l32 y32 z32
                                obtain ⟨rfl, Nq32, e32⟩ := hQ32
                                have N32 := Fr.app N30 Nq32
                                refine Go.step (S' := T32.setTop (mkF m 203 #[.val (.int x0)] [(.int (f2 x0 (65534 : Int32) (65535 : Int32)))])) (fun t k => st32 t k) ?_
                                by_cases hc33 : (f2 x0 (65534 : Int32) (65535 : Int32)) = (0 : Int32)
                                · rw [if_pos hc33] at hr
                                  refine Go.step (S' := T32.setTop (mkF m 210 #[.val (.int x0)] [])) (fun t k => XS.ifYes X32.here hx rfl (pc0 := 203) (pc' := 210) rfl (hb hby d1_203) rfl ((if0 _ _).trans (teq hc33).1) (by decide) (by decide) k) ?_
                                  refine Go.step (S' := T32.setTop (mkF m 211 #[.val (.int x0)] [(.int (0 : Int32))])) (fun t k => XS.iconst X32.here hx rfl (hb hby d1_210) k) ?_
                                  exact Go.retN X32 hx (t := .boolean) Bd.returns (by simp) Bd.notSynchronized (hb hby d1_211) ⟨by rw [hr0, ← hr]; first | done | rfl, N32, e32⟩ (by decide) (by decide)
                                · rw [if_neg hc33] at hr
                                  refine Go.step (S' := T32.setTop (mkF m 206 #[.val (.int x0)] [])) (fun t k => XS.ifNo X32.here hx rfl (hb hby d1_203) rfl ((if0 _ _).trans (feq hc33).1) k) ?_
                                  refine Go.step (S' := T32.setTop (mkF m 207 #[.val (.int x0)] [(.int (1 : Int32))])) (fun t k => XS.iconst X32.here hx rfl (hb hby d1_206) k) ?_
                                  refine Go.step (S' := T32.setTop (mkF m 211 #[.val (.int x0)] [(.int (1 : Int32))])) (fun t k => XS.goto X32.here hx rfl (pc0 := 207) (pc' := 211) rfl (hb hby d1_207) (by decide) (by decide) k) ?_
                                  exact Go.retN X32 hx (t := .boolean) Bd.returns (by simp) Bd.notSynchronized (hb hby d1_211) ⟨by rw [hr0, ← hr]; first | done | rfl, N32, e32⟩ (by decide) (by decide)
                              · rw [if_neg hc31] at hr
                                refine Go.step (S' := T30.setTop (mkF m 206 #[.val (.int x0)] [])) (fun t k => XS.ifYes X30.here hx rfl (pc0 := 192) (pc' := 206) rfl (hb hby d1_192) rfl ((if0 _ _).trans (feq hc31).2) (by decide) (by decide) k) ?_
                                refine Go.step (S' := T30.setTop (mkF m 207 #[.val (.int x0)] [(.int (1 : Int32))])) (fun t k => XS.iconst X30.here hx rfl (hb hby d1_206) k) ?_
                                refine Go.step (S' := T30.setTop (mkF m 211 #[.val (.int x0)] [(.int (1 : Int32))])) (fun t k => XS.goto X30.here hx rfl (pc0 := 207) (pc' := 211) rfl (hb hby d1_207) (by decide) (by decide) k) ?_
                                exact Go.retN X30 hx (t := .boolean) Bd.returns (by simp) Bd.notSynchronized (hb hby d1_211) ⟨by rw [hr0, ← hr]; first | done | rfl, N30, e30⟩ (by decide) (by decide)
                            · rw [if_neg hc29] at hr
                              refine Go.step (S' := T28.setTop (mkF m 206 #[.val (.int x0)] [])) (fun t k => XS.ifYes X28.here hx rfl (pc0 := 181) (pc' := 206) rfl (hb hby d1_181) rfl ((if0 _ _).trans (feq hc29).2) (by decide) (by decide) k) ?_
                              refine Go.step (S' := T28.setTop (mkF m 207 #[.val (.int x0)] [(.int (1 : Int32))])) (fun t k => XS.iconst X28.here hx rfl (hb hby d1_206) k) ?_
                              refine Go.step (S' := T28.setTop (mkF m 211 #[.val (.int x0)] [(.int (1 : Int32))])) (fun t k => XS.goto X28.here hx rfl (pc0 := 207) (pc' := 211) rfl (hb hby d1_207) (by decide) (by decide) k) ?_
                              exact Go.retN X28 hx (t := .boolean) Bd.returns (by simp) Bd.notSynchronized (hb hby d1_211) ⟨by rw [hr0, ← hr]; first | done | rfl, N28, e28⟩ (by decide) (by decide)
                          · rw [if_neg hc27] at hr
                            refine Go.step (S' := T26.setTop (mkF m 206 #[.val (.int x0)] [])) (fun t k => XS.ifYes X26.here hx rfl (pc0 := 170) (pc' := 206) rfl (hb hby d1_170) rfl ((if0 _ _).trans (feq hc27).2) (by decide) (by decide) k) ?_
                            refine Go.step (S' := T26.setTop (mkF m 207 #[.val (.int x0)] [(.int (1 : Int32))])) (fun t k => XS.iconst X26.here hx rfl (hb hby d1_206) k) ?_
                            refine Go.step (S' := T26.setTop (mkF m 211 #[.val (.int x0)] [(.int (1 : Int32))])) (fun t k => XS.goto X26.here hx rfl (pc0 := 207) (pc' := 211) rfl (hb hby d1_207) (by decide) (by decide) k) ?_
                            exact Go.retN X26 hx (t := .boolean) Bd.returns (by simp) Bd.notSynchronized (hb hby d1_211) ⟨by rw [hr0, ← hr]; first | done | rfl, N26, e26⟩ (by decide) (by decide)
                        · rw [if_neg hc25] at hr
                          refine Go.step (S' := T24.setTop (mkF m 206 #[.val (.int x0)] [])) (fun t k => XS.ifYes X24.here hx rfl (pc0 := 157) (pc' := 206) rfl (hb hby d1_157) rfl ((if0 _ _).trans (feq hc25).2) (by decide) (by decide) k) ?_
                          refine Go.step (S' := T24.setTop (mkF m 207 #[.val (.int x0)] [(.int (1 : Int32))])) (fun t k => XS.iconst X24.here hx rfl (hb hby d1_206) k) ?_
                          refine Go.step (S' := T24.setTop (mkF m 211 #[.val (.int x0)] [(.int (1 : Int32))])) (fun t k => XS.goto X24.here hx rfl (pc0 := 207) (pc' := 211) rfl (hb hby d1_207) (by decide) (by decide) k) ?_
                          exact Go.retN X24 hx (t := .boolean) Bd.returns (by simp) Bd.notSynchronized (hb hby d1_211) ⟨by rw [hr0, ← hr]; first | done | rfl, N24, e24⟩ (by decide) (by decide)
                      · rw [if_neg hc23] at hr
                        refine Go.step (S' := T22.setTop (mkF m 206 #[.val (.int x0)] [])) (fun t k => XS.ifYes X22.here hx rfl (pc0 := 144) (pc' := 206) rfl (hb hby d1_144) rfl ((if0 _ _).trans (feq hc23).2) (by decide) (by decide) k) ?_
                        refine Go.step (S' := T22.setTop (mkF m 207 #[.val (.int x0)] [(.int (1 : Int32))])) (fun t k => XS.iconst X22.here hx rfl (hb hby d1_206) k) ?_
                        refine Go.step (S' := T22.setTop (mkF m 211 #[.val (.int x0)] [(.int (1 : Int32))])) (fun t k => XS.goto X22.here hx rfl (pc0 := 207) (pc' := 211) rfl (hb hby d1_207) (by decide) (by decide) k) ?_
                        exact Go.retN X22 hx (t := .boolean) Bd.returns (by simp) Bd.notSynchronized (hb hby d1_211) ⟨by rw [hr0, ← hr]; first | done | rfl, N22, e22⟩ (by decide) (by decide)
                    · rw [if_neg hc21] at hr
                      refine Go.step (S' := T20.setTop (mkF m 206 #[.val (.int x0)] [])) (fun t k => XS.ifYes X20.here hx rfl (pc0 := 131) (pc' := 206) rfl (hb hby d1_131) rfl ((if0 _ _).trans (feq hc21).2) (by decide) (by decide) k) ?_
                      refine Go.step (S' := T20.setTop (mkF m 207 #[.val (.int x0)] [(.int (1 : Int32))])) (fun t k => XS.iconst X20.here hx rfl (hb hby d1_206) k) ?_
                      refine Go.step (S' := T20.setTop (mkF m 211 #[.val (.int x0)] [(.int (1 : Int32))])) (fun t k => XS.goto X20.here hx rfl (pc0 := 207) (pc' := 211) rfl (hb hby d1_207) (by decide) (by decide) k) ?_
                      exact Go.retN X20 hx (t := .boolean) Bd.returns (by simp) Bd.notSynchronized (hb hby d1_211) ⟨by rw [hr0, ← hr]; first | done | rfl, N20, e20⟩ (by decide) (by decide)
                · rw [if_neg hc18] at hr
                  refine Go.step (S' := T17.setTop (mkF m 206 #[.val (.int x0)] [])) (fun t k => XS.ifYes X17.here hx rfl (pc0 := 111) (pc' := 206) rfl (hb hby d1_111) rfl ((if0 _ _).trans (feq hc18).2) (by decide) (by decide) k) ?_
                  refine Go.step (S' := T17.setTop (mkF m 207 #[.val (.int x0)] [(.int (1 : Int32))])) (fun t k => XS.iconst X17.here hx rfl (hb hby d1_206) k) ?_
                  refine Go.step (S' := T17.setTop (mkF m 211 #[.val (.int x0)] [(.int (1 : Int32))])) (fun t k => XS.goto X17.here hx rfl (pc0 := 207) (pc' := 211) rfl (hb hby d1_207) (by decide) (by decide) k) ?_
                  exact Go.retN X17 hx (t := .boolean) Bd.returns (by simp) Bd.notSynchronized (hb hby d1_211) ⟨by rw [hr0, ← hr]; first | done | rfl, N17, e17⟩ (by decide) (by decide)
          · rw [if_neg hc14] at hr
            refine Go.step (S' := T13.setTop (mkF m 206 #[.val (.int x0)] [])) (fun t k => XS.ifYes X13.here hx rfl (pc0 := 84) (pc' := 206) rfl (hb hby d1_84) rfl ((if0 _ _).trans (feq hc14).2) (by decide) (by decide) k) ?_
            refine Go.step (S' := T13.setTop (mkF m 207 #[.val (.int x0)] [(.int (1 : Int32))])) (fun t k => XS.iconst X13.here hx rfl (hb hby d1_206) k) ?_
            refine Go.step (S' := T13.setTop (mkF m 211 #[.val (.int x0)] [(.int (1 : Int32))])) (fun t k => XS.goto X13.here hx rfl (pc0 := 207) (pc' := 211) rfl (hb hby d1_207) (by decide) (by decide) k) ?_
            exact Go.retN X13 hx (t := .boolean) Bd.returns (by simp) Bd.notSynchronized (hb hby d1_211) ⟨by rw [hr0, ← hr]; first | done | rfl, N13, e13⟩ (by decide) (by decide)
  show Go p e below s (Q1 x0 h0 n0) ({ frames := 1, cells := 0, slots := 0, locals := 14 } : Room).cells ({ frames := 1, cells := 0, slots := 0, locals := 14 } : Room).slots (s₁.setTop (entryFrame m #[(.int x0)] 1))
  rw [ef1]
  exact B0 s₁ [] X0 e0 (Fr.nil n0) hr0
theorem d3_0 : decode prog_76_method_7_code 0 = .ok (.iload_n 0, 1) := by decide +kernel
theorem d3_1 : decode prog_76_method_7_code 1 = .ok (.istore_n 1, 1) := by decide +kernel
theorem d3_2 : decode prog_76_method_7_code 2 = .ok (.iload_n 1, 1) := by decide +kernel
theorem d3_3 : decode prog_76_method_7_code 3 = .ok (.sipush 128, 3) := by decide +kernel
theorem d3_6 : decode prog_76_method_7_code 6 = .ok (.if_icmp .ge 45, 3) := by decide +kernel
theorem d3_9 : decode prog_76_method_7_code 9 = .ok (.iload_n 1, 1) := by decide +kernel
theorem d3_10 : decode prog_76_method_7_code 10 = .ok (.bipush 97, 2) := by decide +kernel
theorem d3_12 : decode prog_76_method_7_code 12 = .ok (.if_icmp .lt 9, 3) := by decide +kernel
theorem d3_15 : decode prog_76_method_7_code 15 = .ok (.iload_n 1, 1) := by decide +kernel
theorem d3_16 : decode prog_76_method_7_code 16 = .ok (.bipush 122, 2) := by decide +kernel
theorem d3_18 : decode prog_76_method_7_code 18 = .ok (.if_icmp .le 27, 3) := by decide +kernel
theorem d3_21 : decode prog_76_method_7_code 21 = .ok (.iload_n 1, 1) := by decide +kernel
theorem d3_22 : decode prog_76_method_7_code 22 = .ok (.bipush 65, 2) := by decide +kernel
theorem d3_24 : decode prog_76_method_7_code 24 = .ok (.if_icmp .lt 9, 3) := by decide +kernel
theorem d3_27 : decode prog_76_method_7_code 27 = .ok (.iload_n 1, 1) := by decide +kernel
theorem d3_28 : decode prog_76_method_7_code 28 = .ok (.bipush 90, 2) := by decide +kernel
theorem d3_30 : decode prog_76_method_7_code 30 = .ok (.if_icmp .le 15, 3) := by decide +kernel
theorem d3_33 : decode prog_76_method_7_code 33 = .ok (.iload_n 1, 1) := by decide +kernel
theorem d3_34 : decode prog_76_method_7_code 34 = .ok (.bipush 58, 2) := by decide +kernel
theorem d3_36 : decode prog_76_method_7_code 36 = .ok (.if_icmp .eq 9, 3) := by decide +kernel
theorem d3_39 : decode prog_76_method_7_code 39 = .ok (.iload_n 1, 1) := by decide +kernel
theorem d3_40 : decode prog_76_method_7_code 40 = .ok (.bipush 95, 2) := by decide +kernel
theorem d3_42 : decode prog_76_method_7_code 42 = .ok (.if_icmp .ne 7, 3) := by decide +kernel
theorem d3_45 : decode prog_76_method_7_code 45 = .ok (.iconst 1, 1) := by decide +kernel
theorem d3_46 : decode prog_76_method_7_code 46 = .ok (.goto 4, 3) := by decide +kernel
theorem d3_49 : decode prog_76_method_7_code 49 = .ok (.iconst 0, 1) := by decide +kernel
theorem d3_50 : decode prog_76_method_7_code 50 = .ok (.ireturn, 1) := by decide +kernel
theorem d3_51 : decode prog_76_method_7_code 51 = .ok (.iload_n 1, 1) := by decide +kernel
theorem d3_52 : decode prog_76_method_7_code 52 = .ok (.sipush 192, 3) := by decide +kernel
theorem d3_55 : decode prog_76_method_7_code 55 = .ok (.if_icmp .lt 10, 3) := by decide +kernel
theorem d3_58 : decode prog_76_method_7_code 58 = .ok (.iload_n 1, 1) := by decide +kernel
theorem d3_59 : decode prog_76_method_7_code 59 = .ok (.sipush 214, 3) := by decide +kernel
theorem d3_62 : decode prog_76_method_7_code 62 = .ok (.if_icmp .le 150, 3) := by decide +kernel
theorem d3_65 : decode prog_76_method_7_code 65 = .ok (.iload_n 1, 1) := by decide +kernel
theorem d3_66 : decode prog_76_method_7_code 66 = .ok (.sipush 216, 3) := by decide +kernel
theorem d3_69 : decode prog_76_method_7_code 69 = .ok (.if_icmp .lt 10, 3) := by decide +kernel
theorem d3_72 : decode prog_76_method_7_code 72 = .ok (.iload_n 1, 1) := by decide +kernel
theorem d3_73 : decode prog_76_method_7_code 73 = .ok (.sipush 246, 3) := by decide +kernel
theorem d3_76 : decode prog_76_method_7_code 76 = .ok (.if_icmp .le 136, 3) := by decide +kernel
theorem d3_79 : decode prog_76_method_7_code 79 = .ok (.iload_n 1, 1) := by decide +kernel
theorem d3_80 : decode prog_76_method_7_code 80 = .ok (.sipush 248, 3) := by decide +kernel
theorem d3_83 : decode prog_76_method_7_code 83 = .ok (.if_icmp .lt 10, 3) := by decide +kernel
theorem d3_86 : decode prog_76_method_7_code 86 = .ok (.iload_n 1, 1) := by decide +kernel
theorem d3_87 : decode prog_76_method_7_code 87 = .ok (.sipush 767, 3) := by decide +kernel
theorem d3_90 : decode prog_76_method_7_code 90 = .ok (.if_icmp .le 122, 3) := by decide +kernel
theorem d3_93 : decode prog_76_method_7_code 93 = .ok (.iload_n 1, 1) := by decide +kernel
theorem d3_94 : decode prog_76_method_7_code 94 = .ok (.sipush 880, 3) := by decide +kernel
theorem d3_97 : decode prog_76_method_7_code 97 = .ok (.if_icmp .lt 10, 3) := by decide +kernel
theorem d3_100 : decode prog_76_method_7_code 100 = .ok (.iload_n 1, 1) := by decide +kernel
theorem d3_101 : decode prog_76_method_7_code 101 = .ok (.sipush 893, 3) := by decide +kernel
theorem d3_104 : decode prog_76_method_7_code 104 = .ok (.if_icmp .le 108, 3) := by decide +kernel
theorem d3_107 : decode prog_76_method_7_code 107 = .ok (.iload_n 1, 1) := by decide +kernel
theorem d3_108 : decode prog_76_method_7_code 108 = .ok (.sipush 895, 3) := by decide +kernel
theorem d3_111 : decode prog_76_method_7_code 111 = .ok (.if_icmp .lt 10, 3) := by decide +kernel
theorem d3_114 : decode prog_76_method_7_code 114 = .ok (.iload_n 1, 1) := by decide +kernel
theorem d3_115 : decode prog_76_method_7_code 115 = .ok (.sipush 8191, 3) := by decide +kernel
theorem d3_118 : decode prog_76_method_7_code 118 = .ok (.if_icmp .le 94, 3) := by decide +kernel
theorem d3_121 : decode prog_76_method_7_code 121 = .ok (.iload_n 1, 1) := by decide +kernel
theorem d3_122 : decode prog_76_method_7_code 122 = .ok (.sipush 8204, 3) := by decide +kernel
theorem d3_125 : decode prog_76_method_7_code 125 = .ok (.if_icmp .eq 87, 3) := by decide +kernel
theorem d3_128 : decode prog_76_method_7_code 128 = .ok (.iload_n 1, 1) := by decide +kernel
theorem d3_129 : decode prog_76_method_7_code 129 = .ok (.sipush 8205, 3) := by decide +kernel
theorem d3_132 : decode prog_76_method_7_code 132 = .ok (.if_icmp .eq 80, 3) := by decide +kernel
theorem d3_135 : decode prog_76_method_7_code 135 = .ok (.iload_n 1, 1) := by decide +kernel
theorem d3_136 : decode prog_76_method_7_code 136 = .ok (.sipush 8304, 3) := by decide +kernel
theorem d3_139 : decode prog_76_method_7_code 139 = .ok (.if_icmp .lt 10, 3) := by decide +kernel
theorem d3_142 : decode prog_76_method_7_code 142 = .ok (.iload_n 1, 1) := by decide +kernel
theorem d3_143 : decode prog_76_method_7_code 143 = .ok (.sipush 8591, 3) := by decide +kernel
theorem d3_146 : decode prog_76_method_7_code 146 = .ok (.if_icmp .le 66, 3) := by decide +kernel
theorem d3_149 : decode prog_76_method_7_code 149 = .ok (.iload_n 1, 1) := by decide +kernel
theorem d3_150 : decode prog_76_method_7_code 150 = .ok (.sipush 11264, 3) := by decide +kernel
theorem d3_153 : decode prog_76_method_7_code 153 = .ok (.if_icmp .lt 10, 3) := by decide +kernel
theorem d3_156 : decode prog_76_method_7_code 156 = .ok (.iload_n 1, 1) := by decide +kernel
theorem d3_157 : decode prog_76_method_7_code 157 = .ok (.sipush 12271, 3) := by decide +kernel
theorem d3_160 : decode prog_76_method_7_code 160 = .ok (.if_icmp .le 52, 3) := by decide +kernel
theorem d3_163 : decode prog_76_method_7_code 163 = .ok (.iload_n 1, 1) := by decide +kernel
theorem d3_164 : decode prog_76_method_7_code 164 = .ok (.sipush 12289, 3) := by decide +kernel
theorem d3_167 : decode prog_76_method_7_code 167 = .ok (.if_icmp .lt 9, 3) := by decide +kernel
theorem d3_170 : decode prog_76_method_7_code 170 = .ok (.iload_n 1, 1) := by decide +kernel
theorem d3_171 : decode prog_76_method_7_code 171 = .ok (.ldc 74, 2) := by decide +kernel
theorem d3_173 : decode prog_76_method_7_code 173 = .ok (.if_icmp .le 39, 3) := by decide +kernel
theorem d3_176 : decode prog_76_method_7_code 176 = .ok (.iload_n 1, 1) := by decide +kernel
theorem d3_177 : decode prog_76_method_7_code 177 = .ok (.ldc 79, 2) := by decide +kernel
theorem d3_179 : decode prog_76_method_7_code 179 = .ok (.if_icmp .lt 9, 3) := by decide +kernel
theorem d3_182 : decode prog_76_method_7_code 182 = .ok (.iload_n 1, 1) := by decide +kernel
theorem d3_183 : decode prog_76_method_7_code 183 = .ok (.ldc 80, 2) := by decide +kernel
theorem d3_185 : decode prog_76_method_7_code 185 = .ok (.if_icmp .le 27, 3) := by decide +kernel
theorem d3_188 : decode prog_76_method_7_code 188 = .ok (.iload_n 1, 1) := by decide +kernel
theorem d3_189 : decode prog_76_method_7_code 189 = .ok (.ldc 81, 2) := by decide +kernel
theorem d3_191 : decode prog_76_method_7_code 191 = .ok (.if_icmp .lt 9, 3) := by decide +kernel
theorem d3_194 : decode prog_76_method_7_code 194 = .ok (.iload_n 1, 1) := by decide +kernel
theorem d3_195 : decode prog_76_method_7_code 195 = .ok (.ldc 76, 2) := by decide +kernel
theorem d3_197 : decode prog_76_method_7_code 197 = .ok (.if_icmp .le 15, 3) := by decide +kernel
theorem d3_200 : decode prog_76_method_7_code 200 = .ok (.iload_n 1, 1) := by decide +kernel
theorem d3_201 : decode prog_76_method_7_code 201 = .ok (.ldc 77, 2) := by decide +kernel
theorem d3_203 : decode prog_76_method_7_code 203 = .ok (.if_icmp .lt 13, 3) := by decide +kernel
theorem d3_206 : decode prog_76_method_7_code 206 = .ok (.iload_n 1, 1) := by decide +kernel
theorem d3_207 : decode prog_76_method_7_code 207 = .ok (.ldc 82, 2) := by decide +kernel
theorem d3_209 : decode prog_76_method_7_code 209 = .ok (.if_icmp .gt 7, 3) := by decide +kernel
theorem d3_212 : decode prog_76_method_7_code 212 = .ok (.iconst 1, 1) := by decide +kernel
theorem d3_213 : decode prog_76_method_7_code 213 = .ok (.goto 4, 3) := by decide +kernel
theorem d3_216 : decode prog_76_method_7_code 216 = .ok (.iconst 0, 1) := by decide +kernel
theorem d3_217 : decode prog_76_method_7_code 217 = .ok (.ireturn, 1) := by decide +kernel
theorem pn1 : plainName "com/example/tessera/tessera/model/Name" = true := by first | (simp [plainName, overriddenIn]; done) | decide +kernel
theorem ef3 (m : MethodId) (x0 : Int32) : entryFrame m #[(.int x0)] 2 = mkF m 0 #[.val (.int x0), .unset] [] := by first | (simp [entryFrame, mkF, argsToLocals, Value.category]; done) | rfl
def f3_200 (x0 : Int32) : Int32 := (if x0 < (65536 : Int32) then (0 : Int32) else (if (983039 : Int32) < x0 then (0 : Int32) else (1 : Int32)))
def f3_188 (x0 : Int32) : Int32 := (if x0 < (65008 : Int32) then (f3_200 x0) else (if (65533 : Int32) < x0 then (f3_200 x0) else (1 : Int32)))
def f3_176 (x0 : Int32) : Int32 := (if x0 < (63744 : Int32) then (f3_188 x0) else (if (64975 : Int32) < x0 then (f3_188 x0) else (1 : Int32)))
def f3_163 (x0 : Int32) : Int32 := (if x0 < (12289 : Int32) then (f3_176 x0) else (if (55295 : Int32) < x0 then (f3_176 x0) else (1 : Int32)))
def f3_149 (x0 : Int32) : Int32 := (if x0 < (11264 : Int32) then (f3_163 x0) else (if (12271 : Int32) < x0 then (f3_163 x0) else (1 : Int32)))
def f3_121 (x0 : Int32) : Int32 := (if x0 = (8204 : Int32) then (1 : Int32) else (if x0 = (8205 : Int32) then (1 : Int32) else (if x0 < (8304 : Int32) then (f3_149 x0) else (if (8591 : Int32) < x0 then (f3_149 x0) else (1 : Int32)))))
def f3_107 (x0 : Int32) : Int32 := (if x0 < (895 : Int32) then (f3_121 x0) else (if (8191 : Int32) < x0 then (f3_121 x0) else (1 : Int32)))
def f3_93 (x0 : Int32) : Int32 := (if x0 < (880 : Int32) then (f3_107 x0) else (if (893 : Int32) < x0 then (f3_107 x0) else (1 : Int32)))
def f3_79 (x0 : Int32) : Int32 := (if x0 < (248 : Int32) then (f3_93 x0) else (if (767 : Int32) < x0 then (f3_93 x0) else (1 : Int32)))
def f3_65 (x0 : Int32) : Int32 := (if x0 < (216 : Int32) then (f3_79 x0) else (if (246 : Int32) < x0 then (f3_79 x0) else (1 : Int32)))
def f3_33 (x0 : Int32) : Int32 := (if x0 = (58 : Int32) then (1 : Int32) else (if x0 = (95 : Int32) then (1 : Int32) else (0 : Int32)))
def f3_21 (x0 : Int32) : Int32 := (if x0 < (65 : Int32) then (f3_33 x0) else (if (90 : Int32) < x0 then (f3_33 x0) else (1 : Int32)))
def f3 (x0 : Int32) : Int32 := (if x0 < (128 : Int32) then (if x0 < (97 : Int32) then (f3_21 x0) else (if (122 : Int32) < x0 then (f3_21 x0) else (1 : Int32))) else (if x0 < (192 : Int32) then (f3_65 x0) else (if (214 : Int32) < x0 then (f3_65 x0) else (1 : Int32))))
def Q3 (x0 : Int32) (h0 : Heap) (n0 : Nat) (v : Option Value) (h : Heap) (L : List Loc) : Prop := v = some (.int (f3 x0)) ∧ Fr n0 L ∧ h = h0
set_option maxRecDepth 65536 in
set_option maxHeartbeats 40000000 in
theorem rm3 (l : Launch) (Z : State) (a0 : Array Value) (hw : ∀ d ∈ tables_1, d.before a0 Z = true) (ws : List Jvm.Cond) (x0 : Int32) (h0 : Heap) (n0 : Nat) (Z0 : n0 ≤ h0.size) :
    MetFree l (⟨"com/example/tessera/tessera/model/Name", "isStartCharacter", "(I)Z"⟩ : MethodName) (head1 (Jvm.Cond.code (⟨"com/example/tessera/tessera/model/Name", "isStartCharacter", "(I)Z"⟩ : MethodName) prog_76_method_7_code 2 (some .boolean) :: ws) ({ frames := 0, cells := 0, slots := 0, locals := 0 } : Room)) (fun a U => a = #[(.int x0)] ∧ Z.Warmed39 U.vm ∧ U.heap = h0) (fun _ _ _ _ _ => True) (fun _ U o U' => ∃ v L, o = .returned v ∧ Q3 x0 h0 n0 v U'.heap L ∧ FrameEnd U o U' L ({ frames := 0, cells := 0, slots := 0, locals := 0 } : Room).cells ({ frames := 0, cells := 0, slots := 0, locals := 0 } : Room).slots) := by
  refine MetFree.of_bodySF (plainFor_of_name pn1) hisR ?_
  intro p e s m args below meth c s₁ Bd hml0 hP hK
  obtain ⟨rfl, hZ, hh⟩ := hP
  have hx := Bd.exec
  have hby := Bd.bytes
  have hml : c.maxLocals = 2 := hml0
  have hown : s.vm.findClass "com/example/tessera/tessera/model/Name" = some m.cls := findClass_of_methodNamed Bd.named
  have X0 : Stand p l e ({ frames := 0, cells := 0, slots := 0, locals := 0 } : Room) s m #[(.int x0)] below meth c s₁ [] 0 0 := Stand.of_body Bd
  have e0 : s₁.heap = h0 := by rw [← hh, Bd.state]; rfl
  obtain ⟨r, hr0⟩ : ∃ r, f3 x0 = r := ⟨_, rfl⟩
  have B200 : ∀  (T : State) (locs : List Loc) (X : Stand p l e ({ frames := 0, cells := 0, slots := 0, locals := 0 } : Room) s m #[(.int x0)] below meth c T locs 0 0) (eT : T.heap = h0) (NF : Fr n0 locs) (hr : f3_200 x0 = r), Go p e below s (Q3 x0 h0 n0) ({ frames := 0, cells := 0, slots := 0, locals := 0 } : Room).cells ({ frames := 0, cells := 0, slots := 0, locals := 0 } : Room).slots (T.setTop (mkF m 200 #[.val (.int x0), .val (.int x0)] [])) := by
    intro  T locs X eT NF hr
    unfold f3_200 at hr
    refine Go.step (S' := T.setTop (mkF m 201 #[.val (.int x0), .val (.int x0)] [(.int x0)])) (fun t k => XS.iloadN X.here hx rfl (hb hby d3_200) rfl k) ?_
    refine Go.step (S' := T.setTop (mkF m 203 #[.val (.int x0), .val (.int x0)] [(.int (65536 : Int32)), (.int x0)])) (fun t k => X.ldcInt hx hown (mvT hZ (hw _ (List.mem_of_getElem? (i := 21) rfl))) (g := (mkF m 201 #[.val (.int x0), .val (.int x0)] [(.int x0)])) rfl (hb hby d3_201) _ k) ?_
    by_cases hc30 : x0 < (65536 : Int32)
    · rw [if_pos hc30] at hr
      refine Go.step (S' := T.setTop (mkF m 216 #[.val (.int x0), .val (.int x0)] [])) (fun t k => XS.icmpYes X.here hx rfl (pc0 := 203) (pc' := 216) rfl (hb hby d3_203) rfl (tlt hc30).1 (by decide) (by decide) k) ?_
      refine Go.step (S' := T.setTop (mkF m 217 #[.val (.int x0), .val (.int x0)] [(.int (0 : Int32))])) (fun t k => XS.iconst X.here hx rfl (hb hby d3_216) k) ?_
      exact Go.retN X hx (t := .boolean) Bd.returns (by simp) Bd.notSynchronized (hb hby d3_217) ⟨by rw [hr0, ← hr]; first | done | rfl, NF, eT⟩ (by decide) (by decide)
    · rw [if_neg hc30] at hr
      refine Go.step (S' := T.setTop (mkF m 206 #[.val (.int x0), .val (.int x0)] [])) (fun t k => XS.icmpNo X.here hx rfl (hb hby d3_203) rfl (flt hc30).1 k) ?_
      refine Go.step (S' := T.setTop (mkF m 207 #[.val (.int x0), .val (.int x0)] [(.int x0)])) (fun t k => XS.iloadN X.here hx rfl (hb hby d3_206) rfl k) ?_
      refine Go.step (S' := T.setTop (mkF m 209 #[.val (.int x0), .val (.int x0)] [(.int (983039 : Int32)), (.int x0)])) (fun t k => X.ldcInt hx hown (mvT hZ (hw _ (List.mem_of_getElem? (i := 25) rfl))) (g := (mkF m 207 #[.val (.int x0), .val (.int x0)] [(.int x0)])) rfl (hb hby d3_207) _ k) ?_
      by_cases hc31 : (983039 : Int32) < x0
      · rw [if_pos hc31] at hr
        refine Go.step (S' := T.setTop (mkF m 216 #[.val (.int x0), .val (.int x0)] [])) (fun t k => XS.icmpYes X.here hx rfl (pc0 := 209) (pc' := 216) rfl (hb hby d3_209) rfl (tlt hc31).2.2.1 (by decide) (by decide) k) ?_
        refine Go.step (S' := T.setTop (mkF m 217 #[.val (.int x0), .val (.int x0)] [(.int (0 : Int32))])) (fun t k => XS.iconst X.here hx rfl (hb hby d3_216) k) ?_
        exact Go.retN X hx (t := .boolean) Bd.returns (by simp) Bd.notSynchronized (hb hby d3_217) ⟨by rw [hr0, ← hr]; first | done | rfl, NF, eT⟩ (by decide) (by decide)
      · rw [if_neg hc31] at hr
        refine Go.step (S' := T.setTop (mkF m 212 #[.val (.int x0), .val (.int x0)] [])) (fun t k => XS.icmpNo X.here hx rfl (hb hby d3_209) rfl (flt hc31).2.2.1 k) ?_
        refine Go.step (S' := T.setTop (mkF m 213 #[.val (.int x0), .val (.int x0)] [(.int (1 : Int32))])) (fun t k => XS.iconst X.here hx rfl (hb hby d3_212) k) ?_
        refine Go.step (S' := T.setTop (mkF m 217 #[.val (.int x0), .val (.int x0)] [(.int (1 : Int32))])) (fun t k => XS.goto X.here hx rfl (pc0 := 213) (pc' := 217) rfl (hb hby d3_213) (by decide) (by decide) k) ?_
        exact Go.retN X hx (t := .boolean) Bd.returns (by simp) Bd.notSynchronized (hb hby d3_217) ⟨by rw [hr0, ← hr]; first | done | rfl, NF, eT⟩ (by decide) (by decide)
  have B188 : ∀  (T : State) (locs : List Loc) (X : Stand p l e ({ frames := 0, cells := 0, slots := 0, locals := 0 } : Room) s m #[(.int x0)] below meth c T locs 0 0) (eT : T.heap = h0) (NF : Fr n0 locs) (hr : f3_188 x0 = r), Go p e below s (Q3 x0 h0 n0) ({ frames := 0, cells := 0, slots := 0, locals := 0 } : Room).cells ({ frames := 0, cells := 0, slots := 0, locals := 0 } : Room).slots (T.setTop (mkF m 188 #[.val (.int x0), .val (.int x0)] [])) := by
    intro  T locs X eT NF hr
    unfold f3_188 at hr
    refine Go.step (S' := T.setTop (mkF m 189 #[.val (.int x0), .val (.int x0)] [(.int x0)])) (fun t k => XS.iloadN X.here hx rfl (hb hby d3_188) rfl k) ?_
    refine Go.step (S' := T.setTop (mkF m 191 #[.val (.int x0), .val (.int x0)] [(.int (65008 : Int32)), (.int x0)])) (fun t k => X.ldcInt hx hown (mvT hZ (hw _ (List.mem_of_getElem? (i := 20) rfl))) (g := (mkF m 189 #[.val (.int x0), .val (.int x0)] [(.int x0)])) rfl (hb hby d3_189) _ k) ?_
    by_cases hc28 : x0 < (65008 : Int32)
    · rw [if_pos hc28] at hr
      refine Go.step (S' := T.setTop (mkF m 200 #[.val (.int x0), .val (.int x0)] [])) (fun t k => XS.icmpYes X.here hx rfl (pc0 := 191) (pc' := 200) rfl (hb hby d3_191) rfl (tlt hc28).1 (by decide) (by decide) k) ?_
      exact B200  T _ X eT NF hr
    · rw [if_neg hc28] at hr
      refine Go.step (S' := T.setTop (mkF m 194 #[.val (.int x0), .val (.int x0)] [])) (fun t k => XS.icmpNo X.here hx rfl (hb hby d3_191) rfl (flt hc28).1 k) ?_
      refine Go.step (S' := T.setTop (mkF m 195 #[.val (.int x0), .val (.int x0)] [(.int x0)])) (fun t k => XS.iloadN X.here hx rfl (hb hby d3_194) rfl k) ?_
      refine Go.step (S' := T.setTop (mkF m 197 #[.val (.int x0), .val (.int x0)] [(.int (65533 : Int32)), (.int x0)])) (fun t k => X.ldcInt hx hown (mvT hZ (hw _ (List.mem_of_getElem? (i := 24) rfl))) (g := (mkF m 195 #[.val (.int x0), .val (.int x0)] [(.int x0)])) rfl (hb hby d3_195) _ k) ?_
      by_cases hc29 : (65533 : Int32) < x0
      · rw [if_pos hc29] at hr
        refine Go.step (S' := T.setTop (mkF m 200 #[.val (.int x0), .val (.int x0)] [])) (fun t k => XS.icmpNo X.here hx rfl (hb hby d3_197) rfl (tlt hc29).2.2.2 k) ?_
        exact B200  T _ X eT NF hr
      · rw [if_neg hc29] at hr
        refine Go.step (S' := T.setTop (mkF m 212 #[.val (.int x0), .val (.int x0)] [])) (fun t k => XS.icmpYes X.here hx rfl (pc0 := 197) (pc' := 212) rfl (hb hby d3_197) rfl (flt hc29).2.2.2 (by decide) (by decide) k) ?_
        refine Go.step (S' := T.setTop (mkF m 213 #[.val (.int x0), .val (.int x0)] [(.int (1 : Int32))])) (fun t k => XS.iconst X.here hx rfl (hb hby d3_212) k) ?_
        refine Go.step (S' := T.setTop (mkF m 217 #[.val (.int x0), .val (.int x0)] [(.int (1 : Int32))])) (fun t k => XS.goto X.here hx rfl (pc0 := 213) (pc' := 217) rfl (hb hby d3_213) (by decide) (by decide) k) ?_
        exact Go.retN X hx (t := .boolean) Bd.returns (by simp) Bd.notSynchronized (hb hby d3_217) ⟨by rw [hr0, ← hr]; first | done | rfl, NF, eT⟩ (by decide) (by decide)
  have B176 : ∀  (T : State) (locs : List Loc) (X : Stand p l e ({ frames := 0, cells := 0, slots := 0, locals := 0 } : Room) s m #[(.int x0)] below meth c T locs 0 0) (eT : T.heap = h0) (NF : Fr n0 locs) (hr : f3_176 x0 = r), Go p e below s (Q3 x0 h0 n0) ({ frames := 0, cells := 0, slots := 0, locals := 0 } : Room).cells ({ frames := 0, cells := 0, slots := 0, locals := 0 } : Room).slots (T.setTop (mkF m 176 #[.val (.int x0), .val (.int x0)] [])) := by
    intro  T locs X eT NF hr
    unfold f3_176 at hr
    refine Go.step (S' := T.setTop (mkF m 177 #[.val (.int x0), .val (.int x0)] [(.int x0)])) (fun t k => XS.iloadN X.here hx rfl (hb hby d3_176) rfl k) ?_
    refine Go.step (S' := T.setTop (mkF m 179 #[.val (.int x0), .val (.int x0)] [(.int (63744 : Int32)), (.int x0)])) (fun t k => X.ldcInt hx hown (mvT hZ (hw _ (List.mem_of_getElem? (i := 19) rfl))) (g := (mkF m 177 #[.val (.int x0), .val (.int x0)] [(.int x0)])) rfl (hb hby d3_177) _ k) ?_
    by_cases hc26 : x0 < (63744 : Int32)
    · rw [if_pos hc26] at hr
      refine Go.step (S' := T.setTop (mkF m 188 #[.val (.int x0), .val (.int x0)] [])) (fun t k => XS.icmpYes X.here hx rfl (pc0 := 179) (pc' := 188) rfl (hb hby d3_179) rfl (tlt hc26).1 (by decide) (by decide) k) ?_
      exact B188  T _ X eT NF hr
    · rw [if_neg hc26] at hr
      refine Go.step (S' := T.setTop (mkF m 182 #[.val (.int x0), .val (.int x0)] [])) (fun t k => XS.icmpNo X.here hx rfl (hb hby d3_179) rfl (flt hc26).1 k) ?_
      refine Go.step (S' := T.setTop (mkF m 183 #[.val (.int x0), .val (.int x0)] [(.int x0)])) (fun t k => XS.iloadN X.here hx rfl (hb hby d3_182) rfl k) ?_
      refine Go.step (S' := T.setTop (mkF m 185 #[.val (.int x0), .val (.int x0)] [(.int (64975 : Int32)), (.int x0)])) (fun t k => X.ldcInt hx hown (mvT hZ (hw _ (List.mem_of_getElem? (i := 23) rfl))) (g := (mkF m 183 #[.val (.int x0), .val (.int x0)] [(.int x0)])) rfl (hb hby d3_183) _ k) ?_
      by_cases hc27 : (64975 : Int32) < x0
      · rw [if_pos hc27] at hr
        refine Go.step (S' := T.setTop (mkF m 188 #[.val (.int x0), .val (.int x0)] [])) (fun t k => XS.icmpNo X.here hx rfl (hb hby d3_185) rfl (tlt hc27).2.2.2 k) ?_
        exact B188  T _ X eT NF hr
      · rw [if_neg hc27] at hr
        refine Go.step (S' := T.setTop (mkF m 212 #[.val (.int x0), .val (.int x0)] [])) (fun t k => XS.icmpYes X.here hx rfl (pc0 := 185) (pc' := 212) rfl (hb hby d3_185) rfl (flt hc27).2.2.2 (by decide) (by decide) k) ?_
        refine Go.step (S' := T.setTop (mkF m 213 #[.val (.int x0), .val (.int x0)] [(.int (1 : Int32))])) (fun t k => XS.iconst X.here hx rfl (hb hby d3_212) k) ?_
        refine Go.step (S' := T.setTop (mkF m 217 #[.val (.int x0), .val (.int x0)] [(.int (1 : Int32))])) (fun t k => XS.goto X.here hx rfl (pc0 := 213) (pc' := 217) rfl (hb hby d3_213) (by decide) (by decide) k) ?_
        exact Go.retN X hx (t := .boolean) Bd.returns (by simp) Bd.notSynchronized (hb hby d3_217) ⟨by rw [hr0, ← hr]; first | done | rfl, NF, eT⟩ (by decide) (by decide)
  have B163 : ∀  (T : State) (locs : List Loc) (X : Stand p l e ({ frames := 0, cells := 0, slots := 0, locals := 0 } : Room) s m #[(.int x0)] below meth c T locs 0 0) (eT : T.heap = h0) (NF : Fr n0 locs) (hr : f3_163 x0 = r), Go p e below s (Q3 x0 h0 n0) ({ frames := 0, cells := 0, slots := 0, locals := 0 } : Room).cells ({ frames := 0, cells := 0, slots := 0, locals := 0 } : Room).slots (T.setTop (mkF m 163 #[.val (.int x0), .val (.int x0)] [])) := by
    intro  T locs X eT NF hr
    unfold f3_163 at hr
    refine Go.step (S' := T.setTop (mkF m 164 #[.val (.int x0), .val (.int x0)] [(.int x0)])) (fun t k => XS.iloadN X.here hx rfl (hb hby d3_163) rfl k) ?_
    refine Go.step (S' := T.setTop (mkF m 167 #[.val (.int x0), .val (.int x0)] [(.int (12289 : Int32)), (.int x0)])) (fun t k => XS.sipush X.here hx rfl (hb hby d3_164) k) ?_
    by_cases hc24 : x0 < (12289 : Int32)
    · rw [if_pos hc24] at hr
      refine Go.step (S' := T.setTop (mkF m 176 #[.val (.int x0), .val (.int x0)] [])) (fun t k => XS.icmpYes X.here hx rfl (pc0 := 167) (pc' := 176) rfl (hb hby d3_167) rfl (tlt hc24).1 (by decide) (by decide) k) ?_
      exact B176  T _ X eT NF hr
    · rw [if_neg hc24] at hr
      refine Go.step (S' := T.setTop (mkF m 170 #[.val (.int x0), .val (.int x0)] [])) (fun t k => XS.icmpNo X.here hx rfl (hb hby d3_167) rfl (flt hc24).1 k) ?_
      refine Go.step (S' := T.setTop (mkF m 171 #[.val (.int x0), .val (.int x0)] [(.int x0)])) (fun t k => XS.iloadN X.here hx rfl (hb hby d3_170) rfl k) ?_
      refine Go.step (S' := T.setTop (mkF m 173 #[.val (.int x0), .val (.int x0)] [(.int (55295 : Int32)), (.int x0)])) (fun t k => X.ldcInt hx hown (mvT hZ (hw _ (List.mem_of_getElem? (i := 22) rfl))) (g := (mkF m 171 #[.val (.int x0), .val (.int x0)] [(.int x0)])) rfl (hb hby d3_171) _ k) ?_
      by_cases hc25 : (55295 : Int32) < x0
      · rw [if_pos hc25] at hr
        refine Go.step (S' := T.setTop (mkF m 176 #[.val (.int x0), .val (.int x0)] [])) (fun t k => XS.icmpNo X.here hx rfl (hb hby d3_173) rfl (tlt hc25).2.2.2 k) ?_
        exact B176  T _ X eT NF hr
      · rw [if_neg hc25] at hr
        refine Go.step (S' := T.setTop (mkF m 212 #[.val (.int x0), .val (.int x0)] [])) (fun t k => XS.icmpYes X.here hx rfl (pc0 := 173) (pc' := 212) rfl (hb hby d3_173) rfl (flt hc25).2.2.2 (by decide) (by decide) k) ?_
        refine Go.step (S' := T.setTop (mkF m 213 #[.val (.int x0), .val (.int x0)] [(.int (1 : Int32))])) (fun t k => XS.iconst X.here hx rfl (hb hby d3_212) k) ?_
        refine Go.step (S' := T.setTop (mkF m 217 #[.val (.int x0), .val (.int x0)] [(.int (1 : Int32))])) (fun t k => XS.goto X.here hx rfl (pc0 := 213) (pc' := 217) rfl (hb hby d3_213) (by decide) (by decide) k) ?_
        exact Go.retN X hx (t := .boolean) Bd.returns (by simp) Bd.notSynchronized (hb hby d3_217) ⟨by rw [hr0, ← hr]; first | done | rfl, NF, eT⟩ (by decide) (by decide)
  have B149 : ∀  (T : State) (locs : List Loc) (X : Stand p l e ({ frames := 0, cells := 0, slots := 0, locals := 0 } : Room) s m #[(.int x0)] below meth c T locs 0 0) (eT : T.heap = h0) (NF : Fr n0 locs) (hr : f3_149 x0 = r), Go p e below s (Q3 x0 h0 n0) ({ frames := 0, cells := 0, slots := 0, locals := 0 } : Room).cells ({ frames := 0, cells := 0, slots := 0, locals := 0 } : Room).slots (T.setTop (mkF m 149 #[.val (.int x0), .val (.int x0)] [])) := by
    intro  T locs X eT NF hr
    unfold f3_149 at hr
    refine Go.step (S' := T.setTop (mkF m 150 #[.val (.int x0), .val (.int x0)] [(.int x0)])) (fun t k => XS.iloadN X.here hx rfl (hb hby d3_149) rfl k) ?_
    refine Go.step (S' := T.setTop (mkF m 153 #[.val (.int x0), .val (.int x0)] [(.int (11264 : Int32)), (.int x0)])) (fun t k => XS.sipush X.here hx rfl (hb hby d3_150) k) ?_
    by_cases hc22 : x0 < (11264 : Int32)
    · rw [if_pos hc22] at hr
      refine Go.step (S' := T.setTop (mkF m 163 #[.val (.int x0), .val (.int x0)] [])) (fun t k => XS.icmpYes X.here hx rfl (pc0 := 153) (pc' := 163) rfl (hb hby d3_153) rfl (tlt hc22).1 (by decide) (by decide) k) ?_
      exact B163  T _ X eT NF hr
    · rw [if_neg hc22] at hr
      refine Go.step (S' := T.setTop (mkF m 156 #[.val (.int x0), .val (.int x0)] [])) (fun t k => XS.icmpNo X.here hx rfl (hb hby d3_153) rfl (flt hc22).1 k) ?_
      refine Go.step (S' := T.setTop (mkF m 157 #[.val (.int x0), .val (.int x0)] [(.int x0)])) (fun t k => XS.iloadN X.here hx rfl (hb hby d3_156) rfl k) ?_
      refine Go.step (S' := T.setTop (mkF m 160 #[.val (.int x0), .val (.int x0)] [(.int (12271 : Int32)), (.int x0)])) (fun t k => XS.sipush X.here hx rfl (hb hby d3_157) k) ?_
      by_cases hc23 : (12271 : Int32) < x0
      · rw [if_pos hc23] at hr
        refine Go.step (S' := T.setTop (mkF m 163 #[.val (.int x0), .val (.int x0)] [])) (fun t k => XS.icmpNo X.here hx rfl (hb hby d3_160) rfl (tlt hc23).2.2.2 k) ?_
        exact B163  T _ X eT NF hr
      · rw [if_neg hc23] at hr
        refine Go.step (S' := T.setTop (mkF m 212 #[.val (.int x0), .val (.int x0)] [])) (fun t k => XS.icmpYes X.here hx rfl (pc0 := 160) (pc' := 212) rfl (hb hby d3_160) rfl (flt hc23).2.2.2 (by decide) (by decide) k) ?_
        refine Go.step (S' := T.setTop (mkF m 213 #[.val (.int x0), .val (.int x0)] [(.int (1 : Int32))])) (fun t k => XS.iconst X.here hx rfl (hb hby d3_212) k) ?_
        refine Go.step (S' := T.setTop (mkF m 217 #[.val (.int x0), .val (.int x0)] [(.int (1 : Int32))])) (fun t k => XS.goto X.here hx rfl (pc0 := 213) (pc' := 217) rfl (hb hby d3_213) (by decide) (by decide) k) ?_
        exact Go.retN X hx (t := .boolean) Bd.returns (by simp) Bd.notSynchronized (hb hby d3_217) ⟨by rw [hr0, ← hr]; first | done | rfl, NF, eT⟩ (by decide) (by decide)
  have B121 : ∀  (T : State) (locs : List Loc) (X : Stand p l e ({ frames := 0, cells := 0, slots := 0, locals := 0 } : Room) s m #[(.int x0)] below meth c T locs 0 0) (eT : T.heap = h0) (NF : Fr n0 locs) (hr : f3_121 x0 = r), Go p e below s (Q3 x0 h0 n0) ({ frames := 0, cells := 0, slots := 0, locals := 0 } : Room).cells ({ frames := 0, cells := 0, slots := 0, locals := 0 } : Room).slots (T.setTop (mkF m 121 #[.val (.int x0), .val (.int x0)] [])) := by
    intro  T locs X eT NF hr
    unfold f3_121 at hr
    refine Go.step (S' := T.setTop (mkF m 122 #[.val (.int x0), .val (.int x0)] [(.int x0)])) (fun t k => XS.iloadN X.here hx rfl (hb hby d3_121) rfl k) ?_
    refine Go.step (S' := T.setTop (mkF m 125 #[.val (.int x0), .val (.int x0)] [(.int (8204 : Int32)), (.int x0)])) (fun t k => XS.sipush X.here hx rfl (hb hby d3_122) k) ?_
    by_cases hc18 : x0 = (8204 : Int32)
    · rw [if_pos hc18] at hr
      refine Go.step (S' := T.setTop (mkF m 212 #[.val (.int x0), .val (.int x0)] [])) (fun t k => XS.icmpYes X.here hx rfl (pc0 := 125) (pc' := 212) rfl (hb hby d3_125) rfl (teq hc18).1 (by decide) (by decide) k) ?_
      refine Go.step (S' := T.setTop (mkF m 213 #[.val (.int x0), .val (.int x0)] [(.int (1 : Int32))])) (fun t k => XS.iconst X.here hx rfl (hb hby d3_212) k) ?_
      refine Go.step (S' := T.setTop (mkF m 217 #[.val (.int x0), .val (.int x0)] [(.int (1 : Int32))])) (fun t k => XS.goto X.here hx rfl (pc0 := 213) (pc' := 217) rfl (hb hby d3_213) (by decide) (by decide) k) ?_
      exact Go.retN X hx (t := .boolean) Bd.returns (by simp) Bd.notSynchronized (hb hby d3_217) ⟨by rw [hr0, ← hr]; first | done | rfl, NF, eT⟩ (by decide) (by decide)
    · rw [if_neg hc18] at hr
      refine Go.step (S' := T.setTop (mkF m 128 #[.val (.int x0), .val (.int x0)] [])) (fun t k => XS.icmpNo X.here hx rfl (hb hby d3_125) rfl (feq hc18).1 k) ?_
      refine Go.step (S' := T.setTop (mkF m 129 #[.val (.int x0), .val (.int x0)] [(.int x0)])) (fun t k => XS.iloadN X.here hx rfl (hb hby d3_128) rfl k) ?_
      refine Go.step (S' := T.setTop (mkF m 132 #[.val (.int x0), .val (.int x0)] [(.int (8205 : Int32)), (.int x0)])) (fun t k => XS.sipush X.here hx rfl (hb hby d3_129) k) ?_
      by_cases hc19 : x0 = (8205 : Int32)
      · rw [if_pos hc19] at hr
        refine Go.step (S' := T.setTop (mkF m 212 #[.val (.int x0), .val (.int x0)] [])) (fun t k => XS.icmpYes X.here hx rfl (pc0 := 132) (pc' := 212) rfl (hb hby d3_132) rfl (teq hc19).1 (by decide) (by decide) k) ?_
        refine Go.step (S' := T.setTop (mkF m 213 #[.val (.int x0), .val (.int x0)] [(.int (1 : Int32))])) (fun t k => XS.iconst X.here hx rfl (hb hby d3_212) k) ?_
        refine Go.step (S' := T.setTop (mkF m 217 #[.val (.int x0), .val (.int x0)] [(.int (1 : Int32))])) (fun t k => XS.goto X.here hx rfl (pc0 := 213) (pc' := 217) rfl (hb hby d3_213) (by decide) (by decide) k) ?_
        exact Go.retN X hx (t := .boolean) Bd.returns (by simp) Bd.notSynchronized (hb hby d3_217) ⟨by rw [hr0, ← hr]; first | done | rfl, NF, eT⟩ (by decide) (by decide)
      · rw [if_neg hc19] at hr
        refine Go.step (S' := T.setTop (mkF m 135 #[.val (.int x0), .val (.int x0)] [])) (fun t k => XS.icmpNo X.here hx rfl (hb hby d3_132) rfl (feq hc19).1 k) ?_
        refine Go.step (S' := T.setTop (mkF m 136 #[.val (.int x0), .val (.int x0)] [(.int x0)])) (fun t k => XS.iloadN X.here hx rfl (hb hby d3_135) rfl k) ?_
        refine Go.step (S' := T.setTop (mkF m 139 #[.val (.int x0), .val (.int x0)] [(.int (8304 : Int32)), (.int x0)])) (fun t k => XS.sipush X.here hx rfl (hb hby d3_136) k) ?_
        by_cases hc20 : x0 < (8304 : Int32)
        · rw [if_pos hc20] at hr
          refine Go.step (S' := T.setTop (mkF m 149 #[.val (.int x0), .val (.int x0)] [])) (fun t k => XS.icmpYes X.here hx rfl (pc0 := 139) (pc' := 149) rfl (hb hby d3_139) rfl (tlt hc20).1 (by decide) (by decide) k) ?_
          exact B149  T _ X eT NF hr
        · rw [if_neg hc20] at hr
          refine Go.step (S' := T.setTop (mkF m 142 #[.val (.int x0), .val (.int x0)] [])) (fun t k => XS.icmpNo X.here hx rfl (hb hby d3_139) rfl (flt hc20).1 k) ?_
          refine Go.step (S' := T.setTop (mkF m 143 #[.val (.int x0), .val (.int x0)] [(.int x0)])) (fun t k => XS.iloadN X.here hx rfl (hb hby d3_142) rfl k) ?_
          refine Go.step (S' := T.setTop (mkF m 146 #[.val (.int x0), .val (.int x0)] [(.int (8591 : Int32)), (.int x0)])) (fun t k => XS.sipush X.here hx rfl (hb hby d3_143) k) ?_
          by_cases hc21 : (8591 : Int32) < x0
          · rw [if_pos hc21] at hr
            refine Go.step (S' := T.setTop (mkF m 149 #[.val (.int x0), .val (.int x0)] [])) (fun t k => XS.icmpNo X.here hx rfl (hb hby d3_146) rfl (tlt hc21).2.2.2 k) ?_
            exact B149  T _ X eT NF hr
          · rw [if_neg hc21] at hr
            refine Go.step (S' := T.setTop (mkF m 212 #[.val (.int x0), .val (.int x0)] [])) (fun t k => XS.icmpYes X.here hx rfl (pc0 := 146) (pc' := 212) rfl (hb hby d3_146) rfl (flt hc21).2.2.2 (by decide) (by decide) k) ?_
            refine Go.step (S' := T.setTop (mkF m 213 #[.val (.int x0), .val (.int x0)] [(.int (1 : Int32))])) (fun t k => XS.iconst X.here hx rfl (hb hby d3_212) k) ?_
            refine Go.step (S' := T.setTop (mkF m 217 #[.val (.int x0), .val (.int x0)] [(.int (1 : Int32))])) (fun t k => XS.goto X.here hx rfl (pc0 := 213) (pc' := 217) rfl (hb hby d3_213) (by decide) (by decide) k) ?_
            exact Go.retN X hx (t := .boolean) Bd.returns (by simp) Bd.notSynchronized (hb hby d3_217) ⟨by rw [hr0, ← hr]; first | done | rfl, NF, eT⟩ (by decide) (by decide)
  have B107 : ∀  (T : State) (locs : List Loc) (X : Stand p l e ({ frames := 0, cells := 0, slots := 0, locals := 0 } : Room) s m #[(.int x0)] below meth c T locs 0 0) (eT : T.heap = h0) (NF : Fr n0 locs) (hr : f3_107 x0 = r), Go p e below s (Q3 x0 h0 n0) ({ frames := 0, cells := 0, slots := 0, locals := 0 } : Room).cells ({ frames := 0, cells := 0, slots := 0, locals := 0 } : Room).slots (T.setTop (mkF m 107 #[.val (.int x0), .val (.int x0)] [])) := by
    intro  T locs X eT NF hr
    unfold f3_107 at hr
    refine Go.step (S' := T.setTop (mkF m 108 #[.val (.int x0), .val (.int x0)] [(.int x0)])) (fun t k => XS.iloadN X.here hx rfl (hb hby d3_107) rfl k) ?_
    refine Go.step (S' := T.setTop (mkF m 111 #[.val (.int x0), .val (.int x0)] [(.int (895 : Int32)), (.int x0)])) (fun t k => XS.sipush X.here hx rfl (hb hby d3_108) k) ?_
    by_cases hc16 : x0 < (895 : Int32)
    · rw [if_pos hc16] at hr
      refine Go.step (S' := T.setTop (mkF m 121 #[.val (.int x0), .val (.int x0)] [])) (fun t k => XS.icmpYes X.here hx rfl (pc0 := 111) (pc' := 121) rfl (hb hby d3_111) rfl (tlt hc16).1 (by decide) (by decide) k) ?_
      exact B121  T _ X eT NF hr
    · rw [if_neg hc16] at hr
      refine Go.step (S' := T.setTop (mkF m 114 #[.val (.int x0), .val (.int x0)] [])) (fun t k => XS.icmpNo X.here hx rfl (hb hby d3_111) rfl (flt hc16).1 k) ?_
      refine Go.step (S' := T.setTop (mkF m 115 #[.val (.int x0), .val (.int x0)] [(.int x0)])) (fun t k => XS.iloadN X.here hx rfl (hb hby d3_114) rfl k) ?_
      refine Go.step (S' := T.setTop (mkF m 118 #[.val (.int x0), .val (.int x0)] [(.int (8191 : Int32)), (.int x0)])) (fun t k => XS.sipush X.here hx rfl (hb hby d3_115) k) ?_
      by_cases hc17 : (8191 : Int32) < x0
      · rw [if_pos hc17] at hr
        refine Go.step (S' := T.setTop (mkF m 121 #[.val (.int x0), .val (.int x0)] [])) (fun t k => XS.icmpNo X.here hx rfl (hb hby d3_118) rfl (tlt hc17).2.2.2 k) ?_
        exact B121  T _ X eT NF hr
      · rw [if_neg hc17] at hr
        refine Go.step (S' := T.setTop (mkF m 212 #[.val (.int x0), .val (.int x0)] [])) (fun t k => XS.icmpYes X.here hx rfl (pc0 := 118) (pc' := 212) rfl (hb hby d3_118) rfl (flt hc17).2.2.2 (by decide) (by decide) k) ?_
        refine Go.step (S' := T.setTop (mkF m 213 #[.val (.int x0), .val (.int x0)] [(.int (1 : Int32))])) (fun t k => XS.iconst X.here hx rfl (hb hby d3_212) k) ?_
        refine Go.step (S' := T.setTop (mkF m 217 #[.val (.int x0), .val (.int x0)] [(.int (1 : Int32))])) (fun t k => XS.goto X.here hx rfl (pc0 := 213) (pc' := 217) rfl (hb hby d3_213) (by decide) (by decide) k) ?_
        exact Go.retN X hx (t := .boolean) Bd.returns (by simp) Bd.notSynchronized (hb hby d3_217) ⟨by rw [hr0, ← hr]; first | done | rfl, NF, eT⟩ (by decide) (by decide)
  have B93 : ∀  (T : State) (locs : List Loc) (X : Stand p l e ({ frames := 0, cells := 0, slots := 0, locals := 0 } : Room) s m #[(.int x0)] below meth c T locs 0 0) (eT : T.heap = h0) (NF : Fr n0 locs) (hr : f3_93 x0 = r), Go p e below s (Q3 x0 h0 n0) ({ frames := 0, cells := 0, slots := 0, locals := 0 } : Room).cells ({ frames := 0, cells := 0, slots := 0, locals := 0 } : Room).slots (T.setTop (mkF m 93 #[.val (.int x0), .val (.int x0)] [])) := by
    intro  T locs X eT NF hr
    unfold f3_93 at hr
    refine Go.step (S' := T.setTop (mkF m 94 #[.val (.int x0), .val (.int x0)] [(.int x0)])) (fun t k => XS.iloadN X.here hx rfl (hb hby d3_93) rfl k) ?_
    refine Go.step (S' := T.setTop (mkF m 97 #[.val (.int x0), .val (.int x0)] [(.int (880 : Int32)), (.int x0)])) (fun t k => XS.sipush X.here hx rfl (hb hby d3_94) k) ?_
    by_cases hc14 : x0 < (880 : Int32)
    · rw [if_pos hc14] at hr
      refine Go.step (S' := T.setTop (mkF m 107 #[.val (.int x0), .val (.int x0)] [])) (fun t k => XS.icmpYes X.here hx rfl (pc0 := 97) (pc' := 107) rfl (hb hby d3_97) rfl (tlt hc14).1 (by decide) (by decide) k) ?_
      exact B107  T _ X eT NF hr
    · rw [if_neg hc14] at hr
      refine Go.step (S' := T.setTop (mkF m 100 #[.val (.int x0), .val (.int x0)] [])) (fun t k => XS.icmpNo X.here hx rfl (hb hby d3_97) rfl (flt hc14).1 k) ?_
      refine Go.step (S' := T.setTop (mkF m 101 #[.val (.int x0), .val (.int x0)] [(.int x0)])) (fun t k => XS.iloadN X.here hx rfl (hb hby d3_100) rfl k) ?_
      refine Go.step (S' := T.setTop (mkF m 104 #[.val (.int x0), .val (.int x0)] [(.int (893 : Int32)), (.int x0)])) (fun t k => XS.sipush X.here hx rfl (hb hby d3_101) k) ?_
      by_cases hc15 : (893 : Int32) < x0
      · rw [if_pos hc15] at hr
        refine Go.step (S' := T.setTop (mkF m 107 #[.val (.int x0), .val (.int x0)] [])) (fun t k => XS.icmpNo X.here hx rfl (hb hby d3_104) rfl (tlt hc15).2.2.2 k) ?_
        exact B107  T _ X eT NF hr
      · rw [if_neg hc15] at hr
        refine Go.step (S' := T.setTop (mkF m 212 #[.val (.int x0), .val (.int x0)] [])) (fun t k => XS.icmpYes X.here hx rfl (pc0 := 104) (pc' := 212) rfl (hb hby d3_104) rfl (flt hc15).2.2.2 (by decide) (by decide) k) ?_
        refine Go.step (S' := T.setTop (mkF m 213 #[.val (.int x0), .val (.int x0)] [(.int (1 : Int32))])) (fun t k => XS.iconst X.here hx rfl (hb hby d3_212) k) ?_
        refine Go.step (S' := T.setTop (mkF m 217 #[.val (.int x0), .val (.int x0)] [(.int (1 : Int32))])) (fun t k => XS.goto X.here hx rfl (pc0 := 213) (pc' := 217) rfl (hb hby d3_213) (by decide) (by decide) k) ?_
        exact Go.retN X hx (t := .boolean) Bd.returns (by simp) Bd.notSynchronized (hb hby d3_217) ⟨by rw [hr0, ← hr]; first | done | rfl, NF, eT⟩ (by decide) (by decide)
  have B79 : ∀  (T : State) (locs : List Loc) (X : Stand p l e ({ frames := 0, cells := 0, slots := 0, locals := 0 } : Room) s m #[(.int x0)] below meth c T locs 0 0) (eT : T.heap = h0) (NF : Fr n0 locs) (hr : f3_79 x0 = r), Go p e below s (Q3 x0 h0 n0) ({ frames := 0, cells := 0, slots := 0, locals := 0 } : Room).cells ({ frames := 0, cells := 0, slots := 0, locals := 0 } : Room).slots (T.setTop (mkF m 79 #[.val (.int x0), .val (.int x0)] [])) := by
    intro  T locs X eT NF hr
    unfold f3_79 at hr
    refine Go.step (S' := T.setTop (mkF m 80 #[.val (.int x0), .val (.int x0)] [(.int x0)])) (fun t k => XS.iloadN X.here hx rfl (hb hby d3_79) rfl k) ?_
    refine Go.step (S' := T.setTop (mkF m 83 #[.val (.int x0), .val (.int x0)] [(.int (248 : Int32)), (.int x0)])) (fun t k => XS.sipush X.here hx rfl (hb hby d3_80) k) ?_
    by_cases hc12 : x0 < (248 : Int32)
    · rw [if_pos hc12] at hr
      refine Go.step (S' := T.setTop (mkF m 93 #[.val (.int x0), .val (.int x0)] [])) (fun t k => XS.icmpYes X.here hx rfl (pc0 := 83) (pc' := 93) rfl (hb hby d3_83) rfl (tlt hc12).1 (by decide) (by decide) k) ?_
      exact B93  T _ X eT NF hr
    · rw [if_neg hc12] at hr
      refine Go.step (S' := T.setTop (mkF m 86 #[.val (.int x0), .val (.int x0)] [])) (fun t k => XS.icmpNo X.here hx rfl (hb hby d3_83) rfl (flt hc12).1 k) ?_
      refine Go.step (S' := T.setTop (mkF m 87 #[.val (.int x0), .val (.int x0)] [(.int x0)])) (fun t k => XS.iloadN X.here hx rfl (hb hby d3_86) rfl k) ?_
      refine Go.step (S' := T.setTop (mkF m 90 #[.val (.int x0), .val (.int x0)] [(.int (767 : Int32)), (.int x0)])) (fun t k => XS.sipush X.here hx rfl (hb hby d3_87) k) ?_
      by_cases hc13 : (767 : Int32) < x0
      · rw [if_pos hc13] at hr
        refine Go.step (S' := T.setTop (mkF m 93 #[.val (.int x0), .val (.int x0)] [])) (fun t k => XS.icmpNo X.here hx rfl (hb hby d3_90) rfl (tlt hc13).2.2.2 k) ?_
        exact B93  T _ X eT NF hr
      · rw [if_neg hc13] at hr
        refine Go.step (S' := T.setTop (mkF m 212 #[.val (.int x0), .val (.int x0)] [])) (fun t k => XS.icmpYes X.here hx rfl (pc0 := 90) (pc' := 212) rfl (hb hby d3_90) rfl (flt hc13).2.2.2 (by decide) (by decide) k) ?_
        refine Go.step (S' := T.setTop (mkF m 213 #[.val (.int x0), .val (.int x0)] [(.int (1 : Int32))])) (fun t k => XS.iconst X.here hx rfl (hb hby d3_212) k) ?_
        refine Go.step (S' := T.setTop (mkF m 217 #[.val (.int x0), .val (.int x0)] [(.int (1 : Int32))])) (fun t k => XS.goto X.here hx rfl (pc0 := 213) (pc' := 217) rfl (hb hby d3_213) (by decide) (by decide) k) ?_
        exact Go.retN X hx (t := .boolean) Bd.returns (by simp) Bd.notSynchronized (hb hby d3_217) ⟨by rw [hr0, ← hr]; first | done | rfl, NF, eT⟩ (by decide) (by decide)
  have B65 : ∀  (T : State) (locs : List Loc) (X : Stand p l e ({ frames := 0, cells := 0, slots := 0, locals := 0 } : Room) s m #[(.int x0)] below meth c T locs 0 0) (eT : T.heap = h0) (NF : Fr n0 locs) (hr : f3_65 x0 = r), Go p e below s (Q3 x0 h0 n0) ({ frames := 0, cells := 0, slots := 0, locals := 0 } : Room).cells ({ frames := 0, cells := 0, slots := 0, locals := 0 } : Room).slots (T.setTop (mkF m 65 #[.val (.int x0), .val (.int x0)] [])) := by
    intro  T locs X eT NF hr
    unfold f3_65 at hr
    refine Go.step (S' := T.setTop (mkF m 66 #[.val (.int x0), .val (.int x0)] [(.int x0)])) (fun t k => XS.iloadN X.here hx rfl (hb hby d3_65) rfl k) ?_
    refine Go.step (S' := T.setTop (mkF m 69 #[.val (.int x0), .val (.int x0)] [(.int (216 : Int32)), (.int x0)])) (fun t k => XS.sipush X.here hx rfl (hb hby d3_66) k) ?_
    by_cases hc10 : x0 < (216 : Int32)
    · rw [if_pos hc10] at hr
      refine Go.step (S' := T.setTop (mkF m 79 #[.val (.int x0), .val (.int x0)] [])) (fun t k => XS.icmpYes X.here hx rfl (pc0 := 69) (pc' := 79) rfl (hb hby d3_69) rfl (tlt hc10).1 (by decide) (by decide) k) ?_
      exact B79  T _ X eT NF hr
    · rw [if_neg hc10] at hr
      refine Go.step (S' := T.setTop (mkF m 72 #[.val (.int x0), .val (.int x0)] [])) (fun t k => XS.icmpNo X.here hx rfl (hb hby d3_69) rfl (flt hc10).1 k) ?_
      refine Go.step (S' := T.setTop (mkF m 73 #[.val (.int x0), .val (.int x0)] [(.int x0)])) (fun t k => XS.iloadN X.here hx rfl (hb hby d3_72) rfl k) ?_
      refine Go.step (S' := T.setTop (mkF m 76 #[.val (.int x0), .val (.int x0)] [(.int (246 : Int32)), (.int x0)])) (fun t k => XS.sipush X.here hx rfl (hb hby d3_73) k) ?_
      by_cases hc11 : (246 : Int32) < x0
      · rw [if_pos hc11] at hr
        refine Go.step (S' := T.setTop (mkF m 79 #[.val (.int x0), .val (.int x0)] [])) (fun t k => XS.icmpNo X.here hx rfl (hb hby d3_76) rfl (tlt hc11).2.2.2 k) ?_
        exact B79  T _ X eT NF hr
      · rw [if_neg hc11] at hr
        refine Go.step (S' := T.setTop (mkF m 212 #[.val (.int x0), .val (.int x0)] [])) (fun t k => XS.icmpYes X.here hx rfl (pc0 := 76) (pc' := 212) rfl (hb hby d3_76) rfl (flt hc11).2.2.2 (by decide) (by decide) k) ?_
        refine Go.step (S' := T.setTop (mkF m 213 #[.val (.int x0), .val (.int x0)] [(.int (1 : Int32))])) (fun t k => XS.iconst X.here hx rfl (hb hby d3_212) k) ?_
        refine Go.step (S' := T.setTop (mkF m 217 #[.val (.int x0), .val (.int x0)] [(.int (1 : Int32))])) (fun t k => XS.goto X.here hx rfl (pc0 := 213) (pc' := 217) rfl (hb hby d3_213) (by decide) (by decide) k) ?_
        exact Go.retN X hx (t := .boolean) Bd.returns (by simp) Bd.notSynchronized (hb hby d3_217) ⟨by rw [hr0, ← hr]; first | done | rfl, NF, eT⟩ (by decide) (by decide)
  have B33 : ∀  (T : State) (locs : List Loc) (X : Stand p l e ({ frames := 0, cells := 0, slots := 0, locals := 0 } : Room) s m #[(.int x0)] below meth c T locs 0 0) (eT : T.heap = h0) (NF : Fr n0 locs) (hr : f3_33 x0 = r), Go p e below s (Q3 x0 h0 n0) ({ frames := 0, cells := 0, slots := 0, locals := 0 } : Room).cells ({ frames := 0, cells := 0, slots := 0, locals := 0 } : Room).slots (T.setTop (mkF m 33 #[.val (.int x0), .val (.int x0)] [])) := by
    intro  T locs X eT NF hr
    unfold f3_33 at hr
    refine Go.step (S' := T.setTop (mkF m 34 #[.val (.int x0), .val (.int x0)] [(.int x0)])) (fun t k => XS.iloadN X.here hx rfl (hb hby d3_33) rfl k) ?_
    refine Go.step (S' := T.setTop (mkF m 36 #[.val (.int x0), .val (.int x0)] [(.int (58 : Int32)), (.int x0)])) (fun t k => XS.bipush X.here hx rfl (hb hby d3_34) k) ?_
    by_cases hc8 : x0 = (58 : Int32)
    · rw [if_pos hc8] at hr
      refine Go.step (S' := T.setTop (mkF m 45 #[.val (.int x0), .val (.int x0)] [])) (fun t k => XS.icmpYes X.here hx rfl (pc0 := 36) (pc' := 45) rfl (hb hby d3_36) rfl (teq hc8).1 (by decide) (by decide) k) ?_
      refine Go.step (S' := T.setTop (mkF m 46 #[.val (.int x0), .val (.int x0)] [(.int (1 : Int32))])) (fun t k => XS.iconst X.here hx rfl (hb hby d3_45) k) ?_
      refine Go.step (S' := T.setTop (mkF m 50 #[.val (.int x0), .val (.int x0)] [(.int (1 : Int32))])) (fun t k => XS.goto X.here hx rfl (pc0 := 46) (pc' := 50) rfl (hb hby d3_46) (by decide) (by decide) k) ?_
      exact Go.retN X hx (t := .boolean) Bd.returns (by simp) Bd.notSynchronized (hb hby d3_50) ⟨by rw [hr0, ← hr]; first | done | rfl, NF, eT⟩ (by decide) (by decide)
    · rw [if_neg hc8] at hr
      refine Go.step (S' := T.setTop (mkF m 39 #[.val (.int x0), .val (.int x0)] [])) (fun t k => XS.icmpNo X.here hx rfl (hb hby d3_36) rfl (feq hc8).1 k) ?_
      refine Go.step (S' := T.setTop (mkF m 40 #[.val (.int x0), .val (.int x0)] [(.int x0)])) (fun t k => XS.iloadN X.here hx rfl (hb hby d3_39) rfl k) ?_
      refine Go.step (S' := T.setTop (mkF m 42 #[.val (.int x0), .val (.int x0)] [(.int (95 : Int32)), (.int x0)])) (fun t k => XS.bipush X.here hx rfl (hb hby d3_40) k) ?_
      by_cases hc9 : x0 = (95 : Int32)
      · rw [if_pos hc9] at hr
        refine Go.step (S' := T.setTop (mkF m 45 #[.val (.int x0), .val (.int x0)] [])) (fun t k => XS.icmpNo X.here hx rfl (hb hby d3_42) rfl (teq hc9).2 k) ?_
        refine Go.step (S' := T.setTop (mkF m 46 #[.val (.int x0), .val (.int x0)] [(.int (1 : Int32))])) (fun t k => XS.iconst X.here hx rfl (hb hby d3_45) k) ?_
        refine Go.step (S' := T.setTop (mkF m 50 #[.val (.int x0), .val (.int x0)] [(.int (1 : Int32))])) (fun t k => XS.goto X.here hx rfl (pc0 := 46) (pc' := 50) rfl (hb hby d3_46) (by decide) (by decide) k) ?_
        exact Go.retN X hx (t := .boolean) Bd.returns (by simp) Bd.notSynchronized (hb hby d3_50) ⟨by rw [hr0, ← hr]; first | done | rfl, NF, eT⟩ (by decide) (by decide)
      · rw [if_neg hc9] at hr
        refine Go.step (S' := T.setTop (mkF m 49 #[.val (.int x0), .val (.int x0)] [])) (fun t k => XS.icmpYes X.here hx rfl (pc0 := 42) (pc' := 49) rfl (hb hby d3_42) rfl (feq hc9).2 (by decide) (by decide) k) ?_
        refine Go.step (S' := T.setTop (mkF m 50 #[.val (.int x0), .val (.int x0)] [(.int (0 : Int32))])) (fun t k => XS.iconst X.here hx rfl (hb hby d3_49) k) ?_
        exact Go.retN X hx (t := .boolean) Bd.returns (by simp) Bd.notSynchronized (hb hby d3_50) ⟨by rw [hr0, ← hr]; first | done | rfl, NF, eT⟩ (by decide) (by decide)
  have B21 : ∀  (T : State) (locs : List Loc) (X : Stand p l e ({ frames := 0, cells := 0, slots := 0, locals := 0 } : Room) s m #[(.int x0)] below meth c T locs 0 0) (eT : T.heap = h0) (NF : Fr n0 locs) (hr : f3_21 x0 = r), Go p e below s (Q3 x0 h0 n0) ({ frames := 0, cells := 0, slots := 0, locals := 0 } : Room).cells ({ frames := 0, cells := 0, slots := 0, locals := 0 } : Room).slots (T.setTop (mkF m 21 #[.val (.int x0), .val (.int x0)] [])) := by
    intro  T locs X eT NF hr
    unfold f3_21 at hr
    refine Go.step (S' := T.setTop (mkF m 22 #[.val (.int x0), .val (.int x0)] [(.int x0)])) (fun t k => XS.iloadN X.here hx rfl (hb hby d3_21) rfl k) ?_
    refine Go.step (S' := T.setTop (mkF m 24 #[.val (.int x0), .val (.int x0)] [(.int (65 : Int32)), (.int x0)])) (fun t k => XS.bipush X.here hx rfl (hb hby d3_22) k) ?_
    by_cases hc6 : x0 < (65 : Int32)
    · rw [if_pos hc6] at hr
      refine Go.step (S' := T.setTop (mkF m 33 #[.val (.int x0), .val (.int x0)] [])) (fun t k => XS.icmpYes X.here hx rfl (pc0 := 24) (pc' := 33) rfl (hb hby d3_24) rfl (tlt hc6).1 (by decide) (by decide) k) ?_
      exact B33  T _ X eT NF hr
    · rw [if_neg hc6] at hr
      refine Go.step (S' := T.setTop (mkF m 27 #[.val (.int x0), .val (.int x0)] [])) (fun t k => XS.icmpNo X.here hx rfl (hb hby d3_24) rfl (flt hc6).1 k) ?_
      refine Go.step (S' := T.setTop (mkF m 28 #[.val (.int x0), .val (.int x0)] [(.int x0)])) (fun t k => XS.iloadN X.here hx rfl (hb hby d3_27) rfl k) ?_
      refine Go.step (S' := T.setTop (mkF m 30 #[.val (.int x0), .val (.int x0)] [(.int (90 : Int32)), (.int x0)])) (fun t k => XS.bipush X.here hx rfl (hb hby d3_28) k) ?_
      by_cases hc7 : (90 : Int32) < x0
      · rw [if_pos hc7] at hr
        refine Go.step (S' := T.setTop (mkF m 33 #[.val (.int x0), .val (.int x0)] [])) (fun t k => XS.icmpNo X.here hx rfl (hb hby d3_30) rfl (tlt hc7).2.2.2 k) ?_
        exact B33  T _ X eT NF hr
      · rw [if_neg hc7] at hr
        refine Go.step (S' := T.setTop (mkF m 45 #[.val (.int x0), .val (.int x0)] [])) (fun t k => XS.icmpYes X.here hx rfl (pc0 := 30) (pc' := 45) rfl (hb hby d3_30) rfl (flt hc7).2.2.2 (by decide) (by decide) k) ?_
        refine Go.step (S' := T.setTop (mkF m 46 #[.val (.int x0), .val (.int x0)] [(.int (1 : Int32))])) (fun t k => XS.iconst X.here hx rfl (hb hby d3_45) k) ?_
        refine Go.step (S' := T.setTop (mkF m 50 #[.val (.int x0), .val (.int x0)] [(.int (1 : Int32))])) (fun t k => XS.goto X.here hx rfl (pc0 := 46) (pc' := 50) rfl (hb hby d3_46) (by decide) (by decide) k) ?_
        exact Go.retN X hx (t := .boolean) Bd.returns (by simp) Bd.notSynchronized (hb hby d3_50) ⟨by rw [hr0, ← hr]; first | done | rfl, NF, eT⟩ (by decide) (by decide)
  have B0 : ∀  (T : State) (locs : List Loc) (X : Stand p l e ({ frames := 0, cells := 0, slots := 0, locals := 0 } : Room) s m #[(.int x0)] below meth c T locs 0 0) (eT : T.heap = h0) (NF : Fr n0 locs) (hr : f3 x0 = r), Go p e below s (Q3 x0 h0 n0) ({ frames := 0, cells := 0, slots := 0, locals := 0 } : Room).cells ({ frames := 0, cells := 0, slots := 0, locals := 0 } : Room).slots (T.setTop (mkF m 0 #[.val (.int x0), .unset] [])) := by
    intro  T locs X eT NF hr
    unfold f3 at hr
    refine Go.step (S' := T.setTop (mkF m 1 #[.val (.int x0), .unset] [(.int x0)])) (fun t k => XS.iloadN X.here hx rfl (hb hby d3_0) rfl k) ?_
    refine Go.step (S' := T.setTop (mkF m 2 #[.val (.int x0), .val (.int x0)] [])) (fun t k => XS.istoreN X.here hx rfl (hb hby d3_1) rfl (l' := #[.val (.int x0), .val (.int x0)]) rfl k) ?_
    refine Go.step (S' := T.setTop (mkF m 3 #[.val (.int x0), .val (.int x0)] [(.int x0)])) (fun t k => XS.iloadN X.here hx rfl (hb hby d3_2) rfl k) ?_
    refine Go.step (S' := T.setTop (mkF m 6 #[.val (.int x0), .val (.int x0)] [(.int (128 : Int32)), (.int x0)])) (fun t k => XS.sipush X.here hx rfl (hb hby d3_3) k) ?_
    by_cases hc1 : x0 < (128 : Int32)
    · rw [if_pos hc1] at hr
      refine Go.step (S' := T.setTop (mkF m 9 #[.val (.int x0), .val (.int x0)] [])) (fun t k => XS.icmpNo X.here hx rfl (hb hby d3_6) rfl (tlt hc1).2.1 k) ?_
      refine Go.step (S' := T.setTop (mkF m 10 #[.val (.int x0), .val (.int x0)] [(.int x0)])) (fun t k => XS.iloadN X.here hx rfl (hb hby d3_9) rfl k) ?_
      refine Go.step (S' := T.setTop (mkF m 12 #[.val (.int x0), .val (.int x0)] [(.int (97 : Int32)), (.int x0)])) (fun t k => XS.bipush X.here hx rfl (hb hby d3_10) k) ?_
      by_cases hc2 : x0 < (97 : Int32)
      · rw [if_pos hc2] at hr
        refine Go.step (S' := T.setTop (mkF m 21 #[.val (.int x0), .val (.int x0)] [])) (fun t k => XS.icmpYes X.here hx rfl (pc0 := 12) (pc' := 21) rfl (hb hby d3_12) rfl (tlt hc2).1 (by decide) (by decide) k) ?_
        exact B21  T _ X eT NF hr
      · rw [if_neg hc2] at hr
        refine Go.step (S' := T.setTop (mkF m 15 #[.val (.int x0), .val (.int x0)] [])) (fun t k => XS.icmpNo X.here hx rfl (hb hby d3_12) rfl (flt hc2).1 k) ?_
        refine Go.step (S' := T.setTop (mkF m 16 #[.val (.int x0), .val (.int x0)] [(.int x0)])) (fun t k => XS.iloadN X.here hx rfl (hb hby d3_15) rfl k) ?_
        refine Go.step (S' := T.setTop (mkF m 18 #[.val (.int x0), .val (.int x0)] [(.int (122 : Int32)), (.int x0)])) (fun t k => XS.bipush X.here hx rfl (hb hby d3_16) k) ?_
        by_cases hc3 : (122 : Int32) < x0
        · rw [if_pos hc3] at hr
          refine Go.step (S' := T.setTop (mkF m 21 #[.val (.int x0), .val (.int x0)] [])) (fun t k => XS.icmpNo X.here hx rfl (hb hby d3_18) rfl (tlt hc3).2.2.2 k) ?_
          exact B21  T _ X eT NF hr
        · rw [if_neg hc3] at hr
          refine Go.step (S' := T.setTop (mkF m 45 #[.val (.int x0), .val (.int x0)] [])) (fun t k => XS.icmpYes X.here hx rfl (pc0 := 18) (pc' := 45) rfl (hb hby d3_18) rfl (flt hc3).2.2.2 (by decide) (by decide) k) ?_
          refine Go.step (S' := T.setTop (mkF m 46 #[.val (.int x0), .val (.int x0)] [(.int (1 : Int32))])) (fun t k => XS.iconst X.here hx rfl (hb hby d3_45) k) ?_
          refine Go.step (S' := T.setTop (mkF m 50 #[.val (.int x0), .val (.int x0)] [(.int (1 : Int32))])) (fun t k => XS.goto X.here hx rfl (pc0 := 46) (pc' := 50) rfl (hb hby d3_46) (by decide) (by decide) k) ?_
          exact Go.retN X hx (t := .boolean) Bd.returns (by simp) Bd.notSynchronized (hb hby d3_50) ⟨by rw [hr0, ← hr]; first | done | rfl, NF, eT⟩ (by decide) (by decide)
    · rw [if_neg hc1] at hr
      refine Go.step (S' := T.setTop (mkF m 51 #[.val (.int x0), .val (.int x0)] [])) (fun t k => XS.icmpYes X.here hx rfl (pc0 := 6) (pc' := 51) rfl (hb hby d3_6) rfl (flt hc1).2.1 (by decide) (by decide) k) ?_
      refine Go.step (S' := T.setTop (mkF m 52 #[.val (.int x0), .val (.int x0)] [(.int x0)])) (fun t k => XS.iloadN X.here hx rfl (hb hby d3_51) rfl k) ?_
      refine Go.step (S' := T.setTop (mkF m 55 #[.val (.int x0), .val (.int x0)] [(.int (192 : Int32)), (.int x0)])) (fun t k => XS.sipush X.here hx rfl (hb hby d3_52) k) ?_
      by_cases hc4 : x0 < (192 : Int32)
      · rw [if_pos hc4] at hr
        refine Go.step (S' := T.setTop (mkF m 65 #[.val (.int x0), .val (.int x0)] [])) (fun t k => XS.icmpYes X.here hx rfl (pc0 := 55) (pc' := 65) rfl (hb hby d3_55) rfl (tlt hc4).1 (by decide) (by decide) k) ?_
        exact B65  T _ X eT NF hr
      · rw [if_neg hc4] at hr
        refine Go.step (S' := T.setTop (mkF m 58 #[.val (.int x0), .val (.int x0)] [])) (fun t k => XS.icmpNo X.here hx rfl (hb hby d3_55) rfl (flt hc4).1 k) ?_
        refine Go.step (S' := T.setTop (mkF m 59 #[.val (.int x0), .val (.int x0)] [(.int x0)])) (fun t k => XS.iloadN X.here hx rfl (hb hby d3_58) rfl k) ?_
        refine Go.step (S' := T.setTop (mkF m 62 #[.val (.int x0), .val (.int x0)] [(.int (214 : Int32)), (.int x0)])) (fun t k => XS.sipush X.here hx rfl (hb hby d3_59) k) ?_
        by_cases hc5 : (214 : Int32) < x0
        · rw [if_pos hc5] at hr
          refine Go.step (S' := T.setTop (mkF m 65 #[.val (.int x0), .val (.int x0)] [])) (fun t k => XS.icmpNo X.here hx rfl (hb hby d3_62) rfl (tlt hc5).2.2.2 k) ?_
          exact B65  T _ X eT NF hr
        · rw [if_neg hc5] at hr
          refine Go.step (S' := T.setTop (mkF m 212 #[.val (.int x0), .val (.int x0)] [])) (fun t k => XS.icmpYes X.here hx rfl (pc0 := 62) (pc' := 212) rfl (hb hby d3_62) rfl (flt hc5).2.2.2 (by decide) (by decide) k) ?_
          refine Go.step (S' := T.setTop (mkF m 213 #[.val (.int x0), .val (.int x0)] [(.int (1 : Int32))])) (fun t k => XS.iconst X.here hx rfl (hb hby d3_212) k) ?_
          refine Go.step (S' := T.setTop (mkF m 217 #[.val (.int x0), .val (.int x0)] [(.int (1 : Int32))])) (fun t k => XS.goto X.here hx rfl (pc0 := 213) (pc' := 217) rfl (hb hby d3_213) (by decide) (by decide) k) ?_
          exact Go.retN X hx (t := .boolean) Bd.returns (by simp) Bd.notSynchronized (hb hby d3_217) ⟨by rw [hr0, ← hr]; first | done | rfl, NF, eT⟩ (by decide) (by decide)
  show Go p e below s (Q3 x0 h0 n0) ({ frames := 0, cells := 0, slots := 0, locals := 0 } : Room).cells ({ frames := 0, cells := 0, slots := 0, locals := 0 } : Room).slots (s₁.setTop (entryFrame m #[(.int x0)] 2))
  rw [ef3]
  exact B0 s₁ [] X0 e0 (Fr.nil n0) hr0
theorem pd2 : parseMethodDescriptor "(II)Z" = some ⟨[.int, .int], some .boolean⟩ := by decide +kernel
theorem ef0 (m : MethodId) (x0 : Int32) (x1 : Int32) : entryFrame m #[(.int x0), (.int x1)] maxLocals = mkF m 0 #[.val (.int x0), .val (.int x1), .unset, .unset, .unset] [] := by first | (simp [entryFrame, mkF, argsToLocals, Value.category, maxLocals]; done) | rfl
def f0_57 (x0 : Int32) (x1 : Int32) (l3_57 : Int32) (s0_57 : Int32) : Int32 := (if (f3 l3_57) = s0_57 then (1 : Int32) else (0 : Int32))
def f0_45 (x0 : Int32) (x1 : Int32) (l3_45 : Int32) : Int32 := (if (f1 l3_45) = (0 : Int32) then (f0_57 x0 x1 l3_45 (1 : Int32)) else (f0_57 x0 x1 l3_45 (0 : Int32)))
def f0 (x0 : Int32) (x1 : Int32) : Int32 := (if (x1 &&& (3 : Int32)) = (0 : Int32) then (f0_45 x0 x1 x0) else (if (x1 &&& (3 : Int32)) = (1 : Int32) then (f0_45 x0 x1 (x0 &&& (255 : Int32))) else (if (x1 &&& (3 : Int32)) = (2 : Int32) then (f0_45 x0 x1 (x0 &&& (65535 : Int32))) else (f0_45 x0 x1 (x0 &&& (2097151 : Int32))))))
def Q0 (x0 : Int32) (x1 : Int32) (h0 : Heap) (n0 : Nat) (v : Option Value) (h : Heap) (L : List Loc) : Prop := v = some (.int (f0 x0 x1)) ∧ Fr n0 L ∧ h = h0
set_option maxRecDepth 65536 in
set_option maxHeartbeats 40000000 in
theorem rm0 (l : Launch) (Z : State) (a0 : Array Value) (hw : ∀ d ∈ tables_1, d.before a0 Z = true) (ws : List Jvm.Cond) (x0 : Int32) (x1 : Int32) (h0 : Heap) (n0 : Nat) (Z0 : n0 ≤ h0.size) :
    MetFree l x (head1 (Jvm.Cond.code x code maxLocals ret :: ws) room_1) (fun a U => a = #[(.int x0), (.int x1)] ∧ Z.Warmed39 U.vm ∧ U.heap = h0) (fun _ _ _ _ _ => True) (fun _ U o U' => ∃ v L, o = .returned v ∧ Q0 x0 x1 h0 n0 v U'.heap L ∧ FrameEnd U o U' L room_1.cells room_1.slots) := by
  refine MetFree.of_bodySF (plainFor_of_name pn0) hisR ?_
  intro p e s m args below meth c s₁ Bd hml0 hP hK
  obtain ⟨rfl, hZ, hh⟩ := hP
  have hx := Bd.exec
  have hby := Bd.bytes
  have hml : c.maxLocals = 5 := hml0
  have hown : s.vm.findClass "com/example/tessera/tessera/model/NameIsStartCharacterPinLaw" = some m.cls := findClass_of_methodNamed Bd.named
  have X0 : Stand p l e room_1 s m #[(.int x0), (.int x1)] below meth c s₁ [] 0 0 := Stand.of_body Bd
  have e0 : s₁.heap = h0 := by rw [← hh, Bd.state]; rfl
  obtain ⟨r, hr0⟩ : ∃ r, f0 x0 x1 = r := ⟨_, rfl⟩
  have B57 : ∀ (l3_57 : Int32) (s0_57 : Int32) (T : State) (locs : List Loc) (X : Stand p l e room_1 s m #[(.int x0), (.int x1)] below meth c T locs 0 0) (eT : T.heap = h0) (NF : Fr n0 locs) (hr : f0_57 x0 x1 l3_57 s0_57 = r), Go p e below s (Q0 x0 x1 h0 n0) room_1.cells room_1.slots (T.setTop (mkF m 57 #[.val (.int x0), .val (.int x1), .val (.int (x1 &&& (3 : Int32))), .val (.int l3_57), .unset] [(.int s0_57)])) := by
    intro l3_57 s0_57 T locs X eT NF hr
    unfold f0_57 at hr
    refine Go.step (S' := T.setTop (mkF m 59 #[.val (.int x0), .val (.int x1), .val (.int (x1 &&& (3 : Int32))), .val (.int l3_57), .val (.int s0_57)] [])) (fun t k => XS.istore X.here hx rfl (hb hby at_57) rfl (l' := #[.val (.int x0), .val (.int x1), .val (.int (x1 &&& (3 : Int32))), .val (.int l3_57), .val (.int s0_57)]) rfl k) ?_
    refine Go.step (S' := T.setTop (mkF m 60 #[.val (.int x0), .val (.int x1), .val (.int (x1 &&& (3 : Int32))), .val (.int l3_57), .val (.int s0_57)] [(.int l3_57)])) (fun t k => XS.iloadN X.here hx rfl (hb hby at_59) rfl k) ?_
    obtain ⟨_, _, ⟨T6, L6, k6, n6⟩, -, X6, ⟨Lc6, hQ6, l6, y6, z6⟩, st6⟩ := Jvm.LawKit.callS X hx (y := (⟨"com/example/tessera/tessera/model/Name", "isStartCharacter", "(I)Z"⟩ : MethodName)) hown (mvT hZ (hw _ (List.mem_of_getElem? (i := 9) rfl))) (mvT hZ (hw _ (List.mem_of_getElem? (i := 10) rfl))) (mvT hZ (hw _ (List.mem_of_getElem? (i := 11) rfl))) (mvT hZ (hw _ (List.mem_of_getElem? (i := 12) rfl))) (by decide) (backOf (W := 0) (rm3 l Z a0 hw [] l3_57 h0 n0 Z0) hZ (hw _ (List.mem_of_getElem? (i := 12) rfl)) (hw _ (List.mem_of_getElem? (i := 11) rfl)) (by decide) (by decide)) (g := (mkF m 60 #[.val (.int x0), .val (.int x1), .val (.int (x1 &&& (3 : Int32))), .val (.int l3_57), .val (.int s0_57)] [(.int l3_57)])) rfl (by rw [hml]; rfl) (argsL := [(.int l3_57)]) (rest := []) (lenOf pd1 rfl) rfl (by show 2 * 0 + _ ≤ _; exact Nat.le_of_eq rfl) (hb hby at_60) (fun _ _ => ⟨rfl, eT, (by decide : 0 + 0 ≤ _), (by decide : 0 + 0 ≤ _)⟩)
    dsimp only [Pt.U, Pt.locs, Pt.cells, Pt.slots] at X6 l6 y6 z6 st6 hQ6
    subst l6 y6 z6
    obtain ⟨rfl, Nq6, e6⟩ := hQ6
    have N6 := Fr.app NF Nq6
    refine Go.step (S' := T6.setTop (mkF m 63 #[.val (.int x0), .val (.int x1), .val (.int (x1 &&& (3 : Int32))), .val (.int l3_57), .val (.int s0_57)] [(.int (f3 l3_57))])) (fun t k => st6 t k) ?_
    refine Go.step (S' := T6.setTop (mkF m 65 #[.val (.int x0), .val (.int x1), .val (.int (x1 &&& (3 : Int32))), .val (.int l3_57), .val (.int s0_57)] [(.int s0_57), (.int (f3 l3_57))])) (fun t k => XS.iload X6.here hx rfl (hb hby at_63) rfl k) ?_
    by_cases hc7 : (f3 l3_57) = s0_57
    · rw [if_pos hc7] at hr
      refine Go.step (S' := T6.setTop (mkF m 68 #[.val (.int x0), .val (.int x1), .val (.int (x1 &&& (3 : Int32))), .val (.int l3_57), .val (.int s0_57)] [])) (fun t k => XS.icmpNo X6.here hx rfl (hb hby at_65) rfl (teq hc7).2 k) ?_
      refine Go.step (S' := T6.setTop (mkF m 69 #[.val (.int x0), .val (.int x1), .val (.int (x1 &&& (3 : Int32))), .val (.int l3_57), .val (.int s0_57)] [(.int (1 : Int32))])) (fun t k => XS.iconst X6.here hx rfl (hb hby at_68) k) ?_
      refine Go.step (S' := T6.setTop (mkF m 73 #[.val (.int x0), .val (.int x1), .val (.int (x1 &&& (3 : Int32))), .val (.int l3_57), .val (.int s0_57)] [(.int (1 : Int32))])) (fun t k => XS.goto X6.here hx rfl (pc0 := 69) (pc' := 73) rfl (hb hby at_69) (by decide) (by decide) k) ?_
      exact Go.retN X6 hx (t := .boolean) Bd.returns (by simp) Bd.notSynchronized (hb hby at_73) ⟨by rw [hr0, ← hr]; first | done | rfl, N6, e6⟩ (by decide) (by decide)
    · rw [if_neg hc7] at hr
      refine Go.step (S' := T6.setTop (mkF m 72 #[.val (.int x0), .val (.int x1), .val (.int (x1 &&& (3 : Int32))), .val (.int l3_57), .val (.int s0_57)] [])) (fun t k => XS.icmpYes X6.here hx rfl (pc0 := 65) (pc' := 72) rfl (hb hby at_65) rfl (feq hc7).2 (by decide) (by decide) k) ?_
      refine Go.step (S' := T6.setTop (mkF m 73 #[.val (.int x0), .val (.int x1), .val (.int (x1 &&& (3 : Int32))), .val (.int l3_57), .val (.int s0_57)] [(.int (0 : Int32))])) (fun t k => XS.iconst X6.here hx rfl (hb hby at_72) k) ?_
      exact Go.retN X6 hx (t := .boolean) Bd.returns (by simp) Bd.notSynchronized (hb hby at_73) ⟨by rw [hr0, ← hr]; first | done | rfl, N6, e6⟩ (by decide) (by decide)
  have B45 : ∀ (l3_45 : Int32) (T : State) (locs : List Loc) (X : Stand p l e room_1 s m #[(.int x0), (.int x1)] below meth c T locs 0 0) (eT : T.heap = h0) (NF : Fr n0 locs) (hr : f0_45 x0 x1 l3_45 = r), Go p e below s (Q0 x0 x1 h0 n0) room_1.cells room_1.slots (T.setTop (mkF m 45 #[.val (.int x0), .val (.int x1), .val (.int (x1 &&& (3 : Int32))), .val (.int l3_45), .unset] [])) := by
    intro l3_45 T locs X eT NF hr
    unfold f0_45 at hr
    refine Go.step (S' := T.setTop (mkF m 46 #[.val (.int x0), .val (.int x1), .val (.int (x1 &&& (3 : Int32))), .val (.int l3_45), .unset] [(.int l3_45)])) (fun t k => XS.iloadN X.here hx rfl (hb hby at_45) rfl k) ?_
    obtain ⟨_, _, ⟨T4, L4, k4, n4⟩, -, X4, ⟨Lc4, hQ4, l4, y4, z4⟩, st4⟩ := Jvm.LawKit.callS X hx (y := (⟨"com/example/tessera/tessera/model/NameIsStartCharacterPinLaw", "inGap", "(I)Z"⟩ : MethodName)) hown (mvT hZ (hw _ (List.mem_of_getElem? (i := 1) rfl))) (mvT hZ (hw _ (List.mem_of_getElem? (i := 2) rfl))) (mvT hZ (hw _ (List.mem_of_getElem? (i := 3) rfl))) (mvT hZ (hw _ (List.mem_of_getElem? (i := 4) rfl))) (by decide) (backOf (W := 0) (rm1 l Z a0 hw [] l3_45 h0 n0 Z0) hZ (hw _ (List.mem_of_getElem? (i := 4) rfl)) (hw _ (List.mem_of_getElem? (i := 3) rfl)) (by decide) (by decide)) (g := (mkF m 46 #[.val (.int x0), .val (.int x1), .val (.int (x1 &&& (3 : Int32))), .val (.int l3_45), .unset] [(.int l3_45)])) rfl (by rw [hml]; rfl) (argsL := [(.int l3_45)]) (rest := []) (lenOf pd1 rfl) rfl (by show 2 * 0 + _ ≤ _; exact Nat.le_of_eq rfl) (hb hby at_46) (fun _ _ => ⟨rfl, eT, (by decide : 0 + 0 ≤ _), (by decide : 0 + 0 ≤ _)⟩)
    dsimp only [Pt.U, Pt.locs, Pt.cells, Pt.slots] at X4 l4 y4 z4 st4 hQ4
    subst l4 y4 z4
    obtain ⟨rfl, Nq4, e4⟩ := hQ4
    have N4 := Fr.app NF Nq4
    refine Go.step (S' := T4.setTop (mkF m 49 #[.val (.int x0), .val (.int x1), .val (.int (x1 &&& (3 : Int32))), .val (.int l3_45), .unset] [(.int (f1 l3_45))])) (fun t k => st4 t k) ?_
    by_cases hc5 : (f1 l3_45) = (0 : Int32)
    · rw [if_pos hc5] at hr
      refine Go.step (S' := T4.setTop (mkF m 52 #[.val (.int x0), .val (.int x1), .val (.int (x1 &&& (3 : Int32))), .val (.int l3_45), .unset] [])) (fun t k => XS.ifNo X4.here hx rfl (hb hby at_49) rfl ((if0 _ _).trans (teq hc5).2) k) ?_
      refine Go.step (S' := T4.setTop (mkF m 53 #[.val (.int x0), .val (.int x1), .val (.int (x1 &&& (3 : Int32))), .val (.int l3_45), .unset] [(.int (1 : Int32))])) (fun t k => XS.iconst X4.here hx rfl (hb hby at_52) k) ?_
      refine Go.step (S' := T4.setTop (mkF m 57 #[.val (.int x0), .val (.int x1), .val (.int (x1 &&& (3 : Int32))), .val (.int l3_45), .unset] [(.int (1 : Int32))])) (fun t k => XS.goto X4.here hx rfl (pc0 := 53) (pc' := 57) rfl (hb hby at_53) (by decide) (by decide) k) ?_
      exact B57 (l3_45) ((1 : Int32)) T4 _ X4 e4 N4 hr
    · rw [if_neg hc5] at hr
      refine Go.step (S' := T4.setTop (mkF m 56 #[.val (.int x0), .val (.int x1), .val (.int (x1 &&& (3 : Int32))), .val (.int l3_45), .unset] [])) (fun t k => XS.ifYes X4.here hx rfl (pc0 := 49) (pc' := 56) rfl (hb hby at_49) rfl ((if0 _ _).trans (feq hc5).2) (by decide) (by decide) k) ?_
      refine Go.step (S' := T4.setTop (mkF m 57 #[.val (.int x0), .val (.int x1), .val (.int (x1 &&& (3 : Int32))), .val (.int l3_45), .unset] [(.int (0 : Int32))])) (fun t k => XS.iconst X4.here hx rfl (hb hby at_56) k) ?_
      exact B57 (l3_45) ((0 : Int32)) T4 _ X4 e4 N4 hr
  have B0 : ∀  (T : State) (locs : List Loc) (X : Stand p l e room_1 s m #[(.int x0), (.int x1)] below meth c T locs 0 0) (eT : T.heap = h0) (NF : Fr n0 locs) (hr : f0 x0 x1 = r), Go p e below s (Q0 x0 x1 h0 n0) room_1.cells room_1.slots (T.setTop (mkF m 0 #[.val (.int x0), .val (.int x1), .unset, .unset, .unset] [])) := by
    intro  T locs X eT NF hr
    unfold f0 at hr
    refine Go.step (S' := T.setTop (mkF m 1 #[.val (.int x0), .val (.int x1), .unset, .unset, .unset] [(.int x1)])) (fun t k => XS.iloadN X.here hx rfl (hb hby at_0) rfl k) ?_
    refine Go.step (S' := T.setTop (mkF m 2 #[.val (.int x0), .val (.int x1), .unset, .unset, .unset] [(.int (3 : Int32)), (.int x1)])) (fun t k => XS.iconst X.here hx rfl (hb hby at_1) k) ?_
    refine Go.step (S' := T.setTop (mkF m 3 #[.val (.int x0), .val (.int x1), .unset, .unset, .unset] [(.int (x1 &&& (3 : Int32)))])) (fun t k => XS.iand X.here hx rfl (hb hby at_2) rfl k) ?_
    refine Go.step (S' := T.setTop (mkF m 4 #[.val (.int x0), .val (.int x1), .val (.int (x1 &&& (3 : Int32))), .unset, .unset] [])) (fun t k => XS.istoreN X.here hx rfl (hb hby at_3) rfl (l' := #[.val (.int x0), .val (.int x1), .val (.int (x1 &&& (3 : Int32))), .unset, .unset]) rfl k) ?_
    refine Go.step (S' := T.setTop (mkF m 5 #[.val (.int x0), .val (.int x1), .val (.int (x1 &&& (3 : Int32))), .unset, .unset] [(.int (x1 &&& (3 : Int32)))])) (fun t k => XS.iloadN X.here hx rfl (hb hby at_4) rfl k) ?_
    by_cases hc1 : (x1 &&& (3 : Int32)) = (0 : Int32)
    · rw [if_pos hc1] at hr
      refine Go.step (S' := T.setTop (mkF m 8 #[.val (.int x0), .val (.int x1), .val (.int (x1 &&& (3 : Int32))), .unset, .unset] [])) (fun t k => XS.ifNo X.here hx rfl (hb hby at_5) rfl ((if0 _ _).trans (teq hc1).2) k) ?_
      refine Go.step (S' := T.setTop (mkF m 9 #[.val (.int x0), .val (.int x1), .val (.int (x1 &&& (3 : Int32))), .unset, .unset] [(.int x0)])) (fun t k => XS.iloadN X.here hx rfl (hb hby at_8) rfl k) ?_
      refine Go.step (S' := T.setTop (mkF m 10 #[.val (.int x0), .val (.int x1), .val (.int (x1 &&& (3 : Int32))), .val (.int x0), .unset] [])) (fun t k => XS.istoreN X.here hx rfl (hb hby at_9) rfl (l' := #[.val (.int x0), .val (.int x1), .val (.int (x1 &&& (3 : Int32))), .val (.int x0), .unset]) rfl k) ?_
      refine Go.step (S' := T.setTop (mkF m 45 #[.val (.int x0), .val (.int x1), .val (.int (x1 &&& (3 : Int32))), .val (.int x0), .unset] [])) (fun t k => XS.goto X.here hx rfl (pc0 := 10) (pc' := 45) rfl (hb hby at_10) (by decide) (by decide) k) ?_
      exact B45 (x0) T _ X eT NF hr
    · rw [if_neg hc1] at hr
      refine Go.step (S' := T.setTop (mkF m 13 #[.val (.int x0), .val (.int x1), .val (.int (x1 &&& (3 : Int32))), .unset, .unset] [])) (fun t k => XS.ifYes X.here hx rfl (pc0 := 5) (pc' := 13) rfl (hb hby at_5) rfl ((if0 _ _).trans (feq hc1).2) (by decide) (by decide) k) ?_
      refine Go.step (S' := T.setTop (mkF m 14 #[.val (.int x0), .val (.int x1), .val (.int (x1 &&& (3 : Int32))), .unset, .unset] [(.int (x1 &&& (3 : Int32)))])) (fun t k => XS.iloadN X.here hx rfl (hb hby at_13) rfl k) ?_
      refine Go.step (S' := T.setTop (mkF m 15 #[.val (.int x0), .val (.int x1), .val (.int (x1 &&& (3 : Int32))), .unset, .unset] [(.int (1 : Int32)), (.int (x1 &&& (3 : Int32)))])) (fun t k => XS.iconst X.here hx rfl (hb hby at_14) k) ?_
      by_cases hc2 : (x1 &&& (3 : Int32)) = (1 : Int32)
      · rw [if_pos hc2] at hr
        refine Go.step (S' := T.setTop (mkF m 18 #[.val (.int x0), .val (.int x1), .val (.int (x1 &&& (3 : Int32))), .unset, .unset] [])) (fun t k => XS.icmpNo X.here hx rfl (hb hby at_15) rfl (teq hc2).2 k) ?_
        refine Go.step (S' := T.setTop (mkF m 19 #[.val (.int x0), .val (.int x1), .val (.int (x1 &&& (3 : Int32))), .unset, .unset] [(.int x0)])) (fun t k => XS.iloadN X.here hx rfl (hb hby at_18) rfl k) ?_
        refine Go.step (S' := T.setTop (mkF m 22 #[.val (.int x0), .val (.int x1), .val (.int (x1 &&& (3 : Int32))), .unset, .unset] [(.int (255 : Int32)), (.int x0)])) (fun t k => XS.sipush X.here hx rfl (hb hby at_19) k) ?_
        refine Go.step (S' := T.setTop (mkF m 23 #[.val (.int x0), .val (.int x1), .val (.int (x1 &&& (3 : Int32))), .unset, .unset] [(.int (x0 &&& (255 : Int32)))])) (fun t k => XS.iand X.here hx rfl (hb hby at_22) rfl k) ?_
        refine Go.step (S' := T.setTop (mkF m 24 #[.val (.int x0), .val (.int x1), .val (.int (x1 &&& (3 : Int32))), .val (.int (x0 &&& (255 : Int32))), .unset] [])) (fun t k => XS.istoreN X.here hx rfl (hb hby at_23) rfl (l' := #[.val (.int x0), .val (.int x1), .val (.int (x1 &&& (3 : Int32))), .val (.int (x0 &&& (255 : Int32))), .unset]) rfl k) ?_
        refine Go.step (S' := T.setTop (mkF m 45 #[.val (.int x0), .val (.int x1), .val (.int (x1 &&& (3 : Int32))), .val (.int (x0 &&& (255 : Int32))), .unset] [])) (fun t k => XS.goto X.here hx rfl (pc0 := 24) (pc' := 45) rfl (hb hby at_24) (by decide) (by decide) k) ?_
        exact B45 ((x0 &&& (255 : Int32))) T _ X eT NF hr
      · rw [if_neg hc2] at hr
        refine Go.step (S' := T.setTop (mkF m 27 #[.val (.int x0), .val (.int x1), .val (.int (x1 &&& (3 : Int32))), .unset, .unset] [])) (fun t k => XS.icmpYes X.here hx rfl (pc0 := 15) (pc' := 27) rfl (hb hby at_15) rfl (feq hc2).2 (by decide) (by decide) k) ?_
        refine Go.step (S' := T.setTop (mkF m 28 #[.val (.int x0), .val (.int x1), .val (.int (x1 &&& (3 : Int32))), .unset, .unset] [(.int (x1 &&& (3 : Int32)))])) (fun t k => XS.iloadN X.here hx rfl (hb hby at_27) rfl k) ?_
        refine Go.step (S' := T.setTop (mkF m 29 #[.val (.int x0), .val (.int x1), .val (.int (x1 &&& (3 : Int32))), .unset, .unset] [(.int (2 : Int32)), (.int (x1 &&& (3 : Int32)))])) (fun t k => XS.iconst X.here hx rfl (hb hby at_28) k) ?_
        by_cases hc3 : (x1 &&& (3 : Int32)) = (2 : Int32)
        · rw [if_pos hc3] at hr
          refine Go.step (S' := T.setTop (mkF m 32 #[.val (.int x0), .val (.int x1), .val (.int (x1 &&& (3 : Int32))), .unset, .unset] [])) (fun t k => XS.icmpNo X.here hx rfl (hb hby at_29) rfl (teq hc3).2 k) ?_
          refine Go.step (S' := T.setTop (mkF m 33 #[.val (.int x0), .val (.int x1), .val (.int (x1 &&& (3 : Int32))), .unset, .unset] [(.int x0)])) (fun t k => XS.iloadN X.here hx rfl (hb hby at_32) rfl k) ?_
          refine Go.step (S' := T.setTop (mkF m 35 #[.val (.int x0), .val (.int x1), .val (.int (x1 &&& (3 : Int32))), .unset, .unset] [(.int (65535 : Int32)), (.int x0)])) (fun t k => X.ldcInt hx hown (mvT hZ (hw _ (List.mem_of_getElem? (i := 18) rfl))) (g := (mkF m 33 #[.val (.int x0), .val (.int x1), .val (.int (x1 &&& (3 : Int32))), .unset, .unset] [(.int x0)])) rfl (hb hby at_33) _ k) ?_
          refine Go.step (S' := T.setTop (mkF m 36 #[.val (.int x0), .val (.int x1), .val (.int (x1 &&& (3 : Int32))), .unset, .unset] [(.int (x0 &&& (65535 : Int32)))])) (fun t k => XS.iand X.here hx rfl (hb hby at_35) rfl k) ?_
          refine Go.step (S' := T.setTop (mkF m 37 #[.val (.int x0), .val (.int x1), .val (.int (x1 &&& (3 : Int32))), .val (.int (x0 &&& (65535 : Int32))), .unset] [])) (fun t k => XS.istoreN X.here hx rfl (hb hby at_36) rfl (l' := #[.val (.int x0), .val (.int x1), .val (.int (x1 &&& (3 : Int32))), .val (.int (x0 &&& (65535 : Int32))), .unset]) rfl k) ?_
          refine Go.step (S' := T.setTop (mkF m 45 #[.val (.int x0), .val (.int x1), .val (.int (x1 &&& (3 : Int32))), .val (.int (x0 &&& (65535 : Int32))), .unset] [])) (fun t k => XS.goto X.here hx rfl (pc0 := 37) (pc' := 45) rfl (hb hby at_37) (by decide) (by decide) k) ?_
          exact B45 ((x0 &&& (65535 : Int32))) T _ X eT NF hr
        · rw [if_neg hc3] at hr
          refine Go.step (S' := T.setTop (mkF m 40 #[.val (.int x0), .val (.int x1), .val (.int (x1 &&& (3 : Int32))), .unset, .unset] [])) (fun t k => XS.icmpYes X.here hx rfl (pc0 := 29) (pc' := 40) rfl (hb hby at_29) rfl (feq hc3).2 (by decide) (by decide) k) ?_
          refine Go.step (S' := T.setTop (mkF m 41 #[.val (.int x0), .val (.int x1), .val (.int (x1 &&& (3 : Int32))), .unset, .unset] [(.int x0)])) (fun t k => XS.iloadN X.here hx rfl (hb hby at_40) rfl k) ?_
          refine Go.step (S' := T.setTop (mkF m 43 #[.val (.int x0), .val (.int x1), .val (.int (x1 &&& (3 : Int32))), .unset, .unset] [(.int (2097151 : Int32)), (.int x0)])) (fun t k => X.ldcInt hx hown (mvT hZ (hw _ (List.mem_of_getElem? (i := 0) rfl))) (g := (mkF m 41 #[.val (.int x0), .val (.int x1), .val (.int (x1 &&& (3 : Int32))), .unset, .unset] [(.int x0)])) rfl (hb hby at_41) _ k) ?_
          refine Go.step (S' := T.setTop (mkF m 44 #[.val (.int x0), .val (.int x1), .val (.int (x1 &&& (3 : Int32))), .unset, .unset] [(.int (x0 &&& (2097151 : Int32)))])) (fun t k => XS.iand X.here hx rfl (hb hby at_43) rfl k) ?_
          refine Go.step (S' := T.setTop (mkF m 45 #[.val (.int x0), .val (.int x1), .val (.int (x1 &&& (3 : Int32))), .val (.int (x0 &&& (2097151 : Int32))), .unset] [])) (fun t k => XS.istoreN X.here hx rfl (hb hby at_44) rfl (l' := #[.val (.int x0), .val (.int x1), .val (.int (x1 &&& (3 : Int32))), .val (.int (x0 &&& (2097151 : Int32))), .unset]) rfl k) ?_
          exact B45 ((x0 &&& (2097151 : Int32))) T _ X eT NF hr
  show Go p e below s (Q0 x0 x1 h0 n0) room_1.cells room_1.slots (s₁.setTop (entryFrame m #[(.int x0), (.int x1)] maxLocals))
  rw [ef0]
  exact B0 s₁ [] X0 e0 (Fr.nil n0) hr0
set_option maxHeartbeats 4000000 in
theorem own_ite {P : Prop} [Decidable P] {a b r : Int32} (h1 : P → a = r) (h2 : ¬ P → b = r) : (if P then a else b) = r := by
  by_cases h : P
  · rw [if_pos h]; exact h1 h
  · rw [if_neg h]; exact h2 h
set_option maxHeartbeats 4000000 in
theorem own_in (x a b : Int32) : (f2 x a b = 0) ↔ (x.toInt < a.toInt ∨ b.toInt < x.toInt) := by
  unfold f2
  simp only [Int32.lt_iff_toInt_lt]
  split
  · simp [*]
  · split
    · simp [*]
    · rename_i h1 h2
      constructor
      · intro h; exact absurd h (by decide)
      · intro h; omega
set_option maxHeartbeats 4000000 in
theorem own_eq (x a : Int32) : x = a ↔ x.toInt = a.toInt := Int32.toInt_inj.symm
set_option maxHeartbeats 4000000 in
theorem own_le (a b : Int32) : a < b ↔ a.toInt < b.toInt := Int32.lt_iff_toInt_lt

set_option maxHeartbeats 4000000 in
theorem own_f2 (x : Int32) (a b : Int32) (a' b' : Int) (ha : a.toInt = a') (hb : b.toInt = b') : (f2 x a b = 0) = (x.toInt < a' ∨ b' < x.toInt) := by subst ha hb; exact propext (own_in x a b)
set_option maxHeartbeats 4000000 in
theorem own_f3_200 (c : Int32) : f3_200 c = if ((65536 ≤ c.toInt ∧ c.toInt ≤ 983039)) then 1 else 0 := by
  unfold f3_200
  have e65536 : (65536 : Int32).toInt = 65536 := by decide
  have e983039 : (983039 : Int32).toInt = 983039 := by decide
  simp only [own_le, own_eq c, e65536, e983039]
  generalize c.toInt = n
  (repeat' refine own_ite (fun h => ?_) (fun h => ?_)) <;> first | exact (if_pos (by omega)).symm | exact (if_neg (by omega)).symm
set_option maxHeartbeats 4000000 in
theorem own_f3_188 (c : Int32) : f3_188 c = if ((65008 ≤ c.toInt ∧ c.toInt ≤ 65533) ∨ (65536 ≤ c.toInt ∧ c.toInt ≤ 983039)) then 1 else 0 := by
  unfold f3_188
  have e65008 : (65008 : Int32).toInt = 65008 := by decide
  have e65533 : (65533 : Int32).toInt = 65533 := by decide
  simp only [own_le, own_eq c, own_f3_200 c, e65008, e65533]
  generalize c.toInt = n
  (repeat' refine own_ite (fun h => ?_) (fun h => ?_)) <;> first | exact (if_pos (by omega)).symm | exact (if_neg (by omega)).symm
set_option maxHeartbeats 4000000 in
theorem own_f3_176 (c : Int32) : f3_176 c = if ((63744 ≤ c.toInt ∧ c.toInt ≤ 64975) ∨ (65008 ≤ c.toInt ∧ c.toInt ≤ 65533) ∨ (65536 ≤ c.toInt ∧ c.toInt ≤ 983039)) then 1 else 0 := by
  unfold f3_176
  have e63744 : (63744 : Int32).toInt = 63744 := by decide
  have e64975 : (64975 : Int32).toInt = 64975 := by decide
  simp only [own_le, own_eq c, own_f3_188 c, e63744, e64975]
  generalize c.toInt = n
  (repeat' refine own_ite (fun h => ?_) (fun h => ?_)) <;> first | exact (if_pos (by omega)).symm | exact (if_neg (by omega)).symm
set_option maxHeartbeats 4000000 in
theorem own_f3_163 (c : Int32) : f3_163 c = if ((12289 ≤ c.toInt ∧ c.toInt ≤ 55295) ∨ (63744 ≤ c.toInt ∧ c.toInt ≤ 64975) ∨ (65008 ≤ c.toInt ∧ c.toInt ≤ 65533) ∨ (65536 ≤ c.toInt ∧ c.toInt ≤ 983039)) then 1 else 0 := by
  unfold f3_163
  have e12289 : (12289 : Int32).toInt = 12289 := by decide
  have e55295 : (55295 : Int32).toInt = 55295 := by decide
  simp only [own_le, own_eq c, own_f3_176 c, e12289, e55295]
  generalize c.toInt = n
  (repeat' refine own_ite (fun h => ?_) (fun h => ?_)) <;> first | exact (if_pos (by omega)).symm | exact (if_neg (by omega)).symm
set_option maxHeartbeats 4000000 in
theorem own_f3_149 (c : Int32) : f3_149 c = if ((11264 ≤ c.toInt ∧ c.toInt ≤ 12271) ∨ (12289 ≤ c.toInt ∧ c.toInt ≤ 55295) ∨ (63744 ≤ c.toInt ∧ c.toInt ≤ 64975) ∨ (65008 ≤ c.toInt ∧ c.toInt ≤ 65533) ∨ (65536 ≤ c.toInt ∧ c.toInt ≤ 983039)) then 1 else 0 := by
  unfold f3_149
  have e11264 : (11264 : Int32).toInt = 11264 := by decide
  have e12271 : (12271 : Int32).toInt = 12271 := by decide
  simp only [own_le, own_eq c, own_f3_163 c, e11264, e12271]
  generalize c.toInt = n
  (repeat' refine own_ite (fun h => ?_) (fun h => ?_)) <;> first | exact (if_pos (by omega)).symm | exact (if_neg (by omega)).symm
set_option maxHeartbeats 4000000 in
theorem own_f3_121 (c : Int32) : f3_121 c = if ((8204 ≤ c.toInt ∧ c.toInt ≤ 8205) ∨ (8304 ≤ c.toInt ∧ c.toInt ≤ 8591) ∨ (11264 ≤ c.toInt ∧ c.toInt ≤ 12271) ∨ (12289 ≤ c.toInt ∧ c.toInt ≤ 55295) ∨ (63744 ≤ c.toInt ∧ c.toInt ≤ 64975) ∨ (65008 ≤ c.toInt ∧ c.toInt ≤ 65533) ∨ (65536 ≤ c.toInt ∧ c.toInt ≤ 983039)) then 1 else 0 := by
  unfold f3_121
  have e8204 : (8204 : Int32).toInt = 8204 := by decide
  have e8205 : (8205 : Int32).toInt = 8205 := by decide
  have e8304 : (8304 : Int32).toInt = 8304 := by decide
  have e8591 : (8591 : Int32).toInt = 8591 := by decide
  simp only [own_le, own_eq c, own_f3_149 c, e8204, e8205, e8304, e8591]
  generalize c.toInt = n
  (repeat' refine own_ite (fun h => ?_) (fun h => ?_)) <;> first | exact (if_pos (by omega)).symm | exact (if_neg (by omega)).symm
set_option maxHeartbeats 4000000 in
theorem own_f3_107 (c : Int32) : f3_107 c = if ((895 ≤ c.toInt ∧ c.toInt ≤ 8191) ∨ (8204 ≤ c.toInt ∧ c.toInt ≤ 8205) ∨ (8304 ≤ c.toInt ∧ c.toInt ≤ 8591) ∨ (11264 ≤ c.toInt ∧ c.toInt ≤ 12271) ∨ (12289 ≤ c.toInt ∧ c.toInt ≤ 55295) ∨ (63744 ≤ c.toInt ∧ c.toInt ≤ 64975) ∨ (65008 ≤ c.toInt ∧ c.toInt ≤ 65533) ∨ (65536 ≤ c.toInt ∧ c.toInt ≤ 983039)) then 1 else 0 := by
  unfold f3_107
  have e895 : (895 : Int32).toInt = 895 := by decide
  have e8191 : (8191 : Int32).toInt = 8191 := by decide
  simp only [own_le, own_eq c, own_f3_121 c, e895, e8191]
  generalize c.toInt = n
  (repeat' refine own_ite (fun h => ?_) (fun h => ?_)) <;> first | exact (if_pos (by omega)).symm | exact (if_neg (by omega)).symm
set_option maxHeartbeats 4000000 in
theorem own_f3_93 (c : Int32) : f3_93 c = if ((880 ≤ c.toInt ∧ c.toInt ≤ 893) ∨ (895 ≤ c.toInt ∧ c.toInt ≤ 8191) ∨ (8204 ≤ c.toInt ∧ c.toInt ≤ 8205) ∨ (8304 ≤ c.toInt ∧ c.toInt ≤ 8591) ∨ (11264 ≤ c.toInt ∧ c.toInt ≤ 12271) ∨ (12289 ≤ c.toInt ∧ c.toInt ≤ 55295) ∨ (63744 ≤ c.toInt ∧ c.toInt ≤ 64975) ∨ (65008 ≤ c.toInt ∧ c.toInt ≤ 65533) ∨ (65536 ≤ c.toInt ∧ c.toInt ≤ 983039)) then 1 else 0 := by
  unfold f3_93
  have e880 : (880 : Int32).toInt = 880 := by decide
  have e893 : (893 : Int32).toInt = 893 := by decide
  simp only [own_le, own_eq c, own_f3_107 c, e880, e893]
  generalize c.toInt = n
  (repeat' refine own_ite (fun h => ?_) (fun h => ?_)) <;> first | exact (if_pos (by omega)).symm | exact (if_neg (by omega)).symm
set_option maxHeartbeats 4000000 in
theorem own_f3_79 (c : Int32) : f3_79 c = if ((248 ≤ c.toInt ∧ c.toInt ≤ 767) ∨ (880 ≤ c.toInt ∧ c.toInt ≤ 893) ∨ (895 ≤ c.toInt ∧ c.toInt ≤ 8191) ∨ (8204 ≤ c.toInt ∧ c.toInt ≤ 8205) ∨ (8304 ≤ c.toInt ∧ c.toInt ≤ 8591) ∨ (11264 ≤ c.toInt ∧ c.toInt ≤ 12271) ∨ (12289 ≤ c.toInt ∧ c.toInt ≤ 55295) ∨ (63744 ≤ c.toInt ∧ c.toInt ≤ 64975) ∨ (65008 ≤ c.toInt ∧ c.toInt ≤ 65533) ∨ (65536 ≤ c.toInt ∧ c.toInt ≤ 983039)) then 1 else 0 := by
  unfold f3_79
  have e248 : (248 : Int32).toInt = 248 := by decide
  have e767 : (767 : Int32).toInt = 767 := by decide
  simp only [own_le, own_eq c, own_f3_93 c, e248, e767]
  generalize c.toInt = n
  (repeat' refine own_ite (fun h => ?_) (fun h => ?_)) <;> first | exact (if_pos (by omega)).symm | exact (if_neg (by omega)).symm
set_option maxHeartbeats 4000000 in
theorem own_f3_65 (c : Int32) : f3_65 c = if ((216 ≤ c.toInt ∧ c.toInt ≤ 246) ∨ (248 ≤ c.toInt ∧ c.toInt ≤ 767) ∨ (880 ≤ c.toInt ∧ c.toInt ≤ 893) ∨ (895 ≤ c.toInt ∧ c.toInt ≤ 8191) ∨ (8204 ≤ c.toInt ∧ c.toInt ≤ 8205) ∨ (8304 ≤ c.toInt ∧ c.toInt ≤ 8591) ∨ (11264 ≤ c.toInt ∧ c.toInt ≤ 12271) ∨ (12289 ≤ c.toInt ∧ c.toInt ≤ 55295) ∨ (63744 ≤ c.toInt ∧ c.toInt ≤ 64975) ∨ (65008 ≤ c.toInt ∧ c.toInt ≤ 65533) ∨ (65536 ≤ c.toInt ∧ c.toInt ≤ 983039)) then 1 else 0 := by
  unfold f3_65
  have e216 : (216 : Int32).toInt = 216 := by decide
  have e246 : (246 : Int32).toInt = 246 := by decide
  simp only [own_le, own_eq c, own_f3_79 c, e216, e246]
  generalize c.toInt = n
  (repeat' refine own_ite (fun h => ?_) (fun h => ?_)) <;> first | exact (if_pos (by omega)).symm | exact (if_neg (by omega)).symm
set_option maxHeartbeats 4000000 in
theorem own_f3_33 (c : Int32) : f3_33 c = if ((58 ≤ c.toInt ∧ c.toInt ≤ 58) ∨ (95 ≤ c.toInt ∧ c.toInt ≤ 95)) then 1 else 0 := by
  unfold f3_33
  have e58 : (58 : Int32).toInt = 58 := by decide
  have e95 : (95 : Int32).toInt = 95 := by decide
  simp only [own_le, own_eq c, e58, e95]
  generalize c.toInt = n
  (repeat' refine own_ite (fun h => ?_) (fun h => ?_)) <;> first | exact (if_pos (by omega)).symm | exact (if_neg (by omega)).symm
set_option maxHeartbeats 4000000 in
theorem own_f3_21 (c : Int32) : f3_21 c = if ((65 ≤ c.toInt ∧ c.toInt ≤ 90) ∨ (58 ≤ c.toInt ∧ c.toInt ≤ 58) ∨ (95 ≤ c.toInt ∧ c.toInt ≤ 95)) then 1 else 0 := by
  unfold f3_21
  have e65 : (65 : Int32).toInt = 65 := by decide
  have e90 : (90 : Int32).toInt = 90 := by decide
  simp only [own_le, own_eq c, own_f3_33 c, e65, e90]
  generalize c.toInt = n
  (repeat' refine own_ite (fun h => ?_) (fun h => ?_)) <;> first | exact (if_pos (by omega)).symm | exact (if_neg (by omega)).symm
set_option maxHeartbeats 4000000 in
theorem own_f3 (c : Int32) : f3 c = if ((97 ≤ c.toInt ∧ c.toInt ≤ 122) ∨ (65 ≤ c.toInt ∧ c.toInt ≤ 90) ∨ (58 ≤ c.toInt ∧ c.toInt ≤ 58) ∨ (95 ≤ c.toInt ∧ c.toInt ≤ 95) ∨ (192 ≤ c.toInt ∧ c.toInt ≤ 214) ∨ (216 ≤ c.toInt ∧ c.toInt ≤ 246) ∨ (248 ≤ c.toInt ∧ c.toInt ≤ 767) ∨ (880 ≤ c.toInt ∧ c.toInt ≤ 893) ∨ (895 ≤ c.toInt ∧ c.toInt ≤ 8191) ∨ (8204 ≤ c.toInt ∧ c.toInt ≤ 8205) ∨ (8304 ≤ c.toInt ∧ c.toInt ≤ 8591) ∨ (11264 ≤ c.toInt ∧ c.toInt ≤ 12271) ∨ (12289 ≤ c.toInt ∧ c.toInt ≤ 55295) ∨ (63744 ≤ c.toInt ∧ c.toInt ≤ 64975) ∨ (65008 ≤ c.toInt ∧ c.toInt ≤ 65533) ∨ (65536 ≤ c.toInt ∧ c.toInt ≤ 983039)) then 1 else 0 := by
  unfold f3
  have e97 : (97 : Int32).toInt = 97 := by decide
  have e122 : (122 : Int32).toInt = 122 := by decide
  have e128 : (128 : Int32).toInt = 128 := by decide
  have e192 : (192 : Int32).toInt = 192 := by decide
  have e214 : (214 : Int32).toInt = 214 := by decide
  simp only [own_le, own_eq c, own_f3_21 c, own_f3_65 c, e97, e122, e128, e192, e214]
  generalize c.toInt = n
  (repeat' refine own_ite (fun h => ?_) (fun h => ?_)) <;> first | exact (if_pos (by omega)).symm | exact (if_neg (by omega)).symm
set_option maxHeartbeats 4000000 in
theorem own_in' (x : Int32) (a b : Int32) : (f2 x a b = 0) = (x.toInt < a.toInt ∨ b.toInt < x.toInt) := propext (own_in x a b)
set_option maxHeartbeats 4000000 in
theorem own_f1 (c : Int32) : f1 c = if (c.toInt < 0 ∨ 983039 < c.toInt ∨ (0 ≤ c.toInt ∧ c.toInt ≤ 57) ∨ (59 ≤ c.toInt ∧ c.toInt ≤ 64) ∨ (91 ≤ c.toInt ∧ c.toInt ≤ 94) ∨ (96 ≤ c.toInt ∧ c.toInt ≤ 96) ∨ (123 ≤ c.toInt ∧ c.toInt ≤ 127) ∨ (128 ≤ c.toInt ∧ c.toInt ≤ 191) ∨ (215 ≤ c.toInt ∧ c.toInt ≤ 215) ∨ (247 ≤ c.toInt ∧ c.toInt ≤ 247) ∨ (768 ≤ c.toInt ∧ c.toInt ≤ 879) ∨ (894 ≤ c.toInt ∧ c.toInt ≤ 894) ∨ (8192 ≤ c.toInt ∧ c.toInt ≤ 8203) ∨ (8206 ≤ c.toInt ∧ c.toInt ≤ 8303) ∨ (8592 ≤ c.toInt ∧ c.toInt ≤ 11263) ∨ (12272 ≤ c.toInt ∧ c.toInt ≤ 12288) ∨ (55296 ≤ c.toInt ∧ c.toInt ≤ 63743) ∨ (64976 ≤ c.toInt ∧ c.toInt ≤ 65007) ∨ (65534 ≤ c.toInt ∧ c.toInt ≤ 65535)) then 1 else 0 := by
  have e0 : (0 : Int32).toInt = 0 := by decide
  have e1 : (1 : Int32).toInt = 1 := by decide
  have e57 : (57 : Int32).toInt = 57 := by decide
  have e59 : (59 : Int32).toInt = 59 := by decide
  have e64 : (64 : Int32).toInt = 64 := by decide
  have e91 : (91 : Int32).toInt = 91 := by decide
  have e94 : (94 : Int32).toInt = 94 := by decide
  have e96 : (96 : Int32).toInt = 96 := by decide
  have e123 : (123 : Int32).toInt = 123 := by decide
  have e127 : (127 : Int32).toInt = 127 := by decide
  have e128 : (128 : Int32).toInt = 128 := by decide
  have e191 : (191 : Int32).toInt = 191 := by decide
  have e215 : (215 : Int32).toInt = 215 := by decide
  have e247 : (247 : Int32).toInt = 247 := by decide
  have e768 : (768 : Int32).toInt = 768 := by decide
  have e879 : (879 : Int32).toInt = 879 := by decide
  have e894 : (894 : Int32).toInt = 894 := by decide
  have e8192 : (8192 : Int32).toInt = 8192 := by decide
  have e8203 : (8203 : Int32).toInt = 8203 := by decide
  have e8206 : (8206 : Int32).toInt = 8206 := by decide
  have e8303 : (8303 : Int32).toInt = 8303 := by decide
  have e8592 : (8592 : Int32).toInt = 8592 := by decide
  have e11263 : (11263 : Int32).toInt = 11263 := by decide
  have e12272 : (12272 : Int32).toInt = 12272 := by decide
  have e12288 : (12288 : Int32).toInt = 12288 := by decide
  have e55296 : (55296 : Int32).toInt = 55296 := by decide
  have e63743 : (63743 : Int32).toInt = 63743 := by decide
  have e64976 : (64976 : Int32).toInt = 64976 := by decide
  have e65007 : (65007 : Int32).toInt = 65007 := by decide
  have e65534 : (65534 : Int32).toInt = 65534 := by decide
  have e65535 : (65535 : Int32).toInt = 65535 := by decide
  have e983039 : (983039 : Int32).toInt = 983039 := by decide
  unfold f1
  simp only [own_in', own_le, own_eq c, e0, e1, e57, e59, e64, e91, e94, e96, e123, e127, e128, e191, e215, e247, e768, e879, e894, e8192, e8203, e8206, e8303, e8592, e11263, e12272, e12288, e55296, e63743, e64976, e65007, e65534, e65535, e983039]
  generalize c.toInt = n
  (repeat' refine own_ite (fun h => ?_) (fun h => ?_)) <;> first | exact (if_pos (by omega)).symm | exact (if_neg (by omega)).symm
set_option maxHeartbeats 4000000 in
theorem own_pair (c : Int32) : (f1 c = 0 ∧ f3 c = 1) ∨ (¬ f1 c = 0 ∧ f3 c = 0) := by
  have n10 : ¬ ((1 : Int32) = 0) := by decide
  rw [own_f3, own_f1]
  generalize c.toInt = n
  by_cases h : ((97 ≤ n ∧ n ≤ 122) ∨ (65 ≤ n ∧ n ≤ 90) ∨ (58 ≤ n ∧ n ≤ 58) ∨ (95 ≤ n ∧ n ≤ 95) ∨ (192 ≤ n ∧ n ≤ 214) ∨ (216 ≤ n ∧ n ≤ 246) ∨ (248 ≤ n ∧ n ≤ 767) ∨ (880 ≤ n ∧ n ≤ 893) ∨ (895 ≤ n ∧ n ≤ 8191) ∨ (8204 ≤ n ∧ n ≤ 8205) ∨ (8304 ≤ n ∧ n ≤ 8591) ∨ (11264 ≤ n ∧ n ≤ 12271) ∨ (12289 ≤ n ∧ n ≤ 55295) ∨ (63744 ≤ n ∧ n ≤ 64975) ∨ (65008 ≤ n ∧ n ≤ 65533) ∨ (65536 ≤ n ∧ n ≤ 983039))
  · rw [if_pos h, if_neg (by omega)]; exact Or.inl ⟨rfl, rfl⟩
  · rw [if_neg h, if_pos (by omega)]; exact Or.inr ⟨n10, rfl⟩
set_option maxHeartbeats 4000000 in
theorem own_45 (x0 x1 c : Int32) : f0_45 x0 x1 c = 1 := by
  unfold f0_45 f0_57
  rcases own_pair c with ⟨h1, h2⟩ | ⟨h1, h2⟩
  · rw [if_pos h1, if_pos h2]
  · rw [if_neg h1, if_pos h2]
set_option maxHeartbeats 4000000 in
theorem own_law (x0 x1 : Int32) : f0 x0 x1 = 1 := by
  unfold f0
  rw [own_45, own_45, own_45, own_45]
  (repeat' split) <;> rfl
set_option maxRecDepth 65536 in
set_option maxHeartbeats 40000000 in
theorem comes_1 {Post : Tables → Env → Array Value → State → Outcome → State → Prop} (hpost : ∀ tb e args s v u, (limb_1_1.after args s (.returned v) u = true ∧ limb_1_2.after args s (.returned v) u = true ∧ True) → FrameEnd s (.returned v) u (Jvm.fieldLocs frame_1_writes args s ++ Jvm.arrayLocs frame_1_arrays args s ++ Jvm.staticLocs frame_1_statics s) 0 0 → Post tb e args s (.returned v) u) :
    ArmFor flags0 classFile x code maxLocals ret World_1 tables_1 room_1 Calls_1 rest_1 Pre_1 Post := by
  intro l hfl _ _ p e ha hc hk s m args below hf hA hF happ hP
  obtain ⟨hcalls, hrest, hpre⟩ := hP
  obtain ⟨-, -, -, hnamed, -, -, -, hat⟩ := (Spec.applies_iff hf).mp happ
  obtain ⟨hg, hn⟩ := and_e (Cond.before_iff.mp (show (Jvm.Cond.and given_1 narrow_1).before args s = true from hpre))
  obtain ⟨hcount, hg⟩ := and_e hg
  obtain ⟨ha0, hg⟩ := and_e hg
  obtain ⟨w0, w1, rfl⟩ : ∃ w0 w1 : Value, args = #[w0, w1] := by
    have hs : args.size = 2 := by simpa [Cond.value, given_1] using hcount
    obtain ⟨L⟩ := args
    match L, hs with
    | [w0, w1], _ => exact ⟨w0, w1, rfl⟩
  have hw := fun d (hd : d ∈ tables_1) => atoms_spec (ws := Jvm.Cond.code x code maxLocals ret :: tables_1) hat d (List.mem_cons_of_mem _ hd)
  obtain ⟨i0, ei0⟩ := is_v ha0
  obtain rfl : w0 = (.int i0) := Option.some.inj ei0
  obtain ⟨i1, ei1⟩ := is_v hg
  obtain rfl : w1 = (.int i1) := Option.some.inj ei1
  obtain ⟨n, o, h1, h2, h3, v, L, rfl, ⟨hv, N, -⟩, hq⟩ := rm0 l s _ hw tables_1 i0 i1 s.heap s.heap.size (Nat.le_refl _) p e ha hc hk s m _ below hf ((Spec.applies_iff_loose hf).mp happ).1 ⟨rfl, State.Warmed39.refl s, rfl⟩ trivial
  rw [own_law i0 i1] at hv
  subst hv
  refine ⟨n, _, h1, h2, h3, hpost _ _ _ _ _ _ ⟨Cond.after_iff.mpr rfl, Cond.after_iff.mpr (eq_i res_at (Term.int_eval (1)) rfl), trivial⟩ ⟨hq.1, hq.2.1, (hq.2.2.sift fun y hy => Or.inr (N y hy)).mono (by decide) (by decide)⟩⟩
theorem main_1_1 : Claimed_1_1 := comes_1 fun _ _ _ _ _ _ h hF => ⟨h.1, hF⟩
theorem main_1_2 : Claimed_1_2 := comes_1 fun _ _ _ _ _ _ h hF => ⟨h.2.1, hF⟩
end Jvm.Pilot.@@N@@
namespace Jvm.Pilot.@@N@@
open Jvm Jvm.ClassFile Sem Op Lib Jvm.Free Jvm.Stand Jvm.Pilot.@@N@@.Jvm.D
/-! MADE BY PROGRAM (witnessworld.py) out of the Statement's table words and the real class files: 8 classes; the members and pool entries that the words name. The judged class is class 1, her method 3. -/
namespace start1
open Jvm.ClassFile
def u (s : String) : CpInfo := .utf8 (stringToUtf16 s)
/-- a pool by its gaps: so many unusable entries, then the entry; so many at the end -/
def gap : Nat → List CpInfo → List CpInfo
  | 0, r => r
  | n + 1, r => .unusable :: gap n r
def poolList (es : List (Nat × CpInfo)) (last : Nat) : List CpInfo := es.foldr (fun e r => gap e.1 (e.2 :: r)) (gap last [])
def pool (es : List (Nat × CpInfo)) (last : Nat) : Array CpInfo := ⟨poolList es last⟩
def fileOf (pool : Array CpInfo) (this : Nat) (attrs : Array Attribute := #[]) (ms : Array MethodInfo := #[]) (fl : Nat := 33) (sup : Nat := 0) (ifs : Array Nat := #[]) (fds : Array FieldInfo := #[]) : ClassFile where
  minorVersion := 0
  majorVersion := 65
  constantPool := pool
  accessFlags := fl
  thisClass := this
  superClass := sup
  interfaces := ifs
  fields := fds
  methods := ms
  attributes := attrs
def plain (name : String) (sup : Option ClassId) : Class where
  name := name
  kind := .ordinary
  loader := none
  accessFlags := 33
  super := sup
  interfaces := #[]
  cf := none
  fields := #[]
  methods := #[]
  instanceTypes := #[]
  staticTypes := #[]
  resolved := #[]
  callSites := []
  init := .initialized
  statics := none
  mirror := none

def pool0 : Array CpInfo := pool [(5, u "<init>"), (0, u "()V"), (1, .class_ 10), (1, u "java/lang/Object")] 113

def k0m0 : Method := { name := "<init>", desc := "()V", sig := { parameters := [], returnType := none }, accessFlags := 1, code := none }
/-- java/lang/Object -/
def k0 : Class := { plain "java/lang/Object" none with
  accessFlags := 33
  interfaces := #[]
  cf := some (fileOf pool0 8 #[] #[{ accessFlags := 1, nameIndex := 5, descriptorIndex := 6, attributes := #[] }] 33 0 #[] #[])
  fields := #[]
  methods := #[k0m0]
  instanceTypes := #[]
  staticTypes := #[]
  resolved := Array.replicate 124 none
  statics := none }

def pool1 : Array CpInfo := pool [(2, .class_ 4), (1, u "java/lang/Object"), (0, u "<init>"), (0, u "()V"), (0, .integer 983039), (0, .methodref 9 10), (0, .class_ 11), (0, .nameAndType 12 13), (0, u "com/example/tessera/tessera/model/NameIsStartCharacterPinLaw"), (0, u "in"), (0, u "(III)Z"), (0, .integer 55296), (0, .integer 63743), (0, .integer 64976), (0, .integer 65007), (0, .integer 65534), (0, .integer 65535), (0, .integer 2097151), (0, .methodref 9 22), (0, .nameAndType 23 24), (0, u "inGap"), (0, u "(I)Z"), (0, .methodref 26 27), (0, .class_ 28), (0, .nameAndType 29 24), (0, u "com/example/tessera/tessera/model/Name"), (0, u "isStartCharacter"), (3, u "law"), (0, u "(II)Z")] 2

def k1m0 : Method := { name := "<init>", desc := "()V", sig := { parameters := [], returnType := none }, accessFlags := 1, code := none }
def k1c1 : Code := { maxStack := 2, maxLocals := 3, code := method_2_code, exceptionTable := #[], attributes := #[] }
def k1m1 : Method := { name := "in", desc := "(III)Z", sig := { parameters := [.int, .int, .int], returnType := some .boolean }, accessFlags := 10, code := some k1c1 }
def k1c2 : Code := { maxStack := 3, maxLocals := 1, code := method_3_code, exceptionTable := #[], attributes := #[] }
def k1m2 : Method := { name := "inGap", desc := "(I)Z", sig := { parameters := [.int], returnType := some .boolean }, accessFlags := 10, code := some k1c2 }
def k1c3 : Code := { maxStack := 2, maxLocals := 5, code := code, exceptionTable := #[], attributes := #[] }
def k1m3 : Method := { name := "law", desc := "(II)Z", sig := { parameters := [.int, .int], returnType := some .boolean }, accessFlags := 9, code := some k1c3 }
/-- com/example/tessera/tessera/model/NameIsStartCharacterPinLaw -/
def k1 : Class := { plain "com/example/tessera/tessera/model/NameIsStartCharacterPinLaw" (some 0) with
  accessFlags := 49
  interfaces := #[]
  cf := some (fileOf pool1 9 #[] #[{ accessFlags := 1, nameIndex := 5, descriptorIndex := 6, attributes := #[] }, { accessFlags := 10, nameIndex := 12, descriptorIndex := 13, attributes := #[] }, { accessFlags := 10, nameIndex := 23, descriptorIndex := 24, attributes := #[] }, { accessFlags := 9, nameIndex := 33, descriptorIndex := 34, attributes := #[] }] 49 2 #[] #[])
  fields := #[]
  methods := #[k1m0, k1m1, k1m2, k1m3]
  instanceTypes := #[]
  staticTypes := #[]
  resolved := Array.replicate 37 none
  statics := none }

def pool2 : Array CpInfo := pool [(2, .class_ 4), (1, u "java/lang/Object"), (0, u "<init>"), (0, u "()V"), (0, .class_ 8), (0, u "java/lang/Record")] 13

def k2m0 : Method := { name := "<init>", desc := "()V", sig := { parameters := [], returnType := none }, accessFlags := 4, code := none }
/-- java/lang/Record -/
def k2 : Class := { plain "java/lang/Record" (some 0) with
  accessFlags := 1057
  interfaces := #[]
  cf := some (fileOf pool2 7 #[] #[{ accessFlags := 4, nameIndex := 5, descriptorIndex := 6, attributes := #[] }] 1057 2 #[] #[])
  fields := #[]
  methods := #[k2m0]
  instanceTypes := #[]
  staticTypes := #[]
  resolved := Array.replicate 22 none
  statics := none }

def pool3 : Array CpInfo := pool [(2, .class_ 4), (1, u "java/lang/Record"), (3, .class_ 10), (1, u "com/example/tessera/tessera/model/Name"), (0, u "qualified"), (0, u "Ljava/lang/String;"), (2, u "namespace"), (36, u "isStartCharacter"), (0, u "(I)Z"), (20, .integer 55295), (1, .integer 65533), (0, .integer 65536), (1, .integer 63744), (0, .integer 64975), (0, .integer 65008), (0, .integer 983039), (11, u "XML_NAMESPACE"), (1, u "XMLNS_NAMESPACE")] 34

def k3c0 : Code := { maxStack := 2, maxLocals := 2, code := prog_76_method_7_code, exceptionTable := #[], attributes := #[] }
def k3m0 : Method := { name := "isStartCharacter", desc := "(I)Z", sig := { parameters := [.int], returnType := some .boolean }, accessFlags := 9, code := some k3c0 }
/-- com/example/tessera/tessera/model/Name -/
def k3 : Class := { plain "com/example/tessera/tessera/model/Name" (some 2) with
  accessFlags := 49
  interfaces := #[]
  cf := some (fileOf pool3 8 #[] #[{ accessFlags := 9, nameIndex := 52, descriptorIndex := 53, attributes := #[] }] 49 2 #[] #[{ accessFlags := 18, nameIndex := 11, descriptorIndex := 12, attributes := #[] }, { accessFlags := 18, nameIndex := 15, descriptorIndex := 12, attributes := #[] }, { accessFlags := 25, nameIndex := 94, descriptorIndex := 12, attributes := #[] }, { accessFlags := 25, nameIndex := 96, descriptorIndex := 12, attributes := #[] }])
  fields := #[{ name := "qualified", type := (.object "java/lang/String"), accessFlags := 18, slot := 0, constantValue := 0 }, { name := "namespace", type := (.object "java/lang/String"), accessFlags := 18, slot := 1, constantValue := 0 }, { name := "XML_NAMESPACE", type := (.object "java/lang/String"), accessFlags := 25, slot := 0, constantValue := 0 }, { name := "XMLNS_NAMESPACE", type := (.object "java/lang/String"), accessFlags := 25, slot := 1, constantValue := 0 }]
  methods := #[k3m0]
  instanceTypes := #[(.object "java/lang/String"), (.object "java/lang/String")]
  staticTypes := #[(.object "java/lang/String"), (.object "java/lang/String")]
  resolved := Array.replicate 131 none
  statics := none }

def pool4 : Array CpInfo := pool [(1, u "java/lang/Cloneable"), (0, .class_ 1), (0, u "java/lang/Object"), (0, .class_ 3)] 3

/-- java/lang/Cloneable -/
def k4 : Class := { plain "java/lang/Cloneable" (some 0) with
  accessFlags := 1537
  interfaces := #[]
  cf := some (fileOf pool4 2 #[] #[] 1537 4 #[] #[])
  fields := #[]
  methods := #[]
  instanceTypes := #[]
  staticTypes := #[]
  resolved := Array.replicate 8 none
  statics := none }

def pool5 : Array CpInfo := pool [(1, u "java/io/Serializable"), (0, .class_ 1), (0, u "java/lang/Object"), (0, .class_ 3)] 3

/-- java/io/Serializable -/
def k5 : Class := { plain "java/io/Serializable" (some 0) with
  accessFlags := 1537
  interfaces := #[]
  cf := some (fileOf pool5 2 #[] #[] 1537 4 #[] #[])
  fields := #[]
  methods := #[]
  instanceTypes := #[]
  staticTypes := #[]
  resolved := Array.replicate 8 none
  statics := none }

/-- the primitive byte -/
def k6 : Class := { plain "byte" none with kind := .primitive 'B', accessFlags := 0x411 }
/-- [B -/
def k7 : Class := { plain "[B" (some 0) with kind := .array 6 .byte, interfaces := #[4, 5], accessFlags := 1041 }

def heap : Heap := #[]
def classes : Array Class := #[k0, k1, k2, k3, k4, k5, k6, k7]
def interned : List (Array UInt16 × Addr) := []
def slotsUsed : Nat := 0
def theMethod : MethodId := ⟨1, 3⟩
def args0 : Array Value := #[.int 5, .int 3]
def aboutOver (below : List Frame) : State where
  vm := { classes := classes, interned := interned.toArray }
  heap := heap
  slotsUsed := slotsUsed
  threads := #[{ frames := .invoking theMethod args0 :: below }]
def below0 : List Frame := [.native { method := ⟨0, 0⟩, args := #[] }]
def about1 : State := aboutOver below0
def p0 : Program := .bare "" "" ""
def e0 : Env := launch0.env 0 0 0
theorem w_frames : about1.frames = Frame.invoking theMethod args0 :: below0 := rfl
set_option maxRecDepth 65536 in
theorem w_args : argsFit about1.vm theMethod args0 = true := by decide +kernel
set_option maxRecDepth 65536 in
theorem w_heap : heapFits about1 = true := by decide +kernel
set_option maxRecDepth 65536 in
theorem w_runnable : about1.curStatus? = some .runnable := by decide +kernel
set_option maxRecDepth 65536 in
theorem w_alone : about1.alone = true := by decide +kernel
set_option maxRecDepth 65536 in
theorem w_named : about1.methodNamed? x = some theMethod := by decide +kernel
set_option maxRecDepth 65536 in
theorem w_hears : about1.hears theMethod below0 = true := by decide +kernel
set_option maxRecDepth 65536 in
theorem w_ripe : about1.ripe theMethod args0 below0 = true := by decide +kernel
theorem w_running : about1.status = .running := rfl
set_option maxRecDepth 65536 in
theorem w_room : about1.hasRoom e0.platform room_1 = true :=
  launch0.hasRoom_least _ room_1 (by decide +kernel) (by decide +kernel) (by decide +kernel) (by decide +kernel) (by decide +kernel) (by decide +kernel)
theorem allAtoms_all (ts : List Jvm.Cond) (a : Array Jvm.Value) (st : Jvm.State) : (allAtoms ts).before a st = ts.all (fun c => c.before a st) := by
  induction ts with
  | nil => rfl
  | cons c t ih =>
    show (Jvm.Cond.and c (allAtoms t)).before a st = _
    rw [Jvm.Cond.before_and, ih, List.all_cons]
def words1 : List Jvm.Cond := Jvm.Cond.code x code maxLocals ret :: tables_1
/-- a 'code' word, met by the world's own term for the bytes: nothing is compared byte by byte -/
theorem code_word {y : MethodName} {bytes : ByteArray} {mx : Nat} {rt : Option FieldType} {a : Array Value} {s : State} {m : MethodId} {meth : Method} {c : Code} (h1 : s.methodNamed? y = some m) (h2 : s.vm.method? m = some meth) (h3 : meth.code = some c) (h4 : c.code = bytes)
    (h5 : (c.maxLocals == mx && c.exceptionTable.isEmpty && decide (c.maxStack ≤ mostOperands) && decide (meth.sig.returnType = rt) && !meth.locks && decide (parseMethodDescriptor y.desc = some meth.sig)) = true) : (Jvm.Cond.code y bytes mx rt).before a s = true := by
  simp only [Bool.and_eq_true, beq_iff_eq, Bool.not_eq_true', decide_eq_true_eq] at h5
  obtain ⟨⟨⟨⟨⟨g1, g2⟩, g3⟩, g4⟩, g5⟩, g6⟩ := h5
  simp [Cond.before, Cond.holds, Cond.value, h1, h2, h3, h4, g1, g2, g3, g4, g5, g6]
def isCode : Jvm.Cond → Bool
  | .code _ _ _ _ => true
  | _ => false
theorem all_split {L : List Jvm.Cond} {P : Jvm.Cond → Bool} (h1 : L.all (fun c => isCode c || P c) = true) (h2 : ∀ c ∈ L.filter isCode, P c = true) : L.all P = true := by
  refine List.all_eq_true.mpr fun c hc => ?_
  have h := List.all_eq_true.mp h1 c hc
  rcases Bool.eq_false_or_eq_true (isCode c) with hi | hi
  · exact h2 c (List.mem_filter.mpr ⟨hc, hi⟩)
  · simpa [hi] using h
set_option maxRecDepth 65536 in
theorem w_c0 : (Jvm.Cond.code x code maxLocals ret).before args0 about1 = true := code_word (m := ⟨1, 3⟩) (meth := k1m3) (c := k1c3) (by decide +kernel) rfl rfl rfl (by decide +kernel)
set_option maxRecDepth 65536 in
theorem w_c1 : (Jvm.Cond.code ({ cls := "com/example/tessera/tessera/model/NameIsStartCharacterPinLaw", name := "inGap", desc := "(I)Z" } : Jvm.MethodName) method_3_code (1 : Nat) (Option.some Jvm.ClassFile.FieldType.boolean)).before args0 about1 = true := code_word (m := ⟨1, 2⟩) (meth := k1m2) (c := k1c2) (by decide +kernel) rfl rfl rfl (by decide +kernel)
set_option maxRecDepth 65536 in
theorem w_c2 : (Jvm.Cond.code ({ cls := "com/example/tessera/tessera/model/NameIsStartCharacterPinLaw", name := "in", desc := "(III)Z" } : Jvm.MethodName) method_2_code (3 : Nat) (Option.some Jvm.ClassFile.FieldType.boolean)).before args0 about1 = true := code_word (m := ⟨1, 1⟩) (meth := k1m1) (c := k1c1) (by decide +kernel) rfl rfl rfl (by decide +kernel)
set_option maxRecDepth 65536 in
theorem w_c3 : (Jvm.Cond.code ({ cls := "com/example/tessera/tessera/model/Name", name := "isStartCharacter", desc := "(I)Z" } : Jvm.MethodName) prog_76_method_7_code (2 : Nat) (Option.some Jvm.ClassFile.FieldType.boolean)).before args0 about1 = true := code_word (m := ⟨3, 0⟩) (meth := k3m0) (c := k3c0) (by decide +kernel) rfl rfl rfl (by decide +kernel)
def codes1 : List Jvm.Cond := [Jvm.Cond.code x code maxLocals ret, Jvm.Cond.code ({ cls := "com/example/tessera/tessera/model/NameIsStartCharacterPinLaw", name := "inGap", desc := "(I)Z" } : Jvm.MethodName) method_3_code (1 : Nat) (Option.some Jvm.ClassFile.FieldType.boolean), Jvm.Cond.code ({ cls := "com/example/tessera/tessera/model/NameIsStartCharacterPinLaw", name := "in", desc := "(III)Z" } : Jvm.MethodName) method_2_code (3 : Nat) (Option.some Jvm.ClassFile.FieldType.boolean), Jvm.Cond.code ({ cls := "com/example/tessera/tessera/model/Name", name := "isStartCharacter", desc := "(I)Z" } : Jvm.MethodName) prog_76_method_7_code (2 : Nat) (Option.some Jvm.ClassFile.FieldType.boolean)]
set_option maxRecDepth 65536 in
theorem codes_eq : words1.filter isCode = codes1 := rfl
theorem w_codes : ∀ c ∈ words1.filter isCode, c.before args0 about1 = true := by
  rw [codes_eq]
  intro c hc
  simp only [codes1, List.mem_cons, List.not_mem_nil, or_false] at hc
  rcases hc with rfl | rfl | rfl | rfl
  · exact w_c0
  · exact w_c1
  · exact w_c2
  · exact w_c3
set_option maxRecDepth 65536 in
theorem w_t1 : (words1.take 24).all (fun c => isCode c || c.before args0 about1) = true := by decide +kernel
set_option maxRecDepth 65536 in
theorem w_t2 : (words1.drop 24).all (fun c => isCode c || c.before args0 about1) = true := by decide +kernel
theorem w_tables : (allAtoms (Jvm.Cond.code x code maxLocals ret :: tables_1)).before args0 about1 = true := by
  rw [allAtoms_all]
  show words1.all (fun c => c.before args0 about1) = true
  refine all_split ?_ w_codes
  rw [← List.take_append_drop 24 words1, List.all_append, w_t1, w_t2]
  rfl
set_option maxRecDepth 65536 in
theorem w_case : (Jvm.Cond.and given_1 narrow_1).before args0 about1 = true := by decide +kernel
theorem w_applies : (headSpec (Jvm.Cond.code x code maxLocals ret :: tables_1) room_1).applies x e0.platform about1 = true :=
  (Spec.applies_iff w_frames).mpr ⟨w_running, w_runnable, w_alone, w_named, w_hears, w_ripe, w_room, w_tables⟩
theorem atStart : AtStart classFile x code maxLocals ret World_1 tables_1 room_1 Calls_1 rest_1 Pre_1 launch0 p0 e0 about1 theMethod args0 below0 :=
  ⟨lists_1, trivial, launch0.admits_env _ _ _, launch0.least_env, fairChoices_fair.cas, fairChoices_fair.clock, w_frames, w_args, w_heap, w_applies, trivial, trivial, w_case⟩
end start1
theorem witness_1 : WitnessClaimed_1 := ⟨start1.p0, start1.e0, start1.about1, start1.theMethod, start1.args0, start1.below0, start1.atStart⟩
end Jvm.Pilot.@@N@@
