import JvmDerived
import JvmDerived.Pilot.@@N@@Statement
import JvmDerived.Pilot.@@N@@Code
set_option linter.unusedVariables false
set_option linter.unusedSimpArgs false
namespace Jvm.RoadKit
open Sem ClassFile Op Lib Jvm.Stand Jvm.Free Jvm.LawKit
section New
variable {p : Program} {l : Launch} {e : Env} {R : Room} {s : State} {m : MethodId} {args : Array Value} {below : List Frame} {meth : Method} {c : Code} {T : State} {locs : List Loc} {cells slots : Nat}
theorem retI (X : Stand p l e R s m args below meth c T locs cells slots) (hx : p.tables.exec = Jvm.exec) {pc : Nat} {Ls : Array Slot} {z : Int32} {rest : List Value} (hret : meth.sig.returnType = some .int) (hd : decode c.code pc = .ok (.ireturn, 1)) {fs : List Frame}
    (hl : ∀ (f : JFrame) (acts : List Action), f.method = m → f.locked = none → f.entered = [] → (doReturn e (T.setTop f) acts (some (.int z))).1 = T.setFrames fs) : Steps p.tables e below (T.setTop (mkF m pc Ls (.int z :: rest))) (T.setFrames fs) := by
  have hm' : T.vm.method? m = some meth := X.method'
  have hn : narrow .int (.int z) = .int z := rfl
  show Steps p.tables e below (T.setTop { method := m, pc := pc, locals := Ls, stack := _ :: rest, locked := none }) _
  jvm_step X.here [X.here.top, hx, hd, hm', hret, hn]
  first | (intro acts; rw [hl _ acts rfl rfl rfl]) | rw [hl _ _ rfl rfl rfl]
  exact Steps.refl _
/-- from here the run ends and leaves what Q says -/
def Go (p : Program) (e : Env) (below : List Frame) (s : State) (Q : Option Value → Heap → List Loc → Prop) (C N : Nat) (S : State) : Prop :=
  ∃ s₂ o, Steps p.tables e below S s₂ ∧ s₂.status = .running ∧ Ended s₂ below o ∧ ∃ v L, o = .returned v ∧ Q v s₂.heap L ∧ FrameEnd s o s₂ L C N
variable {Q : Option Value → Heap → List Loc → Prop} {C N : Nat}
theorem Go.step {S S' : State} (k : ∀ t, Steps p.tables e below S' t → Steps p.tables e below S t) (g : Go p e below s Q C N S') : Go p e below s Q C N S := by
  obtain ⟨s2, o, h1, h2⟩ := g
  exact ⟨s2, o, k _ h1, h2⟩
theorem Go.retN (X : Stand p l e R s m args below meth c T locs cells slots) (hx : p.tables.exec = Jvm.exec) {pc : Nat} {Ls : Array Slot} {z : Int32} {t : FieldType} {rest : List Value} (hret : meth.sig.returnType = some t) (ht : t = .boolean ∨ t = .byte ∨ t = .char ∨ t = .short) (hlk : meth.locks = false) (hd : decode c.code pc = .ok (.ireturn, 1))
    (hq : Q (some (.int (nar t z))) T.heap locs) (hc : cells ≤ C) (hs : slots ≤ N) : Go p e below s Q C N (T.setTop (mkF m pc Ls (.int z :: rest))) := by
  obtain ⟨fs, hr, hrun, hended, hW, hsame⟩ := X.leave (v := some (.int (nar t z))) (fun h => by rw [hret] at h; cases h) hlk
  exact ⟨_, _, Jvm.RoadKit.retN X hx (t := t) hret ht hd hr, hrun, hended, _, _, rfl, hq, ⟨_, rfl⟩, hW, hsame.mono hc hs⟩
theorem Go.retI (X : Stand p l e R s m args below meth c T locs cells slots) (hx : p.tables.exec = Jvm.exec) {pc : Nat} {Ls : Array Slot} {z : Int32} {rest : List Value} (hret : meth.sig.returnType = some .int) (hlk : meth.locks = false) (hd : decode c.code pc = .ok (.ireturn, 1))
    (hq : Q (some (.int z)) T.heap locs) (hc : cells ≤ C) (hs : slots ≤ N) : Go p e below s Q C N (T.setTop (mkF m pc Ls (.int z :: rest))) := by
  obtain ⟨fs, hr, hrun, hended, hW, hsame⟩ := X.leave (v := some (.int z)) (fun h => by rw [hret] at h; cases h) hlk
  exact ⟨_, _, Jvm.RoadKit.retI X hx hret hd hr, hrun, hended, _, _, rfl, hq, ⟨_, rfl⟩, hW, hsame.mono hc hs⟩
theorem Go.retA (X : Stand p l e R s m args below meth c T locs cells slots) (hx : p.tables.exec = Jvm.exec) {pc : Nat} {Ls : Array Slot} {v : Value} {rest : List Value} {t : FieldType} (hret : meth.sig.returnType = some t) (ht : t.isReference = true) (hv : v.isRef = true) (hlk : meth.locks = false) (hd : decode c.code pc = .ok (.areturn, 1))
    (hq : Q (some v) T.heap locs) (hc : cells ≤ C) (hs : slots ≤ N) : Go p e below s Q C N (T.setTop (mkF m pc Ls (v :: rest))) := by
  obtain ⟨fs, hr, hrun, hended, hW, hsame⟩ := X.leave (v := some v) (fun h => by rw [hret] at h; cases h) hlk
  refine ⟨_, _, ?_, hrun, hended, _, _, rfl, hq, ⟨_, rfl⟩, hW, hsame.mono hc hs⟩
  have hm' : T.vm.method? m = some meth := X.method'
  show Steps p.tables e below (T.setTop { method := m, pc := pc, locals := Ls, stack := v :: rest, locked := none }) _
  jvm_step X.here [X.here.top, hx, hd, hm', hret, hv, ht]
  first | (intro acts; rw [hr _ acts rfl rfl rfl]) | rw [hr _ _ rfl rfl rfl]
  exact Steps.refl _
theorem own_ne {x k : Int32} {z : Int} (hz : k.toInt = z) (h : ¬ x = k) : x.toInt ≠ z := fun q => h (Int32.toInt_inj.mp (q.trans hz.symm))
end New
end Jvm.RoadKit
namespace Jvm.Pilot.@@N@@
open Jvm Jvm.ClassFile Sem Op Lib Jvm.Free Jvm.Stand Jvm.LawKit Jvm.RoadKit Bundle Jvm.Pilot.@@N@@.Jvm.D
def btv : List Value := [(.int (60 : Int32)), (.int (62 : Int32)), (.int (34 : Int32)), (.int (123 : Int32)), (.int (125 : Int32)), (.int (124 : Int32)), (.int (94 : Int32)), (.int (96 : Int32)), (.int (92 : Int32))]
/-- the String a is Latin-1 and compact, its bytes (array b) are these; compact strings are on -/
def Str9 (Z : State) (h : Heap) (a b : Addr) (G : Int32) : Prop :=
  Exa Z h a "java/lang/String" ∧ Fld Z h a "java/lang/String" "coder" "B" (.int 0) ∧ Fld Z h a "java/lang/String" "value" "[B" (.ref b) ∧ Sta Z h "java/lang/String" "COMPACT_STRINGS" "Z" (.int G) ∧ ¬ G = 0 ∧ ∃ cl : Cell, Arr Z h b cl .byte ∧ cl.slots.size = 9 ∧ ∀ j, j < 9 → cl.slots[j]? = some (btv.getD j (.int 0))
theorem d7_0 : decode jdk_42_method_152_code 0 = .ok (.getstatic 38, 3) := by decide +kernel
theorem d7_3 : decode jdk_42_method_152_code 3 = .ok (.ifCond .eq 10, 3) := by decide +kernel
theorem d7_6 : decode jdk_42_method_152_code 6 = .ok (.aload_n 0, 1) := by decide +kernel
theorem d7_7 : decode jdk_42_method_152_code 7 = .ok (.getfield 15, 3) := by decide +kernel
theorem d7_10 : decode jdk_42_method_152_code 10 = .ok (.goto 4, 3) := by decide +kernel
theorem d7_13 : decode jdk_42_method_152_code 13 = .ok (.iconst 1, 1) := by decide +kernel
theorem d7_14 : decode jdk_42_method_152_code 14 = .ok (.ireturn, 1) := by decide +kernel
theorem pn0 : plainName "java/lang/String" = true := by first | (simp [plainName, overriddenIn]; done) | decide +kernel
theorem pd0 : parseMethodDescriptor "()B" = some ⟨[], some .byte⟩ := by decide +kernel
theorem ef7 (m : MethodId) (o0 : Addr) : entryFrame m #[(.ref o0)] 1 = mkF m 0 #[.val (.ref o0)] [] := by first | (simp [entryFrame, mkF, argsToLocals, Value.category]; done) | rfl
def f7 (o0 : Addr) (b : Addr) (G : Int32) : Int32 := (0 : Int32)
def Q7 (o0 : Addr) (b : Addr) (G : Int32) (h0 : Heap) (n0 : Nat) (v : Option Value) (h : Heap) (L : List Loc) : Prop := v = some (.int (f7 o0 b G)) ∧ Fr n0 L ∧ h = h0
set_option maxRecDepth 65536 in
set_option maxHeartbeats 40000000 in
theorem rm7 (l : Launch) (Z : State) (a0 : Array Value) (hw : ∀ d ∈ tables_1, d.before a0 Z = true) (ws : List Jvm.Cond) (o0 : Addr) (b : Addr) (G : Int32) (h0 : Heap) (n0 : Nat) (Z0 : n0 ≤ h0.size) (F : Str9 Z h0 o0 b G) :
    MetFree l (⟨"java/lang/String", "coder", "()B"⟩ : MethodName) (head1 (Jvm.Cond.code (⟨"java/lang/String", "coder", "()B"⟩ : MethodName) jdk_42_method_152_code 1 (some .byte) :: ws) ({ frames := 0, cells := 0, slots := 0, locals := 0 } : Room)) (fun a U => a = #[(.ref o0)] ∧ Z.Warmed39 U.vm ∧ U.heap = h0) (fun _ _ _ _ _ => True) (fun _ U o U' => ∃ v L, o = .returned v ∧ Q7 o0 b G h0 n0 v U'.heap L ∧ FrameEnd U o U' L ({ frames := 0, cells := 0, slots := 0, locals := 0 } : Room).cells ({ frames := 0, cells := 0, slots := 0, locals := 0 } : Room).slots) := by
  refine MetFree.of_bodySF (plainFor_of_name pn0) hisR ?_
  intro p e s m args below meth c s₁ Bd hml0 hP hK
  obtain ⟨rfl, hZ, hh⟩ := hP
  have hx := Bd.exec
  have hby := Bd.bytes
  have hml : c.maxLocals = 1 := hml0
  have hown : s.vm.findClass "java/lang/String" = some m.cls := findClass_of_methodNamed Bd.named
  have X0 : Stand p l e ({ frames := 0, cells := 0, slots := 0, locals := 0 } : Room) s m #[(.ref o0)] below meth c s₁ [] 0 0 := Stand.of_body Bd
  have e0 : s₁.heap = h0 := by rw [← hh, Bd.state]; rfl
  obtain ⟨r, hr0⟩ : ∃ r, f7 o0 b G = r := ⟨_, rfl⟩
  have B0 : ∀  (T : State) (locs : List Loc) (X : Stand p l e ({ frames := 0, cells := 0, slots := 0, locals := 0 } : Room) s m #[(.ref o0)] below meth c T locs 0 0) (eT : T.heap = h0) (NF : Fr n0 locs) (hr : f7 o0 b G = r), Go p e below s (Q7 o0 b G h0 n0) ({ frames := 0, cells := 0, slots := 0, locals := 0 } : Room).cells ({ frames := 0, cells := 0, slots := 0, locals := 0 } : Room).slots (T.setTop (mkF m 0 #[.val (.ref o0)] [])) := by
    intro  T locs X eT NF hr
    unfold f7 at hr
    obtain ⟨T1, X1, e1, st1⟩ := getS2 X hx hZ hown (host := "") (Or.inl (hw _ (List.mem_of_getElem? (i := 32) rfl))) Via.refl eT F.2.2.2.1 (g := (mkF m 0 #[.val (.ref o0)] [])) rfl (hb hby d7_0)
    refine Go.step (S' := T1.setTop (mkF m 3 #[.val (.ref o0)] [(.int G)])) (fun t k => st1 t k) ?_
    refine Go.step (S' := T1.setTop (mkF m 6 #[.val (.ref o0)] [])) (fun t k => XS.ifNo X1.here hx rfl (hb hby d7_3) rfl ((if0 _ _).trans (feq F.2.2.2.2.1).1) k) ?_
    refine Go.step (S' := T1.setTop (mkF m 7 #[.val (.ref o0)] [(.ref o0)])) (fun t k => XS.aloadN X1.here hx rfl (hb hby d7_6) rfl rfl k) ?_
    obtain ⟨T3, X3, e3, st3⟩ := getF X1 hx hZ hown (host := "") (Or.inl (hw _ (List.mem_of_getElem? (i := 33) rfl))) Via.refl e1 F.2.1 (g := (mkF m 7 #[.val (.ref o0)] [(.ref o0)])) rfl rfl (hb hby d7_7)
    refine Go.step (S' := T3.setTop (mkF m 10 #[.val (.ref o0)] [(.int (0 : Int32))])) (fun t k => st3 t k) ?_
    refine Go.step (S' := T3.setTop (mkF m 14 #[.val (.ref o0)] [(.int (0 : Int32))])) (fun t k => XS.goto X3.here hx rfl (pc0 := 10) (pc' := 14) rfl (hb hby d7_10) (by decide) (by decide) k) ?_
    exact Go.retN X3 hx (t := .byte) Bd.returns (by simp) Bd.notSynchronized (hb hby d7_14) ⟨by rw [hr0, ← hr]; first | done | rfl, NF, e3⟩ (by decide) (by decide)
  show Go p e below s (Q7 o0 b G h0 n0) ({ frames := 0, cells := 0, slots := 0, locals := 0 } : Room).cells ({ frames := 0, cells := 0, slots := 0, locals := 0 } : Room).slots (s₁.setTop (entryFrame m #[(.ref o0)] 1))
  rw [ef7]
  exact B0 s₁ [] X0 e0 (Fr.nil n0) hr0
theorem d5_0 : decode jdk_42_method_154_code 0 = .ok (.getstatic 38, 3) := by decide +kernel
theorem d5_3 : decode jdk_42_method_154_code 3 = .ok (.ifCond .eq 14, 3) := by decide +kernel
theorem d5_6 : decode jdk_42_method_154_code 6 = .ok (.aload_n 0, 1) := by decide +kernel
theorem d5_7 : decode jdk_42_method_154_code 7 = .ok (.getfield 15, 3) := by decide +kernel
theorem d5_10 : decode jdk_42_method_154_code 10 = .ok (.ifCond .ne 7, 3) := by decide +kernel
theorem d5_13 : decode jdk_42_method_154_code 13 = .ok (.iconst 1, 1) := by decide +kernel
theorem d5_14 : decode jdk_42_method_154_code 14 = .ok (.goto 4, 3) := by decide +kernel
theorem d5_17 : decode jdk_42_method_154_code 17 = .ok (.iconst 0, 1) := by decide +kernel
theorem d5_18 : decode jdk_42_method_154_code 18 = .ok (.ireturn, 1) := by decide +kernel
theorem pd1 : parseMethodDescriptor "()Z" = some ⟨[], some .boolean⟩ := by decide +kernel
theorem ef5 (m : MethodId) (o0 : Addr) : entryFrame m #[(.ref o0)] 1 = mkF m 0 #[.val (.ref o0)] [] := by first | (simp [entryFrame, mkF, argsToLocals, Value.category]; done) | rfl
def f5 (o0 : Addr) (b : Addr) (G : Int32) : Int32 := (1 : Int32)
def Q5 (o0 : Addr) (b : Addr) (G : Int32) (h0 : Heap) (n0 : Nat) (v : Option Value) (h : Heap) (L : List Loc) : Prop := v = some (.int (f5 o0 b G)) ∧ Fr n0 L ∧ h = h0
set_option maxRecDepth 65536 in
set_option maxHeartbeats 40000000 in
theorem rm5 (l : Launch) (Z : State) (a0 : Array Value) (hw : ∀ d ∈ tables_1, d.before a0 Z = true) (ws : List Jvm.Cond) (o0 : Addr) (b : Addr) (G : Int32) (h0 : Heap) (n0 : Nat) (Z0 : n0 ≤ h0.size) (F : Str9 Z h0 o0 b G) :
    MetFree l (⟨"java/lang/String", "isLatin1", "()Z"⟩ : MethodName) (head1 (Jvm.Cond.code (⟨"java/lang/String", "isLatin1", "()Z"⟩ : MethodName) jdk_42_method_154_code 1 (some .boolean) :: ws) ({ frames := 0, cells := 0, slots := 0, locals := 0 } : Room)) (fun a U => a = #[(.ref o0)] ∧ Z.Warmed39 U.vm ∧ U.heap = h0) (fun _ _ _ _ _ => True) (fun _ U o U' => ∃ v L, o = .returned v ∧ Q5 o0 b G h0 n0 v U'.heap L ∧ FrameEnd U o U' L ({ frames := 0, cells := 0, slots := 0, locals := 0 } : Room).cells ({ frames := 0, cells := 0, slots := 0, locals := 0 } : Room).slots) := by
  refine MetFree.of_bodySF (plainFor_of_name pn0) hisR ?_
  intro p e s m args below meth c s₁ Bd hml0 hP hK
  obtain ⟨rfl, hZ, hh⟩ := hP
  have hx := Bd.exec
  have hby := Bd.bytes
  have hml : c.maxLocals = 1 := hml0
  have hown : s.vm.findClass "java/lang/String" = some m.cls := findClass_of_methodNamed Bd.named
  have X0 : Stand p l e ({ frames := 0, cells := 0, slots := 0, locals := 0 } : Room) s m #[(.ref o0)] below meth c s₁ [] 0 0 := Stand.of_body Bd
  have e0 : s₁.heap = h0 := by rw [← hh, Bd.state]; rfl
  obtain ⟨r, hr0⟩ : ∃ r, f5 o0 b G = r := ⟨_, rfl⟩
  have B0 : ∀  (T : State) (locs : List Loc) (X : Stand p l e ({ frames := 0, cells := 0, slots := 0, locals := 0 } : Room) s m #[(.ref o0)] below meth c T locs 0 0) (eT : T.heap = h0) (NF : Fr n0 locs) (hr : f5 o0 b G = r), Go p e below s (Q5 o0 b G h0 n0) ({ frames := 0, cells := 0, slots := 0, locals := 0 } : Room).cells ({ frames := 0, cells := 0, slots := 0, locals := 0 } : Room).slots (T.setTop (mkF m 0 #[.val (.ref o0)] [])) := by
    intro  T locs X eT NF hr
    unfold f5 at hr
    obtain ⟨T1, X1, e1, st1⟩ := getS2 X hx hZ hown (host := "") (Or.inl (hw _ (List.mem_of_getElem? (i := 32) rfl))) Via.refl eT F.2.2.2.1 (g := (mkF m 0 #[.val (.ref o0)] [])) rfl (hb hby d5_0)
    refine Go.step (S' := T1.setTop (mkF m 3 #[.val (.ref o0)] [(.int G)])) (fun t k => st1 t k) ?_
    refine Go.step (S' := T1.setTop (mkF m 6 #[.val (.ref o0)] [])) (fun t k => XS.ifNo X1.here hx rfl (hb hby d5_3) rfl ((if0 _ _).trans (feq F.2.2.2.2.1).1) k) ?_
    refine Go.step (S' := T1.setTop (mkF m 7 #[.val (.ref o0)] [(.ref o0)])) (fun t k => XS.aloadN X1.here hx rfl (hb hby d5_6) rfl rfl k) ?_
    obtain ⟨T3, X3, e3, st3⟩ := getF X1 hx hZ hown (host := "") (Or.inl (hw _ (List.mem_of_getElem? (i := 33) rfl))) Via.refl e1 F.2.1 (g := (mkF m 7 #[.val (.ref o0)] [(.ref o0)])) rfl rfl (hb hby d5_7)
    refine Go.step (S' := T3.setTop (mkF m 10 #[.val (.ref o0)] [(.int (0 : Int32))])) (fun t k => st3 t k) ?_
    refine Go.step (S' := T3.setTop (mkF m 13 #[.val (.ref o0)] [])) (fun t k => XS.ifNo X3.here hx rfl (hb hby d5_10) rfl ((if0 _ _).trans (teq (by decide : ((0 : Int32) = (0 : Int32)))).2) k) ?_
    refine Go.step (S' := T3.setTop (mkF m 14 #[.val (.ref o0)] [(.int (1 : Int32))])) (fun t k => XS.iconst X3.here hx rfl (hb hby d5_13) k) ?_
    refine Go.step (S' := T3.setTop (mkF m 18 #[.val (.ref o0)] [(.int (1 : Int32))])) (fun t k => XS.goto X3.here hx rfl (pc0 := 14) (pc' := 18) rfl (hb hby d5_14) (by decide) (by decide) k) ?_
    exact Go.retN X3 hx (t := .boolean) Bd.returns (by simp) Bd.notSynchronized (hb hby d5_18) ⟨by rw [hr0, ← hr]; first | done | rfl, NF, e3⟩ (by decide) (by decide)
  show Go p e below s (Q5 o0 b G h0 n0) ({ frames := 0, cells := 0, slots := 0, locals := 0 } : Room).cells ({ frames := 0, cells := 0, slots := 0, locals := 0 } : Room).slots (s₁.setTop (entryFrame m #[(.ref o0)] 1))
  rw [ef5]
  exact B0 s₁ [] X0 e0 (Fr.nil n0) hr0
theorem d6_0 : decode jdk_42_method_54_code 0 = .ok (.aload_n 0, 1) := by decide +kernel
theorem d6_1 : decode jdk_42_method_54_code 1 = .ok (.getfield 9, 3) := by decide +kernel
theorem d6_4 : decode jdk_42_method_54_code 4 = .ok (.arraylength, 1) := by decide +kernel
theorem d6_5 : decode jdk_42_method_54_code 5 = .ok (.aload_n 0, 1) := by decide +kernel
theorem d6_6 : decode jdk_42_method_54_code 6 = .ok (.invokevirtual 335, 3) := by decide +kernel
theorem d6_9 : decode jdk_42_method_54_code 9 = .ok (.ishr, 1) := by decide +kernel
theorem d6_10 : decode jdk_42_method_54_code 10 = .ok (.ireturn, 1) := by decide +kernel
theorem pd2 : parseMethodDescriptor "()I" = some ⟨[], some .int⟩ := by decide +kernel
theorem ef6 (m : MethodId) (o0 : Addr) : entryFrame m #[(.ref o0)] 1 = mkF m 0 #[.val (.ref o0)] [] := by first | (simp [entryFrame, mkF, argsToLocals, Value.category]; done) | rfl
def f6 (o0 : Addr) (b : Addr) (G : Int32) : Int32 := ((9 : Int32) >>> ((0 : Int32) &&& 31))
def Q6 (o0 : Addr) (b : Addr) (G : Int32) (h0 : Heap) (n0 : Nat) (v : Option Value) (h : Heap) (L : List Loc) : Prop := v = some (.int (f6 o0 b G)) ∧ Fr n0 L ∧ h = h0
set_option maxRecDepth 65536 in
set_option maxHeartbeats 40000000 in
theorem rm6 (l : Launch) (Z : State) (a0 : Array Value) (hw : ∀ d ∈ tables_1, d.before a0 Z = true) (ws : List Jvm.Cond) (o0 : Addr) (b : Addr) (G : Int32) (h0 : Heap) (n0 : Nat) (Z0 : n0 ≤ h0.size) (F : Str9 Z h0 o0 b G) :
    MetFree l (⟨"java/lang/String", "length", "()I"⟩ : MethodName) (head1 (Jvm.Cond.code (⟨"java/lang/String", "length", "()I"⟩ : MethodName) jdk_42_method_54_code 1 (some .int) :: ws) ({ frames := 1, cells := 0, slots := 0, locals := 13 } : Room)) (fun a U => a = #[(.ref o0)] ∧ Z.Warmed39 U.vm ∧ U.heap = h0) (fun _ _ _ _ _ => True) (fun _ U o U' => ∃ v L, o = .returned v ∧ Q6 o0 b G h0 n0 v U'.heap L ∧ FrameEnd U o U' L ({ frames := 1, cells := 0, slots := 0, locals := 13 } : Room).cells ({ frames := 1, cells := 0, slots := 0, locals := 13 } : Room).slots) := by
  refine MetFree.of_bodySF (plainFor_of_name pn0) hisR ?_
  intro p e s m args below meth c s₁ Bd hml0 hP hK
  obtain ⟨rfl, hZ, hh⟩ := hP
  have hx := Bd.exec
  have hby := Bd.bytes
  have hml : c.maxLocals = 1 := hml0
  have hown : s.vm.findClass "java/lang/String" = some m.cls := findClass_of_methodNamed Bd.named
  have X0 : Stand p l e ({ frames := 1, cells := 0, slots := 0, locals := 13 } : Room) s m #[(.ref o0)] below meth c s₁ [] 0 0 := Stand.of_body Bd
  have e0 : s₁.heap = h0 := by rw [← hh, Bd.state]; rfl
  obtain ⟨r, hr0⟩ : ∃ r, f6 o0 b G = r := ⟨_, rfl⟩
  obtain ⟨cl, Ar, hsz, hat⟩ := F.2.2.2.2.2
  have B0 : ∀  (T : State) (locs : List Loc) (X : Stand p l e ({ frames := 1, cells := 0, slots := 0, locals := 13 } : Room) s m #[(.ref o0)] below meth c T locs 0 0) (eT : T.heap = h0) (NF : Fr n0 locs) (hr : f6 o0 b G = r), Go p e below s (Q6 o0 b G h0 n0) ({ frames := 1, cells := 0, slots := 0, locals := 13 } : Room).cells ({ frames := 1, cells := 0, slots := 0, locals := 13 } : Room).slots (T.setTop (mkF m 0 #[.val (.ref o0)] [])) := by
    intro  T locs X eT NF hr
    unfold f6 at hr
    refine Go.step (S' := T.setTop (mkF m 1 #[.val (.ref o0)] [(.ref o0)])) (fun t k => XS.aloadN X.here hx rfl (hb hby d6_0) rfl rfl k) ?_
    obtain ⟨T1, X1, e1, st1⟩ := getF X hx hZ hown (host := "") (Or.inl (hw _ (List.mem_of_getElem? (i := 34) rfl))) Via.refl eT F.2.2.1 (g := (mkF m 1 #[.val (.ref o0)] [(.ref o0)])) rfl rfl (hb hby d6_1)
    refine Go.step (S' := T1.setTop (mkF m 4 #[.val (.ref o0)] [(.ref b)])) (fun t k => st1 t k) ?_
    refine Go.step (S' := T1.setTop (mkF m 5 #[.val (.ref o0)] [(.int (9 : Int32))])) (fun t k => X1.arraylength hx (by rw [e1]; exact Ar.1) (State.isArrayOf_alike hZ.alike Ar.2.1) (g := (mkF m 4 #[.val (.ref o0)] [(.ref b)])) rfl rfl (hb hby d6_4) _ (by rw [hsz]; exact k)) ?_
    refine Go.step (S' := T1.setTop (mkF m 6 #[.val (.ref o0)] [(.ref o0), (.int (9 : Int32))])) (fun t k => XS.aloadN X1.here hx rfl (hb hby d6_5) rfl rfl k) ?_
    obtain ⟨cq2, kq2, q2a, q2b, q2c⟩ := isOf hZ e1 F.1
    obtain ⟨_, _, ⟨T2, L2, k2, n2⟩, -, X2, ⟨Lc2, hQ2, l2, y2, z2⟩, st2⟩ := X1.virtualBack hx (y := (⟨"java/lang/String", "coder", "()B"⟩ : MethodName)) (z := (⟨"java/lang/String", "coder", "()B"⟩ : MethodName)) hown (mvT hZ (hw _ (List.mem_of_getElem? (i := 40) rfl))) (mvT hZ (hw _ (List.mem_of_getElem? (i := 41) rfl))) (notFace_of_selects (args := #[]) (mvT hZ (hw _ (List.mem_of_getElem? (i := 43) rfl)))) (mvT hZ (hw _ (List.mem_of_getElem? (i := 43) rfl))) (mvT hZ (hw _ (List.mem_of_getElem? (i := 42) rfl))) (by decide) (backOf (W := 1) (rm7 l Z a0 hw [] o0 b G h0 n0 Z0 F) hZ (hw _ (List.mem_of_getElem? (i := 44) rfl)) (hw _ (List.mem_of_getElem? (i := 10) rfl)) (by decide) (by decide)) q2a q2c (g := (mkF m 6 #[.val (.ref o0)] [(.ref o0), (.int (9 : Int32))])) rfl (by rw [hml]; rfl) (Steps.refl _) (argsL := []) (rest := [(.int (9 : Int32))]) (lenOf pd0 rfl) rfl (by show 2 * 0 + _ ≤ _; exact Nat.le_of_eq rfl) (hb hby d6_6) (fun _ _ => ⟨rfl, e1, (by decide : 0 + 0 ≤ _), (by decide : 0 + 0 ≤ _)⟩)
    dsimp only [Pt.U, Pt.locs, Pt.cells, Pt.slots] at X2 l2 y2 z2 st2 hQ2
    subst l2 y2 z2
    obtain ⟨rfl, Nq2, e2⟩ := hQ2
    have N2 := Fr.app NF Nq2
    rw [show f7 o0 b G = 0 from rfl] at st2
    refine Go.step (S' := T2.setTop (mkF m 9 #[.val (.ref o0)] [(.int (0 : Int32)), (.int (9 : Int32))])) (fun t k => st2.trans k) ?_
    refine Go.step (S' := T2.setTop (mkF m 10 #[.val (.ref o0)] [(.int ((9 : Int32) >>> ((0 : Int32) &&& 31)))])) (fun t k => XS.ishr X2.here hx rfl (hb hby d6_9) rfl k) ?_
    exact Go.retI X2 hx Bd.returns Bd.notSynchronized (hb hby d6_10) ⟨by rw [hr0, ← hr]; first | done | rfl, N2, e2⟩ (by decide) (by decide)
  show Go p e below s (Q6 o0 b G h0 n0) ({ frames := 1, cells := 0, slots := 0, locals := 13 } : Room).cells ({ frames := 1, cells := 0, slots := 0, locals := 13 } : Room).slots (s₁.setTop (entryFrame m #[(.ref o0)] 1))
  rw [ef6]
  exact B0 s₁ [] X0 e0 (Fr.nil n0) hr0
theorem d9_0 : decode jdk_43_method_4_code 0 = .ok (.iload_n 0, 1) := by decide +kernel
theorem d9_1 : decode jdk_43_method_4_code 1 = .ok (.ifCond .lt 14, 3) := by decide +kernel
theorem d9_4 : decode jdk_43_method_4_code 4 = .ok (.iload_n 0, 1) := by decide +kernel
theorem d9_5 : decode jdk_43_method_4_code 5 = .ok (.sipush 255, 3) := by decide +kernel
theorem d9_8 : decode jdk_43_method_4_code 8 = .ok (.if_icmp .gt 7, 3) := by decide +kernel
theorem d9_11 : decode jdk_43_method_4_code 11 = .ok (.iconst 1, 1) := by decide +kernel
theorem d9_12 : decode jdk_43_method_4_code 12 = .ok (.goto 4, 3) := by decide +kernel
theorem d9_15 : decode jdk_43_method_4_code 15 = .ok (.iconst 0, 1) := by decide +kernel
theorem d9_16 : decode jdk_43_method_4_code 16 = .ok (.ireturn, 1) := by decide +kernel
theorem pn1 : plainName "java/lang/StringLatin1" = true := by first | (simp [plainName, overriddenIn]; done) | decide +kernel
theorem pd3 : parseMethodDescriptor "(I)Z" = some ⟨[.int], some .boolean⟩ := by decide +kernel
theorem ef9 (m : MethodId) (x0 : Int32) : entryFrame m #[(.int x0)] 1 = mkF m 0 #[.val (.int x0)] [] := by first | (simp [entryFrame, mkF, argsToLocals, Value.category]; done) | rfl
def f9 (x0 : Int32) : Int32 := (if x0 < (0 : Int32) then (0 : Int32) else (if (255 : Int32) < x0 then (0 : Int32) else (1 : Int32)))
def Q9 (x0 : Int32) (h0 : Heap) (n0 : Nat) (v : Option Value) (h : Heap) (L : List Loc) : Prop := v = some (.int (f9 x0)) ∧ Fr n0 L ∧ h = h0
set_option maxRecDepth 65536 in
set_option maxHeartbeats 40000000 in
theorem rm9 (l : Launch) (Z : State) (a0 : Array Value) (hw : ∀ d ∈ tables_1, d.before a0 Z = true) (ws : List Jvm.Cond) (x0 : Int32) (h0 : Heap) (n0 : Nat) (Z0 : n0 ≤ h0.size) :
    MetFree l (⟨"java/lang/StringLatin1", "canEncode", "(I)Z"⟩ : MethodName) (head1 (Jvm.Cond.code (⟨"java/lang/StringLatin1", "canEncode", "(I)Z"⟩ : MethodName) jdk_43_method_4_code 1 (some .boolean) :: ws) ({ frames := 0, cells := 0, slots := 0, locals := 0 } : Room)) (fun a U => a = #[(.int x0)] ∧ Z.Warmed39 U.vm ∧ U.heap = h0) (fun _ _ _ _ _ => True) (fun _ U o U' => ∃ v L, o = .returned v ∧ Q9 x0 h0 n0 v U'.heap L ∧ FrameEnd U o U' L ({ frames := 0, cells := 0, slots := 0, locals := 0 } : Room).cells ({ frames := 0, cells := 0, slots := 0, locals := 0 } : Room).slots) := by
  refine MetFree.of_bodySF (plainFor_of_name pn1) hisR ?_
  intro p e s m args below meth c s₁ Bd hml0 hP hK
  obtain ⟨rfl, hZ, hh⟩ := hP
  have hx := Bd.exec
  have hby := Bd.bytes
  have hml : c.maxLocals = 1 := hml0
  have hown : s.vm.findClass "java/lang/StringLatin1" = some m.cls := findClass_of_methodNamed Bd.named
  have X0 : Stand p l e ({ frames := 0, cells := 0, slots := 0, locals := 0 } : Room) s m #[(.int x0)] below meth c s₁ [] 0 0 := Stand.of_body Bd
  have e0 : s₁.heap = h0 := by rw [← hh, Bd.state]; rfl
  obtain ⟨r, hr0⟩ : ∃ r, f9 x0 = r := ⟨_, rfl⟩
  have B0 : ∀  (T : State) (locs : List Loc) (X : Stand p l e ({ frames := 0, cells := 0, slots := 0, locals := 0 } : Room) s m #[(.int x0)] below meth c T locs 0 0) (eT : T.heap = h0) (NF : Fr n0 locs) (hr : f9 x0 = r), Go p e below s (Q9 x0 h0 n0) ({ frames := 0, cells := 0, slots := 0, locals := 0 } : Room).cells ({ frames := 0, cells := 0, slots := 0, locals := 0 } : Room).slots (T.setTop (mkF m 0 #[.val (.int x0)] [])) := by
    intro  T locs X eT NF hr
    unfold f9 at hr
    refine Go.step (S' := T.setTop (mkF m 1 #[.val (.int x0)] [(.int x0)])) (fun t k => XS.iloadN X.here hx rfl (hb hby d9_0) rfl k) ?_
    by_cases hc1 : x0 < (0 : Int32)
    · rw [if_pos hc1] at hr
      refine Go.step (S' := T.setTop (mkF m 15 #[.val (.int x0)] [])) (fun t k => XS.ifYes X.here hx rfl (pc0 := 1) (pc' := 15) rfl (hb hby d9_1) rfl ((if0 _ _).trans (tlt hc1).1) (by decide) (by decide) k) ?_
      refine Go.step (S' := T.setTop (mkF m 16 #[.val (.int x0)] [(.int (0 : Int32))])) (fun t k => XS.iconst X.here hx rfl (hb hby d9_15) k) ?_
      exact Go.retN X hx (t := .boolean) Bd.returns (by simp) Bd.notSynchronized (hb hby d9_16) ⟨by rw [hr0, ← hr]; first | done | rfl, NF, eT⟩ (by decide) (by decide)
    · rw [if_neg hc1] at hr
      refine Go.step (S' := T.setTop (mkF m 4 #[.val (.int x0)] [])) (fun t k => XS.ifNo X.here hx rfl (hb hby d9_1) rfl ((if0 _ _).trans (flt hc1).1) k) ?_
      refine Go.step (S' := T.setTop (mkF m 5 #[.val (.int x0)] [(.int x0)])) (fun t k => XS.iloadN X.here hx rfl (hb hby d9_4) rfl k) ?_
      refine Go.step (S' := T.setTop (mkF m 8 #[.val (.int x0)] [(.int (255 : Int32)), (.int x0)])) (fun t k => XS.sipush X.here hx rfl (hb hby d9_5) k) ?_
      by_cases hc2 : (255 : Int32) < x0
      · rw [if_pos hc2] at hr
        refine Go.step (S' := T.setTop (mkF m 15 #[.val (.int x0)] [])) (fun t k => XS.icmpYes X.here hx rfl (pc0 := 8) (pc' := 15) rfl (hb hby d9_8) rfl (tlt hc2).2.2.1 (by decide) (by decide) k) ?_
        refine Go.step (S' := T.setTop (mkF m 16 #[.val (.int x0)] [(.int (0 : Int32))])) (fun t k => XS.iconst X.here hx rfl (hb hby d9_15) k) ?_
        exact Go.retN X hx (t := .boolean) Bd.returns (by simp) Bd.notSynchronized (hb hby d9_16) ⟨by rw [hr0, ← hr]; first | done | rfl, NF, eT⟩ (by decide) (by decide)
      · rw [if_neg hc2] at hr
        refine Go.step (S' := T.setTop (mkF m 11 #[.val (.int x0)] [])) (fun t k => XS.icmpNo X.here hx rfl (hb hby d9_8) rfl (flt hc2).2.2.1 k) ?_
        refine Go.step (S' := T.setTop (mkF m 12 #[.val (.int x0)] [(.int (1 : Int32))])) (fun t k => XS.iconst X.here hx rfl (hb hby d9_11) k) ?_
        refine Go.step (S' := T.setTop (mkF m 16 #[.val (.int x0)] [(.int (1 : Int32))])) (fun t k => XS.goto X.here hx rfl (pc0 := 12) (pc' := 16) rfl (hb hby d9_12) (by decide) (by decide) k) ?_
        exact Go.retN X hx (t := .boolean) Bd.returns (by simp) Bd.notSynchronized (hb hby d9_16) ⟨by rw [hr0, ← hr]; first | done | rfl, NF, eT⟩ (by decide) (by decide)
  show Go p e below s (Q9 x0 h0 n0) ({ frames := 0, cells := 0, slots := 0, locals := 0 } : Room).cells ({ frames := 0, cells := 0, slots := 0, locals := 0 } : Room).slots (s₁.setTop (entryFrame m #[(.int x0)] 1))
  rw [ef9]
  exact B0 s₁ [] X0 e0 (Fr.nil n0) hr0
theorem d10_0 : decode jdk_29_method_65_code 0 = .ok (.iload_n 0, 1) := by decide +kernel
theorem d10_1 : decode jdk_29_method_65_code 1 = .ok (.iload_n 1, 1) := by decide +kernel
theorem d10_2 : decode jdk_29_method_65_code 2 = .ok (.if_icmp .lt 7, 3) := by decide +kernel
theorem d10_5 : decode jdk_29_method_65_code 5 = .ok (.iload_n 0, 1) := by decide +kernel
theorem d10_6 : decode jdk_29_method_65_code 6 = .ok (.goto 4, 3) := by decide +kernel
theorem d10_9 : decode jdk_29_method_65_code 9 = .ok (.iload_n 1, 1) := by decide +kernel
theorem d10_10 : decode jdk_29_method_65_code 10 = .ok (.ireturn, 1) := by decide +kernel
theorem pd4 : parseMethodDescriptor "(II)I" = some ⟨[.int, .int], some .int⟩ := by decide +kernel
theorem ef10 (m : MethodId) (x0 : Int32) (x1 : Int32) : entryFrame m #[(.int x0), (.int x1)] 2 = mkF m 0 #[.val (.int x0), .val (.int x1)] [] := by first | (simp [entryFrame, mkF, argsToLocals, Value.category]; done) | rfl
def f10 (x0 : Int32) (x1 : Int32) : Int32 := (if x0 < x1 then x1 else x0)
def Q10 (x0 : Int32) (x1 : Int32) (h0 : Heap) (n0 : Nat) (v : Option Value) (h : Heap) (L : List Loc) : Prop := v = some (.int (f10 x0 x1)) ∧ Fr n0 L ∧ h = h0
set_option maxRecDepth 65536 in
set_option maxHeartbeats 40000000 in
theorem rm10 (l : Launch) (Z : State) (a0 : Array Value) (hw : ∀ d ∈ tables_1, d.before a0 Z = true) (ws : List Jvm.Cond) (x0 : Int32) (x1 : Int32) (h0 : Heap) (n0 : Nat) (Z0 : n0 ≤ h0.size) :
    MetFree l (⟨"java/lang/Math", "max", "(II)I"⟩ : MethodName) (head1 (Jvm.Cond.code (⟨"java/lang/Math", "max", "(II)I"⟩ : MethodName) jdk_29_method_65_code 2 (some .int) :: ws) ({ frames := 0, cells := 0, slots := 0, locals := 0 } : Room)) (fun a U => a = #[(.int x0), (.int x1)] ∧ Z.Warmed39 U.vm ∧ U.heap = h0) (fun _ _ _ _ _ => True) (fun _ U o U' => ∃ v L, o = .returned v ∧ Q10 x0 x1 h0 n0 v U'.heap L ∧ FrameEnd U o U' L ({ frames := 0, cells := 0, slots := 0, locals := 0 } : Room).cells ({ frames := 0, cells := 0, slots := 0, locals := 0 } : Room).slots) := by
  refine MetFree.of_bodySF (Jvm.Free.JP.mathPlain rfl (by decide +kernel)) hisR ?_
  intro p e s m args below meth c s₁ Bd hml0 hP hK
  obtain ⟨rfl, hZ, hh⟩ := hP
  have hx := Bd.exec
  have hby := Bd.bytes
  have hml : c.maxLocals = 2 := hml0
  have hown : s.vm.findClass "java/lang/Math" = some m.cls := findClass_of_methodNamed Bd.named
  have X0 : Stand p l e ({ frames := 0, cells := 0, slots := 0, locals := 0 } : Room) s m #[(.int x0), (.int x1)] below meth c s₁ [] 0 0 := Stand.of_body Bd
  have e0 : s₁.heap = h0 := by rw [← hh, Bd.state]; rfl
  obtain ⟨r, hr0⟩ : ∃ r, f10 x0 x1 = r := ⟨_, rfl⟩
  have B0 : ∀  (T : State) (locs : List Loc) (X : Stand p l e ({ frames := 0, cells := 0, slots := 0, locals := 0 } : Room) s m #[(.int x0), (.int x1)] below meth c T locs 0 0) (eT : T.heap = h0) (NF : Fr n0 locs) (hr : f10 x0 x1 = r), Go p e below s (Q10 x0 x1 h0 n0) ({ frames := 0, cells := 0, slots := 0, locals := 0 } : Room).cells ({ frames := 0, cells := 0, slots := 0, locals := 0 } : Room).slots (T.setTop (mkF m 0 #[.val (.int x0), .val (.int x1)] [])) := by
    intro  T locs X eT NF hr
    unfold f10 at hr
    refine Go.step (S' := T.setTop (mkF m 1 #[.val (.int x0), .val (.int x1)] [(.int x0)])) (fun t k => XS.iloadN X.here hx rfl (hb hby d10_0) rfl k) ?_
    refine Go.step (S' := T.setTop (mkF m 2 #[.val (.int x0), .val (.int x1)] [(.int x1), (.int x0)])) (fun t k => XS.iloadN X.here hx rfl (hb hby d10_1) rfl k) ?_
    by_cases hc1 : x0 < x1
    · rw [if_pos hc1] at hr
      refine Go.step (S' := T.setTop (mkF m 9 #[.val (.int x0), .val (.int x1)] [])) (fun t k => XS.icmpYes X.here hx rfl (pc0 := 2) (pc' := 9) rfl (hb hby d10_2) rfl (tlt hc1).1 (by decide) (by decide) k) ?_
      refine Go.step (S' := T.setTop (mkF m 10 #[.val (.int x0), .val (.int x1)] [(.int x1)])) (fun t k => XS.iloadN X.here hx rfl (hb hby d10_9) rfl k) ?_
      exact Go.retI X hx Bd.returns Bd.notSynchronized (hb hby d10_10) ⟨by rw [hr0, ← hr]; first | done | rfl, NF, eT⟩ (by decide) (by decide)
    · rw [if_neg hc1] at hr
      refine Go.step (S' := T.setTop (mkF m 5 #[.val (.int x0), .val (.int x1)] [])) (fun t k => XS.icmpNo X.here hx rfl (hb hby d10_2) rfl (flt hc1).1 k) ?_
      refine Go.step (S' := T.setTop (mkF m 6 #[.val (.int x0), .val (.int x1)] [(.int x0)])) (fun t k => XS.iloadN X.here hx rfl (hb hby d10_5) rfl k) ?_
      refine Go.step (S' := T.setTop (mkF m 10 #[.val (.int x0), .val (.int x1)] [(.int x0)])) (fun t k => XS.goto X.here hx rfl (pc0 := 6) (pc' := 10) rfl (hb hby d10_6) (by decide) (by decide) k) ?_
      exact Go.retI X hx Bd.returns Bd.notSynchronized (hb hby d10_10) ⟨by rw [hr0, ← hr]; first | done | rfl, NF, eT⟩ (by decide) (by decide)
  show Go p e below s (Q10 x0 x1 h0 n0) ({ frames := 0, cells := 0, slots := 0, locals := 0 } : Room).cells ({ frames := 0, cells := 0, slots := 0, locals := 0 } : Room).slots (s₁.setTop (entryFrame m #[(.int x0), (.int x1)] 2))
  rw [ef10]
  exact B0 s₁ [] X0 e0 (Fr.nil n0) hr0
theorem d11_0 : decode jdk_29_method_69_code 0 = .ok (.iload_n 0, 1) := by decide +kernel
theorem d11_1 : decode jdk_29_method_69_code 1 = .ok (.iload_n 1, 1) := by decide +kernel
theorem d11_2 : decode jdk_29_method_69_code 2 = .ok (.if_icmp .gt 7, 3) := by decide +kernel
theorem d11_5 : decode jdk_29_method_69_code 5 = .ok (.iload_n 0, 1) := by decide +kernel
theorem d11_6 : decode jdk_29_method_69_code 6 = .ok (.goto 4, 3) := by decide +kernel
theorem d11_9 : decode jdk_29_method_69_code 9 = .ok (.iload_n 1, 1) := by decide +kernel
theorem d11_10 : decode jdk_29_method_69_code 10 = .ok (.ireturn, 1) := by decide +kernel
theorem ef11 (m : MethodId) (x0 : Int32) (x1 : Int32) : entryFrame m #[(.int x0), (.int x1)] 2 = mkF m 0 #[.val (.int x0), .val (.int x1)] [] := by first | (simp [entryFrame, mkF, argsToLocals, Value.category]; done) | rfl
def f11 (x0 : Int32) (x1 : Int32) : Int32 := (if x1 < x0 then x1 else x0)
def Q11 (x0 : Int32) (x1 : Int32) (h0 : Heap) (n0 : Nat) (v : Option Value) (h : Heap) (L : List Loc) : Prop := v = some (.int (f11 x0 x1)) ∧ Fr n0 L ∧ h = h0
set_option maxRecDepth 65536 in
set_option maxHeartbeats 40000000 in
theorem rm11 (l : Launch) (Z : State) (a0 : Array Value) (hw : ∀ d ∈ tables_1, d.before a0 Z = true) (ws : List Jvm.Cond) (x0 : Int32) (x1 : Int32) (h0 : Heap) (n0 : Nat) (Z0 : n0 ≤ h0.size) :
    MetFree l (⟨"java/lang/Math", "min", "(II)I"⟩ : MethodName) (head1 (Jvm.Cond.code (⟨"java/lang/Math", "min", "(II)I"⟩ : MethodName) jdk_29_method_69_code 2 (some .int) :: ws) ({ frames := 0, cells := 0, slots := 0, locals := 0 } : Room)) (fun a U => a = #[(.int x0), (.int x1)] ∧ Z.Warmed39 U.vm ∧ U.heap = h0) (fun _ _ _ _ _ => True) (fun _ U o U' => ∃ v L, o = .returned v ∧ Q11 x0 x1 h0 n0 v U'.heap L ∧ FrameEnd U o U' L ({ frames := 0, cells := 0, slots := 0, locals := 0 } : Room).cells ({ frames := 0, cells := 0, slots := 0, locals := 0 } : Room).slots) := by
  refine MetFree.of_bodySF (Jvm.Free.JP.mathPlain rfl (by decide +kernel)) hisR ?_
  intro p e s m args below meth c s₁ Bd hml0 hP hK
  obtain ⟨rfl, hZ, hh⟩ := hP
  have hx := Bd.exec
  have hby := Bd.bytes
  have hml : c.maxLocals = 2 := hml0
  have hown : s.vm.findClass "java/lang/Math" = some m.cls := findClass_of_methodNamed Bd.named
  have X0 : Stand p l e ({ frames := 0, cells := 0, slots := 0, locals := 0 } : Room) s m #[(.int x0), (.int x1)] below meth c s₁ [] 0 0 := Stand.of_body Bd
  have e0 : s₁.heap = h0 := by rw [← hh, Bd.state]; rfl
  obtain ⟨r, hr0⟩ : ∃ r, f11 x0 x1 = r := ⟨_, rfl⟩
  have B0 : ∀  (T : State) (locs : List Loc) (X : Stand p l e ({ frames := 0, cells := 0, slots := 0, locals := 0 } : Room) s m #[(.int x0), (.int x1)] below meth c T locs 0 0) (eT : T.heap = h0) (NF : Fr n0 locs) (hr : f11 x0 x1 = r), Go p e below s (Q11 x0 x1 h0 n0) ({ frames := 0, cells := 0, slots := 0, locals := 0 } : Room).cells ({ frames := 0, cells := 0, slots := 0, locals := 0 } : Room).slots (T.setTop (mkF m 0 #[.val (.int x0), .val (.int x1)] [])) := by
    intro  T locs X eT NF hr
    unfold f11 at hr
    refine Go.step (S' := T.setTop (mkF m 1 #[.val (.int x0), .val (.int x1)] [(.int x0)])) (fun t k => XS.iloadN X.here hx rfl (hb hby d11_0) rfl k) ?_
    refine Go.step (S' := T.setTop (mkF m 2 #[.val (.int x0), .val (.int x1)] [(.int x1), (.int x0)])) (fun t k => XS.iloadN X.here hx rfl (hb hby d11_1) rfl k) ?_
    by_cases hc1 : x1 < x0
    · rw [if_pos hc1] at hr
      refine Go.step (S' := T.setTop (mkF m 9 #[.val (.int x0), .val (.int x1)] [])) (fun t k => XS.icmpYes X.here hx rfl (pc0 := 2) (pc' := 9) rfl (hb hby d11_2) rfl (tlt hc1).2.2.1 (by decide) (by decide) k) ?_
      refine Go.step (S' := T.setTop (mkF m 10 #[.val (.int x0), .val (.int x1)] [(.int x1)])) (fun t k => XS.iloadN X.here hx rfl (hb hby d11_9) rfl k) ?_
      exact Go.retI X hx Bd.returns Bd.notSynchronized (hb hby d11_10) ⟨by rw [hr0, ← hr]; first | done | rfl, NF, eT⟩ (by decide) (by decide)
    · rw [if_neg hc1] at hr
      refine Go.step (S' := T.setTop (mkF m 5 #[.val (.int x0), .val (.int x1)] [])) (fun t k => XS.icmpNo X.here hx rfl (hb hby d11_2) rfl (flt hc1).2.2.1 k) ?_
      refine Go.step (S' := T.setTop (mkF m 6 #[.val (.int x0), .val (.int x1)] [(.int x0)])) (fun t k => XS.iloadN X.here hx rfl (hb hby d11_5) rfl k) ?_
      refine Go.step (S' := T.setTop (mkF m 10 #[.val (.int x0), .val (.int x1)] [(.int x0)])) (fun t k => XS.goto X.here hx rfl (pc0 := 6) (pc' := 10) rfl (hb hby d11_6) (by decide) (by decide) k) ?_
      exact Go.retI X hx Bd.returns Bd.notSynchronized (hb hby d11_10) ⟨by rw [hr0, ← hr]; first | done | rfl, NF, eT⟩ (by decide) (by decide)
  show Go p e below s (Q11 x0 x1 h0 n0) ({ frames := 0, cells := 0, slots := 0, locals := 0 } : Room).cells ({ frames := 0, cells := 0, slots := 0, locals := 0 } : Room).slots (s₁.setTop (entryFrame m #[(.int x0), (.int x1)] 2))
  rw [ef11]
  exact B0 s₁ [] X0 e0 (Fr.nil n0) hr0
theorem d12_0 : decode jdk_43_method_23_code 0 = .ok (.iload_n 1, 1) := by decide +kernel
theorem d12_1 : decode jdk_43_method_23_code 1 = .ok (.i2b, 1) := by decide +kernel
theorem d12_2 : decode jdk_43_method_23_code 2 = .ok (.istore 4, 2) := by decide +kernel
theorem d12_4 : decode jdk_43_method_23_code 4 = .ok (.iload_n 2, 1) := by decide +kernel
theorem d12_5 : decode jdk_43_method_23_code 5 = .ok (.istore 5, 2) := by decide +kernel
theorem d12_7 : decode jdk_43_method_23_code 7 = .ok (.iload 5, 2) := by decide +kernel
theorem d12_9 : decode jdk_43_method_23_code 9 = .ok (.iload_n 3, 1) := by decide +kernel
theorem d12_10 : decode jdk_43_method_23_code 10 = .ok (.if_icmp .ge 21, 3) := by decide +kernel
theorem d12_13 : decode jdk_43_method_23_code 13 = .ok (.aload_n 0, 1) := by decide +kernel
theorem d12_14 : decode jdk_43_method_23_code 14 = .ok (.iload 5, 2) := by decide +kernel
theorem d12_16 : decode jdk_43_method_23_code 16 = .ok (.baload, 1) := by decide +kernel
theorem d12_17 : decode jdk_43_method_23_code 17 = .ok (.iload 4, 2) := by decide +kernel
theorem d12_19 : decode jdk_43_method_23_code 19 = .ok (.if_icmp .ne 6, 3) := by decide +kernel
theorem d12_22 : decode jdk_43_method_23_code 22 = .ok (.iload 5, 2) := by decide +kernel
theorem d12_24 : decode jdk_43_method_23_code 24 = .ok (.ireturn, 1) := by decide +kernel
theorem d12_25 : decode jdk_43_method_23_code 25 = .ok (.iinc 5 1, 3) := by decide +kernel
theorem d12_28 : decode jdk_43_method_23_code 28 = .ok (.goto (-21), 3) := by decide +kernel
theorem d12_31 : decode jdk_43_method_23_code 31 = .ok (.iconst (-1), 1) := by decide +kernel
theorem d12_32 : decode jdk_43_method_23_code 32 = .ok (.ireturn, 1) := by decide +kernel
theorem pd5 : parseMethodDescriptor "([BIII)I" = some ⟨[(.array .byte), .int, .int, .int], some .int⟩ := by decide +kernel
theorem ef12 (m : MethodId) (o0 : Addr) (x1 : Int32) : entryFrame m #[(.ref o0), (.int x1), (.int (0 : Int32)), (.int (9 : Int32))] 6 = mkF m 0 #[.val (.ref o0), .val (.int x1), .val (.int (0 : Int32)), .val (.int (9 : Int32)), .unset, .unset] [] := by first | (simp [entryFrame, mkF, argsToLocals, Value.category]; done) | rfl
def f12 (o0 : Addr) (x1 : Int32) : Int32 := (if (60 : Int32) = (x1.toInt8.toInt32) then (0 : Int32) else (if (62 : Int32) = (x1.toInt8.toInt32) then (1 : Int32) else (if (34 : Int32) = (x1.toInt8.toInt32) then (2 : Int32) else (if (123 : Int32) = (x1.toInt8.toInt32) then (3 : Int32) else (if (125 : Int32) = (x1.toInt8.toInt32) then (4 : Int32) else (if (124 : Int32) = (x1.toInt8.toInt32) then (5 : Int32) else (if (94 : Int32) = (x1.toInt8.toInt32) then (6 : Int32) else (if (96 : Int32) = (x1.toInt8.toInt32) then (7 : Int32) else (if (92 : Int32) = (x1.toInt8.toInt32) then (8 : Int32) else (-1 : Int32))))))))))
def Q12 (o0 : Addr) (x1 : Int32) (h0 : Heap) (n0 : Nat) (v : Option Value) (h : Heap) (L : List Loc) : Prop := v = some (.int (f12 o0 x1)) ∧ Fr n0 L ∧ h = h0
set_option maxRecDepth 65536 in
set_option maxHeartbeats 40000000 in
theorem rm12 (l : Launch) (Z : State) (a0 : Array Value) (hw : ∀ d ∈ tables_1, d.before a0 Z = true) (ws : List Jvm.Cond) (o0 : Addr) (x1 : Int32) (h0 : Heap) (n0 : Nat) (Z0 : n0 ≤ h0.size) (cl : Cell) (Ar : Arr Z h0 o0 cl .byte) (hsz : cl.slots.size = 9) (hat : ∀ j, j < 9 → cl.slots[j]? = some (btv.getD j (.int 0))) :
    MetFree l (⟨"java/lang/StringLatin1", "indexOfChar", "([BIII)I"⟩ : MethodName) (head1 (Jvm.Cond.code (⟨"java/lang/StringLatin1", "indexOfChar", "([BIII)I"⟩ : MethodName) jdk_43_method_23_code 6 (some .int) :: ws) ({ frames := 0, cells := 0, slots := 0, locals := 0 } : Room)) (fun a U => a = #[(.ref o0), (.int x1), (.int (0 : Int32)), (.int (9 : Int32))] ∧ Z.Warmed39 U.vm ∧ U.heap = h0) (fun _ _ _ _ _ => True) (fun _ U o U' => ∃ v L, o = .returned v ∧ Q12 o0 x1 h0 n0 v U'.heap L ∧ FrameEnd U o U' L ({ frames := 0, cells := 0, slots := 0, locals := 0 } : Room).cells ({ frames := 0, cells := 0, slots := 0, locals := 0 } : Room).slots) := by
  refine MetFree.of_bodySF (plainFor_of_name pn1) hisR ?_
  intro p e s m args below meth c s₁ Bd hml0 hP hK
  obtain ⟨rfl, hZ, hh⟩ := hP
  have hx := Bd.exec
  have hby := Bd.bytes
  have hml : c.maxLocals = 6 := hml0
  have hown : s.vm.findClass "java/lang/StringLatin1" = some m.cls := findClass_of_methodNamed Bd.named
  have X0 : Stand p l e ({ frames := 0, cells := 0, slots := 0, locals := 0 } : Room) s m #[(.ref o0), (.int x1), (.int (0 : Int32)), (.int (9 : Int32))] below meth c s₁ [] 0 0 := Stand.of_body Bd
  have e0 : s₁.heap = h0 := by rw [← hh, Bd.state]; rfl
  obtain ⟨r, hr0⟩ : ∃ r, f12 o0 x1 = r := ⟨_, rfl⟩
  have B0 : ∀  (T : State) (locs : List Loc) (X : Stand p l e ({ frames := 0, cells := 0, slots := 0, locals := 0 } : Room) s m #[(.ref o0), (.int x1), (.int (0 : Int32)), (.int (9 : Int32))] below meth c T locs 0 0) (eT : T.heap = h0) (NF : Fr n0 locs) (hr : f12 o0 x1 = r), Go p e below s (Q12 o0 x1 h0 n0) ({ frames := 0, cells := 0, slots := 0, locals := 0 } : Room).cells ({ frames := 0, cells := 0, slots := 0, locals := 0 } : Room).slots (T.setTop (mkF m 0 #[.val (.ref o0), .val (.int x1), .val (.int (0 : Int32)), .val (.int (9 : Int32)), .unset, .unset] [])) := by
    intro  T locs X eT NF hr
    unfold f12 at hr
    refine Go.step (S' := T.setTop (mkF m 1 #[.val (.ref o0), .val (.int x1), .val (.int (0 : Int32)), .val (.int (9 : Int32)), .unset, .unset] [(.int x1)])) (fun t k => XS.iloadN X.here hx rfl (hb hby d12_0) rfl k) ?_
    refine Go.step (S' := T.setTop (mkF m 2 #[.val (.ref o0), .val (.int x1), .val (.int (0 : Int32)), .val (.int (9 : Int32)), .unset, .unset] [(.int (x1.toInt8.toInt32))])) (fun t k => XS.i2b X.here hx rfl (hb hby d12_1) rfl k) ?_
    refine Go.step (S' := T.setTop (mkF m 4 #[.val (.ref o0), .val (.int x1), .val (.int (0 : Int32)), .val (.int (9 : Int32)), .val (.int (x1.toInt8.toInt32)), .unset] [])) (fun t k => XS.istore X.here hx rfl (hb hby d12_2) rfl (l' := #[.val (.ref o0), .val (.int x1), .val (.int (0 : Int32)), .val (.int (9 : Int32)), .val (.int (x1.toInt8.toInt32)), .unset]) rfl k) ?_
    refine Go.step (S' := T.setTop (mkF m 5 #[.val (.ref o0), .val (.int x1), .val (.int (0 : Int32)), .val (.int (9 : Int32)), .val (.int (x1.toInt8.toInt32)), .unset] [(.int (0 : Int32))])) (fun t k => XS.iloadN X.here hx rfl (hb hby d12_4) rfl k) ?_
    refine Go.step (S' := T.setTop (mkF m 7 #[.val (.ref o0), .val (.int x1), .val (.int (0 : Int32)), .val (.int (9 : Int32)), .val (.int (x1.toInt8.toInt32)), .val (.int (0 : Int32))] [])) (fun t k => XS.istore X.here hx rfl (hb hby d12_5) rfl (l' := #[.val (.ref o0), .val (.int x1), .val (.int (0 : Int32)), .val (.int (9 : Int32)), .val (.int (x1.toInt8.toInt32)), .val (.int (0 : Int32))]) rfl k) ?_
    refine Go.step (S' := T.setTop (mkF m 9 #[.val (.ref o0), .val (.int x1), .val (.int (0 : Int32)), .val (.int (9 : Int32)), .val (.int (x1.toInt8.toInt32)), .val (.int (0 : Int32))] [(.int (0 : Int32))])) (fun t k => XS.iload X.here hx rfl (hb hby d12_7) rfl k) ?_
    refine Go.step (S' := T.setTop (mkF m 10 #[.val (.ref o0), .val (.int x1), .val (.int (0 : Int32)), .val (.int (9 : Int32)), .val (.int (x1.toInt8.toInt32)), .val (.int (0 : Int32))] [(.int (9 : Int32)), (.int (0 : Int32))])) (fun t k => XS.iloadN X.here hx rfl (hb hby d12_9) rfl k) ?_
    refine Go.step (S' := T.setTop (mkF m 13 #[.val (.ref o0), .val (.int x1), .val (.int (0 : Int32)), .val (.int (9 : Int32)), .val (.int (x1.toInt8.toInt32)), .val (.int (0 : Int32))] [])) (fun t k => XS.icmpNo X.here hx rfl (hb hby d12_10) rfl (tlt (by decide : ((0 : Int32) < (9 : Int32)))).2.1 k) ?_
    refine Go.step (S' := T.setTop (mkF m 14 #[.val (.ref o0), .val (.int x1), .val (.int (0 : Int32)), .val (.int (9 : Int32)), .val (.int (x1.toInt8.toInt32)), .val (.int (0 : Int32))] [(.ref o0)])) (fun t k => XS.aloadN X.here hx rfl (hb hby d12_13) rfl rfl k) ?_
    refine Go.step (S' := T.setTop (mkF m 16 #[.val (.ref o0), .val (.int x1), .val (.int (0 : Int32)), .val (.int (9 : Int32)), .val (.int (x1.toInt8.toInt32)), .val (.int (0 : Int32))] [(.int (0 : Int32)), (.ref o0)])) (fun t k => XS.iload X.here hx rfl (hb hby d12_14) rfl k) ?_
    refine Go.step (S' := T.setTop (mkF m 17 #[.val (.ref o0), .val (.int x1), .val (.int (0 : Int32)), .val (.int (9 : Int32)), .val (.int (x1.toInt8.toInt32)), .val (.int (0 : Int32))] [(.int (60 : Int32))])) (fun t k => X.baloadBytes hx (j := (0 : Int32)) (v := (.int (60 : Int32))) (by rw [eT]; exact Ar.1) (State.isArrayOf_alike hZ.alike Ar.2.1) Ar.2.2 (by rw [hsz]; decide) (hat 0 (by decide)) (g := (mkF m 16 #[.val (.ref o0), .val (.int x1), .val (.int (0 : Int32)), .val (.int (9 : Int32)), .val (.int (x1.toInt8.toInt32)), .val (.int (0 : Int32))] [(.int (0 : Int32)), (.ref o0)])) rfl rfl (hb hby d12_16) _ k) ?_
    refine Go.step (S' := T.setTop (mkF m 19 #[.val (.ref o0), .val (.int x1), .val (.int (0 : Int32)), .val (.int (9 : Int32)), .val (.int (x1.toInt8.toInt32)), .val (.int (0 : Int32))] [(.int (x1.toInt8.toInt32)), (.int (60 : Int32))])) (fun t k => XS.iload X.here hx rfl (hb hby d12_17) rfl k) ?_
    by_cases hc2 : (60 : Int32) = (x1.toInt8.toInt32)
    · rw [if_pos hc2] at hr
      refine Go.step (S' := T.setTop (mkF m 22 #[.val (.ref o0), .val (.int x1), .val (.int (0 : Int32)), .val (.int (9 : Int32)), .val (.int (x1.toInt8.toInt32)), .val (.int (0 : Int32))] [])) (fun t k => XS.icmpNo X.here hx rfl (hb hby d12_19) rfl (teq hc2).2 k) ?_
      refine Go.step (S' := T.setTop (mkF m 24 #[.val (.ref o0), .val (.int x1), .val (.int (0 : Int32)), .val (.int (9 : Int32)), .val (.int (x1.toInt8.toInt32)), .val (.int (0 : Int32))] [(.int (0 : Int32))])) (fun t k => XS.iload X.here hx rfl (hb hby d12_22) rfl k) ?_
      exact Go.retI X hx Bd.returns Bd.notSynchronized (hb hby d12_24) ⟨by rw [hr0, ← hr]; first | done | rfl, NF, eT⟩ (by decide) (by decide)
    · rw [if_neg hc2] at hr
      refine Go.step (S' := T.setTop (mkF m 25 #[.val (.ref o0), .val (.int x1), .val (.int (0 : Int32)), .val (.int (9 : Int32)), .val (.int (x1.toInt8.toInt32)), .val (.int (0 : Int32))] [])) (fun t k => XS.icmpYes X.here hx rfl (pc0 := 19) (pc' := 25) rfl (hb hby d12_19) rfl (feq hc2).2 (by decide) (by decide) k) ?_
      refine Go.step (S' := T.setTop (mkF m 28 #[.val (.ref o0), .val (.int x1), .val (.int (0 : Int32)), .val (.int (9 : Int32)), .val (.int (x1.toInt8.toInt32)), .val (.int (1 : Int32))] [])) (fun t k => XS.iinc X.here hx rfl (hb hby d12_25) rfl (l' := #[.val (.ref o0), .val (.int x1), .val (.int (0 : Int32)), .val (.int (9 : Int32)), .val (.int (x1.toInt8.toInt32)), .val (.int (1 : Int32))]) rfl k) ?_
      refine Go.step (S' := T.setTop (mkF m 7 #[.val (.ref o0), .val (.int x1), .val (.int (0 : Int32)), .val (.int (9 : Int32)), .val (.int (x1.toInt8.toInt32)), .val (.int (1 : Int32))] [])) (fun t k => XS.goto X.here hx rfl (pc0 := 28) (pc' := 7) rfl (hb hby d12_28) (by decide) (by decide) k) ?_
      refine Go.step (S' := T.setTop (mkF m 9 #[.val (.ref o0), .val (.int x1), .val (.int (0 : Int32)), .val (.int (9 : Int32)), .val (.int (x1.toInt8.toInt32)), .val (.int (1 : Int32))] [(.int (1 : Int32))])) (fun t k => XS.iload X.here hx rfl (hb hby d12_7) rfl k) ?_
      refine Go.step (S' := T.setTop (mkF m 10 #[.val (.ref o0), .val (.int x1), .val (.int (0 : Int32)), .val (.int (9 : Int32)), .val (.int (x1.toInt8.toInt32)), .val (.int (1 : Int32))] [(.int (9 : Int32)), (.int (1 : Int32))])) (fun t k => XS.iloadN X.here hx rfl (hb hby d12_9) rfl k) ?_
      refine Go.step (S' := T.setTop (mkF m 13 #[.val (.ref o0), .val (.int x1), .val (.int (0 : Int32)), .val (.int (9 : Int32)), .val (.int (x1.toInt8.toInt32)), .val (.int (1 : Int32))] [])) (fun t k => XS.icmpNo X.here hx rfl (hb hby d12_10) rfl (tlt (by decide : ((1 : Int32) < (9 : Int32)))).2.1 k) ?_
      refine Go.step (S' := T.setTop (mkF m 14 #[.val (.ref o0), .val (.int x1), .val (.int (0 : Int32)), .val (.int (9 : Int32)), .val (.int (x1.toInt8.toInt32)), .val (.int (1 : Int32))] [(.ref o0)])) (fun t k => XS.aloadN X.here hx rfl (hb hby d12_13) rfl rfl k) ?_
      refine Go.step (S' := T.setTop (mkF m 16 #[.val (.ref o0), .val (.int x1), .val (.int (0 : Int32)), .val (.int (9 : Int32)), .val (.int (x1.toInt8.toInt32)), .val (.int (1 : Int32))] [(.int (1 : Int32)), (.ref o0)])) (fun t k => XS.iload X.here hx rfl (hb hby d12_14) rfl k) ?_
      refine Go.step (S' := T.setTop (mkF m 17 #[.val (.ref o0), .val (.int x1), .val (.int (0 : Int32)), .val (.int (9 : Int32)), .val (.int (x1.toInt8.toInt32)), .val (.int (1 : Int32))] [(.int (62 : Int32))])) (fun t k => X.baloadBytes hx (j := (1 : Int32)) (v := (.int (62 : Int32))) (by rw [eT]; exact Ar.1) (State.isArrayOf_alike hZ.alike Ar.2.1) Ar.2.2 (by rw [hsz]; decide) (hat 1 (by decide)) (g := (mkF m 16 #[.val (.ref o0), .val (.int x1), .val (.int (0 : Int32)), .val (.int (9 : Int32)), .val (.int (x1.toInt8.toInt32)), .val (.int (1 : Int32))] [(.int (1 : Int32)), (.ref o0)])) rfl rfl (hb hby d12_16) _ k) ?_
      refine Go.step (S' := T.setTop (mkF m 19 #[.val (.ref o0), .val (.int x1), .val (.int (0 : Int32)), .val (.int (9 : Int32)), .val (.int (x1.toInt8.toInt32)), .val (.int (1 : Int32))] [(.int (x1.toInt8.toInt32)), (.int (62 : Int32))])) (fun t k => XS.iload X.here hx rfl (hb hby d12_17) rfl k) ?_
      by_cases hc4 : (62 : Int32) = (x1.toInt8.toInt32)
      · rw [if_pos hc4] at hr
        refine Go.step (S' := T.setTop (mkF m 22 #[.val (.ref o0), .val (.int x1), .val (.int (0 : Int32)), .val (.int (9 : Int32)), .val (.int (x1.toInt8.toInt32)), .val (.int (1 : Int32))] [])) (fun t k => XS.icmpNo X.here hx rfl (hb hby d12_19) rfl (teq hc4).2 k) ?_
        refine Go.step (S' := T.setTop (mkF m 24 #[.val (.ref o0), .val (.int x1), .val (.int (0 : Int32)), .val (.int (9 : Int32)), .val (.int (x1.toInt8.toInt32)), .val (.int (1 : Int32))] [(.int (1 : Int32))])) (fun t k => XS.iload X.here hx rfl (hb hby d12_22) rfl k) ?_
        exact Go.retI X hx Bd.returns Bd.notSynchronized (hb hby d12_24) ⟨by rw [hr0, ← hr]; first | done | rfl, NF, eT⟩ (by decide) (by decide)
      · rw [if_neg hc4] at hr
        refine Go.step (S' := T.setTop (mkF m 25 #[.val (.ref o0), .val (.int x1), .val (.int (0 : Int32)), .val (.int (9 : Int32)), .val (.int (x1.toInt8.toInt32)), .val (.int (1 : Int32))] [])) (fun t k => XS.icmpYes X.here hx rfl (pc0 := 19) (pc' := 25) rfl (hb hby d12_19) rfl (feq hc4).2 (by decide) (by decide) k) ?_
        refine Go.step (S' := T.setTop (mkF m 28 #[.val (.ref o0), .val (.int x1), .val (.int (0 : Int32)), .val (.int (9 : Int32)), .val (.int (x1.toInt8.toInt32)), .val (.int (2 : Int32))] [])) (fun t k => XS.iinc X.here hx rfl (hb hby d12_25) rfl (l' := #[.val (.ref o0), .val (.int x1), .val (.int (0 : Int32)), .val (.int (9 : Int32)), .val (.int (x1.toInt8.toInt32)), .val (.int (2 : Int32))]) rfl k) ?_
        refine Go.step (S' := T.setTop (mkF m 7 #[.val (.ref o0), .val (.int x1), .val (.int (0 : Int32)), .val (.int (9 : Int32)), .val (.int (x1.toInt8.toInt32)), .val (.int (2 : Int32))] [])) (fun t k => XS.goto X.here hx rfl (pc0 := 28) (pc' := 7) rfl (hb hby d12_28) (by decide) (by decide) k) ?_
        refine Go.step (S' := T.setTop (mkF m 9 #[.val (.ref o0), .val (.int x1), .val (.int (0 : Int32)), .val (.int (9 : Int32)), .val (.int (x1.toInt8.toInt32)), .val (.int (2 : Int32))] [(.int (2 : Int32))])) (fun t k => XS.iload X.here hx rfl (hb hby d12_7) rfl k) ?_
        refine Go.step (S' := T.setTop (mkF m 10 #[.val (.ref o0), .val (.int x1), .val (.int (0 : Int32)), .val (.int (9 : Int32)), .val (.int (x1.toInt8.toInt32)), .val (.int (2 : Int32))] [(.int (9 : Int32)), (.int (2 : Int32))])) (fun t k => XS.iloadN X.here hx rfl (hb hby d12_9) rfl k) ?_
        refine Go.step (S' := T.setTop (mkF m 13 #[.val (.ref o0), .val (.int x1), .val (.int (0 : Int32)), .val (.int (9 : Int32)), .val (.int (x1.toInt8.toInt32)), .val (.int (2 : Int32))] [])) (fun t k => XS.icmpNo X.here hx rfl (hb hby d12_10) rfl (tlt (by decide : ((2 : Int32) < (9 : Int32)))).2.1 k) ?_
        refine Go.step (S' := T.setTop (mkF m 14 #[.val (.ref o0), .val (.int x1), .val (.int (0 : Int32)), .val (.int (9 : Int32)), .val (.int (x1.toInt8.toInt32)), .val (.int (2 : Int32))] [(.ref o0)])) (fun t k => XS.aloadN X.here hx rfl (hb hby d12_13) rfl rfl k) ?_
        refine Go.step (S' := T.setTop (mkF m 16 #[.val (.ref o0), .val (.int x1), .val (.int (0 : Int32)), .val (.int (9 : Int32)), .val (.int (x1.toInt8.toInt32)), .val (.int (2 : Int32))] [(.int (2 : Int32)), (.ref o0)])) (fun t k => XS.iload X.here hx rfl (hb hby d12_14) rfl k) ?_
        refine Go.step (S' := T.setTop (mkF m 17 #[.val (.ref o0), .val (.int x1), .val (.int (0 : Int32)), .val (.int (9 : Int32)), .val (.int (x1.toInt8.toInt32)), .val (.int (2 : Int32))] [(.int (34 : Int32))])) (fun t k => X.baloadBytes hx (j := (2 : Int32)) (v := (.int (34 : Int32))) (by rw [eT]; exact Ar.1) (State.isArrayOf_alike hZ.alike Ar.2.1) Ar.2.2 (by rw [hsz]; decide) (hat 2 (by decide)) (g := (mkF m 16 #[.val (.ref o0), .val (.int x1), .val (.int (0 : Int32)), .val (.int (9 : Int32)), .val (.int (x1.toInt8.toInt32)), .val (.int (2 : Int32))] [(.int (2 : Int32)), (.ref o0)])) rfl rfl (hb hby d12_16) _ k) ?_
        refine Go.step (S' := T.setTop (mkF m 19 #[.val (.ref o0), .val (.int x1), .val (.int (0 : Int32)), .val (.int (9 : Int32)), .val (.int (x1.toInt8.toInt32)), .val (.int (2 : Int32))] [(.int (x1.toInt8.toInt32)), (.int (34 : Int32))])) (fun t k => XS.iload X.here hx rfl (hb hby d12_17) rfl k) ?_
        by_cases hc6 : (34 : Int32) = (x1.toInt8.toInt32)
        · rw [if_pos hc6] at hr
          refine Go.step (S' := T.setTop (mkF m 22 #[.val (.ref o0), .val (.int x1), .val (.int (0 : Int32)), .val (.int (9 : Int32)), .val (.int (x1.toInt8.toInt32)), .val (.int (2 : Int32))] [])) (fun t k => XS.icmpNo X.here hx rfl (hb hby d12_19) rfl (teq hc6).2 k) ?_
          refine Go.step (S' := T.setTop (mkF m 24 #[.val (.ref o0), .val (.int x1), .val (.int (0 : Int32)), .val (.int (9 : Int32)), .val (.int (x1.toInt8.toInt32)), .val (.int (2 : Int32))] [(.int (2 : Int32))])) (fun t k => XS.iload X.here hx rfl (hb hby d12_22) rfl k) ?_
          exact Go.retI X hx Bd.returns Bd.notSynchronized (hb hby d12_24) ⟨by rw [hr0, ← hr]; first | done | rfl, NF, eT⟩ (by decide) (by decide)
        · rw [if_neg hc6] at hr
          refine Go.step (S' := T.setTop (mkF m 25 #[.val (.ref o0), .val (.int x1), .val (.int (0 : Int32)), .val (.int (9 : Int32)), .val (.int (x1.toInt8.toInt32)), .val (.int (2 : Int32))] [])) (fun t k => XS.icmpYes X.here hx rfl (pc0 := 19) (pc' := 25) rfl (hb hby d12_19) rfl (feq hc6).2 (by decide) (by decide) k) ?_
          refine Go.step (S' := T.setTop (mkF m 28 #[.val (.ref o0), .val (.int x1), .val (.int (0 : Int32)), .val (.int (9 : Int32)), .val (.int (x1.toInt8.toInt32)), .val (.int (3 : Int32))] [])) (fun t k => XS.iinc X.here hx rfl (hb hby d12_25) rfl (l' := #[.val (.ref o0), .val (.int x1), .val (.int (0 : Int32)), .val (.int (9 : Int32)), .val (.int (x1.toInt8.toInt32)), .val (.int (3 : Int32))]) rfl k) ?_
          refine Go.step (S' := T.setTop (mkF m 7 #[.val (.ref o0), .val (.int x1), .val (.int (0 : Int32)), .val (.int (9 : Int32)), .val (.int (x1.toInt8.toInt32)), .val (.int (3 : Int32))] [])) (fun t k => XS.goto X.here hx rfl (pc0 := 28) (pc' := 7) rfl (hb hby d12_28) (by decide) (by decide) k) ?_
          refine Go.step (S' := T.setTop (mkF m 9 #[.val (.ref o0), .val (.int x1), .val (.int (0 : Int32)), .val (.int (9 : Int32)), .val (.int (x1.toInt8.toInt32)), .val (.int (3 : Int32))] [(.int (3 : Int32))])) (fun t k => XS.iload X.here hx rfl (hb hby d12_7) rfl k) ?_
          refine Go.step (S' := T.setTop (mkF m 10 #[.val (.ref o0), .val (.int x1), .val (.int (0 : Int32)), .val (.int (9 : Int32)), .val (.int (x1.toInt8.toInt32)), .val (.int (3 : Int32))] [(.int (9 : Int32)), (.int (3 : Int32))])) (fun t k => XS.iloadN X.here hx rfl (hb hby d12_9) rfl k) ?_
          refine Go.step (S' := T.setTop (mkF m 13 #[.val (.ref o0), .val (.int x1), .val (.int (0 : Int32)), .val (.int (9 : Int32)), .val (.int (x1.toInt8.toInt32)), .val (.int (3 : Int32))] [])) (fun t k => XS.icmpNo X.here hx rfl (hb hby d12_10) rfl (tlt (by decide : ((3 : Int32) < (9 : Int32)))).2.1 k) ?_
          refine Go.step (S' := T.setTop (mkF m 14 #[.val (.ref o0), .val (.int x1), .val (.int (0 : Int32)), .val (.int (9 : Int32)), .val (.int (x1.toInt8.toInt32)), .val (.int (3 : Int32))] [(.ref o0)])) (fun t k => XS.aloadN X.here hx rfl (hb hby d12_13) rfl rfl k) ?_
          refine Go.step (S' := T.setTop (mkF m 16 #[.val (.ref o0), .val (.int x1), .val (.int (0 : Int32)), .val (.int (9 : Int32)), .val (.int (x1.toInt8.toInt32)), .val (.int (3 : Int32))] [(.int (3 : Int32)), (.ref o0)])) (fun t k => XS.iload X.here hx rfl (hb hby d12_14) rfl k) ?_
          refine Go.step (S' := T.setTop (mkF m 17 #[.val (.ref o0), .val (.int x1), .val (.int (0 : Int32)), .val (.int (9 : Int32)), .val (.int (x1.toInt8.toInt32)), .val (.int (3 : Int32))] [(.int (123 : Int32))])) (fun t k => X.baloadBytes hx (j := (3 : Int32)) (v := (.int (123 : Int32))) (by rw [eT]; exact Ar.1) (State.isArrayOf_alike hZ.alike Ar.2.1) Ar.2.2 (by rw [hsz]; decide) (hat 3 (by decide)) (g := (mkF m 16 #[.val (.ref o0), .val (.int x1), .val (.int (0 : Int32)), .val (.int (9 : Int32)), .val (.int (x1.toInt8.toInt32)), .val (.int (3 : Int32))] [(.int (3 : Int32)), (.ref o0)])) rfl rfl (hb hby d12_16) _ k) ?_
          refine Go.step (S' := T.setTop (mkF m 19 #[.val (.ref o0), .val (.int x1), .val (.int (0 : Int32)), .val (.int (9 : Int32)), .val (.int (x1.toInt8.toInt32)), .val (.int (3 : Int32))] [(.int (x1.toInt8.toInt32)), (.int (123 : Int32))])) (fun t k => XS.iload X.here hx rfl (hb hby d12_17) rfl k) ?_
          by_cases hc8 : (123 : Int32) = (x1.toInt8.toInt32)
          · rw [if_pos hc8] at hr
            refine Go.step (S' := T.setTop (mkF m 22 #[.val (.ref o0), .val (.int x1), .val (.int (0 : Int32)), .val (.int (9 : Int32)), .val (.int (x1.toInt8.toInt32)), .val (.int (3 : Int32))] [])) (fun t k => XS.icmpNo X.here hx rfl (hb hby d12_19) rfl (teq hc8).2 k) ?_
            refine Go.step (S' := T.setTop (mkF m 24 #[.val (.ref o0), .val (.int x1), .val (.int (0 : Int32)), .val (.int (9 : Int32)), .val (.int (x1.toInt8.toInt32)), .val (.int (3 : Int32))] [(.int (3 : Int32))])) (fun t k => XS.iload X.here hx rfl (hb hby d12_22) rfl k) ?_
            exact Go.retI X hx Bd.returns Bd.notSynchronized (hb hby d12_24) ⟨by rw [hr0, ← hr]; first | done | rfl, NF, eT⟩ (by decide) (by decide)
          · rw [if_neg hc8] at hr
            refine Go.step (S' := T.setTop (mkF m 25 #[.val (.ref o0), .val (.int x1), .val (.int (0 : Int32)), .val (.int (9 : Int32)), .val (.int (x1.toInt8.toInt32)), .val (.int (3 : Int32))] [])) (fun t k => XS.icmpYes X.here hx rfl (pc0 := 19) (pc' := 25) rfl (hb hby d12_19) rfl (feq hc8).2 (by decide) (by decide) k) ?_
            refine Go.step (S' := T.setTop (mkF m 28 #[.val (.ref o0), .val (.int x1), .val (.int (0 : Int32)), .val (.int (9 : Int32)), .val (.int (x1.toInt8.toInt32)), .val (.int (4 : Int32))] [])) (fun t k => XS.iinc X.here hx rfl (hb hby d12_25) rfl (l' := #[.val (.ref o0), .val (.int x1), .val (.int (0 : Int32)), .val (.int (9 : Int32)), .val (.int (x1.toInt8.toInt32)), .val (.int (4 : Int32))]) rfl k) ?_
            refine Go.step (S' := T.setTop (mkF m 7 #[.val (.ref o0), .val (.int x1), .val (.int (0 : Int32)), .val (.int (9 : Int32)), .val (.int (x1.toInt8.toInt32)), .val (.int (4 : Int32))] [])) (fun t k => XS.goto X.here hx rfl (pc0 := 28) (pc' := 7) rfl (hb hby d12_28) (by decide) (by decide) k) ?_
            refine Go.step (S' := T.setTop (mkF m 9 #[.val (.ref o0), .val (.int x1), .val (.int (0 : Int32)), .val (.int (9 : Int32)), .val (.int (x1.toInt8.toInt32)), .val (.int (4 : Int32))] [(.int (4 : Int32))])) (fun t k => XS.iload X.here hx rfl (hb hby d12_7) rfl k) ?_
            refine Go.step (S' := T.setTop (mkF m 10 #[.val (.ref o0), .val (.int x1), .val (.int (0 : Int32)), .val (.int (9 : Int32)), .val (.int (x1.toInt8.toInt32)), .val (.int (4 : Int32))] [(.int (9 : Int32)), (.int (4 : Int32))])) (fun t k => XS.iloadN X.here hx rfl (hb hby d12_9) rfl k) ?_
            refine Go.step (S' := T.setTop (mkF m 13 #[.val (.ref o0), .val (.int x1), .val (.int (0 : Int32)), .val (.int (9 : Int32)), .val (.int (x1.toInt8.toInt32)), .val (.int (4 : Int32))] [])) (fun t k => XS.icmpNo X.here hx rfl (hb hby d12_10) rfl (tlt (by decide : ((4 : Int32) < (9 : Int32)))).2.1 k) ?_
            refine Go.step (S' := T.setTop (mkF m 14 #[.val (.ref o0), .val (.int x1), .val (.int (0 : Int32)), .val (.int (9 : Int32)), .val (.int (x1.toInt8.toInt32)), .val (.int (4 : Int32))] [(.ref o0)])) (fun t k => XS.aloadN X.here hx rfl (hb hby d12_13) rfl rfl k) ?_
            refine Go.step (S' := T.setTop (mkF m 16 #[.val (.ref o0), .val (.int x1), .val (.int (0 : Int32)), .val (.int (9 : Int32)), .val (.int (x1.toInt8.toInt32)), .val (.int (4 : Int32))] [(.int (4 : Int32)), (.ref o0)])) (fun t k => XS.iload X.here hx rfl (hb hby d12_14) rfl k) ?_
            refine Go.step (S' := T.setTop (mkF m 17 #[.val (.ref o0), .val (.int x1), .val (.int (0 : Int32)), .val (.int (9 : Int32)), .val (.int (x1.toInt8.toInt32)), .val (.int (4 : Int32))] [(.int (125 : Int32))])) (fun t k => X.baloadBytes hx (j := (4 : Int32)) (v := (.int (125 : Int32))) (by rw [eT]; exact Ar.1) (State.isArrayOf_alike hZ.alike Ar.2.1) Ar.2.2 (by rw [hsz]; decide) (hat 4 (by decide)) (g := (mkF m 16 #[.val (.ref o0), .val (.int x1), .val (.int (0 : Int32)), .val (.int (9 : Int32)), .val (.int (x1.toInt8.toInt32)), .val (.int (4 : Int32))] [(.int (4 : Int32)), (.ref o0)])) rfl rfl (hb hby d12_16) _ k) ?_
            refine Go.step (S' := T.setTop (mkF m 19 #[.val (.ref o0), .val (.int x1), .val (.int (0 : Int32)), .val (.int (9 : Int32)), .val (.int (x1.toInt8.toInt32)), .val (.int (4 : Int32))] [(.int (x1.toInt8.toInt32)), (.int (125 : Int32))])) (fun t k => XS.iload X.here hx rfl (hb hby d12_17) rfl k) ?_
            by_cases hc10 : (125 : Int32) = (x1.toInt8.toInt32)
            · rw [if_pos hc10] at hr
              refine Go.step (S' := T.setTop (mkF m 22 #[.val (.ref o0), .val (.int x1), .val (.int (0 : Int32)), .val (.int (9 : Int32)), .val (.int (x1.toInt8.toInt32)), .val (.int (4 : Int32))] [])) (fun t k => XS.icmpNo X.here hx rfl (hb hby d12_19) rfl (teq hc10).2 k) ?_
              refine Go.step (S' := T.setTop (mkF m 24 #[.val (.ref o0), .val (.int x1), .val (.int (0 : Int32)), .val (.int (9 : Int32)), .val (.int (x1.toInt8.toInt32)), .val (.int (4 : Int32))] [(.int (4 : Int32))])) (fun t k => XS.iload X.here hx rfl (hb hby d12_22) rfl k) ?_
              exact Go.retI X hx Bd.returns Bd.notSynchronized (hb hby d12_24) ⟨by rw [hr0, ← hr]; first | done | rfl, NF, eT⟩ (by decide) (by decide)
            · rw [if_neg hc10] at hr
              refine Go.step (S' := T.setTop (mkF m 25 #[.val (.ref o0), .val (.int x1), .val (.int (0 : Int32)), .val (.int (9 : Int32)), .val (.int (x1.toInt8.toInt32)), .val (.int (4 : Int32))] [])) (fun t k => XS.icmpYes X.here hx rfl (pc0 := 19) (pc' := 25) rfl (hb hby d12_19) rfl (feq hc10).2 (by decide) (by decide) k) ?_
              refine Go.step (S' := T.setTop (mkF m 28 #[.val (.ref o0), .val (.int x1), .val (.int (0 : Int32)), .val (.int (9 : Int32)), .val (.int (x1.toInt8.toInt32)), .val (.int (5 : Int32))] [])) (fun t k => XS.iinc X.here hx rfl (hb hby d12_25) rfl (l' := #[.val (.ref o0), .val (.int x1), .val (.int (0 : Int32)), .val (.int (9 : Int32)), .val (.int (x1.toInt8.toInt32)), .val (.int (5 : Int32))]) rfl k) ?_
              refine Go.step (S' := T.setTop (mkF m 7 #[.val (.ref o0), .val (.int x1), .val (.int (0 : Int32)), .val (.int (9 : Int32)), .val (.int (x1.toInt8.toInt32)), .val (.int (5 : Int32))] [])) (fun t k => XS.goto X.here hx rfl (pc0 := 28) (pc' := 7) rfl (hb hby d12_28) (by decide) (by decide) k) ?_
              refine Go.step (S' := T.setTop (mkF m 9 #[.val (.ref o0), .val (.int x1), .val (.int (0 : Int32)), .val (.int (9 : Int32)), .val (.int (x1.toInt8.toInt32)), .val (.int (5 : Int32))] [(.int (5 : Int32))])) (fun t k => XS.iload X.here hx rfl (hb hby d12_7) rfl k) ?_
              refine Go.step (S' := T.setTop (mkF m 10 #[.val (.ref o0), .val (.int x1), .val (.int (0 : Int32)), .val (.int (9 : Int32)), .val (.int (x1.toInt8.toInt32)), .val (.int (5 : Int32))] [(.int (9 : Int32)), (.int (5 : Int32))])) (fun t k => XS.iloadN X.here hx rfl (hb hby d12_9) rfl k) ?_
              refine Go.step (S' := T.setTop (mkF m 13 #[.val (.ref o0), .val (.int x1), .val (.int (0 : Int32)), .val (.int (9 : Int32)), .val (.int (x1.toInt8.toInt32)), .val (.int (5 : Int32))] [])) (fun t k => XS.icmpNo X.here hx rfl (hb hby d12_10) rfl (tlt (by decide : ((5 : Int32) < (9 : Int32)))).2.1 k) ?_
              refine Go.step (S' := T.setTop (mkF m 14 #[.val (.ref o0), .val (.int x1), .val (.int (0 : Int32)), .val (.int (9 : Int32)), .val (.int (x1.toInt8.toInt32)), .val (.int (5 : Int32))] [(.ref o0)])) (fun t k => XS.aloadN X.here hx rfl (hb hby d12_13) rfl rfl k) ?_
              refine Go.step (S' := T.setTop (mkF m 16 #[.val (.ref o0), .val (.int x1), .val (.int (0 : Int32)), .val (.int (9 : Int32)), .val (.int (x1.toInt8.toInt32)), .val (.int (5 : Int32))] [(.int (5 : Int32)), (.ref o0)])) (fun t k => XS.iload X.here hx rfl (hb hby d12_14) rfl k) ?_
              refine Go.step (S' := T.setTop (mkF m 17 #[.val (.ref o0), .val (.int x1), .val (.int (0 : Int32)), .val (.int (9 : Int32)), .val (.int (x1.toInt8.toInt32)), .val (.int (5 : Int32))] [(.int (124 : Int32))])) (fun t k => X.baloadBytes hx (j := (5 : Int32)) (v := (.int (124 : Int32))) (by rw [eT]; exact Ar.1) (State.isArrayOf_alike hZ.alike Ar.2.1) Ar.2.2 (by rw [hsz]; decide) (hat 5 (by decide)) (g := (mkF m 16 #[.val (.ref o0), .val (.int x1), .val (.int (0 : Int32)), .val (.int (9 : Int32)), .val (.int (x1.toInt8.toInt32)), .val (.int (5 : Int32))] [(.int (5 : Int32)), (.ref o0)])) rfl rfl (hb hby d12_16) _ k) ?_
              refine Go.step (S' := T.setTop (mkF m 19 #[.val (.ref o0), .val (.int x1), .val (.int (0 : Int32)), .val (.int (9 : Int32)), .val (.int (x1.toInt8.toInt32)), .val (.int (5 : Int32))] [(.int (x1.toInt8.toInt32)), (.int (124 : Int32))])) (fun t k => XS.iload X.here hx rfl (hb hby d12_17) rfl k) ?_
              by_cases hc12 : (124 : Int32) = (x1.toInt8.toInt32)
              · rw [if_pos hc12] at hr
                refine Go.step (S' := T.setTop (mkF m 22 #[.val (.ref o0), .val (.int x1), .val (.int (0 : Int32)), .val (.int (9 : Int32)), .val (.int (x1.toInt8.toInt32)), .val (.int (5 : Int32))] [])) (fun t k => XS.icmpNo X.here hx rfl (hb hby d12_19) rfl (teq hc12).2 k) ?_
                refine Go.step (S' := T.setTop (mkF m 24 #[.val (.ref o0), .val (.int x1), .val (.int (0 : Int32)), .val (.int (9 : Int32)), .val (.int (x1.toInt8.toInt32)), .val (.int (5 : Int32))] [(.int (5 : Int32))])) (fun t k => XS.iload X.here hx rfl (hb hby d12_22) rfl k) ?_
                exact Go.retI X hx Bd.returns Bd.notSynchronized (hb hby d12_24) ⟨by rw [hr0, ← hr]; first | done | rfl, NF, eT⟩ (by decide) (by decide)
              · rw [if_neg hc12] at hr
                refine Go.step (S' := T.setTop (mkF m 25 #[.val (.ref o0), .val (.int x1), .val (.int (0 : Int32)), .val (.int (9 : Int32)), .val (.int (x1.toInt8.toInt32)), .val (.int (5 : Int32))] [])) (fun t k => XS.icmpYes X.here hx rfl (pc0 := 19) (pc' := 25) rfl (hb hby d12_19) rfl (feq hc12).2 (by decide) (by decide) k) ?_
                refine Go.step (S' := T.setTop (mkF m 28 #[.val (.ref o0), .val (.int x1), .val (.int (0 : Int32)), .val (.int (9 : Int32)), .val (.int (x1.toInt8.toInt32)), .val (.int (6 : Int32))] [])) (fun t k => XS.iinc X.here hx rfl (hb hby d12_25) rfl (l' := #[.val (.ref o0), .val (.int x1), .val (.int (0 : Int32)), .val (.int (9 : Int32)), .val (.int (x1.toInt8.toInt32)), .val (.int (6 : Int32))]) rfl k) ?_
                refine Go.step (S' := T.setTop (mkF m 7 #[.val (.ref o0), .val (.int x1), .val (.int (0 : Int32)), .val (.int (9 : Int32)), .val (.int (x1.toInt8.toInt32)), .val (.int (6 : Int32))] [])) (fun t k => XS.goto X.here hx rfl (pc0 := 28) (pc' := 7) rfl (hb hby d12_28) (by decide) (by decide) k) ?_
                refine Go.step (S' := T.setTop (mkF m 9 #[.val (.ref o0), .val (.int x1), .val (.int (0 : Int32)), .val (.int (9 : Int32)), .val (.int (x1.toInt8.toInt32)), .val (.int (6 : Int32))] [(.int (6 : Int32))])) (fun t k => XS.iload X.here hx rfl (hb hby d12_7) rfl k) ?_
                refine Go.step (S' := T.setTop (mkF m 10 #[.val (.ref o0), .val (.int x1), .val (.int (0 : Int32)), .val (.int (9 : Int32)), .val (.int (x1.toInt8.toInt32)), .val (.int (6 : Int32))] [(.int (9 : Int32)), (.int (6 : Int32))])) (fun t k => XS.iloadN X.here hx rfl (hb hby d12_9) rfl k) ?_
                refine Go.step (S' := T.setTop (mkF m 13 #[.val (.ref o0), .val (.int x1), .val (.int (0 : Int32)), .val (.int (9 : Int32)), .val (.int (x1.toInt8.toInt32)), .val (.int (6 : Int32))] [])) (fun t k => XS.icmpNo X.here hx rfl (hb hby d12_10) rfl (tlt (by decide : ((6 : Int32) < (9 : Int32)))).2.1 k) ?_
                refine Go.step (S' := T.setTop (mkF m 14 #[.val (.ref o0), .val (.int x1), .val (.int (0 : Int32)), .val (.int (9 : Int32)), .val (.int (x1.toInt8.toInt32)), .val (.int (6 : Int32))] [(.ref o0)])) (fun t k => XS.aloadN X.here hx rfl (hb hby d12_13) rfl rfl k) ?_
                refine Go.step (S' := T.setTop (mkF m 16 #[.val (.ref o0), .val (.int x1), .val (.int (0 : Int32)), .val (.int (9 : Int32)), .val (.int (x1.toInt8.toInt32)), .val (.int (6 : Int32))] [(.int (6 : Int32)), (.ref o0)])) (fun t k => XS.iload X.here hx rfl (hb hby d12_14) rfl k) ?_
                refine Go.step (S' := T.setTop (mkF m 17 #[.val (.ref o0), .val (.int x1), .val (.int (0 : Int32)), .val (.int (9 : Int32)), .val (.int (x1.toInt8.toInt32)), .val (.int (6 : Int32))] [(.int (94 : Int32))])) (fun t k => X.baloadBytes hx (j := (6 : Int32)) (v := (.int (94 : Int32))) (by rw [eT]; exact Ar.1) (State.isArrayOf_alike hZ.alike Ar.2.1) Ar.2.2 (by rw [hsz]; decide) (hat 6 (by decide)) (g := (mkF m 16 #[.val (.ref o0), .val (.int x1), .val (.int (0 : Int32)), .val (.int (9 : Int32)), .val (.int (x1.toInt8.toInt32)), .val (.int (6 : Int32))] [(.int (6 : Int32)), (.ref o0)])) rfl rfl (hb hby d12_16) _ k) ?_
                refine Go.step (S' := T.setTop (mkF m 19 #[.val (.ref o0), .val (.int x1), .val (.int (0 : Int32)), .val (.int (9 : Int32)), .val (.int (x1.toInt8.toInt32)), .val (.int (6 : Int32))] [(.int (x1.toInt8.toInt32)), (.int (94 : Int32))])) (fun t k => XS.iload X.here hx rfl (hb hby d12_17) rfl k) ?_
                by_cases hc14 : (94 : Int32) = (x1.toInt8.toInt32)
                · rw [if_pos hc14] at hr
                  refine Go.step (S' := T.setTop (mkF m 22 #[.val (.ref o0), .val (.int x1), .val (.int (0 : Int32)), .val (.int (9 : Int32)), .val (.int (x1.toInt8.toInt32)), .val (.int (6 : Int32))] [])) (fun t k => XS.icmpNo X.here hx rfl (hb hby d12_19) rfl (teq hc14).2 k) ?_
                  refine Go.step (S' := T.setTop (mkF m 24 #[.val (.ref o0), .val (.int x1), .val (.int (0 : Int32)), .val (.int (9 : Int32)), .val (.int (x1.toInt8.toInt32)), .val (.int (6 : Int32))] [(.int (6 : Int32))])) (fun t k => XS.iload X.here hx rfl (hb hby d12_22) rfl k) ?_
                  exact Go.retI X hx Bd.returns Bd.notSynchronized (hb hby d12_24) ⟨by rw [hr0, ← hr]; first | done | rfl, NF, eT⟩ (by decide) (by decide)
                · rw [if_neg hc14] at hr
                  refine Go.step (S' := T.setTop (mkF m 25 #[.val (.ref o0), .val (.int x1), .val (.int (0 : Int32)), .val (.int (9 : Int32)), .val (.int (x1.toInt8.toInt32)), .val (.int (6 : Int32))] [])) (fun t k => XS.icmpYes X.here hx rfl (pc0 := 19) (pc' := 25) rfl (hb hby d12_19) rfl (feq hc14).2 (by decide) (by decide) k) ?_
                  refine Go.step (S' := T.setTop (mkF m 28 #[.val (.ref o0), .val (.int x1), .val (.int (0 : Int32)), .val (.int (9 : Int32)), .val (.int (x1.toInt8.toInt32)), .val (.int (7 : Int32))] [])) (fun t k => XS.iinc X.here hx rfl (hb hby d12_25) rfl (l' := #[.val (.ref o0), .val (.int x1), .val (.int (0 : Int32)), .val (.int (9 : Int32)), .val (.int (x1.toInt8.toInt32)), .val (.int (7 : Int32))]) rfl k) ?_
                  refine Go.step (S' := T.setTop (mkF m 7 #[.val (.ref o0), .val (.int x1), .val (.int (0 : Int32)), .val (.int (9 : Int32)), .val (.int (x1.toInt8.toInt32)), .val (.int (7 : Int32))] [])) (fun t k => XS.goto X.here hx rfl (pc0 := 28) (pc' := 7) rfl (hb hby d12_28) (by decide) (by decide) k) ?_
                  refine Go.step (S' := T.setTop (mkF m 9 #[.val (.ref o0), .val (.int x1), .val (.int (0 : Int32)), .val (.int (9 : Int32)), .val (.int (x1.toInt8.toInt32)), .val (.int (7 : Int32))] [(.int (7 : Int32))])) (fun t k => XS.iload X.here hx rfl (hb hby d12_7) rfl k) ?_
                  refine Go.step (S' := T.setTop (mkF m 10 #[.val (.ref o0), .val (.int x1), .val (.int (0 : Int32)), .val (.int (9 : Int32)), .val (.int (x1.toInt8.toInt32)), .val (.int (7 : Int32))] [(.int (9 : Int32)), (.int (7 : Int32))])) (fun t k => XS.iloadN X.here hx rfl (hb hby d12_9) rfl k) ?_
                  refine Go.step (S' := T.setTop (mkF m 13 #[.val (.ref o0), .val (.int x1), .val (.int (0 : Int32)), .val (.int (9 : Int32)), .val (.int (x1.toInt8.toInt32)), .val (.int (7 : Int32))] [])) (fun t k => XS.icmpNo X.here hx rfl (hb hby d12_10) rfl (tlt (by decide : ((7 : Int32) < (9 : Int32)))).2.1 k) ?_
                  refine Go.step (S' := T.setTop (mkF m 14 #[.val (.ref o0), .val (.int x1), .val (.int (0 : Int32)), .val (.int (9 : Int32)), .val (.int (x1.toInt8.toInt32)), .val (.int (7 : Int32))] [(.ref o0)])) (fun t k => XS.aloadN X.here hx rfl (hb hby d12_13) rfl rfl k) ?_
                  refine Go.step (S' := T.setTop (mkF m 16 #[.val (.ref o0), .val (.int x1), .val (.int (0 : Int32)), .val (.int (9 : Int32)), .val (.int (x1.toInt8.toInt32)), .val (.int (7 : Int32))] [(.int (7 : Int32)), (.ref o0)])) (fun t k => XS.iload X.here hx rfl (hb hby d12_14) rfl k) ?_
                  refine Go.step (S' := T.setTop (mkF m 17 #[.val (.ref o0), .val (.int x1), .val (.int (0 : Int32)), .val (.int (9 : Int32)), .val (.int (x1.toInt8.toInt32)), .val (.int (7 : Int32))] [(.int (96 : Int32))])) (fun t k => X.baloadBytes hx (j := (7 : Int32)) (v := (.int (96 : Int32))) (by rw [eT]; exact Ar.1) (State.isArrayOf_alike hZ.alike Ar.2.1) Ar.2.2 (by rw [hsz]; decide) (hat 7 (by decide)) (g := (mkF m 16 #[.val (.ref o0), .val (.int x1), .val (.int (0 : Int32)), .val (.int (9 : Int32)), .val (.int (x1.toInt8.toInt32)), .val (.int (7 : Int32))] [(.int (7 : Int32)), (.ref o0)])) rfl rfl (hb hby d12_16) _ k) ?_
                  refine Go.step (S' := T.setTop (mkF m 19 #[.val (.ref o0), .val (.int x1), .val (.int (0 : Int32)), .val (.int (9 : Int32)), .val (.int (x1.toInt8.toInt32)), .val (.int (7 : Int32))] [(.int (x1.toInt8.toInt32)), (.int (96 : Int32))])) (fun t k => XS.iload X.here hx rfl (hb hby d12_17) rfl k) ?_
                  by_cases hc16 : (96 : Int32) = (x1.toInt8.toInt32)
                  · rw [if_pos hc16] at hr
                    refine Go.step (S' := T.setTop (mkF m 22 #[.val (.ref o0), .val (.int x1), .val (.int (0 : Int32)), .val (.int (9 : Int32)), .val (.int (x1.toInt8.toInt32)), .val (.int (7 : Int32))] [])) (fun t k => XS.icmpNo X.here hx rfl (hb hby d12_19) rfl (teq hc16).2 k) ?_
                    refine Go.step (S' := T.setTop (mkF m 24 #[.val (.ref o0), .val (.int x1), .val (.int (0 : Int32)), .val (.int (9 : Int32)), .val (.int (x1.toInt8.toInt32)), .val (.int (7 : Int32))] [(.int (7 : Int32))])) (fun t k => XS.iload X.here hx rfl (hb hby d12_22) rfl k) ?_
                    exact Go.retI X hx Bd.returns Bd.notSynchronized (hb hby d12_24) ⟨by rw [hr0, ← hr]; first | done | rfl, NF, eT⟩ (by decide) (by decide)
                  · rw [if_neg hc16] at hr
                    refine Go.step (S' := T.setTop (mkF m 25 #[.val (.ref o0), .val (.int x1), .val (.int (0 : Int32)), .val (.int (9 : Int32)), .val (.int (x1.toInt8.toInt32)), .val (.int (7 : Int32))] [])) (fun t k => XS.icmpYes X.here hx rfl (pc0 := 19) (pc' := 25) rfl (hb hby d12_19) rfl (feq hc16).2 (by decide) (by decide) k) ?_
                    refine Go.step (S' := T.setTop (mkF m 28 #[.val (.ref o0), .val (.int x1), .val (.int (0 : Int32)), .val (.int (9 : Int32)), .val (.int (x1.toInt8.toInt32)), .val (.int (8 : Int32))] [])) (fun t k => XS.iinc X.here hx rfl (hb hby d12_25) rfl (l' := #[.val (.ref o0), .val (.int x1), .val (.int (0 : Int32)), .val (.int (9 : Int32)), .val (.int (x1.toInt8.toInt32)), .val (.int (8 : Int32))]) rfl k) ?_
                    refine Go.step (S' := T.setTop (mkF m 7 #[.val (.ref o0), .val (.int x1), .val (.int (0 : Int32)), .val (.int (9 : Int32)), .val (.int (x1.toInt8.toInt32)), .val (.int (8 : Int32))] [])) (fun t k => XS.goto X.here hx rfl (pc0 := 28) (pc' := 7) rfl (hb hby d12_28) (by decide) (by decide) k) ?_
                    refine Go.step (S' := T.setTop (mkF m 9 #[.val (.ref o0), .val (.int x1), .val (.int (0 : Int32)), .val (.int (9 : Int32)), .val (.int (x1.toInt8.toInt32)), .val (.int (8 : Int32))] [(.int (8 : Int32))])) (fun t k => XS.iload X.here hx rfl (hb hby d12_7) rfl k) ?_
                    refine Go.step (S' := T.setTop (mkF m 10 #[.val (.ref o0), .val (.int x1), .val (.int (0 : Int32)), .val (.int (9 : Int32)), .val (.int (x1.toInt8.toInt32)), .val (.int (8 : Int32))] [(.int (9 : Int32)), (.int (8 : Int32))])) (fun t k => XS.iloadN X.here hx rfl (hb hby d12_9) rfl k) ?_
                    refine Go.step (S' := T.setTop (mkF m 13 #[.val (.ref o0), .val (.int x1), .val (.int (0 : Int32)), .val (.int (9 : Int32)), .val (.int (x1.toInt8.toInt32)), .val (.int (8 : Int32))] [])) (fun t k => XS.icmpNo X.here hx rfl (hb hby d12_10) rfl (tlt (by decide : ((8 : Int32) < (9 : Int32)))).2.1 k) ?_
                    refine Go.step (S' := T.setTop (mkF m 14 #[.val (.ref o0), .val (.int x1), .val (.int (0 : Int32)), .val (.int (9 : Int32)), .val (.int (x1.toInt8.toInt32)), .val (.int (8 : Int32))] [(.ref o0)])) (fun t k => XS.aloadN X.here hx rfl (hb hby d12_13) rfl rfl k) ?_
                    refine Go.step (S' := T.setTop (mkF m 16 #[.val (.ref o0), .val (.int x1), .val (.int (0 : Int32)), .val (.int (9 : Int32)), .val (.int (x1.toInt8.toInt32)), .val (.int (8 : Int32))] [(.int (8 : Int32)), (.ref o0)])) (fun t k => XS.iload X.here hx rfl (hb hby d12_14) rfl k) ?_
                    refine Go.step (S' := T.setTop (mkF m 17 #[.val (.ref o0), .val (.int x1), .val (.int (0 : Int32)), .val (.int (9 : Int32)), .val (.int (x1.toInt8.toInt32)), .val (.int (8 : Int32))] [(.int (92 : Int32))])) (fun t k => X.baloadBytes hx (j := (8 : Int32)) (v := (.int (92 : Int32))) (by rw [eT]; exact Ar.1) (State.isArrayOf_alike hZ.alike Ar.2.1) Ar.2.2 (by rw [hsz]; decide) (hat 8 (by decide)) (g := (mkF m 16 #[.val (.ref o0), .val (.int x1), .val (.int (0 : Int32)), .val (.int (9 : Int32)), .val (.int (x1.toInt8.toInt32)), .val (.int (8 : Int32))] [(.int (8 : Int32)), (.ref o0)])) rfl rfl (hb hby d12_16) _ k) ?_
                    refine Go.step (S' := T.setTop (mkF m 19 #[.val (.ref o0), .val (.int x1), .val (.int (0 : Int32)), .val (.int (9 : Int32)), .val (.int (x1.toInt8.toInt32)), .val (.int (8 : Int32))] [(.int (x1.toInt8.toInt32)), (.int (92 : Int32))])) (fun t k => XS.iload X.here hx rfl (hb hby d12_17) rfl k) ?_
                    by_cases hc18 : (92 : Int32) = (x1.toInt8.toInt32)
                    · rw [if_pos hc18] at hr
                      refine Go.step (S' := T.setTop (mkF m 22 #[.val (.ref o0), .val (.int x1), .val (.int (0 : Int32)), .val (.int (9 : Int32)), .val (.int (x1.toInt8.toInt32)), .val (.int (8 : Int32))] [])) (fun t k => XS.icmpNo X.here hx rfl (hb hby d12_19) rfl (teq hc18).2 k) ?_
                      refine Go.step (S' := T.setTop (mkF m 24 #[.val (.ref o0), .val (.int x1), .val (.int (0 : Int32)), .val (.int (9 : Int32)), .val (.int (x1.toInt8.toInt32)), .val (.int (8 : Int32))] [(.int (8 : Int32))])) (fun t k => XS.iload X.here hx rfl (hb hby d12_22) rfl k) ?_
                      exact Go.retI X hx Bd.returns Bd.notSynchronized (hb hby d12_24) ⟨by rw [hr0, ← hr]; first | done | rfl, NF, eT⟩ (by decide) (by decide)
                    · rw [if_neg hc18] at hr
                      refine Go.step (S' := T.setTop (mkF m 25 #[.val (.ref o0), .val (.int x1), .val (.int (0 : Int32)), .val (.int (9 : Int32)), .val (.int (x1.toInt8.toInt32)), .val (.int (8 : Int32))] [])) (fun t k => XS.icmpYes X.here hx rfl (pc0 := 19) (pc' := 25) rfl (hb hby d12_19) rfl (feq hc18).2 (by decide) (by decide) k) ?_
                      refine Go.step (S' := T.setTop (mkF m 28 #[.val (.ref o0), .val (.int x1), .val (.int (0 : Int32)), .val (.int (9 : Int32)), .val (.int (x1.toInt8.toInt32)), .val (.int (9 : Int32))] [])) (fun t k => XS.iinc X.here hx rfl (hb hby d12_25) rfl (l' := #[.val (.ref o0), .val (.int x1), .val (.int (0 : Int32)), .val (.int (9 : Int32)), .val (.int (x1.toInt8.toInt32)), .val (.int (9 : Int32))]) rfl k) ?_
                      refine Go.step (S' := T.setTop (mkF m 7 #[.val (.ref o0), .val (.int x1), .val (.int (0 : Int32)), .val (.int (9 : Int32)), .val (.int (x1.toInt8.toInt32)), .val (.int (9 : Int32))] [])) (fun t k => XS.goto X.here hx rfl (pc0 := 28) (pc' := 7) rfl (hb hby d12_28) (by decide) (by decide) k) ?_
                      refine Go.step (S' := T.setTop (mkF m 9 #[.val (.ref o0), .val (.int x1), .val (.int (0 : Int32)), .val (.int (9 : Int32)), .val (.int (x1.toInt8.toInt32)), .val (.int (9 : Int32))] [(.int (9 : Int32))])) (fun t k => XS.iload X.here hx rfl (hb hby d12_7) rfl k) ?_
                      refine Go.step (S' := T.setTop (mkF m 10 #[.val (.ref o0), .val (.int x1), .val (.int (0 : Int32)), .val (.int (9 : Int32)), .val (.int (x1.toInt8.toInt32)), .val (.int (9 : Int32))] [(.int (9 : Int32)), (.int (9 : Int32))])) (fun t k => XS.iloadN X.here hx rfl (hb hby d12_9) rfl k) ?_
                      refine Go.step (S' := T.setTop (mkF m 31 #[.val (.ref o0), .val (.int x1), .val (.int (0 : Int32)), .val (.int (9 : Int32)), .val (.int (x1.toInt8.toInt32)), .val (.int (9 : Int32))] [])) (fun t k => XS.icmpYes X.here hx rfl (pc0 := 10) (pc' := 31) rfl (hb hby d12_10) rfl (flt (by decide : ¬ ((9 : Int32) < (9 : Int32)))).2.1 (by decide) (by decide) k) ?_
                      refine Go.step (S' := T.setTop (mkF m 32 #[.val (.ref o0), .val (.int x1), .val (.int (0 : Int32)), .val (.int (9 : Int32)), .val (.int (x1.toInt8.toInt32)), .val (.int (9 : Int32))] [(.int (-1 : Int32))])) (fun t k => XS.iconst X.here hx rfl (hb hby d12_31) k) ?_
                      exact Go.retI X hx Bd.returns Bd.notSynchronized (hb hby d12_32) ⟨by rw [hr0, ← hr]; first | done | rfl, NF, eT⟩ (by decide) (by decide)
  show Go p e below s (Q12 o0 x1 h0 n0) ({ frames := 0, cells := 0, slots := 0, locals := 0 } : Room).cells ({ frames := 0, cells := 0, slots := 0, locals := 0 } : Room).slots (s₁.setTop (entryFrame m #[(.ref o0), (.int x1), (.int (0 : Int32)), (.int (9 : Int32))] 6))
  rw [ef12]
  exact B0 s₁ [] X0 e0 (Fr.nil n0) hr0
theorem d8_0 : decode jdk_43_method_22_code 0 = .ok (.iload_n 1, 1) := by decide +kernel
theorem d8_1 : decode jdk_43_method_22_code 1 = .ok (.invokestatic 88, 3) := by decide +kernel
theorem d8_4 : decode jdk_43_method_22_code 4 = .ok (.ifCond .ne 5, 3) := by decide +kernel
theorem d8_7 : decode jdk_43_method_22_code 7 = .ok (.iconst (-1), 1) := by decide +kernel
theorem d8_8 : decode jdk_43_method_22_code 8 = .ok (.ireturn, 1) := by decide +kernel
theorem d8_9 : decode jdk_43_method_22_code 9 = .ok (.iload_n 2, 1) := by decide +kernel
theorem d8_10 : decode jdk_43_method_22_code 10 = .ok (.iconst 0, 1) := by decide +kernel
theorem d8_11 : decode jdk_43_method_22_code 11 = .ok (.invokestatic 92, 3) := by decide +kernel
theorem d8_14 : decode jdk_43_method_22_code 14 = .ok (.istore_n 2, 1) := by decide +kernel
theorem d8_15 : decode jdk_43_method_22_code 15 = .ok (.iload_n 3, 1) := by decide +kernel
theorem d8_16 : decode jdk_43_method_22_code 16 = .ok (.aload_n 0, 1) := by decide +kernel
theorem d8_17 : decode jdk_43_method_22_code 17 = .ok (.arraylength, 1) := by decide +kernel
theorem d8_18 : decode jdk_43_method_22_code 18 = .ok (.invokestatic 38, 3) := by decide +kernel
theorem d8_21 : decode jdk_43_method_22_code 21 = .ok (.istore_n 3, 1) := by decide +kernel
theorem d8_22 : decode jdk_43_method_22_code 22 = .ok (.iload_n 2, 1) := by decide +kernel
theorem d8_23 : decode jdk_43_method_22_code 23 = .ok (.iload_n 3, 1) := by decide +kernel
theorem d8_24 : decode jdk_43_method_22_code 24 = .ok (.if_icmp .lt 5, 3) := by decide +kernel
theorem d8_27 : decode jdk_43_method_22_code 27 = .ok (.iconst (-1), 1) := by decide +kernel
theorem d8_28 : decode jdk_43_method_22_code 28 = .ok (.ireturn, 1) := by decide +kernel
theorem d8_29 : decode jdk_43_method_22_code 29 = .ok (.aload_n 0, 1) := by decide +kernel
theorem d8_30 : decode jdk_43_method_22_code 30 = .ok (.iload_n 1, 1) := by decide +kernel
theorem d8_31 : decode jdk_43_method_22_code 31 = .ok (.iload_n 2, 1) := by decide +kernel
theorem d8_32 : decode jdk_43_method_22_code 32 = .ok (.iload_n 3, 1) := by decide +kernel
theorem d8_33 : decode jdk_43_method_22_code 33 = .ok (.invokestatic 95, 3) := by decide +kernel
theorem d8_36 : decode jdk_43_method_22_code 36 = .ok (.ireturn, 1) := by decide +kernel
theorem ef8 (m : MethodId) (o0 : Addr) (x1 : Int32) : entryFrame m #[(.ref o0), (.int x1), (.int (0 : Int32)), (.int (9 : Int32))] 4 = mkF m 0 #[.val (.ref o0), .val (.int x1), .val (.int (0 : Int32)), .val (.int (9 : Int32))] [] := by first | (simp [entryFrame, mkF, argsToLocals, Value.category]; done) | rfl
def f8 (o0 : Addr) (x1 : Int32) : Int32 := (if (f9 x1) = (0 : Int32) then (-1 : Int32) else (f12 o0 x1))
def Q8 (o0 : Addr) (x1 : Int32) (h0 : Heap) (n0 : Nat) (v : Option Value) (h : Heap) (L : List Loc) : Prop := v = some (.int (f8 o0 x1)) ∧ Fr n0 L ∧ h = h0
set_option maxRecDepth 65536 in
set_option maxHeartbeats 40000000 in
theorem rm8 (l : Launch) (Z : State) (a0 : Array Value) (hw : ∀ d ∈ tables_1, d.before a0 Z = true) (ws : List Jvm.Cond) (o0 : Addr) (x1 : Int32) (h0 : Heap) (n0 : Nat) (Z0 : n0 ≤ h0.size) (cl : Cell) (Ar : Arr Z h0 o0 cl .byte) (hsz : cl.slots.size = 9) (hat : ∀ j, j < 9 → cl.slots[j]? = some (btv.getD j (.int 0))) :
    MetFree l (⟨"java/lang/StringLatin1", "indexOf", "([BIII)I"⟩ : MethodName) (head1 (Jvm.Cond.code (⟨"java/lang/StringLatin1", "indexOf", "([BIII)I"⟩ : MethodName) jdk_43_method_22_code 4 (some .int) :: ws) ({ frames := 1, cells := 0, slots := 0, locals := 17 } : Room)) (fun a U => a = #[(.ref o0), (.int x1), (.int (0 : Int32)), (.int (9 : Int32))] ∧ Z.Warmed39 U.vm ∧ U.heap = h0) (fun _ _ _ _ _ => True) (fun _ U o U' => ∃ v L, o = .returned v ∧ Q8 o0 x1 h0 n0 v U'.heap L ∧ FrameEnd U o U' L ({ frames := 1, cells := 0, slots := 0, locals := 17 } : Room).cells ({ frames := 1, cells := 0, slots := 0, locals := 17 } : Room).slots) := by
  refine MetFree.of_bodySF (plainFor_of_name pn1) hisR ?_
  intro p e s m args below meth c s₁ Bd hml0 hP hK
  obtain ⟨rfl, hZ, hh⟩ := hP
  have hx := Bd.exec
  have hby := Bd.bytes
  have hml : c.maxLocals = 4 := hml0
  have hown : s.vm.findClass "java/lang/StringLatin1" = some m.cls := findClass_of_methodNamed Bd.named
  have X0 : Stand p l e ({ frames := 1, cells := 0, slots := 0, locals := 17 } : Room) s m #[(.ref o0), (.int x1), (.int (0 : Int32)), (.int (9 : Int32))] below meth c s₁ [] 0 0 := Stand.of_body Bd
  have e0 : s₁.heap = h0 := by rw [← hh, Bd.state]; rfl
  obtain ⟨r, hr0⟩ : ∃ r, f8 o0 x1 = r := ⟨_, rfl⟩
  have B0 : ∀  (T : State) (locs : List Loc) (X : Stand p l e ({ frames := 1, cells := 0, slots := 0, locals := 17 } : Room) s m #[(.ref o0), (.int x1), (.int (0 : Int32)), (.int (9 : Int32))] below meth c T locs 0 0) (eT : T.heap = h0) (NF : Fr n0 locs) (hr : f8 o0 x1 = r), Go p e below s (Q8 o0 x1 h0 n0) ({ frames := 1, cells := 0, slots := 0, locals := 17 } : Room).cells ({ frames := 1, cells := 0, slots := 0, locals := 17 } : Room).slots (T.setTop (mkF m 0 #[.val (.ref o0), .val (.int x1), .val (.int (0 : Int32)), .val (.int (9 : Int32))] [])) := by
    intro  T locs X eT NF hr
    unfold f8 at hr
    refine Go.step (S' := T.setTop (mkF m 1 #[.val (.ref o0), .val (.int x1), .val (.int (0 : Int32)), .val (.int (9 : Int32))] [(.int x1)])) (fun t k => XS.iloadN X.here hx rfl (hb hby d8_0) rfl k) ?_
    obtain ⟨_, _, ⟨T1, L1, k1, n1⟩, -, X1, ⟨Lc1, hQ1, l1, y1, z1⟩, st1⟩ := Jvm.LawKit.callS X hx (y := (⟨"java/lang/StringLatin1", "canEncode", "(I)Z"⟩ : MethodName)) hown (mvT hZ (hw _ (List.mem_of_getElem? (i := 49) rfl))) (mvT hZ (hw _ (List.mem_of_getElem? (i := 50) rfl))) (mvT hZ (hw _ (List.mem_of_getElem? (i := 47) rfl))) (mvT hZ (hw _ (List.mem_of_getElem? (i := 51) rfl))) (by decide) (backOf (W := 0) (rm9 l Z a0 hw [] x1 h0 n0 Z0) hZ (hw _ (List.mem_of_getElem? (i := 51) rfl)) (hw _ (List.mem_of_getElem? (i := 47) rfl)) (by decide) (by decide)) (g := (mkF m 1 #[.val (.ref o0), .val (.int x1), .val (.int (0 : Int32)), .val (.int (9 : Int32))] [(.int x1)])) rfl (by rw [hml]; rfl) (argsL := [(.int x1)]) (rest := []) (lenOf pd3 rfl) rfl (by show 2 * 0 + _ ≤ _; exact Nat.le_of_eq rfl) (hb hby d8_1) (fun _ _ => ⟨rfl, eT, (by decide : 0 + 0 ≤ _), (by decide : 0 + 0 ≤ _)⟩)
    dsimp only [Pt.U, Pt.locs, Pt.cells, Pt.slots] at X1 l1 y1 z1 st1 hQ1
    subst l1 y1 z1
    obtain ⟨rfl, Nq1, e1⟩ := hQ1
    have N1 := Fr.app NF Nq1
    refine Go.step (S' := T1.setTop (mkF m 4 #[.val (.ref o0), .val (.int x1), .val (.int (0 : Int32)), .val (.int (9 : Int32))] [(.int (f9 x1))])) (fun t k => st1 t k) ?_
    by_cases hc2 : (f9 x1) = (0 : Int32)
    · rw [if_pos hc2] at hr
      refine Go.step (S' := T1.setTop (mkF m 7 #[.val (.ref o0), .val (.int x1), .val (.int (0 : Int32)), .val (.int (9 : Int32))] [])) (fun t k => XS.ifNo X1.here hx rfl (hb hby d8_4) rfl ((if0 _ _).trans (teq hc2).2) k) ?_
      refine Go.step (S' := T1.setTop (mkF m 8 #[.val (.ref o0), .val (.int x1), .val (.int (0 : Int32)), .val (.int (9 : Int32))] [(.int (-1 : Int32))])) (fun t k => XS.iconst X1.here hx rfl (hb hby d8_7) k) ?_
      exact Go.retI X1 hx Bd.returns Bd.notSynchronized (hb hby d8_8) ⟨by rw [hr0, ← hr]; first | done | rfl, N1, e1⟩ (by decide) (by decide)
    · rw [if_neg hc2] at hr
      refine Go.step (S' := T1.setTop (mkF m 9 #[.val (.ref o0), .val (.int x1), .val (.int (0 : Int32)), .val (.int (9 : Int32))] [])) (fun t k => XS.ifYes X1.here hx rfl (pc0 := 4) (pc' := 9) rfl (hb hby d8_4) rfl ((if0 _ _).trans (feq hc2).2) (by decide) (by decide) k) ?_
      refine Go.step (S' := T1.setTop (mkF m 10 #[.val (.ref o0), .val (.int x1), .val (.int (0 : Int32)), .val (.int (9 : Int32))] [(.int (0 : Int32))])) (fun t k => XS.iloadN X1.here hx rfl (hb hby d8_9) rfl k) ?_
      refine Go.step (S' := T1.setTop (mkF m 11 #[.val (.ref o0), .val (.int x1), .val (.int (0 : Int32)), .val (.int (9 : Int32))] [(.int (0 : Int32)), (.int (0 : Int32))])) (fun t k => XS.iconst X1.here hx rfl (hb hby d8_10) k) ?_
      obtain ⟨_, _, ⟨T3, L3, k3, n3⟩, -, X3, ⟨Lc3, hQ3, l3, y3, z3⟩, st3⟩ := Jvm.LawKit.callS X1 hx (y := (⟨"java/lang/Math", "max", "(II)I"⟩ : MethodName)) hown (mvT hZ (hw _ (List.mem_of_getElem? (i := 52) rfl))) (mvT hZ (hw _ (List.mem_of_getElem? (i := 53) rfl))) (mvT hZ (hw _ (List.mem_of_getElem? (i := 54) rfl))) (mvT hZ (hw _ (List.mem_of_getElem? (i := 55) rfl))) (by decide) (backOf (W := 0) (rm10 l Z a0 hw [] (0 : Int32) (0 : Int32) h0 n0 Z0) hZ (hw _ (List.mem_of_getElem? (i := 55) rfl)) (hw _ (List.mem_of_getElem? (i := 54) rfl)) (by decide) (by decide)) (g := (mkF m 11 #[.val (.ref o0), .val (.int x1), .val (.int (0 : Int32)), .val (.int (9 : Int32))] [(.int (0 : Int32)), (.int (0 : Int32))])) rfl (by rw [hml]; rfl) (argsL := [(.int (0 : Int32)), (.int (0 : Int32))]) (rest := []) (lenOf pd4 rfl) rfl (by show 2 * 0 + _ ≤ _; exact Nat.le_of_eq rfl) (hb hby d8_11) (fun _ _ => ⟨rfl, e1, (by decide : 0 + 0 ≤ _), (by decide : 0 + 0 ≤ _)⟩)
      dsimp only [Pt.U, Pt.locs, Pt.cells, Pt.slots] at X3 l3 y3 z3 st3 hQ3
      subst l3 y3 z3
      obtain ⟨rfl, Nq3, e3⟩ := hQ3
      have N3 := Fr.app N1 Nq3
      rw [show f10 (0 : Int32) (0 : Int32) = (0 : Int32) from rfl] at st3
      refine Go.step (S' := T3.setTop (mkF m 14 #[.val (.ref o0), .val (.int x1), .val (.int (0 : Int32)), .val (.int (9 : Int32))] [(.int (0 : Int32))])) (fun t k => st3 t k) ?_
      refine Go.step (S' := T3.setTop (mkF m 15 #[.val (.ref o0), .val (.int x1), .val (.int (0 : Int32)), .val (.int (9 : Int32))] [])) (fun t k => XS.istoreN X3.here hx rfl (hb hby d8_14) rfl (l' := #[.val (.ref o0), .val (.int x1), .val (.int (0 : Int32)), .val (.int (9 : Int32))]) rfl k) ?_
      refine Go.step (S' := T3.setTop (mkF m 16 #[.val (.ref o0), .val (.int x1), .val (.int (0 : Int32)), .val (.int (9 : Int32))] [(.int (9 : Int32))])) (fun t k => XS.iloadN X3.here hx rfl (hb hby d8_15) rfl k) ?_
      refine Go.step (S' := T3.setTop (mkF m 17 #[.val (.ref o0), .val (.int x1), .val (.int (0 : Int32)), .val (.int (9 : Int32))] [(.ref o0), (.int (9 : Int32))])) (fun t k => XS.aloadN X3.here hx rfl (hb hby d8_16) rfl rfl k) ?_
      refine Go.step (S' := T3.setTop (mkF m 18 #[.val (.ref o0), .val (.int x1), .val (.int (0 : Int32)), .val (.int (9 : Int32))] [(.int (9 : Int32)), (.int (9 : Int32))])) (fun t k => X3.arraylength hx (by rw [e3]; exact Ar.1) (State.isArrayOf_alike hZ.alike Ar.2.1) (g := (mkF m 17 #[.val (.ref o0), .val (.int x1), .val (.int (0 : Int32)), .val (.int (9 : Int32))] [(.ref o0), (.int (9 : Int32))])) rfl rfl (hb hby d8_17) _ (by rw [hsz]; exact k)) ?_
      obtain ⟨_, _, ⟨T4, L4, k4, n4⟩, -, X4, ⟨Lc4, hQ4, l4, y4, z4⟩, st4⟩ := Jvm.LawKit.callS X3 hx (y := (⟨"java/lang/Math", "min", "(II)I"⟩ : MethodName)) hown (mvT hZ (hw _ (List.mem_of_getElem? (i := 56) rfl))) (mvT hZ (hw _ (List.mem_of_getElem? (i := 57) rfl))) (mvT hZ (hw _ (List.mem_of_getElem? (i := 54) rfl))) (mvT hZ (hw _ (List.mem_of_getElem? (i := 58) rfl))) (by decide) (backOf (W := 0) (rm11 l Z a0 hw [] (9 : Int32) (9 : Int32) h0 n0 Z0) hZ (hw _ (List.mem_of_getElem? (i := 58) rfl)) (hw _ (List.mem_of_getElem? (i := 54) rfl)) (by decide) (by decide)) (g := (mkF m 18 #[.val (.ref o0), .val (.int x1), .val (.int (0 : Int32)), .val (.int (9 : Int32))] [(.int (9 : Int32)), (.int (9 : Int32))])) rfl (by rw [hml]; rfl) (argsL := [(.int (9 : Int32)), (.int (9 : Int32))]) (rest := []) (lenOf pd4 rfl) rfl (by show 2 * 0 + _ ≤ _; exact Nat.le_of_eq rfl) (hb hby d8_18) (fun _ _ => ⟨rfl, e3, (by decide : 0 + 0 ≤ _), (by decide : 0 + 0 ≤ _)⟩)
      dsimp only [Pt.U, Pt.locs, Pt.cells, Pt.slots] at X4 l4 y4 z4 st4 hQ4
      subst l4 y4 z4
      obtain ⟨rfl, Nq4, e4⟩ := hQ4
      have N4 := Fr.app N3 Nq4
      rw [show f11 (9 : Int32) (9 : Int32) = (9 : Int32) from rfl] at st4
      refine Go.step (S' := T4.setTop (mkF m 21 #[.val (.ref o0), .val (.int x1), .val (.int (0 : Int32)), .val (.int (9 : Int32))] [(.int (9 : Int32))])) (fun t k => st4 t k) ?_
      refine Go.step (S' := T4.setTop (mkF m 22 #[.val (.ref o0), .val (.int x1), .val (.int (0 : Int32)), .val (.int (9 : Int32))] [])) (fun t k => XS.istoreN X4.here hx rfl (hb hby d8_21) rfl (l' := #[.val (.ref o0), .val (.int x1), .val (.int (0 : Int32)), .val (.int (9 : Int32))]) rfl k) ?_
      refine Go.step (S' := T4.setTop (mkF m 23 #[.val (.ref o0), .val (.int x1), .val (.int (0 : Int32)), .val (.int (9 : Int32))] [(.int (0 : Int32))])) (fun t k => XS.iloadN X4.here hx rfl (hb hby d8_22) rfl k) ?_
      refine Go.step (S' := T4.setTop (mkF m 24 #[.val (.ref o0), .val (.int x1), .val (.int (0 : Int32)), .val (.int (9 : Int32))] [(.int (9 : Int32)), (.int (0 : Int32))])) (fun t k => XS.iloadN X4.here hx rfl (hb hby d8_23) rfl k) ?_
      refine Go.step (S' := T4.setTop (mkF m 29 #[.val (.ref o0), .val (.int x1), .val (.int (0 : Int32)), .val (.int (9 : Int32))] [])) (fun t k => XS.icmpYes X4.here hx rfl (pc0 := 24) (pc' := 29) rfl (hb hby d8_24) rfl (tlt (by decide : ((0 : Int32) < (9 : Int32)))).1 (by decide) (by decide) k) ?_
      refine Go.step (S' := T4.setTop (mkF m 30 #[.val (.ref o0), .val (.int x1), .val (.int (0 : Int32)), .val (.int (9 : Int32))] [(.ref o0)])) (fun t k => XS.aloadN X4.here hx rfl (hb hby d8_29) rfl rfl k) ?_
      refine Go.step (S' := T4.setTop (mkF m 31 #[.val (.ref o0), .val (.int x1), .val (.int (0 : Int32)), .val (.int (9 : Int32))] [(.int x1), (.ref o0)])) (fun t k => XS.iloadN X4.here hx rfl (hb hby d8_30) rfl k) ?_
      refine Go.step (S' := T4.setTop (mkF m 32 #[.val (.ref o0), .val (.int x1), .val (.int (0 : Int32)), .val (.int (9 : Int32))] [(.int (0 : Int32)), (.int x1), (.ref o0)])) (fun t k => XS.iloadN X4.here hx rfl (hb hby d8_31) rfl k) ?_
      refine Go.step (S' := T4.setTop (mkF m 33 #[.val (.ref o0), .val (.int x1), .val (.int (0 : Int32)), .val (.int (9 : Int32))] [(.int (9 : Int32)), (.int (0 : Int32)), (.int x1), (.ref o0)])) (fun t k => XS.iloadN X4.here hx rfl (hb hby d8_32) rfl k) ?_
      obtain ⟨_, _, ⟨T6, L6, k6, n6⟩, -, X6, ⟨Lc6, hQ6, l6, y6, z6⟩, st6⟩ := Jvm.LawKit.callS X4 hx (y := (⟨"java/lang/StringLatin1", "indexOfChar", "([BIII)I"⟩ : MethodName)) hown (mvT hZ (hw _ (List.mem_of_getElem? (i := 59) rfl))) (mvT hZ (hw _ (List.mem_of_getElem? (i := 60) rfl))) (mvT hZ (hw _ (List.mem_of_getElem? (i := 47) rfl))) (mvT hZ (hw _ (List.mem_of_getElem? (i := 61) rfl))) (by decide) (backOf (W := 0) (rm12 l Z a0 hw [] o0 x1 h0 n0 Z0 cl Ar hsz hat) hZ (hw _ (List.mem_of_getElem? (i := 61) rfl)) (hw _ (List.mem_of_getElem? (i := 47) rfl)) (by decide) (by decide)) (g := (mkF m 33 #[.val (.ref o0), .val (.int x1), .val (.int (0 : Int32)), .val (.int (9 : Int32))] [(.int (9 : Int32)), (.int (0 : Int32)), (.int x1), (.ref o0)])) rfl (by rw [hml]; rfl) (argsL := [(.ref o0), (.int x1), (.int (0 : Int32)), (.int (9 : Int32))]) (rest := []) (lenOf pd5 rfl) rfl (by show 2 * 0 + _ ≤ _; exact Nat.le_of_eq rfl) (hb hby d8_33) (fun _ _ => ⟨rfl, e4, (by decide : 0 + 0 ≤ _), (by decide : 0 + 0 ≤ _)⟩)
      dsimp only [Pt.U, Pt.locs, Pt.cells, Pt.slots] at X6 l6 y6 z6 st6 hQ6
      subst l6 y6 z6
      obtain ⟨rfl, Nq6, e6⟩ := hQ6
      have N6 := Fr.app N4 Nq6
      refine Go.step (S' := T6.setTop (mkF m 36 #[.val (.ref o0), .val (.int x1), .val (.int (0 : Int32)), .val (.int (9 : Int32))] [(.int (f12 o0 x1))])) (fun t k => st6 t k) ?_
      exact Go.retI X6 hx Bd.returns Bd.notSynchronized (hb hby d8_36) ⟨by rw [hr0, ← hr]; first | done | rfl, N6, e6⟩ (by decide) (by decide)
  show Go p e below s (Q8 o0 x1 h0 n0) ({ frames := 1, cells := 0, slots := 0, locals := 17 } : Room).cells ({ frames := 1, cells := 0, slots := 0, locals := 17 } : Room).slots (s₁.setTop (entryFrame m #[(.ref o0), (.int x1), (.int (0 : Int32)), (.int (9 : Int32))] 4))
  rw [ef8]
  exact B0 s₁ [] X0 e0 (Fr.nil n0) hr0
theorem d4_0 : decode jdk_42_method_80_code 0 = .ok (.aload_n 0, 1) := by decide +kernel
theorem d4_1 : decode jdk_42_method_80_code 1 = .ok (.invokevirtual 492, 3) := by decide +kernel
theorem d4_4 : decode jdk_42_method_80_code 4 = .ok (.ifCond .eq 19, 3) := by decide +kernel
theorem d4_7 : decode jdk_42_method_80_code 7 = .ok (.aload_n 0, 1) := by decide +kernel
theorem d4_8 : decode jdk_42_method_80_code 8 = .ok (.getfield 9, 3) := by decide +kernel
theorem d4_11 : decode jdk_42_method_80_code 11 = .ok (.iload_n 1, 1) := by decide +kernel
theorem d4_12 : decode jdk_42_method_80_code 12 = .ok (.iload_n 2, 1) := by decide +kernel
theorem d4_13 : decode jdk_42_method_80_code 13 = .ok (.aload_n 0, 1) := by decide +kernel
theorem d4_14 : decode jdk_42_method_80_code 14 = .ok (.invokevirtual 505, 3) := by decide +kernel
theorem d4_17 : decode jdk_42_method_80_code 17 = .ok (.invokestatic 637, 3) := by decide +kernel
theorem d4_20 : decode jdk_42_method_80_code 20 = .ok (.goto 16, 3) := by decide +kernel
theorem d4_23 : decode jdk_42_method_80_code 23 = .ok (.aload_n 0, 1) := by decide +kernel
theorem d4_24 : decode jdk_42_method_80_code 24 = .ok (.getfield 9, 3) := by decide +kernel
theorem d4_27 : decode jdk_42_method_80_code 27 = .ok (.iload_n 1, 1) := by decide +kernel
theorem d4_28 : decode jdk_42_method_80_code 28 = .ok (.iload_n 2, 1) := by decide +kernel
theorem d4_29 : decode jdk_42_method_80_code 29 = .ok (.aload_n 0, 1) := by decide +kernel
theorem d4_30 : decode jdk_42_method_80_code 30 = .ok (.invokevirtual 505, 3) := by decide +kernel
theorem d4_33 : decode jdk_42_method_80_code 33 = .ok (.invokestatic 640, 3) := by decide +kernel
theorem d4_36 : decode jdk_42_method_80_code 36 = .ok (.ireturn, 1) := by decide +kernel
theorem ef4 (m : MethodId) (o0 : Addr) (x1 : Int32) : entryFrame m #[(.ref o0), (.int x1), (.int (0 : Int32))] 3 = mkF m 0 #[.val (.ref o0), .val (.int x1), .val (.int (0 : Int32))] [] := by first | (simp [entryFrame, mkF, argsToLocals, Value.category]; done) | rfl
def f4 (o0 : Addr) (x1 : Int32) (b : Addr) (G : Int32) : Int32 := (f8 b x1)
def Q4 (o0 : Addr) (x1 : Int32) (b : Addr) (G : Int32) (h0 : Heap) (n0 : Nat) (v : Option Value) (h : Heap) (L : List Loc) : Prop := v = some (.int (f4 o0 x1 b G)) ∧ Fr n0 L ∧ h = h0
set_option maxRecDepth 65536 in
set_option maxHeartbeats 40000000 in
theorem rm4 (l : Launch) (Z : State) (a0 : Array Value) (hw : ∀ d ∈ tables_1, d.before a0 Z = true) (ws : List Jvm.Cond) (o0 : Addr) (x1 : Int32) (b : Addr) (G : Int32) (h0 : Heap) (n0 : Nat) (Z0 : n0 ≤ h0.size) (F : Str9 Z h0 o0 b G) :
    MetFree l (⟨"java/lang/String", "indexOf", "(II)I"⟩ : MethodName) (head1 (Jvm.Cond.code (⟨"java/lang/String", "indexOf", "(II)I"⟩ : MethodName) jdk_42_method_80_code 3 (some .int) :: ws) ({ frames := 2, cells := 0, slots := 0, locals := 32 } : Room)) (fun a U => a = #[(.ref o0), (.int x1), (.int (0 : Int32))] ∧ Z.Warmed39 U.vm ∧ U.heap = h0) (fun _ _ _ _ _ => True) (fun _ U o U' => ∃ v L, o = .returned v ∧ Q4 o0 x1 b G h0 n0 v U'.heap L ∧ FrameEnd U o U' L ({ frames := 2, cells := 0, slots := 0, locals := 32 } : Room).cells ({ frames := 2, cells := 0, slots := 0, locals := 32 } : Room).slots) := by
  refine MetFree.of_bodySF (plainFor_of_name pn0) hisR ?_
  intro p e s m args below meth c s₁ Bd hml0 hP hK
  obtain ⟨rfl, hZ, hh⟩ := hP
  have hx := Bd.exec
  have hby := Bd.bytes
  have hml : c.maxLocals = 3 := hml0
  have hown : s.vm.findClass "java/lang/String" = some m.cls := findClass_of_methodNamed Bd.named
  have X0 : Stand p l e ({ frames := 2, cells := 0, slots := 0, locals := 32 } : Room) s m #[(.ref o0), (.int x1), (.int (0 : Int32))] below meth c s₁ [] 0 0 := Stand.of_body Bd
  have e0 : s₁.heap = h0 := by rw [← hh, Bd.state]; rfl
  obtain ⟨r, hr0⟩ : ∃ r, f4 o0 x1 b G = r := ⟨_, rfl⟩
  obtain ⟨cl, Ar, hsz, hat⟩ := F.2.2.2.2.2
  have B0 : ∀  (T : State) (locs : List Loc) (X : Stand p l e ({ frames := 2, cells := 0, slots := 0, locals := 32 } : Room) s m #[(.ref o0), (.int x1), (.int (0 : Int32))] below meth c T locs 0 0) (eT : T.heap = h0) (NF : Fr n0 locs) (hr : f4 o0 x1 b G = r), Go p e below s (Q4 o0 x1 b G h0 n0) ({ frames := 2, cells := 0, slots := 0, locals := 32 } : Room).cells ({ frames := 2, cells := 0, slots := 0, locals := 32 } : Room).slots (T.setTop (mkF m 0 #[.val (.ref o0), .val (.int x1), .val (.int (0 : Int32))] [])) := by
    intro  T locs X eT NF hr
    unfold f4 at hr
    refine Go.step (S' := T.setTop (mkF m 1 #[.val (.ref o0), .val (.int x1), .val (.int (0 : Int32))] [(.ref o0)])) (fun t k => XS.aloadN X.here hx rfl (hb hby d4_0) rfl rfl k) ?_
    obtain ⟨cq1, kq1, q1a, q1b, q1c⟩ := isOf hZ eT F.1
    obtain ⟨_, _, ⟨T1, L1, k1, n1⟩, -, X1, ⟨Lc1, hQ1, l1, y1, z1⟩, st1⟩ := X.virtualBack hx (y := (⟨"java/lang/String", "isLatin1", "()Z"⟩ : MethodName)) (z := (⟨"java/lang/String", "isLatin1", "()Z"⟩ : MethodName)) hown (mvT hZ (hw _ (List.mem_of_getElem? (i := 27) rfl))) (mvT hZ (hw _ (List.mem_of_getElem? (i := 28) rfl))) (notFace_of_selects (args := #[]) (mvT hZ (hw _ (List.mem_of_getElem? (i := 30) rfl)))) (mvT hZ (hw _ (List.mem_of_getElem? (i := 30) rfl))) (mvT hZ (hw _ (List.mem_of_getElem? (i := 29) rfl))) (by decide) (backOf (W := 0) (rm5 l Z a0 hw [] o0 b G h0 n0 Z0 F) hZ (hw _ (List.mem_of_getElem? (i := 31) rfl)) (hw _ (List.mem_of_getElem? (i := 10) rfl)) (by decide) (by decide)) q1a q1c (g := (mkF m 1 #[.val (.ref o0), .val (.int x1), .val (.int (0 : Int32))] [(.ref o0)])) rfl (by rw [hml]; rfl) (Steps.refl _) (argsL := []) (rest := []) (lenOf pd1 rfl) rfl (by show 2 * 0 + _ ≤ _; exact Nat.le_of_eq rfl) (hb hby d4_1) (fun _ _ => ⟨rfl, eT, (by decide : 0 + 0 ≤ _), (by decide : 0 + 0 ≤ _)⟩)
    dsimp only [Pt.U, Pt.locs, Pt.cells, Pt.slots] at X1 l1 y1 z1 st1 hQ1
    subst l1 y1 z1
    obtain ⟨rfl, Nq1, e1⟩ := hQ1
    have N1 := Fr.app NF Nq1
    rw [show f5 o0 b G = 1 from rfl] at st1
    refine Go.step (S' := T1.setTop (mkF m 4 #[.val (.ref o0), .val (.int x1), .val (.int (0 : Int32))] [(.int (1 : Int32))])) (fun t k => st1.trans k) ?_
    refine Go.step (S' := T1.setTop (mkF m 7 #[.val (.ref o0), .val (.int x1), .val (.int (0 : Int32))] [])) (fun t k => XS.ifNo X1.here hx rfl (hb hby d4_4) rfl ((if0 _ _).trans (feq (by decide : ¬ ((1 : Int32) = (0 : Int32)))).1) k) ?_
    refine Go.step (S' := T1.setTop (mkF m 8 #[.val (.ref o0), .val (.int x1), .val (.int (0 : Int32))] [(.ref o0)])) (fun t k => XS.aloadN X1.here hx rfl (hb hby d4_7) rfl rfl k) ?_
    obtain ⟨T3, X3, e3, st3⟩ := getF X1 hx hZ hown (host := "") (Or.inl (hw _ (List.mem_of_getElem? (i := 34) rfl))) Via.refl e1 F.2.2.1 (g := (mkF m 8 #[.val (.ref o0), .val (.int x1), .val (.int (0 : Int32))] [(.ref o0)])) rfl rfl (hb hby d4_8)
    refine Go.step (S' := T3.setTop (mkF m 11 #[.val (.ref o0), .val (.int x1), .val (.int (0 : Int32))] [(.ref b)])) (fun t k => st3 t k) ?_
    refine Go.step (S' := T3.setTop (mkF m 12 #[.val (.ref o0), .val (.int x1), .val (.int (0 : Int32))] [(.int x1), (.ref b)])) (fun t k => XS.iloadN X3.here hx rfl (hb hby d4_11) rfl k) ?_
    refine Go.step (S' := T3.setTop (mkF m 13 #[.val (.ref o0), .val (.int x1), .val (.int (0 : Int32))] [(.int (0 : Int32)), (.int x1), (.ref b)])) (fun t k => XS.iloadN X3.here hx rfl (hb hby d4_12) rfl k) ?_
    refine Go.step (S' := T3.setTop (mkF m 14 #[.val (.ref o0), .val (.int x1), .val (.int (0 : Int32))] [(.ref o0), (.int (0 : Int32)), (.int x1), (.ref b)])) (fun t k => XS.aloadN X3.here hx rfl (hb hby d4_13) rfl rfl k) ?_
    obtain ⟨cq4, kq4, q4a, q4b, q4c⟩ := isOf hZ e3 F.1
    obtain ⟨_, _, ⟨T4, L4, k4, n4⟩, -, X4, ⟨Lc4, hQ4, l4, y4, z4⟩, st4⟩ := X3.virtualBack hx (y := (⟨"java/lang/String", "length", "()I"⟩ : MethodName)) (z := (⟨"java/lang/String", "length", "()I"⟩ : MethodName)) hown (mvT hZ (hw _ (List.mem_of_getElem? (i := 35) rfl))) (mvT hZ (hw _ (List.mem_of_getElem? (i := 36) rfl))) (notFace_of_selects (args := #[]) (mvT hZ (hw _ (List.mem_of_getElem? (i := 38) rfl)))) (mvT hZ (hw _ (List.mem_of_getElem? (i := 38) rfl))) (mvT hZ (hw _ (List.mem_of_getElem? (i := 37) rfl))) (by decide) (backOf (W := 3) (rm6 l Z a0 hw [] o0 b G h0 n0 Z0 F) hZ (hw _ (List.mem_of_getElem? (i := 39) rfl)) (hw _ (List.mem_of_getElem? (i := 10) rfl)) (by decide) (by decide)) q4a q4c (g := (mkF m 14 #[.val (.ref o0), .val (.int x1), .val (.int (0 : Int32))] [(.ref o0), (.int (0 : Int32)), (.int x1), (.ref b)])) rfl (by rw [hml]; rfl) (Steps.refl _) (argsL := []) (rest := [(.int (0 : Int32)), (.int x1), (.ref b)]) (lenOf pd2 rfl) rfl (by show 2 * 0 + _ ≤ _; exact Nat.le_of_eq rfl) (hb hby d4_14) (fun _ _ => ⟨rfl, e3, (by decide : 0 + 0 ≤ _), (by decide : 0 + 0 ≤ _)⟩)
    dsimp only [Pt.U, Pt.locs, Pt.cells, Pt.slots] at X4 l4 y4 z4 st4 hQ4
    subst l4 y4 z4
    obtain ⟨rfl, Nq4, e4⟩ := hQ4
    have N4 := Fr.app N1 Nq4
    rw [show f6 o0 b G = 9 from rfl] at st4
    refine Go.step (S' := T4.setTop (mkF m 17 #[.val (.ref o0), .val (.int x1), .val (.int (0 : Int32))] [(.int (9 : Int32)), (.int (0 : Int32)), (.int x1), (.ref b)])) (fun t k => st4.trans k) ?_
    obtain ⟨_, _, ⟨T5, L5, k5, n5⟩, -, X5, ⟨Lc5, hQ5, l5, y5, z5⟩, st5⟩ := Jvm.LawKit.callS X4 hx (y := (⟨"java/lang/StringLatin1", "indexOf", "([BIII)I"⟩ : MethodName)) hown (mvT hZ (hw _ (List.mem_of_getElem? (i := 45) rfl))) (mvT hZ (hw _ (List.mem_of_getElem? (i := 46) rfl))) (mvT hZ (hw _ (List.mem_of_getElem? (i := 47) rfl))) (mvT hZ (hw _ (List.mem_of_getElem? (i := 48) rfl))) (by decide) (backOf (W := 0) (rm8 l Z a0 hw [] b x1 h0 n0 Z0 cl Ar hsz hat) hZ (hw _ (List.mem_of_getElem? (i := 48) rfl)) (hw _ (List.mem_of_getElem? (i := 47) rfl)) (by decide) (by decide)) (g := (mkF m 17 #[.val (.ref o0), .val (.int x1), .val (.int (0 : Int32))] [(.int (9 : Int32)), (.int (0 : Int32)), (.int x1), (.ref b)])) rfl (by rw [hml]; rfl) (argsL := [(.ref b), (.int x1), (.int (0 : Int32)), (.int (9 : Int32))]) (rest := []) (lenOf pd5 rfl) rfl (by show 2 * 0 + _ ≤ _; exact Nat.le_of_eq rfl) (hb hby d4_17) (fun _ _ => ⟨rfl, e4, (by decide : 0 + 0 ≤ _), (by decide : 0 + 0 ≤ _)⟩)
    dsimp only [Pt.U, Pt.locs, Pt.cells, Pt.slots] at X5 l5 y5 z5 st5 hQ5
    subst l5 y5 z5
    obtain ⟨rfl, Nq5, e5⟩ := hQ5
    have N5 := Fr.app N4 Nq5
    refine Go.step (S' := T5.setTop (mkF m 20 #[.val (.ref o0), .val (.int x1), .val (.int (0 : Int32))] [(.int (f8 b x1))])) (fun t k => st5 t k) ?_
    refine Go.step (S' := T5.setTop (mkF m 36 #[.val (.ref o0), .val (.int x1), .val (.int (0 : Int32))] [(.int (f8 b x1))])) (fun t k => XS.goto X5.here hx rfl (pc0 := 20) (pc' := 36) rfl (hb hby d4_20) (by decide) (by decide) k) ?_
    exact Go.retI X5 hx Bd.returns Bd.notSynchronized (hb hby d4_36) ⟨by rw [hr0, ← hr]; first | done | rfl, N5, e5⟩ (by decide) (by decide)
  show Go p e below s (Q4 o0 x1 b G h0 n0) ({ frames := 2, cells := 0, slots := 0, locals := 32 } : Room).cells ({ frames := 2, cells := 0, slots := 0, locals := 32 } : Room).slots (s₁.setTop (entryFrame m #[(.ref o0), (.int x1), (.int (0 : Int32))] 3))
  rw [ef4]
  exact B0 s₁ [] X0 e0 (Fr.nil n0) hr0
theorem d3_0 : decode jdk_42_method_79_code 0 = .ok (.aload_n 0, 1) := by decide +kernel
theorem d3_1 : decode jdk_42_method_79_code 1 = .ok (.iload_n 1, 1) := by decide +kernel
theorem d3_2 : decode jdk_42_method_79_code 2 = .ok (.iconst 0, 1) := by decide +kernel
theorem d3_3 : decode jdk_42_method_79_code 3 = .ok (.invokevirtual 633, 3) := by decide +kernel
theorem d3_6 : decode jdk_42_method_79_code 6 = .ok (.ireturn, 1) := by decide +kernel
theorem pd6 : parseMethodDescriptor "(I)I" = some ⟨[.int], some .int⟩ := by decide +kernel
theorem ef3 (m : MethodId) (o0 : Addr) (x1 : Int32) : entryFrame m #[(.ref o0), (.int x1)] 2 = mkF m 0 #[.val (.ref o0), .val (.int x1)] [] := by first | (simp [entryFrame, mkF, argsToLocals, Value.category]; done) | rfl
def f3 (o0 : Addr) (x1 : Int32) (b : Addr) (G : Int32) : Int32 := (f4 o0 x1 b G)
def Q3 (o0 : Addr) (x1 : Int32) (b : Addr) (G : Int32) (h0 : Heap) (n0 : Nat) (v : Option Value) (h : Heap) (L : List Loc) : Prop := v = some (.int (f3 o0 x1 b G)) ∧ Fr n0 L ∧ h = h0
set_option maxRecDepth 65536 in
set_option maxHeartbeats 40000000 in
theorem rm3 (l : Launch) (Z : State) (a0 : Array Value) (hw : ∀ d ∈ tables_1, d.before a0 Z = true) (ws : List Jvm.Cond) (o0 : Addr) (x1 : Int32) (b : Addr) (G : Int32) (h0 : Heap) (n0 : Nat) (Z0 : n0 ≤ h0.size) (F : Str9 Z h0 o0 b G) :
    MetFree l (⟨"java/lang/String", "indexOf", "(I)I"⟩ : MethodName) (head1 (Jvm.Cond.code (⟨"java/lang/String", "indexOf", "(I)I"⟩ : MethodName) jdk_42_method_79_code 2 (some .int) :: ws) ({ frames := 3, cells := 0, slots := 0, locals := 46 } : Room)) (fun a U => a = #[(.ref o0), (.int x1)] ∧ Z.Warmed39 U.vm ∧ U.heap = h0) (fun _ _ _ _ _ => True) (fun _ U o U' => ∃ v L, o = .returned v ∧ Q3 o0 x1 b G h0 n0 v U'.heap L ∧ FrameEnd U o U' L ({ frames := 3, cells := 0, slots := 0, locals := 46 } : Room).cells ({ frames := 3, cells := 0, slots := 0, locals := 46 } : Room).slots) := by
  refine MetFree.of_bodySF (plainFor_of_name pn0) hisR ?_
  intro p e s m args below meth c s₁ Bd hml0 hP hK
  obtain ⟨rfl, hZ, hh⟩ := hP
  have hx := Bd.exec
  have hby := Bd.bytes
  have hml : c.maxLocals = 2 := hml0
  have hown : s.vm.findClass "java/lang/String" = some m.cls := findClass_of_methodNamed Bd.named
  have X0 : Stand p l e ({ frames := 3, cells := 0, slots := 0, locals := 46 } : Room) s m #[(.ref o0), (.int x1)] below meth c s₁ [] 0 0 := Stand.of_body Bd
  have e0 : s₁.heap = h0 := by rw [← hh, Bd.state]; rfl
  obtain ⟨r, hr0⟩ : ∃ r, f3 o0 x1 b G = r := ⟨_, rfl⟩
  have B0 : ∀  (T : State) (locs : List Loc) (X : Stand p l e ({ frames := 3, cells := 0, slots := 0, locals := 46 } : Room) s m #[(.ref o0), (.int x1)] below meth c T locs 0 0) (eT : T.heap = h0) (NF : Fr n0 locs) (hr : f3 o0 x1 b G = r), Go p e below s (Q3 o0 x1 b G h0 n0) ({ frames := 3, cells := 0, slots := 0, locals := 46 } : Room).cells ({ frames := 3, cells := 0, slots := 0, locals := 46 } : Room).slots (T.setTop (mkF m 0 #[.val (.ref o0), .val (.int x1)] [])) := by
    intro  T locs X eT NF hr
    unfold f3 at hr
    refine Go.step (S' := T.setTop (mkF m 1 #[.val (.ref o0), .val (.int x1)] [(.ref o0)])) (fun t k => XS.aloadN X.here hx rfl (hb hby d3_0) rfl rfl k) ?_
    refine Go.step (S' := T.setTop (mkF m 2 #[.val (.ref o0), .val (.int x1)] [(.int x1), (.ref o0)])) (fun t k => XS.iloadN X.here hx rfl (hb hby d3_1) rfl k) ?_
    refine Go.step (S' := T.setTop (mkF m 3 #[.val (.ref o0), .val (.int x1)] [(.int (0 : Int32)), (.int x1), (.ref o0)])) (fun t k => XS.iconst X.here hx rfl (hb hby d3_2) k) ?_
    obtain ⟨cq1, kq1, q1a, q1b, q1c⟩ := isOf hZ eT F.1
    obtain ⟨_, _, ⟨T1, L1, k1, n1⟩, -, X1, ⟨Lc1, hQ1, l1, y1, z1⟩, st1⟩ := X.virtualBack hx (y := (⟨"java/lang/String", "indexOf", "(II)I"⟩ : MethodName)) (z := (⟨"java/lang/String", "indexOf", "(II)I"⟩ : MethodName)) hown (mvT hZ (hw _ (List.mem_of_getElem? (i := 22) rfl))) (mvT hZ (hw _ (List.mem_of_getElem? (i := 23) rfl))) (notFace_of_selects (args := #[]) (mvT hZ (hw _ (List.mem_of_getElem? (i := 25) rfl)))) (mvT hZ (hw _ (List.mem_of_getElem? (i := 25) rfl))) (mvT hZ (hw _ (List.mem_of_getElem? (i := 24) rfl))) (by decide) (backOf (W := 0) (rm4 l Z a0 hw [] o0 x1 b G h0 n0 Z0 F) hZ (hw _ (List.mem_of_getElem? (i := 26) rfl)) (hw _ (List.mem_of_getElem? (i := 10) rfl)) (by decide) (by decide)) q1a q1c (g := (mkF m 3 #[.val (.ref o0), .val (.int x1)] [(.int (0 : Int32)), (.int x1), (.ref o0)])) rfl (by rw [hml]; rfl) (Steps.refl _) (argsL := [(.int x1), (.int (0 : Int32))]) (rest := []) (lenOf pd4 rfl) rfl (by show 2 * 0 + _ ≤ _; exact Nat.le_of_eq rfl) (hb hby d3_3) (fun _ _ => ⟨rfl, eT, (by decide : 0 + 0 ≤ _), (by decide : 0 + 0 ≤ _)⟩)
    dsimp only [Pt.U, Pt.locs, Pt.cells, Pt.slots] at X1 l1 y1 z1 st1 hQ1
    subst l1 y1 z1
    obtain ⟨rfl, Nq1, e1⟩ := hQ1
    have N1 := Fr.app NF Nq1
    refine Go.step (S' := T1.setTop (mkF m 6 #[.val (.ref o0), .val (.int x1)] [(.int (f4 o0 x1 b G))])) (fun t k => st1.trans k) ?_
    exact Go.retI X1 hx Bd.returns Bd.notSynchronized (hb hby d3_6) ⟨by rw [hr0, ← hr]; first | done | rfl, N1, e1⟩ (by decide) (by decide)
  show Go p e below s (Q3 o0 x1 b G h0 n0) ({ frames := 3, cells := 0, slots := 0, locals := 46 } : Room).cells ({ frames := 3, cells := 0, slots := 0, locals := 46 } : Room).slots (s₁.setTop (entryFrame m #[(.ref o0), (.int x1)] 2))
  rw [ef3]
  exact B0 s₁ [] X0 e0 (Fr.nil n0) hr0
theorem d2_0 : decode method_2_code 0 = .ok (.iload_n 0, 1) := by decide +kernel
theorem d2_1 : decode method_2_code 1 = .ok (.bipush 32, 2) := by decide +kernel
theorem d2_3 : decode method_2_code 3 = .ok (.if_icmp .gt 5, 3) := by decide +kernel
theorem d2_6 : decode method_2_code 6 = .ok (.iconst 0, 1) := by decide +kernel
theorem d2_7 : decode method_2_code 7 = .ok (.ireturn, 1) := by decide +kernel
theorem d2_8 : decode method_2_code 8 = .ok (.iload_n 0, 1) := by decide +kernel
theorem d2_9 : decode method_2_code 9 = .ok (.bipush 60, 2) := by decide +kernel
theorem d2_11 : decode method_2_code 11 = .ok (.if_icmp .eq 15, 3) := by decide +kernel
theorem d2_14 : decode method_2_code 14 = .ok (.iload_n 0, 1) := by decide +kernel
theorem d2_15 : decode method_2_code 15 = .ok (.bipush 62, 2) := by decide +kernel
theorem d2_17 : decode method_2_code 17 = .ok (.if_icmp .eq 9, 3) := by decide +kernel
theorem d2_20 : decode method_2_code 20 = .ok (.iload_n 0, 1) := by decide +kernel
theorem d2_21 : decode method_2_code 21 = .ok (.bipush 34, 2) := by decide +kernel
theorem d2_23 : decode method_2_code 23 = .ok (.if_icmp .ne 5, 3) := by decide +kernel
theorem d2_26 : decode method_2_code 26 = .ok (.iconst 0, 1) := by decide +kernel
theorem d2_27 : decode method_2_code 27 = .ok (.ireturn, 1) := by decide +kernel
theorem d2_28 : decode method_2_code 28 = .ok (.iload_n 0, 1) := by decide +kernel
theorem d2_29 : decode method_2_code 29 = .ok (.bipush 123, 2) := by decide +kernel
theorem d2_31 : decode method_2_code 31 = .ok (.if_icmp .eq 15, 3) := by decide +kernel
theorem d2_34 : decode method_2_code 34 = .ok (.iload_n 0, 1) := by decide +kernel
theorem d2_35 : decode method_2_code 35 = .ok (.bipush 125, 2) := by decide +kernel
theorem d2_37 : decode method_2_code 37 = .ok (.if_icmp .eq 9, 3) := by decide +kernel
theorem d2_40 : decode method_2_code 40 = .ok (.iload_n 0, 1) := by decide +kernel
theorem d2_41 : decode method_2_code 41 = .ok (.bipush 124, 2) := by decide +kernel
theorem d2_43 : decode method_2_code 43 = .ok (.if_icmp .ne 5, 3) := by decide +kernel
theorem d2_46 : decode method_2_code 46 = .ok (.iconst 0, 1) := by decide +kernel
theorem d2_47 : decode method_2_code 47 = .ok (.ireturn, 1) := by decide +kernel
theorem d2_48 : decode method_2_code 48 = .ok (.iload_n 0, 1) := by decide +kernel
theorem d2_49 : decode method_2_code 49 = .ok (.bipush 94, 2) := by decide +kernel
theorem d2_51 : decode method_2_code 51 = .ok (.if_icmp .eq 15, 3) := by decide +kernel
theorem d2_54 : decode method_2_code 54 = .ok (.iload_n 0, 1) := by decide +kernel
theorem d2_55 : decode method_2_code 55 = .ok (.bipush 96, 2) := by decide +kernel
theorem d2_57 : decode method_2_code 57 = .ok (.if_icmp .eq 9, 3) := by decide +kernel
theorem d2_60 : decode method_2_code 60 = .ok (.iload_n 0, 1) := by decide +kernel
theorem d2_61 : decode method_2_code 61 = .ok (.bipush 92, 2) := by decide +kernel
theorem d2_63 : decode method_2_code 63 = .ok (.if_icmp .ne 5, 3) := by decide +kernel
theorem d2_66 : decode method_2_code 66 = .ok (.iconst 0, 1) := by decide +kernel
theorem d2_67 : decode method_2_code 67 = .ok (.ireturn, 1) := by decide +kernel
theorem d2_68 : decode method_2_code 68 = .ok (.iconst 1, 1) := by decide +kernel
theorem d2_69 : decode method_2_code 69 = .ok (.ireturn, 1) := by decide +kernel
theorem pn2 : plainName "com/example/triplewell/triplewell/io/IriResolverIsIriCharacterPinLaw" = true := by first | (simp [plainName, overriddenIn]; done) | decide +kernel
theorem ef2 (m : MethodId) (x0 : Int32) : entryFrame m #[(.int x0)] 1 = mkF m 0 #[.val (.int x0)] [] := by first | (simp [entryFrame, mkF, argsToLocals, Value.category]; done) | rfl
def f2 (x0 : Int32) : Int32 := (if (32 : Int32) < x0 then (if x0 = (60 : Int32) then (0 : Int32) else (if x0 = (62 : Int32) then (0 : Int32) else (if x0 = (34 : Int32) then (0 : Int32) else (if x0 = (123 : Int32) then (0 : Int32) else (if x0 = (125 : Int32) then (0 : Int32) else (if x0 = (124 : Int32) then (0 : Int32) else (if x0 = (94 : Int32) then (0 : Int32) else (if x0 = (96 : Int32) then (0 : Int32) else (if x0 = (92 : Int32) then (0 : Int32) else (1 : Int32)))))))))) else (0 : Int32))
def Q2 (x0 : Int32) (h0 : Heap) (n0 : Nat) (v : Option Value) (h : Heap) (L : List Loc) : Prop := v = some (.int (f2 x0)) ∧ Fr n0 L ∧ h = h0
set_option maxRecDepth 65536 in
set_option maxHeartbeats 40000000 in
theorem rm2 (l : Launch) (Z : State) (a0 : Array Value) (hw : ∀ d ∈ tables_1, d.before a0 Z = true) (ws : List Jvm.Cond) (x0 : Int32) (h0 : Heap) (n0 : Nat) (Z0 : n0 ≤ h0.size) :
    MetFree l (⟨"com/example/triplewell/triplewell/io/IriResolverIsIriCharacterPinLaw", "expected", "(I)Z"⟩ : MethodName) (head1 (Jvm.Cond.code (⟨"com/example/triplewell/triplewell/io/IriResolverIsIriCharacterPinLaw", "expected", "(I)Z"⟩ : MethodName) method_2_code 1 (some .boolean) :: ws) ({ frames := 0, cells := 0, slots := 0, locals := 0 } : Room)) (fun a U => a = #[(.int x0)] ∧ Z.Warmed39 U.vm ∧ U.heap = h0) (fun _ _ _ _ _ => True) (fun _ U o U' => ∃ v L, o = .returned v ∧ Q2 x0 h0 n0 v U'.heap L ∧ FrameEnd U o U' L ({ frames := 0, cells := 0, slots := 0, locals := 0 } : Room).cells ({ frames := 0, cells := 0, slots := 0, locals := 0 } : Room).slots) := by
  refine MetFree.of_bodySF (plainFor_of_name pn2) hisR ?_
  intro p e s m args below meth c s₁ Bd hml0 hP hK
  obtain ⟨rfl, hZ, hh⟩ := hP
  have hx := Bd.exec
  have hby := Bd.bytes
  have hml : c.maxLocals = 1 := hml0
  have hown : s.vm.findClass "com/example/triplewell/triplewell/io/IriResolverIsIriCharacterPinLaw" = some m.cls := findClass_of_methodNamed Bd.named
  have X0 : Stand p l e ({ frames := 0, cells := 0, slots := 0, locals := 0 } : Room) s m #[(.int x0)] below meth c s₁ [] 0 0 := Stand.of_body Bd
  have e0 : s₁.heap = h0 := by rw [← hh, Bd.state]; rfl
  obtain ⟨r, hr0⟩ : ∃ r, f2 x0 = r := ⟨_, rfl⟩
  have B0 : ∀  (T : State) (locs : List Loc) (X : Stand p l e ({ frames := 0, cells := 0, slots := 0, locals := 0 } : Room) s m #[(.int x0)] below meth c T locs 0 0) (eT : T.heap = h0) (NF : Fr n0 locs) (hr : f2 x0 = r), Go p e below s (Q2 x0 h0 n0) ({ frames := 0, cells := 0, slots := 0, locals := 0 } : Room).cells ({ frames := 0, cells := 0, slots := 0, locals := 0 } : Room).slots (T.setTop (mkF m 0 #[.val (.int x0)] [])) := by
    intro  T locs X eT NF hr
    unfold f2 at hr
    refine Go.step (S' := T.setTop (mkF m 1 #[.val (.int x0)] [(.int x0)])) (fun t k => XS.iloadN X.here hx rfl (hb hby d2_0) rfl k) ?_
    refine Go.step (S' := T.setTop (mkF m 3 #[.val (.int x0)] [(.int (32 : Int32)), (.int x0)])) (fun t k => XS.bipush X.here hx rfl (hb hby d2_1) k) ?_
    by_cases hc1 : (32 : Int32) < x0
    · rw [if_pos hc1] at hr
      refine Go.step (S' := T.setTop (mkF m 8 #[.val (.int x0)] [])) (fun t k => XS.icmpYes X.here hx rfl (pc0 := 3) (pc' := 8) rfl (hb hby d2_3) rfl (tlt hc1).2.2.1 (by decide) (by decide) k) ?_
      refine Go.step (S' := T.setTop (mkF m 9 #[.val (.int x0)] [(.int x0)])) (fun t k => XS.iloadN X.here hx rfl (hb hby d2_8) rfl k) ?_
      refine Go.step (S' := T.setTop (mkF m 11 #[.val (.int x0)] [(.int (60 : Int32)), (.int x0)])) (fun t k => XS.bipush X.here hx rfl (hb hby d2_9) k) ?_
      by_cases hc2 : x0 = (60 : Int32)
      · rw [if_pos hc2] at hr
        refine Go.step (S' := T.setTop (mkF m 26 #[.val (.int x0)] [])) (fun t k => XS.icmpYes X.here hx rfl (pc0 := 11) (pc' := 26) rfl (hb hby d2_11) rfl (teq hc2).1 (by decide) (by decide) k) ?_
        refine Go.step (S' := T.setTop (mkF m 27 #[.val (.int x0)] [(.int (0 : Int32))])) (fun t k => XS.iconst X.here hx rfl (hb hby d2_26) k) ?_
        exact Go.retN X hx (t := .boolean) Bd.returns (by simp) Bd.notSynchronized (hb hby d2_27) ⟨by rw [hr0, ← hr]; first | done | rfl, NF, eT⟩ (by decide) (by decide)
      · rw [if_neg hc2] at hr
        refine Go.step (S' := T.setTop (mkF m 14 #[.val (.int x0)] [])) (fun t k => XS.icmpNo X.here hx rfl (hb hby d2_11) rfl (feq hc2).1 k) ?_
        refine Go.step (S' := T.setTop (mkF m 15 #[.val (.int x0)] [(.int x0)])) (fun t k => XS.iloadN X.here hx rfl (hb hby d2_14) rfl k) ?_
        refine Go.step (S' := T.setTop (mkF m 17 #[.val (.int x0)] [(.int (62 : Int32)), (.int x0)])) (fun t k => XS.bipush X.here hx rfl (hb hby d2_15) k) ?_
        by_cases hc3 : x0 = (62 : Int32)
        · rw [if_pos hc3] at hr
          refine Go.step (S' := T.setTop (mkF m 26 #[.val (.int x0)] [])) (fun t k => XS.icmpYes X.here hx rfl (pc0 := 17) (pc' := 26) rfl (hb hby d2_17) rfl (teq hc3).1 (by decide) (by decide) k) ?_
          refine Go.step (S' := T.setTop (mkF m 27 #[.val (.int x0)] [(.int (0 : Int32))])) (fun t k => XS.iconst X.here hx rfl (hb hby d2_26) k) ?_
          exact Go.retN X hx (t := .boolean) Bd.returns (by simp) Bd.notSynchronized (hb hby d2_27) ⟨by rw [hr0, ← hr]; first | done | rfl, NF, eT⟩ (by decide) (by decide)
        · rw [if_neg hc3] at hr
          refine Go.step (S' := T.setTop (mkF m 20 #[.val (.int x0)] [])) (fun t k => XS.icmpNo X.here hx rfl (hb hby d2_17) rfl (feq hc3).1 k) ?_
          refine Go.step (S' := T.setTop (mkF m 21 #[.val (.int x0)] [(.int x0)])) (fun t k => XS.iloadN X.here hx rfl (hb hby d2_20) rfl k) ?_
          refine Go.step (S' := T.setTop (mkF m 23 #[.val (.int x0)] [(.int (34 : Int32)), (.int x0)])) (fun t k => XS.bipush X.here hx rfl (hb hby d2_21) k) ?_
          by_cases hc4 : x0 = (34 : Int32)
          · rw [if_pos hc4] at hr
            refine Go.step (S' := T.setTop (mkF m 26 #[.val (.int x0)] [])) (fun t k => XS.icmpNo X.here hx rfl (hb hby d2_23) rfl (teq hc4).2 k) ?_
            refine Go.step (S' := T.setTop (mkF m 27 #[.val (.int x0)] [(.int (0 : Int32))])) (fun t k => XS.iconst X.here hx rfl (hb hby d2_26) k) ?_
            exact Go.retN X hx (t := .boolean) Bd.returns (by simp) Bd.notSynchronized (hb hby d2_27) ⟨by rw [hr0, ← hr]; first | done | rfl, NF, eT⟩ (by decide) (by decide)
          · rw [if_neg hc4] at hr
            refine Go.step (S' := T.setTop (mkF m 28 #[.val (.int x0)] [])) (fun t k => XS.icmpYes X.here hx rfl (pc0 := 23) (pc' := 28) rfl (hb hby d2_23) rfl (feq hc4).2 (by decide) (by decide) k) ?_
            refine Go.step (S' := T.setTop (mkF m 29 #[.val (.int x0)] [(.int x0)])) (fun t k => XS.iloadN X.here hx rfl (hb hby d2_28) rfl k) ?_
            refine Go.step (S' := T.setTop (mkF m 31 #[.val (.int x0)] [(.int (123 : Int32)), (.int x0)])) (fun t k => XS.bipush X.here hx rfl (hb hby d2_29) k) ?_
            by_cases hc5 : x0 = (123 : Int32)
            · rw [if_pos hc5] at hr
              refine Go.step (S' := T.setTop (mkF m 46 #[.val (.int x0)] [])) (fun t k => XS.icmpYes X.here hx rfl (pc0 := 31) (pc' := 46) rfl (hb hby d2_31) rfl (teq hc5).1 (by decide) (by decide) k) ?_
              refine Go.step (S' := T.setTop (mkF m 47 #[.val (.int x0)] [(.int (0 : Int32))])) (fun t k => XS.iconst X.here hx rfl (hb hby d2_46) k) ?_
              exact Go.retN X hx (t := .boolean) Bd.returns (by simp) Bd.notSynchronized (hb hby d2_47) ⟨by rw [hr0, ← hr]; first | done | rfl, NF, eT⟩ (by decide) (by decide)
            · rw [if_neg hc5] at hr
              refine Go.step (S' := T.setTop (mkF m 34 #[.val (.int x0)] [])) (fun t k => XS.icmpNo X.here hx rfl (hb hby d2_31) rfl (feq hc5).1 k) ?_
              refine Go.step (S' := T.setTop (mkF m 35 #[.val (.int x0)] [(.int x0)])) (fun t k => XS.iloadN X.here hx rfl (hb hby d2_34) rfl k) ?_
              refine Go.step (S' := T.setTop (mkF m 37 #[.val (.int x0)] [(.int (125 : Int32)), (.int x0)])) (fun t k => XS.bipush X.here hx rfl (hb hby d2_35) k) ?_
              by_cases hc6 : x0 = (125 : Int32)
              · rw [if_pos hc6] at hr
                refine Go.step (S' := T.setTop (mkF m 46 #[.val (.int x0)] [])) (fun t k => XS.icmpYes X.here hx rfl (pc0 := 37) (pc' := 46) rfl (hb hby d2_37) rfl (teq hc6).1 (by decide) (by decide) k) ?_
                refine Go.step (S' := T.setTop (mkF m 47 #[.val (.int x0)] [(.int (0 : Int32))])) (fun t k => XS.iconst X.here hx rfl (hb hby d2_46) k) ?_
                exact Go.retN X hx (t := .boolean) Bd.returns (by simp) Bd.notSynchronized (hb hby d2_47) ⟨by rw [hr0, ← hr]; first | done | rfl, NF, eT⟩ (by decide) (by decide)
              · rw [if_neg hc6] at hr
                refine Go.step (S' := T.setTop (mkF m 40 #[.val (.int x0)] [])) (fun t k => XS.icmpNo X.here hx rfl (hb hby d2_37) rfl (feq hc6).1 k) ?_
                refine Go.step (S' := T.setTop (mkF m 41 #[.val (.int x0)] [(.int x0)])) (fun t k => XS.iloadN X.here hx rfl (hb hby d2_40) rfl k) ?_
                refine Go.step (S' := T.setTop (mkF m 43 #[.val (.int x0)] [(.int (124 : Int32)), (.int x0)])) (fun t k => XS.bipush X.here hx rfl (hb hby d2_41) k) ?_
                by_cases hc7 : x0 = (124 : Int32)
                · rw [if_pos hc7] at hr
                  refine Go.step (S' := T.setTop (mkF m 46 #[.val (.int x0)] [])) (fun t k => XS.icmpNo X.here hx rfl (hb hby d2_43) rfl (teq hc7).2 k) ?_
                  refine Go.step (S' := T.setTop (mkF m 47 #[.val (.int x0)] [(.int (0 : Int32))])) (fun t k => XS.iconst X.here hx rfl (hb hby d2_46) k) ?_
                  exact Go.retN X hx (t := .boolean) Bd.returns (by simp) Bd.notSynchronized (hb hby d2_47) ⟨by rw [hr0, ← hr]; first | done | rfl, NF, eT⟩ (by decide) (by decide)
                · rw [if_neg hc7] at hr
                  refine Go.step (S' := T.setTop (mkF m 48 #[.val (.int x0)] [])) (fun t k => XS.icmpYes X.here hx rfl (pc0 := 43) (pc' := 48) rfl (hb hby d2_43) rfl (feq hc7).2 (by decide) (by decide) k) ?_
                  refine Go.step (S' := T.setTop (mkF m 49 #[.val (.int x0)] [(.int x0)])) (fun t k => XS.iloadN X.here hx rfl (hb hby d2_48) rfl k) ?_
                  refine Go.step (S' := T.setTop (mkF m 51 #[.val (.int x0)] [(.int (94 : Int32)), (.int x0)])) (fun t k => XS.bipush X.here hx rfl (hb hby d2_49) k) ?_
                  by_cases hc8 : x0 = (94 : Int32)
                  · rw [if_pos hc8] at hr
                    refine Go.step (S' := T.setTop (mkF m 66 #[.val (.int x0)] [])) (fun t k => XS.icmpYes X.here hx rfl (pc0 := 51) (pc' := 66) rfl (hb hby d2_51) rfl (teq hc8).1 (by decide) (by decide) k) ?_
                    refine Go.step (S' := T.setTop (mkF m 67 #[.val (.int x0)] [(.int (0 : Int32))])) (fun t k => XS.iconst X.here hx rfl (hb hby d2_66) k) ?_
                    exact Go.retN X hx (t := .boolean) Bd.returns (by simp) Bd.notSynchronized (hb hby d2_67) ⟨by rw [hr0, ← hr]; first | done | rfl, NF, eT⟩ (by decide) (by decide)
                  · rw [if_neg hc8] at hr
                    refine Go.step (S' := T.setTop (mkF m 54 #[.val (.int x0)] [])) (fun t k => XS.icmpNo X.here hx rfl (hb hby d2_51) rfl (feq hc8).1 k) ?_
                    refine Go.step (S' := T.setTop (mkF m 55 #[.val (.int x0)] [(.int x0)])) (fun t k => XS.iloadN X.here hx rfl (hb hby d2_54) rfl k) ?_
                    refine Go.step (S' := T.setTop (mkF m 57 #[.val (.int x0)] [(.int (96 : Int32)), (.int x0)])) (fun t k => XS.bipush X.here hx rfl (hb hby d2_55) k) ?_
                    by_cases hc9 : x0 = (96 : Int32)
                    · rw [if_pos hc9] at hr
                      refine Go.step (S' := T.setTop (mkF m 66 #[.val (.int x0)] [])) (fun t k => XS.icmpYes X.here hx rfl (pc0 := 57) (pc' := 66) rfl (hb hby d2_57) rfl (teq hc9).1 (by decide) (by decide) k) ?_
                      refine Go.step (S' := T.setTop (mkF m 67 #[.val (.int x0)] [(.int (0 : Int32))])) (fun t k => XS.iconst X.here hx rfl (hb hby d2_66) k) ?_
                      exact Go.retN X hx (t := .boolean) Bd.returns (by simp) Bd.notSynchronized (hb hby d2_67) ⟨by rw [hr0, ← hr]; first | done | rfl, NF, eT⟩ (by decide) (by decide)
                    · rw [if_neg hc9] at hr
                      refine Go.step (S' := T.setTop (mkF m 60 #[.val (.int x0)] [])) (fun t k => XS.icmpNo X.here hx rfl (hb hby d2_57) rfl (feq hc9).1 k) ?_
                      refine Go.step (S' := T.setTop (mkF m 61 #[.val (.int x0)] [(.int x0)])) (fun t k => XS.iloadN X.here hx rfl (hb hby d2_60) rfl k) ?_
                      refine Go.step (S' := T.setTop (mkF m 63 #[.val (.int x0)] [(.int (92 : Int32)), (.int x0)])) (fun t k => XS.bipush X.here hx rfl (hb hby d2_61) k) ?_
                      by_cases hc10 : x0 = (92 : Int32)
                      · rw [if_pos hc10] at hr
                        refine Go.step (S' := T.setTop (mkF m 66 #[.val (.int x0)] [])) (fun t k => XS.icmpNo X.here hx rfl (hb hby d2_63) rfl (teq hc10).2 k) ?_
                        refine Go.step (S' := T.setTop (mkF m 67 #[.val (.int x0)] [(.int (0 : Int32))])) (fun t k => XS.iconst X.here hx rfl (hb hby d2_66) k) ?_
                        exact Go.retN X hx (t := .boolean) Bd.returns (by simp) Bd.notSynchronized (hb hby d2_67) ⟨by rw [hr0, ← hr]; first | done | rfl, NF, eT⟩ (by decide) (by decide)
                      · rw [if_neg hc10] at hr
                        refine Go.step (S' := T.setTop (mkF m 68 #[.val (.int x0)] [])) (fun t k => XS.icmpYes X.here hx rfl (pc0 := 63) (pc' := 68) rfl (hb hby d2_63) rfl (feq hc10).2 (by decide) (by decide) k) ?_
                        refine Go.step (S' := T.setTop (mkF m 69 #[.val (.int x0)] [(.int (1 : Int32))])) (fun t k => XS.iconst X.here hx rfl (hb hby d2_68) k) ?_
                        exact Go.retN X hx (t := .boolean) Bd.returns (by simp) Bd.notSynchronized (hb hby d2_69) ⟨by rw [hr0, ← hr]; first | done | rfl, NF, eT⟩ (by decide) (by decide)
    · rw [if_neg hc1] at hr
      refine Go.step (S' := T.setTop (mkF m 6 #[.val (.int x0)] [])) (fun t k => XS.icmpNo X.here hx rfl (hb hby d2_3) rfl (flt hc1).2.2.1 k) ?_
      refine Go.step (S' := T.setTop (mkF m 7 #[.val (.int x0)] [(.int (0 : Int32))])) (fun t k => XS.iconst X.here hx rfl (hb hby d2_6) k) ?_
      exact Go.retN X hx (t := .boolean) Bd.returns (by simp) Bd.notSynchronized (hb hby d2_7) ⟨by rw [hr0, ← hr]; first | done | rfl, NF, eT⟩ (by decide) (by decide)
  show Go p e below s (Q2 x0 h0 n0) ({ frames := 0, cells := 0, slots := 0, locals := 0 } : Room).cells ({ frames := 0, cells := 0, slots := 0, locals := 0 } : Room).slots (s₁.setTop (entryFrame m #[(.int x0)] 1))
  rw [ef2]
  exact B0 s₁ [] X0 e0 (Fr.nil n0) hr0
def EL1 : List (String × Nat) := [("com/example/triplewell/triplewell/io/IriResolver", 39)]
def GoW (p : Program) (e : Env) (below : List Frame) (R : Outcome → State → Prop) (S : State) : Prop := ∃ s₂ o, Steps p.tables e below S s₂ ∧ s₂.status = .running ∧ Ended s₂ below o ∧ R o s₂
theorem GoW.step {p : Program} {e : Env} {below : List Frame} {R : Outcome → State → Prop} {S S' : State} (k : ∀ t, Steps p.tables e below S' t → Steps p.tables e below S t) (g : GoW p e below R S') : GoW p e below R S := by
  obtain ⟨s2, o, h1, h2⟩ := g
  exact ⟨s2, o, k _ h1, h2⟩
theorem GoW.retB {p : Program} {l : Launch} {e : Env} {R : Room} {s : State} {m : MethodId} {args : Array Value} {below : List Frame} {meth : Method} {c : Code} {T : State} {locs : List Loc} {cells slots : Nat} {RR : Outcome → State → Prop} {vm1 : Vm} {n : Nat}
    (X : Stand p l e R (s.setVm vm1) m args below meth c T locs cells slots) (hS : s.Since vm1 n) (hn : n ≤ T.heap.size) (hx : p.tables.exec = Jvm.exec) {pc : Nat} {Ls : Array Slot} {z : Int32} {rest : List Value} (hret : meth.sig.returnType = some .boolean) (hlk : meth.locks = false) (hd : decode c.code pc = .ok (.ireturn, 1))
    (hq : ∀ t : State, t.heap = T.heap → t.vm = T.vm → ReturnedEndW s (.returned (some (.int (nar .boolean z)))) t locs cells slots → RR (.returned (some (.int (nar .boolean z)))) t) : GoW p e below RR (T.setTop (mkF m pc Ls (.int z :: rest))) := by
  obtain ⟨fs, hr, hrun, hended, hW⟩ := X.leaveW hS hn (v := some (.int (nar .boolean z))) (fun h => by rw [hret] at h; cases h) hlk
  exact ⟨_, _, Jvm.RoadKit.retN X hx (t := .boolean) hret (by simp) hd hr, hrun, hended, hq _ rfl rfl hW⟩
theorem own_rw {s t : State} {o : Outcome} {L : List Loc} {k n k' n' : Nat} (h : ReturnedEndW s o t L k n) (hk : k ≤ k') (hn : n ≤ n') : ReturnedEndW s o t L k' n' := ⟨h.1, h.2.1, h.2.2.1, h.2.2.2.mono hk hn⟩
theorem d1_0 : decode prog_74_method_4_code 0 = .ok (.iload_n 0, 1) := by decide +kernel
theorem d1_1 : decode prog_74_method_4_code 1 = .ok (.bipush 32, 2) := by decide +kernel
theorem d1_3 : decode prog_74_method_4_code 3 = .ok (.if_icmp .le 16, 3) := by decide +kernel
theorem d1_6 : decode prog_74_method_4_code 6 = .ok (.ldc 39, 2) := by decide +kernel
theorem d1_8 : decode prog_74_method_4_code 8 = .ok (.iload_n 0, 1) := by decide +kernel
theorem d1_9 : decode prog_74_method_4_code 9 = .ok (.invokevirtual 41, 3) := by decide +kernel
theorem d1_12 : decode prog_74_method_4_code 12 = .ok (.ifCond .ge 7, 3) := by decide +kernel
theorem d1_15 : decode prog_74_method_4_code 15 = .ok (.iconst 1, 1) := by decide +kernel
theorem d1_16 : decode prog_74_method_4_code 16 = .ok (.goto 4, 3) := by decide +kernel
theorem d1_19 : decode prog_74_method_4_code 19 = .ok (.iconst 0, 1) := by decide +kernel
theorem d1_20 : decode prog_74_method_4_code 20 = .ok (.ireturn, 1) := by decide +kernel
theorem pn3 : plainName "com/example/triplewell/triplewell/io/IriResolver" = true := by first | (simp [plainName, overriddenIn]; done) | decide +kernel
theorem ef1 (m : MethodId) (x0 : Int32) : entryFrame m #[(.int x0)] 1 = mkF m 0 #[.val (.int x0)] [] := by first | (simp [entryFrame, mkF, argsToLocals, Value.category]; done) | rfl
def fix (x0 : Int32) : Int32 := if (f9 x0) = (0 : Int32) then (-1 : Int32) else f12 0 x0
def f1 (x0 : Int32) : Int32 := if (32 : Int32) < x0 then (if (fix x0) < (0 : Int32) then (1 : Int32) else (0 : Int32)) else (0 : Int32)
theorem own_fix (a b : Addr) (G x0 : Int32) : f3 a x0 b G = fix x0 := by
  first | rfl | (unfold f3 f4 f8 fix; rfl)
set_option maxRecDepth 65536 in
set_option maxHeartbeats 40000000 in
theorem rm1 (l : Launch) (Z : State) (a0 : Array Value) (hw : ∀ d ∈ tables_1, d.before a0 Z = true) (ws : List Jvm.Cond) (x0 : Int32) (h0 : Heap) (n0 : Nat) (Z0 : n0 ≤ h0.size) (G : Int32) (hG : ¬ G = 0) (SG : Sta Z h0 "java/lang/String" "COMPACT_STRINGS" "Z" (.int G)) (hEL : EW Z a0 EL1) :
    MetFree l (⟨"com/example/triplewell/triplewell/io/IriResolver", "isIriCharacter", "(I)Z"⟩ : MethodName) (head1 (Jvm.Cond.code (⟨"com/example/triplewell/triplewell/io/IriResolver", "isIriCharacter", "(I)Z"⟩ : MethodName) prog_74_method_4_code 1 (some .boolean) :: ws) ({ frames := 4, cells := 2, slots := 40, locals := 59 } : Room)) (fun a U => a = #[(.int x0)] ∧ Z.Warmed39 U.vm ∧ U.heap = h0 ∧ CHv Z EL1 U.vm h0) (fun _ _ _ _ _ => True) (fun _ U o U' => ∃ v L, o = .returned v ∧ (v = some (.int (f1 x0)) ∧ Fr n0 L ∧ Ext h0 U'.heap) ∧ CHr Z EL1 U.vm U.heap U'.vm U'.heap ∧ ReturnedEndW U o U' L ({ frames := 4, cells := 2, slots := 40, locals := 59 } : Room).cells ({ frames := 4, cells := 2, slots := 40, locals := 59 } : Room).slots) := by
  refine MetFree.of_bodySF (plainFor_of_name pn3) hisR ?_
  intro p e s m args below meth c s₁ Bd hml0 hP hK
  obtain ⟨rfl, hZ, hh, hCH⟩ := hP
  have hx := Bd.exec
  have hby := Bd.bytes
  have hml : c.maxLocals = 1 := hml0
  have hown : s.vm.findClass "com/example/triplewell/triplewell/io/IriResolver" = some m.cls := findClass_of_methodNamed Bd.named
  have X : Stand p l e ({ frames := 4, cells := 2, slots := 40, locals := 59 } : Room) (s.setVm s.vm) m #[(.int x0)] below meth c s₁ [] 0 0 := Stand.of_body Bd
  have eT : s₁.heap = h0 := by rw [← hh, Bd.state]; rfl
  have hS0 : s.Since s.vm 0 := (State.WarmedH.refl s).since 0
  have wS : ∀ d ∈ Bundle.stringAtoms, d.before a0 Z = true := fun d hd => by
    simp only [Bundle.stringAtoms, List.mem_cons, List.not_mem_nil, or_false] at hd
    rcases hd with rfl | rfl | rfl | rfl | rfl | rfl | rfl
    · exact (hw _ (List.mem_of_getElem? (i := 10) rfl))
    · exact (hw _ (List.mem_of_getElem? (i := 11) rfl))
    · exact (hw _ (List.mem_of_getElem? (i := 12) rfl))
    · exact (hw _ (List.mem_of_getElem? (i := 13) rfl))
    · exact (hw _ (List.mem_of_getElem? (i := 14) rfl))
    · exact (hw _ (List.mem_of_getElem? (i := 15) rfl))
    · exact (hw _ (List.mem_of_getElem? (i := 16) rfl))
  show GoW p e below (fun o U' => ∃ v L, o = .returned v ∧ (v = some (.int (f1 x0)) ∧ Fr n0 L ∧ Ext h0 U'.heap) ∧ CHr Z EL1 s.vm s.heap U'.vm U'.heap ∧ ReturnedEndW s o U' L ({ frames := 4, cells := 2, slots := 40, locals := 59 } : Room).cells ({ frames := 4, cells := 2, slots := 40, locals := 59 } : Room).slots) (s₁.setTop (entryFrame m #[(.int x0)] 1))
  rw [ef1]
  refine GoW.step (S' := s₁.setTop (mkF m 1 #[.val (.int x0)] [(.int x0)])) (fun t k => XS.iloadN X.here hx rfl (hb hby d1_0) rfl k) ?_
  refine GoW.step (S' := s₁.setTop (mkF m 3 #[.val (.int x0)] [(.int (32 : Int32)), (.int x0)])) (fun t k => XS.bipush X.here hx rfl (hb hby d1_1) k) ?_
  by_cases hc1 : (32 : Int32) < x0
  · skip
    refine GoW.step (S' := s₁.setTop (mkF m 6 #[.val (.int x0)] [])) (fun t k => XS.icmpNo X.here hx rfl (hb hby d1_3) rfl (tlt hc1).2.2.2 k) ?_
    obtain ⟨aS, T9, h9, k9, bS, kS, X9, e9, E9, hS9, hk9, hZ9, hown9, gE, gC, gV, gA, -, -, hC, -, -, st9⟩ := ldcCH X hx hZ hown (hw _ (List.mem_of_getElem? (i := 9) rfl)) wS eT hS0 (Nat.zero_le _) hEL (List.mem_of_getElem? (i := 0) rfl) hCH (vs := btv) (z := 9) ⟨by decide, by decide⟩ (by decide) (by decide) (g := (mkF m 6 #[.val (.int x0)] [])) rfl (hb hby d1_6) (n := 36) (by decide) (by decide) (by decide) (by decide)
    have F9 : Str9 Z h9 aS bS G := by
      obtain ⟨cl, A1, -, A3, -, A5, -⟩ := gA
      refine ⟨gE, gC, gV, SG.ext E9, hG, cl, A1, A3, fun j hj => A5 j (by rw [A3]; exact hj)⟩
    have Z9 : n0 ≤ h9.size := Nat.le_trans Z0 E9.1
    have hown := hown9
    have hZ := hZ9
    refine GoW.step (S' := T9.setTop (mkF m 8 #[.val (.int x0)] [(.ref aS)])) (fun t k => st9 t k) ?_
    refine GoW.step (S' := T9.setTop (mkF m 9 #[.val (.int x0)] [(.int x0), (.ref aS)])) (fun t k => XS.iloadN X9.here hx rfl (hb hby d1_8) rfl k) ?_
    obtain ⟨cq2, kq2, q2a, q2b, q2c⟩ := isOf hZ e9 F9.1
    obtain ⟨_, _, ⟨T2, L2, k2, n2⟩, -, X2, ⟨Lc2, hQ2, l2, y2, z2⟩, st2⟩ := X9.virtualBack hx (y := (⟨"java/lang/String", "indexOf", "(I)I"⟩ : MethodName)) (z := (⟨"java/lang/String", "indexOf", "(I)I"⟩ : MethodName)) hown (mvT hZ (hw _ (List.mem_of_getElem? (i := 17) rfl))) (mvT hZ (hw _ (List.mem_of_getElem? (i := 18) rfl))) (notFace_of_selects (args := #[]) (mvT hZ (hw _ (List.mem_of_getElem? (i := 20) rfl)))) (mvT hZ (hw _ (List.mem_of_getElem? (i := 20) rfl))) (mvT hZ (hw _ (List.mem_of_getElem? (i := 19) rfl))) (by decide) (backOf (W := 0) (rm3 l Z a0 hw [] aS x0 bS G h9 n0 Z9 F9) hZ (hw _ (List.mem_of_getElem? (i := 21) rfl)) (hw _ (List.mem_of_getElem? (i := 10) rfl)) (by decide) (by decide)) q2a q2c (g := (mkF m 9 #[.val (.int x0)] [(.int x0), (.ref aS)])) rfl (by rw [hml]; rfl) (Steps.refl _) (argsL := [(.int x0)]) (rest := []) (lenOf pd6 rfl) rfl (by show 2 * 0 + _ ≤ _; exact Nat.le_of_eq rfl) (hb hby d1_9) (fun _ _ => ⟨rfl, e9, (by decide : 2 + 0 ≤ _), (by decide : 40 + 0 ≤ _)⟩)
    dsimp only [Pt.U, Pt.locs, Pt.cells, Pt.slots] at X2 l2 y2 z2 st2 hQ2
    subst l2 y2 z2
    obtain ⟨rfl, Nq2, e2⟩ := hQ2
    have N2 := Fr.app (Fr.nil n0) Nq2
    rw [own_fix] at st2
    refine GoW.step (S' := T2.setTop (mkF m 12 #[.val (.int x0)] [(.int (fix x0))])) (fun t k => st2.trans k) ?_
    by_cases hc3 : (fix x0) < (0 : Int32)
    · skip
      refine GoW.step (S' := T2.setTop (mkF m 15 #[.val (.int x0)] [])) (fun t k => XS.ifNo X2.here hx rfl (hb hby d1_12) rfl ((if0 _ _).trans (tlt hc3).2.1) k) ?_
      refine GoW.step (S' := T2.setTop (mkF m 16 #[.val (.int x0)] [(.int (1 : Int32))])) (fun t k => XS.iconst X2.here hx rfl (hb hby d1_15) k) ?_
      refine GoW.step (S' := T2.setTop (mkF m 20 #[.val (.int x0)] [(.int (1 : Int32))])) (fun t k => XS.goto X2.here hx rfl (pc0 := 16) (pc' := 20) rfl (hb hby d1_16) (by decide) (by decide) k) ?_
      refine GoW.retB X2 hS9 (by rw [e2]; exact hk9) hx Bd.returns Bd.notSynchronized (hb hby d1_20) (fun t ht hv hW => ⟨_, _, rfl, ⟨by show some (Value.int _) = some (Value.int (f1 x0)); unfold f1; rw [if_pos hc1, if_pos hc3]; rfl, N2, by rw [ht, e2]; exact E9⟩, ?_, own_rw hW (by decide) (by decide)⟩)
      rw [ht, hv, e2, hh]; exact hC.trans (CHv.at X2 hZ hEL hC.1)
    · skip
      refine GoW.step (S' := T2.setTop (mkF m 19 #[.val (.int x0)] [])) (fun t k => XS.ifYes X2.here hx rfl (pc0 := 12) (pc' := 19) rfl (hb hby d1_12) rfl ((if0 _ _).trans (flt hc3).2.1) (by decide) (by decide) k) ?_
      refine GoW.step (S' := T2.setTop (mkF m 20 #[.val (.int x0)] [(.int (0 : Int32))])) (fun t k => XS.iconst X2.here hx rfl (hb hby d1_19) k) ?_
      refine GoW.retB X2 hS9 (by rw [e2]; exact hk9) hx Bd.returns Bd.notSynchronized (hb hby d1_20) (fun t ht hv hW => ⟨_, _, rfl, ⟨by show some (Value.int _) = some (Value.int (f1 x0)); unfold f1; rw [if_pos hc1, if_neg hc3]; rfl, N2, by rw [ht, e2]; exact E9⟩, ?_, own_rw hW (by decide) (by decide)⟩)
      rw [ht, hv, e2, hh]; exact hC.trans (CHv.at X2 hZ hEL hC.1)
  · skip
    refine GoW.step (S' := s₁.setTop (mkF m 19 #[.val (.int x0)] [])) (fun t k => XS.icmpYes X.here hx rfl (pc0 := 3) (pc' := 19) rfl (hb hby d1_3) rfl (flt hc1).2.2.2 (by decide) (by decide) k) ?_
    refine GoW.step (S' := s₁.setTop (mkF m 20 #[.val (.int x0)] [(.int (0 : Int32))])) (fun t k => XS.iconst X.here hx rfl (hb hby d1_19) k) ?_
    refine GoW.retB X hS0 (Nat.zero_le _) hx Bd.returns Bd.notSynchronized (hb hby d1_20) (fun t ht hv hW => ⟨_, _, rfl, ⟨by show some (Value.int _) = some (Value.int (f1 x0)); unfold f1; rw [if_neg hc1]; rfl, Fr.nil n0, by rw [ht, eT]; exact ⟨Nat.le_refl _, fun _ _ q => q⟩⟩, ?_, own_rw hW (by decide) (by decide)⟩)
    rw [ht, hv, eT, hh]; exact CHv.at X hZ hEL hCH
theorem ef0 (m : MethodId) (x0 : Int32) (x1 : Int32) : entryFrame m #[(.int x0), (.int x1)] maxLocals = mkF m 0 #[.val (.int x0), .val (.int x1), .unset, .unset] [] := by first | (simp [entryFrame, mkF, argsToLocals, Value.category, maxLocals]; done) | rfl
def cOf (x0 x1 : Int32) : Int32 := if (x1 &&& (3 : Int32)) = (0 : Int32) then x0 else if (x1 &&& (3 : Int32)) = (1 : Int32) then (x0 &&& (127 : Int32)) else if (x1 &&& (3 : Int32)) = (2 : Int32) then (x0 &&& (255 : Int32)) else (x0 &&& (65535 : Int32))
def f0 (x0 x1 : Int32) : Int32 := if (f1 (cOf x0 x1)) = (f2 (cOf x0 x1)) then (1 : Int32) else (0 : Int32)
set_option maxRecDepth 65536 in
set_option maxHeartbeats 40000000 in
theorem rm0 (l : Launch) (Z : State) (a0 : Array Value) (hw : ∀ d ∈ tables_1, d.before a0 Z = true) (ws : List Jvm.Cond) (x0 x1 : Int32) (h0 : Heap) (n0 : Nat) (Z0 : n0 ≤ h0.size) (G : Int32) (hG : ¬ G = 0) (SG : Sta Z h0 "java/lang/String" "COMPACT_STRINGS" "Z" (.int G)) (hEL : EW Z a0 EL1) :
    MetFree l x (head1 (Jvm.Cond.code x code maxLocals ret :: ws) room_1) (fun a U => a = #[(.int x0), (.int x1)] ∧ Z.Warmed39 U.vm ∧ U.heap = h0 ∧ CHv Z EL1 U.vm h0) (fun _ _ _ _ _ => True) (fun _ U o U' => ∃ v L, o = .returned v ∧ (v = some (.int (f0 x0 x1)) ∧ Fr n0 L) ∧ ReturnedEndW U o U' L 8 1088) := by
  refine MetFree.of_bodySF (plainFor_of_name pn2) hisR ?_
  intro p e s m args below meth c s₁ Bd hml0 hP hK
  obtain ⟨rfl, hZ, hh, hCH⟩ := hP
  have hx := Bd.exec
  have hby := Bd.bytes
  have hml : c.maxLocals = 4 := hml0
  have hown : s.vm.findClass "com/example/triplewell/triplewell/io/IriResolverIsIriCharacterPinLaw" = some m.cls := findClass_of_methodNamed Bd.named
  have X : Stand p l e room_1 (s.setVm s.vm) m #[(.int x0), (.int x1)] below meth c s₁ [] 0 0 := Stand.of_body Bd
  have eT : s₁.heap = h0 := by rw [← hh, Bd.state]; rfl
  have hS0 : s.Since s.vm 0 := (State.WarmedH.refl s).since 0
  have B45 : ∀ cv : Int32, cv = cOf x0 x1 → GoW p e below (fun o U' => ∃ v L, o = .returned v ∧ (v = some (.int (f0 x0 x1)) ∧ Fr n0 L) ∧ ReturnedEndW s o U' L 8 1088) (s₁.setTop (mkF m 45 #[.val (.int x0), .val (.int x1), .val (.int (x1 &&& (3 : Int32))), .val (.int cv)] [])) := by
    intro cv hcv
    refine GoW.step (S' := s₁.setTop (mkF m 46 #[.val (.int x0), .val (.int x1), .val (.int (x1 &&& (3 : Int32))), .val (.int cv)] [(.int cv)])) (fun t k => XS.iloadN X.here hx rfl (hb hby at_45) rfl k) ?_
    obtain ⟨_, _, ⟨T5, L5, k5, n5⟩, -, X5', h25, g5, ⟨Lc5, hQ5, l5, y5, z5, -⟩, st5⟩ := callSS (s := s.setVm s.vm) (R := room_1) X hx (y := (⟨"com/example/triplewell/triplewell/io/IriResolver", "isIriCharacter", "(I)Z"⟩ : MethodName)) hown (mvT hZ (hw _ (List.mem_of_getElem? (i := 1) rfl))) (mvT hZ (hw _ (List.mem_of_getElem? (i := 2) rfl))) (mvT hZ (hw _ (List.mem_of_getElem? (i := 3) rfl))) (mvT hZ (hw _ (List.mem_of_getElem? (i := 4) rfl))) (by decide) (backOfSH (R := room_1) (rm := ({ frames := 4, cells := 2, slots := 40, locals := 59 } : Room)) (Q := fun v h L => v = some (.int (f1 cv)) ∧ Fr n0 L ∧ Ext h0 h) (W := 0) (vm0 := s.vm) (EL := EL1) (rm1 l Z a0 hw [] cv h0 n0 Z0 G hG SG hEL) hZ (hw _ (List.mem_of_getElem? (i := 4) rfl)) (hw _ (List.mem_of_getElem? (i := 3) rfl)) (by decide) (by decide) hEL hCH) (g := (mkF m 46 #[.val (.int x0), .val (.int x1), .val (.int (x1 &&& (3 : Int32))), .val (.int cv)] [(.int cv)])) rfl (by rw [hml]; rfl) (argsL := [(.int cv)]) (rest := []) (lenOf pd3 rfl) rfl (by show 2 * 0 + _ ≤ _; exact Nat.le_of_eq rfl) (hb hby at_46) (fun _ _ => ⟨rfl, eT, (by decide : 0 + 2 ≤ room_1.cells), (by decide : 0 + 40 ≤ room_1.slots)⟩)
    dsimp only [Pt.U, Pt.locs, Pt.cells, Pt.slots] at X5' l5 y5 z5 st5 hQ5 h25 g5
    subst l5 y5 z5
    obtain ⟨rfl, Nq5, Ex5⟩ := hQ5
    have N5 := Fr.app (Fr.nil n0) Nq5
    obtain ⟨X5, hS5, hZ, hown⟩ := rebS (Z := Z) hS0 (Nat.zero_le _) X5' h25 g5 hZ hown
    have Z5 : n0 ≤ T5.heap.size := Nat.le_trans Z0 Ex5.1
    refine GoW.step (S' := T5.setTop (mkF m 49 #[.val (.int x0), .val (.int x1), .val (.int (x1 &&& (3 : Int32))), .val (.int cv)] [(.int (f1 cv))])) (fun t k => st5.trans k) ?_
    refine GoW.step (S' := T5.setTop (mkF m 50 #[.val (.int x0), .val (.int x1), .val (.int (x1 &&& (3 : Int32))), .val (.int cv)] [(.int cv), (.int (f1 cv))])) (fun t k => XS.iloadN X5.here hx rfl (hb hby at_49) rfl k) ?_
    obtain ⟨_, _, ⟨T1, L1, k1, n1⟩, -, X1, ⟨Lc1, hQ1, l1, y1, z1⟩, st1⟩ := Jvm.LawKit.callS X5 hx (y := (⟨"com/example/triplewell/triplewell/io/IriResolverIsIriCharacterPinLaw", "expected", "(I)Z"⟩ : MethodName)) hown (mvT hZ (hw _ (List.mem_of_getElem? (i := 5) rfl))) (mvT hZ (hw _ (List.mem_of_getElem? (i := 6) rfl))) (mvT hZ (hw _ (List.mem_of_getElem? (i := 7) rfl))) (mvT hZ (hw _ (List.mem_of_getElem? (i := 8) rfl))) (by decide) (backOf (W := 1) (rm2 l Z a0 hw [] cv T5.heap n0 Z5) hZ (hw _ (List.mem_of_getElem? (i := 8) rfl)) (hw _ (List.mem_of_getElem? (i := 7) rfl)) (by decide) (by decide)) (g := (mkF m 50 #[.val (.int x0), .val (.int x1), .val (.int (x1 &&& (3 : Int32))), .val (.int cv)] [(.int cv), (.int (f1 cv))])) rfl (by rw [hml]; rfl) (argsL := [(.int cv)]) (rest := [(.int (f1 cv))]) (lenOf pd3 rfl) rfl (by show 2 * 0 + _ ≤ _; exact Nat.le_of_eq rfl) (hb hby at_50) (fun _ _ => ⟨rfl, rfl, (by decide : 2 + 0 ≤ _), (by decide : 40 + 0 ≤ _)⟩)
    dsimp only [Pt.U, Pt.locs, Pt.cells, Pt.slots] at X1 l1 y1 z1 st1 hQ1
    subst l1 y1 z1
    obtain ⟨rfl, Nq1, e1⟩ := hQ1
    have N1 := Fr.app N5 Nq1
    refine GoW.step (S' := T1.setTop (mkF m 53 #[.val (.int x0), .val (.int x1), .val (.int (x1 &&& (3 : Int32))), .val (.int cv)] [(.int (f2 cv)), (.int (f1 cv))])) (fun t k => st1 t k) ?_
    by_cases hc2 : (f1 cv) = (f2 cv)
    · skip
      refine GoW.step (S' := T1.setTop (mkF m 56 #[.val (.int x0), .val (.int x1), .val (.int (x1 &&& (3 : Int32))), .val (.int cv)] [])) (fun t k => XS.icmpNo X1.here hx rfl (hb hby at_53) rfl (teq hc2).2 k) ?_
      refine GoW.step (S' := T1.setTop (mkF m 57 #[.val (.int x0), .val (.int x1), .val (.int (x1 &&& (3 : Int32))), .val (.int cv)] [(.int (1 : Int32))])) (fun t k => XS.iconst X1.here hx rfl (hb hby at_56) k) ?_
      refine GoW.step (S' := T1.setTop (mkF m 61 #[.val (.int x0), .val (.int x1), .val (.int (x1 &&& (3 : Int32))), .val (.int cv)] [(.int (1 : Int32))])) (fun t k => XS.goto X1.here hx rfl (pc0 := 57) (pc' := 61) rfl (hb hby at_57) (by decide) (by decide) k) ?_
      exact GoW.retB X1 hS5 (e1 ▸ Nat.le_refl _) hx Bd.returns Bd.notSynchronized (hb hby at_61) (fun t ht hv hW => ⟨_, _, rfl, ⟨by show some (Value.int _) = some (Value.int (f0 x0 x1)); unfold f0; rw [← hcv, if_pos hc2]; rfl, N1⟩, own_rw hW (by decide) (by decide)⟩)
    · skip
      refine GoW.step (S' := T1.setTop (mkF m 60 #[.val (.int x0), .val (.int x1), .val (.int (x1 &&& (3 : Int32))), .val (.int cv)] [])) (fun t k => XS.icmpYes X1.here hx rfl (pc0 := 53) (pc' := 60) rfl (hb hby at_53) rfl (feq hc2).2 (by decide) (by decide) k) ?_
      refine GoW.step (S' := T1.setTop (mkF m 61 #[.val (.int x0), .val (.int x1), .val (.int (x1 &&& (3 : Int32))), .val (.int cv)] [(.int (0 : Int32))])) (fun t k => XS.iconst X1.here hx rfl (hb hby at_60) k) ?_
      exact GoW.retB X1 hS5 (e1 ▸ Nat.le_refl _) hx Bd.returns Bd.notSynchronized (hb hby at_61) (fun t ht hv hW => ⟨_, _, rfl, ⟨by show some (Value.int _) = some (Value.int (f0 x0 x1)); unfold f0; rw [← hcv, if_neg hc2]; rfl, N1⟩, own_rw hW (by decide) (by decide)⟩)
  show GoW p e below (fun o U' => ∃ v L, o = .returned v ∧ (v = some (.int (f0 x0 x1)) ∧ Fr n0 L) ∧ ReturnedEndW s o U' L 8 1088) (s₁.setTop (entryFrame m #[(.int x0), (.int x1)] maxLocals))
  rw [ef0]
  refine GoW.step (S' := s₁.setTop (mkF m 1 #[.val (.int x0), .val (.int x1), .unset, .unset] [(.int x1)])) (fun t k => XS.iloadN X.here hx rfl (hb hby at_0) rfl k) ?_
  refine GoW.step (S' := s₁.setTop (mkF m 2 #[.val (.int x0), .val (.int x1), .unset, .unset] [(.int (3 : Int32)), (.int x1)])) (fun t k => XS.iconst X.here hx rfl (hb hby at_1) k) ?_
  refine GoW.step (S' := s₁.setTop (mkF m 3 #[.val (.int x0), .val (.int x1), .unset, .unset] [(.int (x1 &&& (3 : Int32)))])) (fun t k => XS.iand X.here hx rfl (hb hby at_2) rfl k) ?_
  refine GoW.step (S' := s₁.setTop (mkF m 4 #[.val (.int x0), .val (.int x1), .val (.int (x1 &&& (3 : Int32))), .unset] [])) (fun t k => XS.istoreN X.here hx rfl (hb hby at_3) rfl (l' := #[.val (.int x0), .val (.int x1), .val (.int (x1 &&& (3 : Int32))), .unset]) rfl k) ?_
  refine GoW.step (S' := s₁.setTop (mkF m 5 #[.val (.int x0), .val (.int x1), .val (.int (x1 &&& (3 : Int32))), .unset] [(.int (x1 &&& (3 : Int32)))])) (fun t k => XS.iloadN X.here hx rfl (hb hby at_4) rfl k) ?_
  by_cases hc3 : (x1 &&& (3 : Int32)) = (0 : Int32)
  · skip
    refine GoW.step (S' := s₁.setTop (mkF m 8 #[.val (.int x0), .val (.int x1), .val (.int (x1 &&& (3 : Int32))), .unset] [])) (fun t k => XS.ifNo X.here hx rfl (hb hby at_5) rfl ((if0 _ _).trans (teq hc3).2) k) ?_
    refine GoW.step (S' := s₁.setTop (mkF m 9 #[.val (.int x0), .val (.int x1), .val (.int (x1 &&& (3 : Int32))), .unset] [(.int x0)])) (fun t k => XS.iloadN X.here hx rfl (hb hby at_8) rfl k) ?_
    refine GoW.step (S' := s₁.setTop (mkF m 10 #[.val (.int x0), .val (.int x1), .val (.int (x1 &&& (3 : Int32))), .val (.int x0)] [])) (fun t k => XS.istoreN X.here hx rfl (hb hby at_9) rfl (l' := #[.val (.int x0), .val (.int x1), .val (.int (x1 &&& (3 : Int32))), .val (.int x0)]) rfl k) ?_
    refine GoW.step (S' := s₁.setTop (mkF m 45 #[.val (.int x0), .val (.int x1), .val (.int (x1 &&& (3 : Int32))), .val (.int x0)] [])) (fun t k => XS.goto X.here hx rfl (pc0 := 10) (pc' := 45) rfl (hb hby at_10) (by decide) (by decide) k) ?_
    exact B45 _ (by unfold cOf; rw [if_pos hc3])
  · skip
    refine GoW.step (S' := s₁.setTop (mkF m 13 #[.val (.int x0), .val (.int x1), .val (.int (x1 &&& (3 : Int32))), .unset] [])) (fun t k => XS.ifYes X.here hx rfl (pc0 := 5) (pc' := 13) rfl (hb hby at_5) rfl ((if0 _ _).trans (feq hc3).2) (by decide) (by decide) k) ?_
    refine GoW.step (S' := s₁.setTop (mkF m 14 #[.val (.int x0), .val (.int x1), .val (.int (x1 &&& (3 : Int32))), .unset] [(.int (x1 &&& (3 : Int32)))])) (fun t k => XS.iloadN X.here hx rfl (hb hby at_13) rfl k) ?_
    refine GoW.step (S' := s₁.setTop (mkF m 15 #[.val (.int x0), .val (.int x1), .val (.int (x1 &&& (3 : Int32))), .unset] [(.int (1 : Int32)), (.int (x1 &&& (3 : Int32)))])) (fun t k => XS.iconst X.here hx rfl (hb hby at_14) k) ?_
    by_cases hc4 : (x1 &&& (3 : Int32)) = (1 : Int32)
    · skip
      refine GoW.step (S' := s₁.setTop (mkF m 18 #[.val (.int x0), .val (.int x1), .val (.int (x1 &&& (3 : Int32))), .unset] [])) (fun t k => XS.icmpNo X.here hx rfl (hb hby at_15) rfl (teq hc4).2 k) ?_
      refine GoW.step (S' := s₁.setTop (mkF m 19 #[.val (.int x0), .val (.int x1), .val (.int (x1 &&& (3 : Int32))), .unset] [(.int x0)])) (fun t k => XS.iloadN X.here hx rfl (hb hby at_18) rfl k) ?_
      refine GoW.step (S' := s₁.setTop (mkF m 21 #[.val (.int x0), .val (.int x1), .val (.int (x1 &&& (3 : Int32))), .unset] [(.int (127 : Int32)), (.int x0)])) (fun t k => XS.bipush X.here hx rfl (hb hby at_19) k) ?_
      refine GoW.step (S' := s₁.setTop (mkF m 22 #[.val (.int x0), .val (.int x1), .val (.int (x1 &&& (3 : Int32))), .unset] [(.int (x0 &&& (127 : Int32)))])) (fun t k => XS.iand X.here hx rfl (hb hby at_21) rfl k) ?_
      refine GoW.step (S' := s₁.setTop (mkF m 23 #[.val (.int x0), .val (.int x1), .val (.int (x1 &&& (3 : Int32))), .val (.int (x0 &&& (127 : Int32)))] [])) (fun t k => XS.istoreN X.here hx rfl (hb hby at_22) rfl (l' := #[.val (.int x0), .val (.int x1), .val (.int (x1 &&& (3 : Int32))), .val (.int (x0 &&& (127 : Int32)))]) rfl k) ?_
      refine GoW.step (S' := s₁.setTop (mkF m 45 #[.val (.int x0), .val (.int x1), .val (.int (x1 &&& (3 : Int32))), .val (.int (x0 &&& (127 : Int32)))] [])) (fun t k => XS.goto X.here hx rfl (pc0 := 23) (pc' := 45) rfl (hb hby at_23) (by decide) (by decide) k) ?_
      exact B45 _ (by unfold cOf; rw [if_neg hc3, if_pos hc4])
    · skip
      refine GoW.step (S' := s₁.setTop (mkF m 26 #[.val (.int x0), .val (.int x1), .val (.int (x1 &&& (3 : Int32))), .unset] [])) (fun t k => XS.icmpYes X.here hx rfl (pc0 := 15) (pc' := 26) rfl (hb hby at_15) rfl (feq hc4).2 (by decide) (by decide) k) ?_
      refine GoW.step (S' := s₁.setTop (mkF m 27 #[.val (.int x0), .val (.int x1), .val (.int (x1 &&& (3 : Int32))), .unset] [(.int (x1 &&& (3 : Int32)))])) (fun t k => XS.iloadN X.here hx rfl (hb hby at_26) rfl k) ?_
      refine GoW.step (S' := s₁.setTop (mkF m 28 #[.val (.int x0), .val (.int x1), .val (.int (x1 &&& (3 : Int32))), .unset] [(.int (2 : Int32)), (.int (x1 &&& (3 : Int32)))])) (fun t k => XS.iconst X.here hx rfl (hb hby at_27) k) ?_
      by_cases hc5 : (x1 &&& (3 : Int32)) = (2 : Int32)
      · skip
        refine GoW.step (S' := s₁.setTop (mkF m 31 #[.val (.int x0), .val (.int x1), .val (.int (x1 &&& (3 : Int32))), .unset] [])) (fun t k => XS.icmpNo X.here hx rfl (hb hby at_28) rfl (teq hc5).2 k) ?_
        refine GoW.step (S' := s₁.setTop (mkF m 32 #[.val (.int x0), .val (.int x1), .val (.int (x1 &&& (3 : Int32))), .unset] [(.int x0)])) (fun t k => XS.iloadN X.here hx rfl (hb hby at_31) rfl k) ?_
        refine GoW.step (S' := s₁.setTop (mkF m 35 #[.val (.int x0), .val (.int x1), .val (.int (x1 &&& (3 : Int32))), .unset] [(.int (255 : Int32)), (.int x0)])) (fun t k => XS.sipush X.here hx rfl (hb hby at_32) k) ?_
        refine GoW.step (S' := s₁.setTop (mkF m 36 #[.val (.int x0), .val (.int x1), .val (.int (x1 &&& (3 : Int32))), .unset] [(.int (x0 &&& (255 : Int32)))])) (fun t k => XS.iand X.here hx rfl (hb hby at_35) rfl k) ?_
        refine GoW.step (S' := s₁.setTop (mkF m 37 #[.val (.int x0), .val (.int x1), .val (.int (x1 &&& (3 : Int32))), .val (.int (x0 &&& (255 : Int32)))] [])) (fun t k => XS.istoreN X.here hx rfl (hb hby at_36) rfl (l' := #[.val (.int x0), .val (.int x1), .val (.int (x1 &&& (3 : Int32))), .val (.int (x0 &&& (255 : Int32)))]) rfl k) ?_
        refine GoW.step (S' := s₁.setTop (mkF m 45 #[.val (.int x0), .val (.int x1), .val (.int (x1 &&& (3 : Int32))), .val (.int (x0 &&& (255 : Int32)))] [])) (fun t k => XS.goto X.here hx rfl (pc0 := 37) (pc' := 45) rfl (hb hby at_37) (by decide) (by decide) k) ?_
        exact B45 _ (by unfold cOf; rw [if_neg hc3, if_neg hc4, if_pos hc5])
      · skip
        refine GoW.step (S' := s₁.setTop (mkF m 40 #[.val (.int x0), .val (.int x1), .val (.int (x1 &&& (3 : Int32))), .unset] [])) (fun t k => XS.icmpYes X.here hx rfl (pc0 := 28) (pc' := 40) rfl (hb hby at_28) rfl (feq hc5).2 (by decide) (by decide) k) ?_
        refine GoW.step (S' := s₁.setTop (mkF m 41 #[.val (.int x0), .val (.int x1), .val (.int (x1 &&& (3 : Int32))), .unset] [(.int x0)])) (fun t k => XS.iloadN X.here hx rfl (hb hby at_40) rfl k) ?_
        refine GoW.step (S' := s₁.setTop (mkF m 43 #[.val (.int x0), .val (.int x1), .val (.int (x1 &&& (3 : Int32))), .unset] [(.int (65535 : Int32)), (.int x0)])) (fun t k => X.ldcInt hx hown (mvT hZ (hw _ (List.mem_of_getElem? (i := 0) rfl))) (g := (mkF m 41 #[.val (.int x0), .val (.int x1), .val (.int (x1 &&& (3 : Int32))), .unset] [(.int x0)])) rfl (hb hby at_41) _ k) ?_
        refine GoW.step (S' := s₁.setTop (mkF m 44 #[.val (.int x0), .val (.int x1), .val (.int (x1 &&& (3 : Int32))), .unset] [(.int (x0 &&& (65535 : Int32)))])) (fun t k => XS.iand X.here hx rfl (hb hby at_43) rfl k) ?_
        refine GoW.step (S' := s₁.setTop (mkF m 45 #[.val (.int x0), .val (.int x1), .val (.int (x1 &&& (3 : Int32))), .val (.int (x0 &&& (65535 : Int32)))] [])) (fun t k => XS.istoreN X.here hx rfl (hb hby at_44) rfl (l' := #[.val (.int x0), .val (.int x1), .val (.int (x1 &&& (3 : Int32))), .val (.int (x0 &&& (65535 : Int32)))]) rfl k) ?_
        exact B45 _ (by unfold cOf; rw [if_neg hc3, if_neg hc4, if_neg hc5])
theorem own_ite {P : Prop} [Decidable P] {a b r : Int32} (h1 : P → a = r) (h2 : ¬ P → b = r) : (if P then a else b) = r := by
  by_cases h : P
  · rw [if_pos h]; exact h1 h
  · rw [if_neg h]; exact h2 h
theorem own_itp {α : Type} {R : α → Prop} {P : Prop} [Decidable P] {a b : α} (h1 : P → R a) (h2 : ¬ P → R b) : R (if P then a else b) := by
  by_cases h : P
  · rw [if_pos h]; exact h1 h
  · rw [if_neg h]; exact h2 h
theorem own_bt (c : Int32) (h0 : 0 ≤ c.toInt) (h1 : c.toInt ≤ 255) : (c.toInt8.toInt32).toInt = if c.toInt < 128 then c.toInt else c.toInt - 256 := by
  rw [Int8.toInt_toInt32, Int32.toInt_toInt8, Int.bmod_def]
  by_cases h : c.toInt < 128
  · rw [if_pos h, if_pos (by omega)]; omega
  · rw [if_neg h, if_neg (by omega)]; omega
abbrev S9 (n : Int) : Prop := n = 60 ∨ n = 62 ∨ n = 34 ∨ n = 123 ∨ n = 125 ∨ n = 124 ∨ n = 94 ∨ n = 96 ∨ n = 92
theorem own_lit (x k : Int32) (z : Int) (hk : k.toInt = z) : (k = x) = (z = x.toInt) := by
  rw [← hk]; exact propext Int32.toInt_inj.symm
theorem own_lit' (x k : Int32) (z : Int) (hk : k.toInt = z) : (x = k) = (x.toInt = z) := by
  rw [← hk]; exact propext Int32.toInt_inj.symm
theorem own_f12 (c : Int32) : (f12 0 c).toInt < 0 ↔ ¬ S9 (c.toInt8.toInt32).toInt := by
  unfold f12
  generalize c.toInt8.toInt32 = d
  simp only [own_lit d 60 60 (by decide), own_lit d 62 62 (by decide), own_lit d 34 34 (by decide), own_lit d 123 123 (by decide), own_lit d 125 125 (by decide), own_lit d 124 124 (by decide), own_lit d 94 94 (by decide), own_lit d 96 96 (by decide), own_lit d 92 92 (by decide)]
  generalize d.toInt = n
  by_cases h60 : (60 : Int) = n
  · rw [if_pos h60]; exact ⟨fun q => absurd q (by decide), fun q => by omega⟩
  rw [if_neg h60]
  by_cases h62 : (62 : Int) = n
  · rw [if_pos h62]; exact ⟨fun q => absurd q (by decide), fun q => by omega⟩
  rw [if_neg h62]
  by_cases h34 : (34 : Int) = n
  · rw [if_pos h34]; exact ⟨fun q => absurd q (by decide), fun q => by omega⟩
  rw [if_neg h34]
  by_cases h123 : (123 : Int) = n
  · rw [if_pos h123]; exact ⟨fun q => absurd q (by decide), fun q => by omega⟩
  rw [if_neg h123]
  by_cases h125 : (125 : Int) = n
  · rw [if_pos h125]; exact ⟨fun q => absurd q (by decide), fun q => by omega⟩
  rw [if_neg h125]
  by_cases h124 : (124 : Int) = n
  · rw [if_pos h124]; exact ⟨fun q => absurd q (by decide), fun q => by omega⟩
  rw [if_neg h124]
  by_cases h94 : (94 : Int) = n
  · rw [if_pos h94]; exact ⟨fun q => absurd q (by decide), fun q => by omega⟩
  rw [if_neg h94]
  by_cases h96 : (96 : Int) = n
  · rw [if_pos h96]; exact ⟨fun q => absurd q (by decide), fun q => by omega⟩
  rw [if_neg h96]
  by_cases h92 : (92 : Int) = n
  · rw [if_pos h92]; exact ⟨fun q => absurd q (by decide), fun q => by omega⟩
  rw [if_neg h92]
  exact ⟨fun _ => by omega, fun _ => by decide⟩
theorem own_f2 (c : Int32) : f2 c = if 32 < c.toInt ∧ ¬ S9 c.toInt then 1 else 0 := by
  have e32 : (32 : Int32).toInt = 32 := by decide
  unfold f2
  simp only [Int32.lt_iff_toInt_lt, e32, own_lit' c 60 60 (by decide), own_lit' c 62 62 (by decide), own_lit' c 34 34 (by decide), own_lit' c 123 123 (by decide), own_lit' c 125 125 (by decide), own_lit' c 124 124 (by decide), own_lit' c 94 94 (by decide), own_lit' c 96 96 (by decide), own_lit' c 92 92 (by decide)]
  generalize c.toInt = n
  (repeat' refine own_ite (fun h => ?_) (fun h => ?_)) <;> first | exact (if_pos (by omega)).symm | exact (if_neg (by omega)).symm
theorem own_f9 (c : Int32) : f9 c = if 0 ≤ c.toInt ∧ c.toInt ≤ 255 then 1 else 0 := by
  have e0 : (0 : Int32).toInt = 0 := by decide
  have e255 : (255 : Int32).toInt = 255 := by decide
  unfold f9
  simp only [Int32.lt_iff_toInt_lt, e0, e255]
  generalize c.toInt = n
  (repeat' refine own_ite (fun h => ?_) (fun h => ?_)) <;> first | exact (if_pos (by omega)).symm | exact (if_neg (by omega)).symm
theorem own_f1 (c : Int32) : f1 c = if 32 < c.toInt ∧ ¬ S9 c.toInt then 1 else 0 := by
  have e32 : (32 : Int32).toInt = 32 := by decide
  have e0 : (0 : Int32).toInt = 0 := by decide
  unfold f1 fix
  simp only [Int32.lt_iff_toInt_lt, e32, e0, own_f9]
  by_cases h32 : 32 < c.toInt
  · rw [if_pos h32]
    by_cases h255 : c.toInt ≤ 255
    · rw [if_pos (show 0 ≤ c.toInt ∧ c.toInt ≤ 255 by omega), if_neg (show ¬ ((1 : Int32) = 0) by decide)]
      simp only [own_f12, own_bt c (by omega) h255]
      refine own_ite (fun h => (if_pos ⟨h32, fun q => h ?_⟩).symm) (fun h => (if_neg fun q => h fun u => q.2 ?_).symm)
      · rw [if_pos (by omega)]; exact q
      · by_cases h : c.toInt < 128
        · rw [if_pos h] at u; exact u
        · rw [if_neg h] at u; omega
    · rw [if_neg (show ¬ (0 ≤ c.toInt ∧ c.toInt ≤ 255) by omega), if_pos rfl, if_pos (show (-1 : Int32).toInt < 0 by decide)]
      exact (if_pos ⟨h32, by omega⟩).symm
  · rw [if_neg h32]; exact (if_neg fun q => h32 q.1).symm
theorem own_law (x0 x1 : Int32) : f0 x0 x1 = 1 := by
  unfold f0
  exact if_pos ((own_f1 _).trans (own_f2 _).symm)
set_option maxRecDepth 65536 in
set_option maxHeartbeats 40000000 in
theorem comes_1 {Post : Tables → Env → Array Value → State → Outcome → State → Prop} (hpost : ∀ tb e args s v u, (limb_1_1.after args s (.returned v) u = true ∧ limb_1_2.after args s (.returned v) u = true ∧ True) → ReturnedEndW s (.returned v) u (Jvm.fieldLocs frame_1_writes args s ++ Jvm.arrayLocs frame_1_arrays args s ++ Jvm.staticLocs frame_1_statics s) 8 1088 → Post tb e args s (.returned v) u) :
    ArmFor flags0 classFile x code maxLocals ret World_1 tables_1 room_1 Calls_1 rest_1 Pre_1 Post := by
  intro l hfl _ _ p e ha hc hk s m args below hf hA hF happ hP
  obtain ⟨hcalls, hrest, hpre⟩ := hP
  obtain ⟨-, -, -, hnamed, -, -, -, hat⟩ := (Spec.applies_iff hf).mp happ
  obtain ⟨hg, hn⟩ := and_e (Cond.before_iff.mp (show (Jvm.Cond.and given_1 narrow_1).before args s = true from hpre))
  obtain ⟨hcount, hg⟩ := and_e hg
  obtain ⟨ha0, hg⟩ := and_e hg
  obtain ⟨w0, w1, rfl⟩ : ∃ w0 w1 : Value, args = #[w0, w1] := by
    have hs : args.size = 2 := by simpa [Cond.value, given_1] using hcount
    obtain ⟨L⟩ := args
    match L, hs with
    | [w0, w1], _ => exact ⟨w0, w1, rfl⟩
  have hw := fun d (hd : d ∈ tables_1) => atoms_spec (ws := Jvm.Cond.code x code maxLocals ret :: tables_1) hat d (List.mem_cons_of_mem _ hd)
  obtain ⟨i0, ei0⟩ := is_v ha0
  obtain rfl : w0 = (.int i0) := Option.some.inj ei0
  obtain ⟨i1, ei1⟩ := is_v hg
  obtain rfl : w1 = (.int i1) := Option.some.inj ei1
  obtain ⟨hsets, hown0⟩ := atoms_of _ (rest_1_c_eq ▸ (show rest_1_c.before _ s = true from hrest))
  have n5 := not_v (Cond.before_iff.mp (hsets _ (List.mem_of_getElem? (i := 2) rfl)))
  obtain ⟨G, eG⟩ := is_v (Cond.before_iff.mp (hsets _ (List.mem_of_getElem? (i := 1) rfl)))
  have SG : Sta s s.heap "java/lang/String" "COMPACT_STRINGS" "Z" (.int G) := Sta.start eG (Or.inl (hsets _ (List.mem_of_getElem? (i := 0) rfl)))
  have hG : ¬ (G = (0 : Int32)) := gotF (Cond.eq_ints eG (Term.int_eval (0))) n5
  have hEL : EW s _ EL1 := EW.cons (hw _ (List.mem_of_getElem? (i := 9) rfl)) (by decide) EW.nil
  have hCH : CHv s EL1 s.vm s.heap := CHv.start hEL (fun p hp => hcalls.1 p hp) (hsets _ (List.mem_of_getElem? (i := 2) rfl)) (hw _ (List.mem_of_getElem? (i := 12) rfl)) (hw _ (List.mem_of_getElem? (i := 11) rfl))
  obtain ⟨n, o, h1, h2, h3, v, L, rfl, ⟨hv, N⟩, hq⟩ := rm0 l s _ hw tables_1 i0 i1 s.heap s.heap.size (Nat.le_refl _) G hG SG hEL p e ha hc hk s m _ below hf ((Spec.applies_iff_loose hf).mp happ).1 ⟨rfl, State.Warmed39.refl s, rfl, hCH⟩ trivial
  rw [own_law i0 i1] at hv
  subst hv
  refine ⟨n, _, h1, h2, h3, hpost _ _ _ _ _ _ ⟨Cond.after_iff.mpr rfl, Cond.after_iff.mpr (eq_i res_at (Term.int_eval (1)) rfl), trivial⟩ ⟨hq.1, hq.2.1, hq.2.2.1, (hq.2.2.2.sift fun y hy => Or.inr (N y hy)).mono (by decide) (by decide)⟩⟩
theorem main_1_1 : Claimed_1_1 := comes_1 fun _ _ _ _ _ _ h hF => ⟨h.1, hF⟩
theorem main_1_2 : Claimed_1_2 := comes_1 fun _ _ _ _ _ _ h hF => ⟨h.2.1, hF⟩
end Jvm.Pilot.@@N@@
namespace Jvm.Pilot.@@N@@
open Jvm Jvm.ClassFile Sem Op Lib Jvm.Free Jvm.Stand Jvm.Pilot.@@N@@.Jvm.D
/-! MADE BY PROGRAM (witnessworld.py) out of the Statement's table words and the real class files: 18 classes; the members and pool entries that the words name. The judged class is class 1, her method 2. -/
namespace start1
open Jvm.ClassFile
def u (s : String) : CpInfo := .utf8 (stringToUtf16 s)
/-- a pool by its gaps: so many unusable entries, then the entry; so many at the end -/
def gap : Nat → List CpInfo → List CpInfo
  | 0, r => r
  | n + 1, r => .unusable :: gap n r
def poolList (es : List (Nat × CpInfo)) (last : Nat) : List CpInfo := es.foldr (fun e r => gap e.1 (e.2 :: r)) (gap last [])
def pool (es : List (Nat × CpInfo)) (last : Nat) : Array CpInfo := ⟨poolList es last⟩
def fileOf (pool : Array CpInfo) (this : Nat) (attrs : Array Attribute := #[]) (ms : Array MethodInfo := #[]) (fl : Nat := 33) (sup : Nat := 0) (ifs : Array Nat := #[]) (fds : Array FieldInfo := #[]) : ClassFile where
  minorVersion := 0
  majorVersion := 65
  constantPool := pool
  accessFlags := fl
  thisClass := this
  superClass := sup
  interfaces := ifs
  fields := fds
  methods := ms
  attributes := attrs
def plain (name : String) (sup : Option ClassId) : Class where
  name := name
  kind := .ordinary
  loader := none
  accessFlags := 33
  super := sup
  interfaces := #[]
  cf := none
  fields := #[]
  methods := #[]
  instanceTypes := #[]
  staticTypes := #[]
  resolved := #[]
  callSites := []
  init := .initialized
  statics := none
  mirror := none

def pool0 : Array CpInfo := pool [(5, u "<init>"), (0, u "()V"), (1, .class_ 10), (1, u "java/lang/Object")] 113

def k0m0 : Method := { name := "<init>", desc := "()V", sig := { parameters := [], returnType := none }, accessFlags := 1, code := none }
/-- java/lang/Object -/
def k0 : Class := { plain "java/lang/Object" none with
  accessFlags := 33
  interfaces := #[]
  cf := some (fileOf pool0 8 #[] #[{ accessFlags := 1, nameIndex := 5, descriptorIndex := 6, attributes := #[] }] 33 0 #[] #[])
  fields := #[]
  methods := #[k0m0]
  instanceTypes := #[]
  staticTypes := #[]
  resolved := Array.replicate 124 none
  statics := none }

def pool1 : Array CpInfo := pool [(2, .class_ 4), (1, u "java/lang/Object"), (0, u "<init>"), (0, u "()V"), (0, .integer 65535), (0, .methodref 9 10), (0, .class_ 11), (0, .nameAndType 12 13), (0, u "com/example/triplewell/triplewell/io/IriResolver"), (0, u "isIriCharacter"), (0, u "(I)Z"), (0, .methodref 15 16), (0, .class_ 17), (0, .nameAndType 18 13), (0, u "com/example/triplewell/triplewell/io/IriResolverIsIriCharacterPinLaw"), (0, u "expected"), (3, u "law"), (0, u "(II)Z")] 2

def k1m0 : Method := { name := "<init>", desc := "()V", sig := { parameters := [], returnType := none }, accessFlags := 2, code := none }
def k1c1 : Code := { maxStack := 2, maxLocals := 1, code := method_2_code, exceptionTable := #[], attributes := #[] }
def k1m1 : Method := { name := "expected", desc := "(I)Z", sig := { parameters := [.int], returnType := some .boolean }, accessFlags := 10, code := some k1c1 }
def k1c2 : Code := { maxStack := 2, maxLocals := 4, code := code, exceptionTable := #[], attributes := #[] }
def k1m2 : Method := { name := "law", desc := "(II)Z", sig := { parameters := [.int, .int], returnType := some .boolean }, accessFlags := 9, code := some k1c2 }
/-- com/example/triplewell/triplewell/io/IriResolverIsIriCharacterPinLaw -/
def k1 : Class := { plain "com/example/triplewell/triplewell/io/IriResolverIsIriCharacterPinLaw" (some 0) with
  accessFlags := 49
  interfaces := #[]
  cf := some (fileOf pool1 15 #[] #[{ accessFlags := 2, nameIndex := 5, descriptorIndex := 6, attributes := #[] }, { accessFlags := 10, nameIndex := 18, descriptorIndex := 13, attributes := #[] }, { accessFlags := 9, nameIndex := 22, descriptorIndex := 23, attributes := #[] }] 49 2 #[] #[])
  fields := #[]
  methods := #[k1m0, k1m1, k1m2]
  instanceTypes := #[]
  staticTypes := #[]
  resolved := Array.replicate 26 none
  statics := none }

def pool2 : Array CpInfo := pool [(2, .class_ 4), (1, u "java/lang/Object"), (0, u "<init>"), (0, u "()V"), (1, .class_ 10), (1, u "com/example/triplewell/triplewell/io/IriResolver"), (0, u "SCHEME"), (0, u "Ljava/util/regex/Pattern;"), (13, .class_ 28), (1, u "java/lang/String"), (8, u "isIriCharacter"), (0, u "(I)Z"), (0, .string 40), (0, u "<>\"{}|^`\\"), (0, .methodref 26 42), (0, .nameAndType 43 44), (0, u "indexOf"), (0, u "(I)I"), (0, .class_ 46), (0, u "com/example/triplewell/triplewell/io/IriResolver$Components")] 136

def k2m0 : Method := { name := "<init>", desc := "()V", sig := { parameters := [], returnType := none }, accessFlags := 2, code := none }
def k2c1 : Code := { maxStack := 2, maxLocals := 1, code := prog_74_method_4_code, exceptionTable := #[], attributes := #[] }
def k2m1 : Method := { name := "isIriCharacter", desc := "(I)Z", sig := { parameters := [.int], returnType := some .boolean }, accessFlags := 8, code := some k2c1 }
/-- com/example/triplewell/triplewell/io/IriResolver -/
def k2 : Class := { plain "com/example/triplewell/triplewell/io/IriResolver" (some 0) with
  accessFlags := 49
  interfaces := #[]
  cf := some (fileOf pool2 8 #[.nestMembers #[45]] #[{ accessFlags := 2, nameIndex := 5, descriptorIndex := 6, attributes := #[] }, { accessFlags := 8, nameIndex := 37, descriptorIndex := 38, attributes := #[] }] 49 2 #[] #[{ accessFlags := 26, nameIndex := 11, descriptorIndex := 12, attributes := #[] }])
  fields := #[{ name := "SCHEME", type := (.object "java/util/regex/Pattern"), accessFlags := 26, slot := 0, constantValue := 0 }]
  methods := #[k2m0, k2m1]
  instanceTypes := #[]
  staticTypes := #[(.object "java/util/regex/Pattern")]
  resolved := Array.replicate 183 none
  statics := none }

def pool3 : Array CpInfo := pool [(1, .class_ 2), (0, u "java/io/Serializable"), (0, .class_ 4), (0, u "java/lang/Object")] 2

/-- java/io/Serializable -/
def k3 : Class := { plain "java/io/Serializable" (some 0) with
  accessFlags := 1537
  interfaces := #[]
  cf := some (fileOf pool3 1 #[] #[] 1537 3 #[] #[])
  fields := #[]
  methods := #[]
  instanceTypes := #[]
  staticTypes := #[]
  resolved := Array.replicate 7 none
  statics := none }

def pool4 : Array CpInfo := pool [(1, .class_ 2), (0, u "java/lang/Comparable"), (0, .class_ 4), (0, u "java/lang/Object")] 7

/-- java/lang/Comparable -/
def k4 : Class := { plain "java/lang/Comparable" (some 0) with
  accessFlags := 1537
  interfaces := #[]
  cf := some (fileOf pool4 1 #[] #[] 1537 3 #[] #[])
  fields := #[]
  methods := #[]
  instanceTypes := #[]
  staticTypes := #[]
  resolved := Array.replicate 12 none
  statics := none }

def pool5 : Array CpInfo := pool [(2, .class_ 4), (1, u "java/lang/CharSequence"), (42, .class_ 48), (0, u "java/lang/CharSequence$1CodePointIterator"), (10, .class_ 60), (0, u "java/lang/CharSequence$1CharIterator"), (5, .class_ 67), (0, u "java/lang/Object")] 63

/-- java/lang/CharSequence -/
def k5 : Class := { plain "java/lang/CharSequence" (some 0) with
  accessFlags := 1537
  interfaces := #[]
  cf := some (fileOf pool5 2 #[.nestMembers #[47, 59]] #[] 1537 66 #[] #[])
  fields := #[]
  methods := #[]
  instanceTypes := #[]
  staticTypes := #[]
  resolved := Array.replicate 131 none
  statics := none }

def pool6 : Array CpInfo := pool [(1, .class_ 2), (0, u "java/lang/constant/Constable"), (0, .class_ 4), (0, u "java/lang/Object")] 6

/-- java/lang/constant/Constable -/
def k6 : Class := { plain "java/lang/constant/Constable" (some 0) with
  accessFlags := 1537
  interfaces := #[]
  cf := some (fileOf pool6 1 #[] #[] 1537 3 #[] #[])
  fields := #[]
  methods := #[]
  instanceTypes := #[]
  staticTypes := #[]
  resolved := Array.replicate 11 none
  statics := none }

def pool7 : Array CpInfo := pool [(1, .class_ 2), (0, u "java/lang/constant/ConstantDesc"), (0, .class_ 4), (0, u "java/lang/Object")] 32

/-- java/lang/constant/ConstantDesc -/
def k7 : Class := { plain "java/lang/constant/ConstantDesc" (some 0) with
  accessFlags := 1537
  interfaces := #[]
  cf := some (fileOf pool7 1 #[] #[] 1537 3 #[] #[])
  fields := #[]
  methods := #[]
  instanceTypes := #[]
  staticTypes := #[]
  resolved := Array.replicate 37 none
  statics := none }

def pool8 : Array CpInfo := pool [(2, .class_ 4), (1, u "java/lang/Object"), (0, u "<init>"), (0, u "()V"), (2, .fieldref 10 11), (0, .class_ 12), (0, .nameAndType 13 14), (0, u "java/lang/String"), (0, u "value"), (0, u "[B"), (0, .fieldref 10 16), (0, .nameAndType 17 18), (0, u "coder"), (0, u "B"), (2, u "hash"), (0, u "I"), (2, u "hashIsZero"), (0, u "Z"), (11, .fieldref 10 39), (0, .nameAndType 40 26), (0, u "COMPACT_STRINGS"), (66, .class_ 109), (1, u "java/lang/StringLatin1"), (32, u "()Z"), (191, u "()I"), (0, .methodref 10 336), (0, .nameAndType 17 337), (0, u "()B"), (154, .methodref 10 493), (0, .nameAndType 494 142), (0, u "isLatin1"), (10, .methodref 10 506), (0, .nameAndType 507 334), (0, u "length"), (67, .class_ 576), (0, u "java/lang/CharSequence"), (22, u "CASE_INSENSITIVE_ORDER"), (0, u "Ljava/util/Comparator;"), (32, .methodref 10 634), (0, .nameAndType 635 636), (0, u "indexOf"), (0, u "(II)I"), (0, .methodref 107 638), (0, .nameAndType 635 639), (0, u "([BIII)I"), (125, u "(I)I"), (335, u "serialPersistentFields"), (0, u "[Ljava/io/ObjectStreamField;"), (0, .class_ 1104), (0, u "java/lang/String$CaseInsensitiveComparator"), (1, .class_ 1107), (0, u "java/io/Serializable"), (0, .class_ 1109), (0, u "java/lang/Comparable"), (0, .class_ 1111), (0, u "java/lang/constant/Constable"), (0, .class_ 1113), (0, u "java/lang/constant/ConstantDesc"), (2, u "serialVersionUID"), (0, u "J"), (3, u "REPL"), (0, u "C"), (2, u "LATIN1"), (1, u "UTF16")] 323

def k8m0 : Method := { name := "<init>", desc := "()V", sig := { parameters := [], returnType := none }, accessFlags := 1, code := none }
def k8c1 : Code := { maxStack := 2, maxLocals := 1, code := jdk_42_method_54_code, exceptionTable := #[], attributes := #[] }
def k8m1 : Method := { name := "length", desc := "()I", sig := { parameters := [], returnType := some .int }, accessFlags := 1, code := some k8c1 }
def k8c2 : Code := { maxStack := 3, maxLocals := 2, code := jdk_42_method_79_code, exceptionTable := #[], attributes := #[] }
def k8m2 : Method := { name := "indexOf", desc := "(I)I", sig := { parameters := [.int], returnType := some .int }, accessFlags := 1, code := some k8c2 }
def k8c3 : Code := { maxStack := 4, maxLocals := 3, code := jdk_42_method_80_code, exceptionTable := #[], attributes := #[] }
def k8m3 : Method := { name := "indexOf", desc := "(II)I", sig := { parameters := [.int, .int], returnType := some .int }, accessFlags := 1, code := some k8c3 }
def k8c4 : Code := { maxStack := 1, maxLocals := 1, code := jdk_42_method_152_code, exceptionTable := #[], attributes := #[] }
def k8m4 : Method := { name := "coder", desc := "()B", sig := { parameters := [], returnType := some .byte }, accessFlags := 0, code := some k8c4 }
def k8c5 : Code := { maxStack := 1, maxLocals := 1, code := jdk_42_method_154_code, exceptionTable := #[], attributes := #[] }
def k8m5 : Method := { name := "isLatin1", desc := "()Z", sig := { parameters := [], returnType := some .boolean }, accessFlags := 0, code := some k8c5 }
/-- java/lang/String -/
def k8 : Class := { plain "java/lang/String" (some 0) with
  accessFlags := 49
  interfaces := #[3, 4, 5, 6, 7]
  cf := some (fileOf pool8 10 #[.nestMembers #[1103]] #[{ accessFlags := 1, nameIndex := 5, descriptorIndex := 6, attributes := #[] }, { accessFlags := 1, nameIndex := 507, descriptorIndex := 334, attributes := #[] }, { accessFlags := 1, nameIndex := 635, descriptorIndex := 765, attributes := #[] }, { accessFlags := 1, nameIndex := 635, descriptorIndex := 636, attributes := #[] }, { accessFlags := 0, nameIndex := 17, descriptorIndex := 337, attributes := #[] }, { accessFlags := 0, nameIndex := 494, descriptorIndex := 142, attributes := #[] }] 49 2 #[1106, 1108, 575, 1110, 1112] #[{ accessFlags := 18, nameIndex := 13, descriptorIndex := 14, attributes := #[] }, { accessFlags := 18, nameIndex := 17, descriptorIndex := 18, attributes := #[] }, { accessFlags := 2, nameIndex := 21, descriptorIndex := 22, attributes := #[] }, { accessFlags := 2, nameIndex := 25, descriptorIndex := 26, attributes := #[] }, { accessFlags := 26, nameIndex := 1116, descriptorIndex := 1117, attributes := #[] }, { accessFlags := 24, nameIndex := 40, descriptorIndex := 26, attributes := #[] }, { accessFlags := 26, nameIndex := 1101, descriptorIndex := 1102, attributes := #[] }, { accessFlags := 26, nameIndex := 1121, descriptorIndex := 1122, attributes := #[] }, { accessFlags := 25, nameIndex := 599, descriptorIndex := 600, attributes := #[] }, { accessFlags := 24, nameIndex := 1125, descriptorIndex := 18, attributes := #[] }, { accessFlags := 24, nameIndex := 1127, descriptorIndex := 18, attributes := #[] }])
  fields := #[{ name := "value", type := (.array .byte), accessFlags := 18, slot := 0, constantValue := 0 }, { name := "coder", type := .byte, accessFlags := 18, slot := 1, constantValue := 0 }, { name := "hash", type := .int, accessFlags := 2, slot := 2, constantValue := 0 }, { name := "hashIsZero", type := .boolean, accessFlags := 2, slot := 3, constantValue := 0 }, { name := "serialVersionUID", type := .long, accessFlags := 26, slot := 0, constantValue := 0 }, { name := "COMPACT_STRINGS", type := .boolean, accessFlags := 24, slot := 1, constantValue := 0 }, { name := "serialPersistentFields", type := (.array (.object "java/io/ObjectStreamField")), accessFlags := 26, slot := 2, constantValue := 0 }, { name := "REPL", type := .char, accessFlags := 26, slot := 3, constantValue := 0 }, { name := "CASE_INSENSITIVE_ORDER", type := (.object "java/util/Comparator"), accessFlags := 25, slot := 4, constantValue := 0 }, { name := "LATIN1", type := .byte, accessFlags := 24, slot := 5, constantValue := 0 }, { name := "UTF16", type := .byte, accessFlags := 24, slot := 6, constantValue := 0 }]
  methods := #[k8m0, k8m1, k8m2, k8m3, k8m4, k8m5]
  instanceTypes := #[(.array .byte), .byte, .int, .boolean]
  staticTypes := #[.long, .boolean, (.array (.object "java/io/ObjectStreamField")), .char, (.object "java/util/Comparator"), .byte, .byte]
  resolved := Array.replicate 1451 none
  statics := some 0 }

def pool9 : Array CpInfo := pool [(4, .class_ 6), (1, u "java/lang/Object"), (0, u "<init>"), (0, u "()V"), (5, .class_ 16), (1, u "java/lang/StringLatin1"), (21, .methodref 39 40), (0, .class_ 41), (0, .nameAndType 42 43), (0, u "java/lang/Math"), (0, u "min"), (0, u "(II)I"), (44, .methodref 14 89), (0, .nameAndType 90 91), (0, u "canEncode"), (0, u "(I)Z"), (0, .methodref 39 93), (0, .nameAndType 94 43), (0, u "max"), (0, .methodref 14 96), (0, .nameAndType 97 98), (0, u "indexOfChar"), (0, u "([BIII)I"), (2, u "indexOf"), (19, u "$assertionsDisabled"), (0, u "Z"), (98, .class_ 223), (1, u "java/lang/StringLatin1$LinesSpliterator"), (166, .class_ 391), (0, u "java/lang/StringLatin1$CharsSpliterator")] 3

def k9m0 : Method := { name := "<init>", desc := "()V", sig := { parameters := [], returnType := none }, accessFlags := 0, code := none }
def k9c1 : Code := { maxStack := 2, maxLocals := 1, code := jdk_43_method_4_code, exceptionTable := #[], attributes := #[] }
def k9m1 : Method := { name := "canEncode", desc := "(I)Z", sig := { parameters := [.int], returnType := some .boolean }, accessFlags := 9, code := some k9c1 }
def k9c2 : Code := { maxStack := 4, maxLocals := 4, code := jdk_43_method_22_code, exceptionTable := #[], attributes := #[] }
def k9m2 : Method := { name := "indexOf", desc := "([BIII)I", sig := { parameters := [(.array .byte), .int, .int, .int], returnType := some .int }, accessFlags := 9, code := some k9c2 }
def k9c3 : Code := { maxStack := 2, maxLocals := 6, code := jdk_43_method_23_code, exceptionTable := #[], attributes := #[] }
def k9m3 : Method := { name := "indexOfChar", desc := "([BIII)I", sig := { parameters := [(.array .byte), .int, .int, .int], returnType := some .int }, accessFlags := 10, code := some k9c3 }
/-- java/lang/StringLatin1 -/
def k9 : Class := { plain "java/lang/StringLatin1" (some 0) with
  accessFlags := 48
  interfaces := #[]
  cf := some (fileOf pool9 14 #[.nestMembers #[390, 221]] #[{ accessFlags := 0, nameIndex := 7, descriptorIndex := 8, attributes := #[] }, { accessFlags := 9, nameIndex := 90, descriptorIndex := 91, attributes := #[] }, { accessFlags := 9, nameIndex := 101, descriptorIndex := 98, attributes := #[] }, { accessFlags := 10, nameIndex := 97, descriptorIndex := 98, attributes := #[] }] 48 4 #[] #[{ accessFlags := 4120, nameIndex := 121, descriptorIndex := 122, attributes := #[] }])
  fields := #[{ name := "$assertionsDisabled", type := .boolean, accessFlags := 4120, slot := 0, constantValue := 0 }]
  methods := #[k9m0, k9m1, k9m2, k9m3]
  instanceTypes := #[]
  staticTypes := #[.boolean]
  resolved := Array.replicate 395 none
  statics := none }

def pool10 : Array CpInfo := pool [(1, .class_ 2), (0, u "java/lang/Math"), (1, .class_ 6), (1, u "java/lang/Object"), (0, u "<init>"), (0, u "()V"), (89, .class_ 100), (1, u "java/lang/Math$RandomNumberGeneratorHolder"), (71, u "negativeZeroFloatBits"), (0, u "J"), (2, u "negativeZeroDoubleBits"), (21, u "max"), (2, u "min"), (43, u "$assertionsDisabled"), (0, u "Z"), (88, u "(II)I"), (2, u "twoToTheDoubleScaleDown"), (0, u "D"), (4, u "twoToTheDoubleScaleUp"), (9, u "E"), (3, u "PI"), (2, u "TAU"), (2, u "DEGREES_TO_RADIANS"), (0, u "RADIANS_TO_DEGREES")] 94

def k10m0 : Method := { name := "<init>", desc := "()V", sig := { parameters := [], returnType := none }, accessFlags := 2, code := none }
def k10c1 : Code := { maxStack := 2, maxLocals := 2, code := jdk_29_method_65_code, exceptionTable := #[], attributes := #[] }
def k10m1 : Method := { name := "max", desc := "(II)I", sig := { parameters := [.int, .int], returnType := some .int }, accessFlags := 9, code := some k10c1 }
def k10c2 : Code := { maxStack := 2, maxLocals := 2, code := jdk_29_method_69_code, exceptionTable := #[], attributes := #[] }
def k10m2 : Method := { name := "min", desc := "(II)I", sig := { parameters := [.int, .int], returnType := some .int }, accessFlags := 9, code := some k10c2 }
/-- java/lang/Math -/
def k10 : Class := { plain "java/lang/Math" (some 0) with
  accessFlags := 49
  interfaces := #[]
  cf := some (fileOf pool10 1 #[.nestMembers #[98]] #[{ accessFlags := 2, nameIndex := 7, descriptorIndex := 8, attributes := #[] }, { accessFlags := 9, nameIndex := 198, descriptorIndex := 335, attributes := #[] }, { accessFlags := 9, nameIndex := 201, descriptorIndex := 335, attributes := #[] }] 49 4 #[] #[{ accessFlags := 25, nameIndex := 354, descriptorIndex := 339, attributes := #[] }, { accessFlags := 25, nameIndex := 358, descriptorIndex := 339, attributes := #[] }, { accessFlags := 25, nameIndex := 361, descriptorIndex := 339, attributes := #[] }, { accessFlags := 26, nameIndex := 364, descriptorIndex := 339, attributes := #[] }, { accessFlags := 26, nameIndex := 365, descriptorIndex := 339, attributes := #[] }, { accessFlags := 26, nameIndex := 172, descriptorIndex := 173, attributes := #[] }, { accessFlags := 26, nameIndex := 176, descriptorIndex := 173, attributes := #[] }, { accessFlags := 8, nameIndex := 344, descriptorIndex := 339, attributes := #[] }, { accessFlags := 8, nameIndex := 338, descriptorIndex := 339, attributes := #[] }, { accessFlags := 4120, nameIndex := 245, descriptorIndex := 246, attributes := #[] }])
  fields := #[{ name := "E", type := .double, accessFlags := 25, slot := 0, constantValue := 0 }, { name := "PI", type := .double, accessFlags := 25, slot := 1, constantValue := 0 }, { name := "TAU", type := .double, accessFlags := 25, slot := 2, constantValue := 0 }, { name := "DEGREES_TO_RADIANS", type := .double, accessFlags := 26, slot := 3, constantValue := 0 }, { name := "RADIANS_TO_DEGREES", type := .double, accessFlags := 26, slot := 4, constantValue := 0 }, { name := "negativeZeroFloatBits", type := .long, accessFlags := 26, slot := 5, constantValue := 0 }, { name := "negativeZeroDoubleBits", type := .long, accessFlags := 26, slot := 6, constantValue := 0 }, { name := "twoToTheDoubleScaleUp", type := .double, accessFlags := 8, slot := 7, constantValue := 0 }, { name := "twoToTheDoubleScaleDown", type := .double, accessFlags := 8, slot := 8, constantValue := 0 }, { name := "$assertionsDisabled", type := .boolean, accessFlags := 4120, slot := 9, constantValue := 0 }]
  methods := #[k10m0, k10m1, k10m2]
  instanceTypes := #[]
  staticTypes := #[.double, .double, .double, .double, .double, .long, .long, .double, .double, .boolean]
  resolved := Array.replicate 460 none
  statics := none }

def pool11 : Array CpInfo := pool [(2, .class_ 4), (1, u "java/lang/Object"), (0, u "<init>"), (0, u "()V"), (17, .class_ 26), (1, u "jdk/internal/util/Preconditions"), (28, .class_ 56), (0, u "jdk/internal/util/Preconditions$4"), (57, .class_ 115), (0, u "jdk/internal/util/Preconditions$1"), (7, u "SIOOBE_FORMATTER"), (0, u "Ljava/util/function/BiFunction;"), (0, .class_ 126), (0, u "jdk/internal/util/Preconditions$2"), (3, u "AIOOBE_FORMATTER"), (0, .class_ 132), (0, u "jdk/internal/util/Preconditions$3"), (3, u "IOOBE_FORMATTER")] 57

def k11m0 : Method := { name := "<init>", desc := "()V", sig := { parameters := [], returnType := none }, accessFlags := 1, code := none }
/-- jdk/internal/util/Preconditions -/
def k11 : Class := { plain "jdk/internal/util/Preconditions" (some 0) with
  accessFlags := 33
  interfaces := #[]
  cf := some (fileOf pool11 24 #[.nestMembers #[55, 131, 125, 114]] #[{ accessFlags := 1, nameIndex := 5, descriptorIndex := 6, attributes := #[] }] 33 2 #[] #[{ accessFlags := 25, nameIndex := 123, descriptorIndex := 124, attributes := #[] }, { accessFlags := 25, nameIndex := 130, descriptorIndex := 124, attributes := #[] }, { accessFlags := 25, nameIndex := 136, descriptorIndex := 124, attributes := #[] }])
  fields := #[{ name := "SIOOBE_FORMATTER", type := (.object "java/util/function/BiFunction"), accessFlags := 25, slot := 0, constantValue := 0 }, { name := "AIOOBE_FORMATTER", type := (.object "java/util/function/BiFunction"), accessFlags := 25, slot := 1, constantValue := 0 }, { name := "IOOBE_FORMATTER", type := (.object "java/util/function/BiFunction"), accessFlags := 25, slot := 2, constantValue := 0 }]
  methods := #[k11m0]
  instanceTypes := #[]
  staticTypes := #[(.object "java/util/function/BiFunction"), (.object "java/util/function/BiFunction"), (.object "java/util/function/BiFunction")]
  resolved := Array.replicate 194 none
  statics := some 1 }

def pool12 : Array CpInfo := pool [(9, u "<init>"), (6, .class_ 18), (1, u "java/lang/Object"), (0, u "()V"), (1, .class_ 23), (1, u "jdk/internal/util/ArraysSupport"), (0, u "LOG2_ARRAY_LONG_INDEX_SCALE"), (0, u "I"), (2, u "U"), (0, u "Ljdk/internal/misc/Unsafe;"), (8, u "BIG_ENDIAN"), (0, u "Z"), (8, u "LOG2_BYTE_BIT_SIZE"), (4, u "LOG2_ARRAY_INT_INDEX_SCALE"), (54, u "JLA"), (0, u "Ljdk/internal/access/JavaLangAccess;"), (11, u "LOG2_ARRAY_BOOLEAN_INDEX_SCALE"), (9, u "LOG2_ARRAY_BYTE_INDEX_SCALE"), (5, u "LOG2_ARRAY_CHAR_INDEX_SCALE"), (5, u "LOG2_ARRAY_SHORT_INDEX_SCALE"), (18, u "LOG2_ARRAY_FLOAT_INDEX_SCALE"), (24, u "LOG2_ARRAY_DOUBLE_INDEX_SCALE"), (89, u "T_BOOLEAN"), (2, u "T_CHAR"), (1, u "T_FLOAT"), (1, u "T_DOUBLE"), (1, u "T_BYTE"), (1, u "T_SHORT"), (1, u "T_INT"), (1, u "T_LONG"), (1, u "SOFT_MAX_ARRAY_LENGTH")] 83

def k12m0 : Method := { name := "<init>", desc := "()V", sig := { parameters := [], returnType := none }, accessFlags := 2, code := none }
/-- jdk/internal/util/ArraysSupport -/
def k12 : Class := { plain "jdk/internal/util/ArraysSupport" (some 0) with
  accessFlags := 33
  interfaces := #[]
  cf := some (fileOf pool12 21 #[] #[{ accessFlags := 2, nameIndex := 9, descriptorIndex := 19, attributes := #[] }] 33 16 #[] #[{ accessFlags := 24, nameIndex := 28, descriptorIndex := 29, attributes := #[] }, { accessFlags := 26, nameIndex := 38, descriptorIndex := 39, attributes := #[] }, { accessFlags := 25, nameIndex := 121, descriptorIndex := 25, attributes := #[] }, { accessFlags := 25, nameIndex := 131, descriptorIndex := 25, attributes := #[] }, { accessFlags := 25, nameIndex := 137, descriptorIndex := 25, attributes := #[] }, { accessFlags := 25, nameIndex := 143, descriptorIndex := 25, attributes := #[] }, { accessFlags := 25, nameIndex := 53, descriptorIndex := 25, attributes := #[] }, { accessFlags := 25, nameIndex := 24, descriptorIndex := 25, attributes := #[] }, { accessFlags := 25, nameIndex := 162, descriptorIndex := 25, attributes := #[] }, { accessFlags := 25, nameIndex := 187, descriptorIndex := 25, attributes := #[] }, { accessFlags := 26, nameIndex := 48, descriptorIndex := 25, attributes := #[] }, { accessFlags := 25, nameIndex := 277, descriptorIndex := 25, attributes := #[] }, { accessFlags := 25, nameIndex := 280, descriptorIndex := 25, attributes := #[] }, { accessFlags := 25, nameIndex := 282, descriptorIndex := 25, attributes := #[] }, { accessFlags := 25, nameIndex := 284, descriptorIndex := 25, attributes := #[] }, { accessFlags := 25, nameIndex := 286, descriptorIndex := 25, attributes := #[] }, { accessFlags := 25, nameIndex := 288, descriptorIndex := 25, attributes := #[] }, { accessFlags := 25, nameIndex := 290, descriptorIndex := 25, attributes := #[] }, { accessFlags := 25, nameIndex := 292, descriptorIndex := 25, attributes := #[] }, { accessFlags := 26, nameIndex := 108, descriptorIndex := 109, attributes := #[] }, { accessFlags := 25, nameIndex := 294, descriptorIndex := 25, attributes := #[] }])
  fields := #[{ name := "U", type := (.object "jdk/internal/misc/Unsafe"), accessFlags := 24, slot := 0, constantValue := 0 }, { name := "BIG_ENDIAN", type := .boolean, accessFlags := 26, slot := 1, constantValue := 0 }, { name := "LOG2_ARRAY_BOOLEAN_INDEX_SCALE", type := .int, accessFlags := 25, slot := 2, constantValue := 0 }, { name := "LOG2_ARRAY_BYTE_INDEX_SCALE", type := .int, accessFlags := 25, slot := 3, constantValue := 0 }, { name := "LOG2_ARRAY_CHAR_INDEX_SCALE", type := .int, accessFlags := 25, slot := 4, constantValue := 0 }, { name := "LOG2_ARRAY_SHORT_INDEX_SCALE", type := .int, accessFlags := 25, slot := 5, constantValue := 0 }, { name := "LOG2_ARRAY_INT_INDEX_SCALE", type := .int, accessFlags := 25, slot := 6, constantValue := 0 }, { name := "LOG2_ARRAY_LONG_INDEX_SCALE", type := .int, accessFlags := 25, slot := 7, constantValue := 0 }, { name := "LOG2_ARRAY_FLOAT_INDEX_SCALE", type := .int, accessFlags := 25, slot := 8, constantValue := 0 }, { name := "LOG2_ARRAY_DOUBLE_INDEX_SCALE", type := .int, accessFlags := 25, slot := 9, constantValue := 0 }, { name := "LOG2_BYTE_BIT_SIZE", type := .int, accessFlags := 26, slot := 10, constantValue := 0 }, { name := "T_BOOLEAN", type := .int, accessFlags := 25, slot := 11, constantValue := 0 }, { name := "T_CHAR", type := .int, accessFlags := 25, slot := 12, constantValue := 0 }, { name := "T_FLOAT", type := .int, accessFlags := 25, slot := 13, constantValue := 0 }, { name := "T_DOUBLE", type := .int, accessFlags := 25, slot := 14, constantValue := 0 }, { name := "T_BYTE", type := .int, accessFlags := 25, slot := 15, constantValue := 0 }, { name := "T_SHORT", type := .int, accessFlags := 25, slot := 16, constantValue := 0 }, { name := "T_INT", type := .int, accessFlags := 25, slot := 17, constantValue := 0 }, { name := "T_LONG", type := .int, accessFlags := 25, slot := 18, constantValue := 0 }, { name := "JLA", type := (.object "jdk/internal/access/JavaLangAccess"), accessFlags := 26, slot := 19, constantValue := 0 }, { name := "SOFT_MAX_ARRAY_LENGTH", type := .int, accessFlags := 25, slot := 20, constantValue := 0 }]
  methods := #[k12m0]
  instanceTypes := #[]
  staticTypes := #[(.object "jdk/internal/misc/Unsafe"), .boolean, .int, .int, .int, .int, .int, .int, .int, .int, .int, .int, .int, .int, .int, .int, .int, .int, .int, (.object "jdk/internal/access/JavaLangAccess"), .int]
  resolved := Array.replicate 378 none
  statics := none }

def pool13 : Array CpInfo := pool [(1, u "java/lang/Cloneable"), (0, .class_ 1), (0, u "java/lang/Object"), (0, .class_ 3)] 3

/-- java/lang/Cloneable -/
def k13 : Class := { plain "java/lang/Cloneable" (some 0) with
  accessFlags := 1537
  interfaces := #[]
  cf := some (fileOf pool13 2 #[] #[] 1537 4 #[] #[])
  fields := #[]
  methods := #[]
  instanceTypes := #[]
  staticTypes := #[]
  resolved := Array.replicate 8 none
  statics := none }

/-- the primitive byte -/
def k14 : Class := { plain "byte" none with kind := .primitive 'B', accessFlags := 0x411 }
/-- [B -/
def k15 : Class := { plain "[B" (some 0) with kind := .array 14 .byte, interfaces := #[13, 3], accessFlags := 1041 }

/-- the primitive int -/
def k16 : Class := { plain "int" none with kind := .primitive 'I', accessFlags := 0x411 }
/-- [I -/
def k17 : Class := { plain "[I" (some 0) with kind := .array 16 .int, interfaces := #[13, 3], accessFlags := 1041 }

def heap : Heap := #[{ cls := 8, slots := #[.long 0, .int 1, .null, .int 0, .null, .int 0, .int 0], vm := .statics 8 },
  { cls := 11, slots := #[.null, .null, .null], vm := .statics 11 }]
def classes : Array Class := #[k0, k1, k2, k3, k4, k5, k6, k7, k8, k9, k10, k11, k12, k13, k14, k15, k16, k17]
def interned : List (Array UInt16 × Addr) := []
def slotsUsed : Nat := 10
def theMethod : MethodId := ⟨1, 2⟩
def args0 : Array Value := #[.int 5, .int 3]
def aboutOver (below : List Frame) : State where
  vm := { classes := classes, interned := interned.toArray }
  heap := heap
  slotsUsed := slotsUsed
  threads := #[{ frames := .invoking theMethod args0 :: below }]
def below0 : List Frame := [.native { method := ⟨0, 0⟩, args := #[] }]
def about1 : State := aboutOver below0
def p0 : Program := .bare "" "" ""
def e0 : Env := launch0.env 0 0 0
theorem w_frames : about1.frames = Frame.invoking theMethod args0 :: below0 := rfl
set_option maxRecDepth 65536 in
theorem w_args : argsFit about1.vm theMethod args0 = true := by decide +kernel
set_option maxRecDepth 65536 in
theorem w_heap : heapFits about1 = true := by decide +kernel
set_option maxRecDepth 65536 in
theorem w_runnable : about1.curStatus? = some .runnable := by decide +kernel
set_option maxRecDepth 65536 in
theorem w_alone : about1.alone = true := by decide +kernel
set_option maxRecDepth 65536 in
theorem w_named : about1.methodNamed? x = some theMethod := by decide +kernel
set_option maxRecDepth 65536 in
theorem w_hears : about1.hears theMethod below0 = true := by decide +kernel
set_option maxRecDepth 65536 in
theorem w_ripe : about1.ripe theMethod args0 below0 = true := by decide +kernel
theorem w_running : about1.status = .running := rfl
set_option maxRecDepth 65536 in
theorem w_room : about1.hasRoom e0.platform room_1 = true :=
  launch0.hasRoom_least _ room_1 (by decide +kernel) (by decide +kernel) (by decide +kernel) (by decide +kernel) (by decide +kernel) (by decide +kernel)
theorem allAtoms_all (ts : List Jvm.Cond) (a : Array Jvm.Value) (st : Jvm.State) : (allAtoms ts).before a st = ts.all (fun c => c.before a st) := by
  induction ts with
  | nil => rfl
  | cons c t ih =>
    show (Jvm.Cond.and c (allAtoms t)).before a st = _
    rw [Jvm.Cond.before_and, ih, List.all_cons]
def words1 : List Jvm.Cond := Jvm.Cond.code x code maxLocals ret :: tables_1
/-- a 'code' word, met by the world's own term for the bytes: nothing is compared byte by byte -/
theorem code_word {y : MethodName} {bytes : ByteArray} {mx : Nat} {rt : Option FieldType} {a : Array Value} {s : State} {m : MethodId} {meth : Method} {c : Code} (h1 : s.methodNamed? y = some m) (h2 : s.vm.method? m = some meth) (h3 : meth.code = some c) (h4 : c.code = bytes)
    (h5 : (c.maxLocals == mx && c.exceptionTable.isEmpty && decide (c.maxStack ≤ mostOperands) && decide (meth.sig.returnType = rt) && !meth.locks && decide (parseMethodDescriptor y.desc = some meth.sig)) = true) : (Jvm.Cond.code y bytes mx rt).before a s = true := by
  simp only [Bool.and_eq_true, beq_iff_eq, Bool.not_eq_true', decide_eq_true_eq] at h5
  obtain ⟨⟨⟨⟨⟨g1, g2⟩, g3⟩, g4⟩, g5⟩, g6⟩ := h5
  simp [Cond.before, Cond.holds, Cond.value, h1, h2, h3, h4, g1, g2, g3, g4, g5, g6]
def isCode : Jvm.Cond → Bool
  | .code _ _ _ _ => true
  | _ => false
theorem all_split {L : List Jvm.Cond} {P : Jvm.Cond → Bool} (h1 : L.all (fun c => isCode c || P c) = true) (h2 : ∀ c ∈ L.filter isCode, P c = true) : L.all P = true := by
  refine List.all_eq_true.mpr fun c hc => ?_
  have h := List.all_eq_true.mp h1 c hc
  rcases Bool.eq_false_or_eq_true (isCode c) with hi | hi
  · exact h2 c (List.mem_filter.mpr ⟨hc, hi⟩)
  · simpa [hi] using h
set_option maxRecDepth 65536 in
theorem w_c0 : (Jvm.Cond.code x code maxLocals ret).before args0 about1 = true := code_word (m := ⟨1, 2⟩) (meth := k1m2) (c := k1c2) (by decide +kernel) rfl rfl rfl (by decide +kernel)
set_option maxRecDepth 65536 in
theorem w_c1 : (Jvm.Cond.code ({ cls := "com/example/triplewell/triplewell/io/IriResolver", name := "isIriCharacter", desc := "(I)Z" } : Jvm.MethodName) prog_74_method_4_code (1 : Nat) (Option.some Jvm.ClassFile.FieldType.boolean)).before args0 about1 = true := code_word (m := ⟨2, 1⟩) (meth := k2m1) (c := k2c1) (by decide +kernel) rfl rfl rfl (by decide +kernel)
set_option maxRecDepth 65536 in
theorem w_c2 : (Jvm.Cond.code ({ cls := "com/example/triplewell/triplewell/io/IriResolverIsIriCharacterPinLaw", name := "expected", desc := "(I)Z" } : Jvm.MethodName) method_2_code (1 : Nat) (Option.some Jvm.ClassFile.FieldType.boolean)).before args0 about1 = true := code_word (m := ⟨1, 1⟩) (meth := k1m1) (c := k1c1) (by decide +kernel) rfl rfl rfl (by decide +kernel)
set_option maxRecDepth 65536 in
theorem w_c3 : (Jvm.Cond.code ({ cls := "java/lang/String", name := "indexOf", desc := "(I)I" } : Jvm.MethodName) jdk_42_method_79_code (2 : Nat) (Option.some Jvm.ClassFile.FieldType.int)).before args0 about1 = true := code_word (m := ⟨8, 2⟩) (meth := k8m2) (c := k8c2) (by decide +kernel) rfl rfl rfl (by decide +kernel)
set_option maxRecDepth 65536 in
theorem w_c4 : (Jvm.Cond.code ({ cls := "java/lang/String", name := "indexOf", desc := "(II)I" } : Jvm.MethodName) jdk_42_method_80_code (3 : Nat) (Option.some Jvm.ClassFile.FieldType.int)).before args0 about1 = true := code_word (m := ⟨8, 3⟩) (meth := k8m3) (c := k8c3) (by decide +kernel) rfl rfl rfl (by decide +kernel)
set_option maxRecDepth 65536 in
theorem w_c5 : (Jvm.Cond.code ({ cls := "java/lang/String", name := "isLatin1", desc := "()Z" } : Jvm.MethodName) jdk_42_method_154_code (1 : Nat) (Option.some Jvm.ClassFile.FieldType.boolean)).before args0 about1 = true := code_word (m := ⟨8, 5⟩) (meth := k8m5) (c := k8c5) (by decide +kernel) rfl rfl rfl (by decide +kernel)
set_option maxRecDepth 65536 in
theorem w_c6 : (Jvm.Cond.code ({ cls := "java/lang/String", name := "length", desc := "()I" } : Jvm.MethodName) jdk_42_method_54_code (1 : Nat) (Option.some Jvm.ClassFile.FieldType.int)).before args0 about1 = true := code_word (m := ⟨8, 1⟩) (meth := k8m1) (c := k8c1) (by decide +kernel) rfl rfl rfl (by decide +kernel)
set_option maxRecDepth 65536 in
theorem w_c7 : (Jvm.Cond.code ({ cls := "java/lang/String", name := "coder", desc := "()B" } : Jvm.MethodName) jdk_42_method_152_code (1 : Nat) (Option.some Jvm.ClassFile.FieldType.byte)).before args0 about1 = true := code_word (m := ⟨8, 4⟩) (meth := k8m4) (c := k8c4) (by decide +kernel) rfl rfl rfl (by decide +kernel)
set_option maxRecDepth 65536 in
theorem w_c8 : (Jvm.Cond.code ({ cls := "java/lang/StringLatin1", name := "indexOf", desc := "([BIII)I" } : Jvm.MethodName) jdk_43_method_22_code (4 : Nat) (Option.some Jvm.ClassFile.FieldType.int)).before args0 about1 = true := code_word (m := ⟨9, 2⟩) (meth := k9m2) (c := k9c2) (by decide +kernel) rfl rfl rfl (by decide +kernel)
set_option maxRecDepth 65536 in
theorem w_c9 : (Jvm.Cond.code ({ cls := "java/lang/StringLatin1", name := "canEncode", desc := "(I)Z" } : Jvm.MethodName) jdk_43_method_4_code (1 : Nat) (Option.some Jvm.ClassFile.FieldType.boolean)).before args0 about1 = true := code_word (m := ⟨9, 1⟩) (meth := k9m1) (c := k9c1) (by decide +kernel) rfl rfl rfl (by decide +kernel)
set_option maxRecDepth 65536 in
theorem w_c10 : (Jvm.Cond.code ({ cls := "java/lang/Math", name := "max", desc := "(II)I" } : Jvm.MethodName) jdk_29_method_65_code (2 : Nat) (Option.some Jvm.ClassFile.FieldType.int)).before args0 about1 = true := code_word (m := ⟨10, 1⟩) (meth := k10m1) (c := k10c1) (by decide +kernel) rfl rfl rfl (by decide +kernel)
set_option maxRecDepth 65536 in
theorem w_c11 : (Jvm.Cond.code ({ cls := "java/lang/Math", name := "min", desc := "(II)I" } : Jvm.MethodName) jdk_29_method_69_code (2 : Nat) (Option.some Jvm.ClassFile.FieldType.int)).before args0 about1 = true := code_word (m := ⟨10, 2⟩) (meth := k10m2) (c := k10c2) (by decide +kernel) rfl rfl rfl (by decide +kernel)
set_option maxRecDepth 65536 in
theorem w_c12 : (Jvm.Cond.code ({ cls := "java/lang/StringLatin1", name := "indexOfChar", desc := "([BIII)I" } : Jvm.MethodName) jdk_43_method_23_code (6 : Nat) (Option.some Jvm.ClassFile.FieldType.int)).before args0 about1 = true := code_word (m := ⟨9, 3⟩) (meth := k9m3) (c := k9c3) (by decide +kernel) rfl rfl rfl (by decide +kernel)
def codes1 : List Jvm.Cond := [Jvm.Cond.code x code maxLocals ret, Jvm.Cond.code ({ cls := "com/example/triplewell/triplewell/io/IriResolver", name := "isIriCharacter", desc := "(I)Z" } : Jvm.MethodName) prog_74_method_4_code (1 : Nat) (Option.some Jvm.ClassFile.FieldType.boolean), Jvm.Cond.code ({ cls := "com/example/triplewell/triplewell/io/IriResolverIsIriCharacterPinLaw", name := "expected", desc := "(I)Z" } : Jvm.MethodName) method_2_code (1 : Nat) (Option.some Jvm.ClassFile.FieldType.boolean), Jvm.Cond.code ({ cls := "java/lang/String", name := "indexOf", desc := "(I)I" } : Jvm.MethodName) jdk_42_method_79_code (2 : Nat) (Option.some Jvm.ClassFile.FieldType.int), Jvm.Cond.code ({ cls := "java/lang/String", name := "indexOf", desc := "(II)I" } : Jvm.MethodName) jdk_42_method_80_code (3 : Nat) (Option.some Jvm.ClassFile.FieldType.int), Jvm.Cond.code ({ cls := "java/lang/String", name := "isLatin1", desc := "()Z" } : Jvm.MethodName) jdk_42_method_154_code (1 : Nat) (Option.some Jvm.ClassFile.FieldType.boolean), Jvm.Cond.code ({ cls := "java/lang/String", name := "length", desc := "()I" } : Jvm.MethodName) jdk_42_method_54_code (1 : Nat) (Option.some Jvm.ClassFile.FieldType.int), Jvm.Cond.code ({ cls := "java/lang/String", name := "coder", desc := "()B" } : Jvm.MethodName) jdk_42_method_152_code (1 : Nat) (Option.some Jvm.ClassFile.FieldType.byte), Jvm.Cond.code ({ cls := "java/lang/StringLatin1", name := "indexOf", desc := "([BIII)I" } : Jvm.MethodName) jdk_43_method_22_code (4 : Nat) (Option.some Jvm.ClassFile.FieldType.int), Jvm.Cond.code ({ cls := "java/lang/StringLatin1", name := "canEncode", desc := "(I)Z" } : Jvm.MethodName) jdk_43_method_4_code (1 : Nat) (Option.some Jvm.ClassFile.FieldType.boolean), Jvm.Cond.code ({ cls := "java/lang/Math", name := "max", desc := "(II)I" } : Jvm.MethodName) jdk_29_method_65_code (2 : Nat) (Option.some Jvm.ClassFile.FieldType.int), Jvm.Cond.code ({ cls := "java/lang/Math", name := "min", desc := "(II)I" } : Jvm.MethodName) jdk_29_method_69_code (2 : Nat) (Option.some Jvm.ClassFile.FieldType.int), Jvm.Cond.code ({ cls := "java/lang/StringLatin1", name := "indexOfChar", desc := "([BIII)I" } : Jvm.MethodName) jdk_43_method_23_code (6 : Nat) (Option.some Jvm.ClassFile.FieldType.int)]
set_option maxRecDepth 65536 in
theorem codes_eq : words1.filter isCode = codes1 := rfl
theorem w_codes : ∀ c ∈ words1.filter isCode, c.before args0 about1 = true := by
  rw [codes_eq]
  intro c hc
  simp only [codes1, List.mem_cons, List.not_mem_nil, or_false] at hc
  rcases hc with rfl | rfl | rfl | rfl | rfl | rfl | rfl | rfl | rfl | rfl | rfl | rfl | rfl
  · exact w_c0
  · exact w_c1
  · exact w_c2
  · exact w_c3
  · exact w_c4
  · exact w_c5
  · exact w_c6
  · exact w_c7
  · exact w_c8
  · exact w_c9
  · exact w_c10
  · exact w_c11
  · exact w_c12
set_option maxRecDepth 65536 in
theorem w_t1 : (words1.take 24).all (fun c => isCode c || c.before args0 about1) = true := by decide +kernel
set_option maxRecDepth 65536 in
theorem w_t2 : ((words1.drop 24).take 24).all (fun c => isCode c || c.before args0 about1) = true := by decide +kernel
set_option maxRecDepth 65536 in
theorem w_t3 : ((words1.drop 24).drop 24).all (fun c => isCode c || c.before args0 about1) = true := by decide +kernel
theorem w_tables : (allAtoms (Jvm.Cond.code x code maxLocals ret :: tables_1)).before args0 about1 = true := by
  rw [allAtoms_all]
  show words1.all (fun c => c.before args0 about1) = true
  refine all_split ?_ w_codes
  rw [← List.take_append_drop 24 words1, List.all_append, w_t1, ← List.take_append_drop 24 (words1.drop 24), List.all_append, w_t2, w_t3]
  rfl
set_option maxRecDepth 65536 in
theorem w_rest : rest_1_c.before args0 about1 = true := by decide +kernel
set_option maxRecDepth 65536 in
theorem w_case : (Jvm.Cond.and given_1 narrow_1).before args0 about1 = true := by decide +kernel
set_option maxRecDepth 65536 in
theorem w_consts : constsHeld consts_1 about1 := Jvm.Lit.constsHeldB_iff.mp (by decide +kernel)
theorem w_applies : (headSpec (Jvm.Cond.code x code maxLocals ret :: tables_1) room_1).applies x e0.platform about1 = true :=
  (Spec.applies_iff w_frames).mpr ⟨w_running, w_runnable, w_alone, w_named, w_hears, w_ripe, w_room, w_tables⟩
theorem atStart : AtStart classFile x code maxLocals ret World_1 tables_1 room_1 Calls_1 rest_1 Pre_1 launch0 p0 e0 about1 theMethod args0 below0 :=
  ⟨lists_1, trivial, launch0.admits_env _ _ _, launch0.least_env, fairChoices_fair.cas, fairChoices_fair.clock, w_frames, w_args, w_heap, w_applies, ⟨w_consts, trivial⟩, w_rest, w_case⟩
end start1
theorem witness_1 : WitnessClaimed_1 := ⟨start1.p0, start1.e0, start1.about1, start1.theMethod, start1.args0, start1.below0, start1.atStart⟩
end Jvm.Pilot.@@N@@
