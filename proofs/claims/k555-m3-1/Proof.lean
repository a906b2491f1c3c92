import JvmDerived
import JvmDerived.Pilot.@@N@@Statement
import JvmDerived.Pilot.@@N@@Code
set_option linter.unusedVariables false
set_option linter.unusedSimpArgs false
namespace Jvm.RoadKit
open Sem ClassFile Op Lib Jvm.Stand Jvm.Free Jvm.LawKit
section New
variable {p : Program} {l : Launch} {e : Env} {R : Room} {s : State} {m : MethodId} {args : Array Value} {below : List Frame} {meth : Method} {c : Code} {T : State} {locs : List Loc} {cells slots : Nat}
theorem retI (X : Stand p l e R s m args below meth c T locs cells slots) (hx : p.tables.exec = Jvm.exec) {pc : Nat} {Ls : Array Slot} {z : Int32} {rest : List Value} (hret : meth.sig.returnType = some .int) (hd : decode c.code pc = .ok (.ireturn, 1)) {fs : List Frame}
    (hl : ∀ (f : JFrame) (acts : List Action), f.method = m → f.locked = none → f.entered = [] → (doReturn e (T.setTop f) acts (some (.int z))).1 = T.setFrames fs) : Steps p.tables e below (T.setTop (mkF m pc Ls (.int z :: rest))) (T.setFrames fs) := by
  have hm' : T.vm.method? m = some meth := X.method'
  have hn : narrow .int (.int z) = .int z := rfl
  show Steps p.tables e below (T.setTop { method := m, pc := pc, locals := Ls, stack := _ :: rest, locked := none }) _
  jvm_step X.here [X.here.top, hx, hd, hm', hret, hn]
  first | (intro acts; rw [hl _ acts rfl rfl rfl]) | rw [hl _ _ rfl rfl rfl]
  exact Steps.refl _
/-- from here the run ends and leaves what Q says -/
def Go (p : Program) (e : Env) (below : List Frame) (s : State) (Q : Option Value → Heap → List Loc → Prop) (C N : Nat) (S : State) : Prop :=
  ∃ s₂ o, Steps p.tables e below S s₂ ∧ s₂.status = .running ∧ Ended s₂ below o ∧ ∃ v L, o = .returned v ∧ Q v s₂.heap L ∧ FrameEnd s o s₂ L C N
variable {Q : Option Value → Heap → List Loc → Prop} {C N : Nat}
theorem Go.step {S S' : State} (k : ∀ t, Steps p.tables e below S' t → Steps p.tables e below S t) (g : Go p e below s Q C N S') : Go p e below s Q C N S := by
  obtain ⟨s2, o, h1, h2⟩ := g
  exact ⟨s2, o, k _ h1, h2⟩
theorem Go.retN (X : Stand p l e R s m args below meth c T locs cells slots) (hx : p.tables.exec = Jvm.exec) {pc : Nat} {Ls : Array Slot} {z : Int32} {t : FieldType} {rest : List Value} (hret : meth.sig.returnType = some t) (ht : t = .boolean ∨ t = .byte ∨ t = .char ∨ t = .short) (hlk : meth.locks = false) (hd : decode c.code pc = .ok (.ireturn, 1))
    (hq : Q (some (.int (nar t z))) T.heap locs) (hc : cells ≤ C) (hs : slots ≤ N) : Go p e below s Q C N (T.setTop (mkF m pc Ls (.int z :: rest))) := by
  obtain ⟨fs, hr, hrun, hended, hW, hsame⟩ := X.leave (v := some (.int (nar t z))) (fun h => by rw [hret] at h; cases h) hlk
  exact ⟨_, _, Jvm.RoadKit.retN X hx (t := t) hret ht hd hr, hrun, hended, _, _, rfl, hq, ⟨_, rfl⟩, hW, hsame.mono hc hs⟩
theorem Go.retI (X : Stand p l e R s m args below meth c T locs cells slots) (hx : p.tables.exec = Jvm.exec) {pc : Nat} {Ls : Array Slot} {z : Int32} {rest : List Value} (hret : meth.sig.returnType = some .int) (hlk : meth.locks = false) (hd : decode c.code pc = .ok (.ireturn, 1))
    (hq : Q (some (.int z)) T.heap locs) (hc : cells ≤ C) (hs : slots ≤ N) : Go p e below s Q C N (T.setTop (mkF m pc Ls (.int z :: rest))) := by
  obtain ⟨fs, hr, hrun, hended, hW, hsame⟩ := X.leave (v := some (.int z)) (fun h => by rw [hret] at h; cases h) hlk
  exact ⟨_, _, Jvm.RoadKit.retI X hx hret hd hr, hrun, hended, _, _, rfl, hq, ⟨_, rfl⟩, hW, hsame.mono hc hs⟩
theorem Go.retA (X : Stand p l e R s m args below meth c T locs cells slots) (hx : p.tables.exec = Jvm.exec) {pc : Nat} {Ls : Array Slot} {v : Value} {rest : List Value} {t : FieldType} (hret : meth.sig.returnType = some t) (ht : t.isReference = true) (hv : v.isRef = true) (hlk : meth.locks = false) (hd : decode c.code pc = .ok (.areturn, 1))
    (hq : Q (some v) T.heap locs) (hc : cells ≤ C) (hs : slots ≤ N) : Go p e below s Q C N (T.setTop (mkF m pc Ls (v :: rest))) := by
  obtain ⟨fs, hr, hrun, hended, hW, hsame⟩ := X.leave (v := some v) (fun h => by rw [hret] at h; cases h) hlk
  refine ⟨_, _, ?_, hrun, hended, _, _, rfl, hq, ⟨_, rfl⟩, hW, hsame.mono hc hs⟩
  have hm' : T.vm.method? m = some meth := X.method'
  show Steps p.tables e below (T.setTop { method := m, pc := pc, locals := Ls, stack := v :: rest, locked := none }) _
  jvm_step X.here [X.here.top, hx, hd, hm', hret, hv, ht]
  first | (intro acts; rw [hr _ acts rfl rfl rfl]) | rw [hr _ _ rfl rfl rfl]
  exact Steps.refl _
theorem own_ne {x k : Int32} {z : Int} (hz : k.toInt = z) (h : ¬ x = k) : x.toInt ≠ z := fun q => h (Int32.toInt_inj.mp (q.trans hz.symm))
end New
end Jvm.RoadKit
namespace Jvm.Pilot.@@N@@
open Jvm Jvm.ClassFile Sem Op Lib Jvm.Free Jvm.Stand Jvm.LawKit Jvm.RoadKit Bundle Jvm.Pilot.@@N@@.Jvm.D
theorem d1_0 : decode prog_30_method_2_code 0 = .ok (.aconst_null, 1) := by decide +kernel
theorem d1_1 : decode prog_30_method_2_code 1 = .ok (.astore_n 1, 1) := by decide +kernel
theorem d1_2 : decode prog_30_method_2_code 2 = .ok (.getstatic 17, 3) := by decide +kernel
theorem d1_5 : decode prog_30_method_2_code 5 = .ok (.astore_n 2, 1) := by decide +kernel
theorem d1_6 : decode prog_30_method_2_code 6 = .ok (.aload_n 2, 1) := by decide +kernel
theorem d1_7 : decode prog_30_method_2_code 7 = .ok (.arraylength, 1) := by decide +kernel
theorem d1_8 : decode prog_30_method_2_code 8 = .ok (.istore_n 3, 1) := by decide +kernel
theorem d1_9 : decode prog_30_method_2_code 9 = .ok (.iconst 0, 1) := by decide +kernel
theorem d1_10 : decode prog_30_method_2_code 10 = .ok (.istore 4, 2) := by decide +kernel
theorem d1_12 : decode prog_30_method_2_code 12 = .ok (.iload 4, 2) := by decide +kernel
theorem d1_14 : decode prog_30_method_2_code 14 = .ok (.iload_n 3, 1) := by decide +kernel
theorem d1_15 : decode prog_30_method_2_code 15 = .ok (.if_icmp .ge 27, 3) := by decide +kernel
theorem d1_18 : decode prog_30_method_2_code 18 = .ok (.aload_n 2, 1) := by decide +kernel
theorem d1_19 : decode prog_30_method_2_code 19 = .ok (.iload 4, 2) := by decide +kernel
theorem d1_21 : decode prog_30_method_2_code 21 = .ok (.aaload, 1) := by decide +kernel
theorem d1_22 : decode prog_30_method_2_code 22 = .ok (.astore 5, 2) := by decide +kernel
theorem d1_24 : decode prog_30_method_2_code 24 = .ok (.aload 5, 2) := by decide +kernel
theorem d1_26 : decode prog_30_method_2_code 26 = .ok (.getfield 7, 3) := by decide +kernel
theorem d1_29 : decode prog_30_method_2_code 29 = .ok (.iload_n 0, 1) := by decide +kernel
theorem d1_30 : decode prog_30_method_2_code 30 = .ok (.if_icmp .ne 6, 3) := by decide +kernel
theorem d1_33 : decode prog_30_method_2_code 33 = .ok (.aload 5, 2) := by decide +kernel
theorem d1_35 : decode prog_30_method_2_code 35 = .ok (.astore_n 1, 1) := by decide +kernel
theorem d1_36 : decode prog_30_method_2_code 36 = .ok (.iinc 4 1, 3) := by decide +kernel
theorem d1_39 : decode prog_30_method_2_code 39 = .ok (.goto (-27), 3) := by decide +kernel
theorem d1_42 : decode prog_30_method_2_code 42 = .ok (.aload_n 1, 1) := by decide +kernel
theorem d1_43 : decode prog_30_method_2_code 43 = .ok (.areturn, 1) := by decide +kernel
theorem pn0 : plainName "com/example/hearthwire/hearthwire/cbor/CborSimple" = true := by first | (simp [plainName, overriddenIn]; done) | decide +kernel
theorem pd0 : parseMethodDescriptor "(I)Lcom/example/hearthwire/hearthwire/cbor/CborSimple;" = some ⟨[.int], some (.object "com/example/hearthwire/hearthwire/cbor/CborSimple")⟩ := by decide +kernel
theorem ef1 (m : MethodId) (x0 : Int32) : entryFrame m #[(.int x0)] 6 = mkF m 0 #[.val (.int x0), .unset, .unset, .unset, .unset, .unset] [] := by first | (simp [entryFrame, mkF, argsToLocals, Value.category]; done) | rfl
def f1 (x0 : Int32) (w : Nat → Addr) (cl : Cell) : Value := (if (20 : Int32) = x0 then (if (21 : Int32) = x0 then (if (22 : Int32) = x0 then (.ref (w 2)) else (.ref (w 1))) else (if (22 : Int32) = x0 then (.ref (w 2)) else (.ref (w 0)))) else (if (21 : Int32) = x0 then (if (22 : Int32) = x0 then (.ref (w 2)) else (.ref (w 1))) else (if (22 : Int32) = x0 then (.ref (w 2)) else .null)))
def Q1 (x0 : Int32) (w : Nat → Addr) (cl : Cell) (h0 : Heap) (n0 : Nat) (v : Option Value) (h : Heap) (L : List Loc) : Prop := v = some (f1 x0 w cl) ∧ Fr n0 L ∧ h = h0
set_option maxRecDepth 65536 in
set_option maxHeartbeats 40000000 in
theorem rm1 (l : Launch) (Z : State) (a0 : Array Value) (hw : ∀ d ∈ tables_1, d.before a0 Z = true) (ws : List Jvm.Cond) (x0 : Int32) (w : Nat → Addr) (cl : Cell) (h0 : Heap) (n0 : Nat) (Z0 : n0 ≤ h0.size) (S_ALL : Sta Z h0 "com/example/hearthwire/hearthwire/cbor/CborSimple" "ALL" "[Lcom/example/hearthwire/hearthwire/cbor/CborSimple;" (.ref (w 3))) (Ar : Arr Z h0 (w 3) cl (.object "com/example/hearthwire/hearthwire/cbor/CborSimple")) (hsz : cl.slots.size = 3) (hat0 : cl.slots[0]? = some (.ref (w 0))) (hat1 : cl.slots[1]? = some (.ref (w 1))) (hat2 : cl.slots[2]? = some (.ref (w 2))) (F0 : Fld Z h0 (w 0) "com/example/hearthwire/hearthwire/cbor/CborSimple" "number" "I" (.int 20)) (F1 : Fld Z h0 (w 1) "com/example/hearthwire/hearthwire/cbor/CborSimple" "number" "I" (.int 21)) (F2 : Fld Z h0 (w 2) "com/example/hearthwire/hearthwire/cbor/CborSimple" "number" "I" (.int 22)) :
    MetFree l (⟨"com/example/hearthwire/hearthwire/cbor/CborSimple", "fromNumber", "(I)Lcom/example/hearthwire/hearthwire/cbor/CborSimple;"⟩ : MethodName) (head1 (Jvm.Cond.code (⟨"com/example/hearthwire/hearthwire/cbor/CborSimple", "fromNumber", "(I)Lcom/example/hearthwire/hearthwire/cbor/CborSimple;"⟩ : MethodName) prog_30_method_2_code 6 (some (.object "com/example/hearthwire/hearthwire/cbor/CborSimple")) :: ws) ({ frames := 0, cells := 0, slots := 0, locals := 0 } : Room)) (fun a U => a = #[(.int x0)] ∧ Z.Warmed39 U.vm ∧ U.heap = h0) (fun _ _ _ _ _ => True) (fun _ U o U' => ∃ v L, o = .returned v ∧ Q1 x0 w cl h0 n0 v U'.heap L ∧ FrameEnd U o U' L ({ frames := 0, cells := 0, slots := 0, locals := 0 } : Room).cells ({ frames := 0, cells := 0, slots := 0, locals := 0 } : Room).slots) := by
  refine MetFree.of_bodySF (plainFor_of_name pn0) hisR ?_
  intro p e s m args below meth c s₁ Bd hml0 hP hK
  obtain ⟨rfl, hZ, hh⟩ := hP
  have hx := Bd.exec
  have hby := Bd.bytes
  have hml : c.maxLocals = 6 := hml0
  have hown : s.vm.findClass "com/example/hearthwire/hearthwire/cbor/CborSimple" = some m.cls := findClass_of_methodNamed Bd.named
  have X0 : Stand p l e ({ frames := 0, cells := 0, slots := 0, locals := 0 } : Room) s m #[(.int x0)] below meth c s₁ [] 0 0 := Stand.of_body Bd
  have e0 : s₁.heap = h0 := by rw [← hh, Bd.state]; rfl
  obtain ⟨r, hr0⟩ : ∃ r, f1 x0 w cl = r := ⟨_, rfl⟩
  have B0 : ∀  (T : State) (locs : List Loc) (X : Stand p l e ({ frames := 0, cells := 0, slots := 0, locals := 0 } : Room) s m #[(.int x0)] below meth c T locs 0 0) (eT : T.heap = h0) (NF : Fr n0 locs) (hr : f1 x0 w cl = r), Go p e below s (Q1 x0 w cl h0 n0) ({ frames := 0, cells := 0, slots := 0, locals := 0 } : Room).cells ({ frames := 0, cells := 0, slots := 0, locals := 0 } : Room).slots (T.setTop (mkF m 0 #[.val (.int x0), .unset, .unset, .unset, .unset, .unset] [])) := by
    intro  T locs X eT NF hr
    unfold f1 at hr
    refine Go.step (S' := T.setTop (mkF m 1 #[.val (.int x0), .unset, .unset, .unset, .unset, .unset] [.null])) (fun t k => XS.aconstNull X.here hx rfl (hb hby d1_0) k) ?_
    refine Go.step (S' := T.setTop (mkF m 2 #[.val (.int x0), .val .null, .unset, .unset, .unset, .unset] [])) (fun t k => XS.astoreN X.here hx rfl (hb hby d1_1) rfl rfl (l' := #[.val (.int x0), .val .null, .unset, .unset, .unset, .unset]) rfl k) ?_
    obtain ⟨T1, X1, e1, st1⟩ := getS2 X hx hZ hown (host := "") (Or.inl (hw _ (List.mem_of_getElem? (i := 4) rfl))) Via.refl eT S_ALL (g := (mkF m 2 #[.val (.int x0), .val .null, .unset, .unset, .unset, .unset] [])) rfl (hb hby d1_2)
    refine Go.step (S' := T1.setTop (mkF m 5 #[.val (.int x0), .val .null, .unset, .unset, .unset, .unset] [(.ref (w 3))])) (fun t k => st1 t k) ?_
    refine Go.step (S' := T1.setTop (mkF m 6 #[.val (.int x0), .val .null, .val (.ref (w 3)), .unset, .unset, .unset] [])) (fun t k => XS.astoreN X1.here hx rfl (hb hby d1_5) rfl rfl (l' := #[.val (.int x0), .val .null, .val (.ref (w 3)), .unset, .unset, .unset]) rfl k) ?_
    refine Go.step (S' := T1.setTop (mkF m 7 #[.val (.int x0), .val .null, .val (.ref (w 3)), .unset, .unset, .unset] [(.ref (w 3))])) (fun t k => XS.aloadN X1.here hx rfl (hb hby d1_6) rfl rfl k) ?_
    refine Go.step (S' := T1.setTop (mkF m 8 #[.val (.int x0), .val .null, .val (.ref (w 3)), .unset, .unset, .unset] [(.int (3 : Int32))])) (fun t k => X1.arraylength hx (by rw [e1]; exact Ar.1) (State.isArrayOf_alike hZ.alike Ar.2.1) (g := (mkF m 7 #[.val (.int x0), .val .null, .val (.ref (w 3)), .unset, .unset, .unset] [(.ref (w 3))])) rfl rfl (hb hby d1_7) _ (by rw [hsz]; exact k)) ?_
    refine Go.step (S' := T1.setTop (mkF m 9 #[.val (.int x0), .val .null, .val (.ref (w 3)), .val (.int (3 : Int32)), .unset, .unset] [])) (fun t k => XS.istoreN X1.here hx rfl (hb hby d1_8) rfl (l' := #[.val (.int x0), .val .null, .val (.ref (w 3)), .val (.int (3 : Int32)), .unset, .unset]) rfl k) ?_
    refine Go.step (S' := T1.setTop (mkF m 10 #[.val (.int x0), .val .null, .val (.ref (w 3)), .val (.int (3 : Int32)), .unset, .unset] [(.int (0 : Int32))])) (fun t k => XS.iconst X1.here hx rfl (hb hby d1_9) k) ?_
    refine Go.step (S' := T1.setTop (mkF m 12 #[.val (.int x0), .val .null, .val (.ref (w 3)), .val (.int (3 : Int32)), .val (.int (0 : Int32)), .unset] [])) (fun t k => XS.istore X1.here hx rfl (hb hby d1_10) rfl (l' := #[.val (.int x0), .val .null, .val (.ref (w 3)), .val (.int (3 : Int32)), .val (.int (0 : Int32)), .unset]) rfl k) ?_
    refine Go.step (S' := T1.setTop (mkF m 14 #[.val (.int x0), .val .null, .val (.ref (w 3)), .val (.int (3 : Int32)), .val (.int (0 : Int32)), .unset] [(.int (0 : Int32))])) (fun t k => XS.iload X1.here hx rfl (hb hby d1_12) rfl k) ?_
    refine Go.step (S' := T1.setTop (mkF m 15 #[.val (.int x0), .val .null, .val (.ref (w 3)), .val (.int (3 : Int32)), .val (.int (0 : Int32)), .unset] [(.int (3 : Int32)), (.int (0 : Int32))])) (fun t k => XS.iloadN X1.here hx rfl (hb hby d1_14) rfl k) ?_
    refine Go.step (S' := T1.setTop (mkF m 18 #[.val (.int x0), .val .null, .val (.ref (w 3)), .val (.int (3 : Int32)), .val (.int (0 : Int32)), .unset] [])) (fun t k => XS.icmpNo X1.here hx rfl (hb hby d1_15) rfl (tlt (by decide : ((0 : Int32) < (3 : Int32)))).2.1 k) ?_
    refine Go.step (S' := T1.setTop (mkF m 19 #[.val (.int x0), .val .null, .val (.ref (w 3)), .val (.int (3 : Int32)), .val (.int (0 : Int32)), .unset] [(.ref (w 3))])) (fun t k => XS.aloadN X1.here hx rfl (hb hby d1_18) rfl rfl k) ?_
    refine Go.step (S' := T1.setTop (mkF m 21 #[.val (.int x0), .val .null, .val (.ref (w 3)), .val (.int (3 : Int32)), .val (.int (0 : Int32)), .unset] [(.int (0 : Int32)), (.ref (w 3))])) (fun t k => XS.iload X1.here hx rfl (hb hby d1_19) rfl k) ?_
    refine Go.step (S' := T1.setTop (mkF m 22 #[.val (.int x0), .val .null, .val (.ref (w 3)), .val (.int (3 : Int32)), .val (.int (0 : Int32)), .unset] [(.ref (w 0))])) (fun t k => X1.aaload hx (j := (0 : Int32)) (v := (.ref (w 0))) (by rw [e1]; exact Ar.1) (State.isArrayOf_alike hZ.alike Ar.2.1) rfl Ar.2.2 (by rw [hsz]; decide) hat0 (g := (mkF m 21 #[.val (.int x0), .val .null, .val (.ref (w 3)), .val (.int (3 : Int32)), .val (.int (0 : Int32)), .unset] [(.int (0 : Int32)), (.ref (w 3))])) rfl rfl (hb hby d1_21) _ k) ?_
    refine Go.step (S' := T1.setTop (mkF m 24 #[.val (.int x0), .val .null, .val (.ref (w 3)), .val (.int (3 : Int32)), .val (.int (0 : Int32)), .val (.ref (w 0))] [])) (fun t k => XS.astore X1.here hx rfl (hb hby d1_22) rfl rfl (l' := #[.val (.int x0), .val .null, .val (.ref (w 3)), .val (.int (3 : Int32)), .val (.int (0 : Int32)), .val (.ref (w 0))]) rfl k) ?_
    refine Go.step (S' := T1.setTop (mkF m 26 #[.val (.int x0), .val .null, .val (.ref (w 3)), .val (.int (3 : Int32)), .val (.int (0 : Int32)), .val (.ref (w 0))] [(.ref (w 0))])) (fun t k => XS.aload X1.here hx rfl (hb hby d1_24) rfl rfl k) ?_
    obtain ⟨T3, X3, e3, st3⟩ := getF X1 hx hZ hown (host := "") (Or.inl (hw _ (List.mem_of_getElem? (i := 6) rfl))) Via.refl e1 F0 (g := (mkF m 26 #[.val (.int x0), .val .null, .val (.ref (w 3)), .val (.int (3 : Int32)), .val (.int (0 : Int32)), .val (.ref (w 0))] [(.ref (w 0))])) rfl rfl (hb hby d1_26)
    refine Go.step (S' := T3.setTop (mkF m 29 #[.val (.int x0), .val .null, .val (.ref (w 3)), .val (.int (3 : Int32)), .val (.int (0 : Int32)), .val (.ref (w 0))] [(.int (20 : Int32))])) (fun t k => st3 t k) ?_
    refine Go.step (S' := T3.setTop (mkF m 30 #[.val (.int x0), .val .null, .val (.ref (w 3)), .val (.int (3 : Int32)), .val (.int (0 : Int32)), .val (.ref (w 0))] [(.int x0), (.int (20 : Int32))])) (fun t k => XS.iloadN X3.here hx rfl (hb hby d1_29) rfl k) ?_
    by_cases hc4 : (20 : Int32) = x0
    · rw [if_pos hc4] at hr
      refine Go.step (S' := T3.setTop (mkF m 33 #[.val (.int x0), .val .null, .val (.ref (w 3)), .val (.int (3 : Int32)), .val (.int (0 : Int32)), .val (.ref (w 0))] [])) (fun t k => XS.icmpNo X3.here hx rfl (hb hby d1_30) rfl (teq hc4).2 k) ?_
      refine Go.step (S' := T3.setTop (mkF m 35 #[.val (.int x0), .val .null, .val (.ref (w 3)), .val (.int (3 : Int32)), .val (.int (0 : Int32)), .val (.ref (w 0))] [(.ref (w 0))])) (fun t k => XS.aload X3.here hx rfl (hb hby d1_33) rfl rfl k) ?_
      refine Go.step (S' := T3.setTop (mkF m 36 #[.val (.int x0), .val (.ref (w 0)), .val (.ref (w 3)), .val (.int (3 : Int32)), .val (.int (0 : Int32)), .val (.ref (w 0))] [])) (fun t k => XS.astoreN X3.here hx rfl (hb hby d1_35) rfl rfl (l' := #[.val (.int x0), .val (.ref (w 0)), .val (.ref (w 3)), .val (.int (3 : Int32)), .val (.int (0 : Int32)), .val (.ref (w 0))]) rfl k) ?_
      refine Go.step (S' := T3.setTop (mkF m 39 #[.val (.int x0), .val (.ref (w 0)), .val (.ref (w 3)), .val (.int (3 : Int32)), .val (.int (1 : Int32)), .val (.ref (w 0))] [])) (fun t k => XS.iinc X3.here hx rfl (hb hby d1_36) rfl (l' := #[.val (.int x0), .val (.ref (w 0)), .val (.ref (w 3)), .val (.int (3 : Int32)), .val (.int (1 : Int32)), .val (.ref (w 0))]) rfl k) ?_
      refine Go.step (S' := T3.setTop (mkF m 12 #[.val (.int x0), .val (.ref (w 0)), .val (.ref (w 3)), .val (.int (3 : Int32)), .val (.int (1 : Int32)), .val (.ref (w 0))] [])) (fun t k => XS.goto X3.here hx rfl (pc0 := 39) (pc' := 12) rfl (hb hby d1_39) (by decide) (by decide) k) ?_
      refine Go.step (S' := T3.setTop (mkF m 14 #[.val (.int x0), .val (.ref (w 0)), .val (.ref (w 3)), .val (.int (3 : Int32)), .val (.int (1 : Int32)), .val (.ref (w 0))] [(.int (1 : Int32))])) (fun t k => XS.iload X3.here hx rfl (hb hby d1_12) rfl k) ?_
      refine Go.step (S' := T3.setTop (mkF m 15 #[.val (.int x0), .val (.ref (w 0)), .val (.ref (w 3)), .val (.int (3 : Int32)), .val (.int (1 : Int32)), .val (.ref (w 0))] [(.int (3 : Int32)), (.int (1 : Int32))])) (fun t k => XS.iloadN X3.here hx rfl (hb hby d1_14) rfl k) ?_
      refine Go.step (S' := T3.setTop (mkF m 18 #[.val (.int x0), .val (.ref (w 0)), .val (.ref (w 3)), .val (.int (3 : Int32)), .val (.int (1 : Int32)), .val (.ref (w 0))] [])) (fun t k => XS.icmpNo X3.here hx rfl (hb hby d1_15) rfl (tlt (by decide : ((1 : Int32) < (3 : Int32)))).2.1 k) ?_
      refine Go.step (S' := T3.setTop (mkF m 19 #[.val (.int x0), .val (.ref (w 0)), .val (.ref (w 3)), .val (.int (3 : Int32)), .val (.int (1 : Int32)), .val (.ref (w 0))] [(.ref (w 3))])) (fun t k => XS.aloadN X3.here hx rfl (hb hby d1_18) rfl rfl k) ?_
      refine Go.step (S' := T3.setTop (mkF m 21 #[.val (.int x0), .val (.ref (w 0)), .val (.ref (w 3)), .val (.int (3 : Int32)), .val (.int (1 : Int32)), .val (.ref (w 0))] [(.int (1 : Int32)), (.ref (w 3))])) (fun t k => XS.iload X3.here hx rfl (hb hby d1_19) rfl k) ?_
      refine Go.step (S' := T3.setTop (mkF m 22 #[.val (.int x0), .val (.ref (w 0)), .val (.ref (w 3)), .val (.int (3 : Int32)), .val (.int (1 : Int32)), .val (.ref (w 0))] [(.ref (w 1))])) (fun t k => X3.aaload hx (j := (1 : Int32)) (v := (.ref (w 1))) (by rw [e3]; exact Ar.1) (State.isArrayOf_alike hZ.alike Ar.2.1) rfl Ar.2.2 (by rw [hsz]; decide) hat1 (g := (mkF m 21 #[.val (.int x0), .val (.ref (w 0)), .val (.ref (w 3)), .val (.int (3 : Int32)), .val (.int (1 : Int32)), .val (.ref (w 0))] [(.int (1 : Int32)), (.ref (w 3))])) rfl rfl (hb hby d1_21) _ k) ?_
      refine Go.step (S' := T3.setTop (mkF m 24 #[.val (.int x0), .val (.ref (w 0)), .val (.ref (w 3)), .val (.int (3 : Int32)), .val (.int (1 : Int32)), .val (.ref (w 1))] [])) (fun t k => XS.astore X3.here hx rfl (hb hby d1_22) rfl rfl (l' := #[.val (.int x0), .val (.ref (w 0)), .val (.ref (w 3)), .val (.int (3 : Int32)), .val (.int (1 : Int32)), .val (.ref (w 1))]) rfl k) ?_
      refine Go.step (S' := T3.setTop (mkF m 26 #[.val (.int x0), .val (.ref (w 0)), .val (.ref (w 3)), .val (.int (3 : Int32)), .val (.int (1 : Int32)), .val (.ref (w 1))] [(.ref (w 1))])) (fun t k => XS.aload X3.here hx rfl (hb hby d1_24) rfl rfl k) ?_
      obtain ⟨T6, X6, e6, st6⟩ := getF X3 hx hZ hown (host := "") (Or.inl (hw _ (List.mem_of_getElem? (i := 6) rfl))) Via.refl e3 F1 (g := (mkF m 26 #[.val (.int x0), .val (.ref (w 0)), .val (.ref (w 3)), .val (.int (3 : Int32)), .val (.int (1 : Int32)), .val (.ref (w 1))] [(.ref (w 1))])) rfl rfl (hb hby d1_26)
      refine Go.step (S' := T6.setTop (mkF m 29 #[.val (.int x0), .val (.ref (w 0)), .val (.ref (w 3)), .val (.int (3 : Int32)), .val (.int (1 : Int32)), .val (.ref (w 1))] [(.int (21 : Int32))])) (fun t k => st6 t k) ?_
      refine Go.step (S' := T6.setTop (mkF m 30 #[.val (.int x0), .val (.ref (w 0)), .val (.ref (w 3)), .val (.int (3 : Int32)), .val (.int (1 : Int32)), .val (.ref (w 1))] [(.int x0), (.int (21 : Int32))])) (fun t k => XS.iloadN X6.here hx rfl (hb hby d1_29) rfl k) ?_
      by_cases hc7 : (21 : Int32) = x0
      · rw [if_pos hc7] at hr
        refine Go.step (S' := T6.setTop (mkF m 33 #[.val (.int x0), .val (.ref (w 0)), .val (.ref (w 3)), .val (.int (3 : Int32)), .val (.int (1 : Int32)), .val (.ref (w 1))] [])) (fun t k => XS.icmpNo X6.here hx rfl (hb hby d1_30) rfl (teq hc7).2 k) ?_
        refine Go.step (S' := T6.setTop (mkF m 35 #[.val (.int x0), .val (.ref (w 0)), .val (.ref (w 3)), .val (.int (3 : Int32)), .val (.int (1 : Int32)), .val (.ref (w 1))] [(.ref (w 1))])) (fun t k => XS.aload X6.here hx rfl (hb hby d1_33) rfl rfl k) ?_
        refine Go.step (S' := T6.setTop (mkF m 36 #[.val (.int x0), .val (.ref (w 1)), .val (.ref (w 3)), .val (.int (3 : Int32)), .val (.int (1 : Int32)), .val (.ref (w 1))] [])) (fun t k => XS.astoreN X6.here hx rfl (hb hby d1_35) rfl rfl (l' := #[.val (.int x0), .val (.ref (w 1)), .val (.ref (w 3)), .val (.int (3 : Int32)), .val (.int (1 : Int32)), .val (.ref (w 1))]) rfl k) ?_
        refine Go.step (S' := T6.setTop (mkF m 39 #[.val (.int x0), .val (.ref (w 1)), .val (.ref (w 3)), .val (.int (3 : Int32)), .val (.int (2 : Int32)), .val (.ref (w 1))] [])) (fun t k => XS.iinc X6.here hx rfl (hb hby d1_36) rfl (l' := #[.val (.int x0), .val (.ref (w 1)), .val (.ref (w 3)), .val (.int (3 : Int32)), .val (.int (2 : Int32)), .val (.ref (w 1))]) rfl k) ?_
        refine Go.step (S' := T6.setTop (mkF m 12 #[.val (.int x0), .val (.ref (w 1)), .val (.ref (w 3)), .val (.int (3 : Int32)), .val (.int (2 : Int32)), .val (.ref (w 1))] [])) (fun t k => XS.goto X6.here hx rfl (pc0 := 39) (pc' := 12) rfl (hb hby d1_39) (by decide) (by decide) k) ?_
        refine Go.step (S' := T6.setTop (mkF m 14 #[.val (.int x0), .val (.ref (w 1)), .val (.ref (w 3)), .val (.int (3 : Int32)), .val (.int (2 : Int32)), .val (.ref (w 1))] [(.int (2 : Int32))])) (fun t k => XS.iload X6.here hx rfl (hb hby d1_12) rfl k) ?_
        refine Go.step (S' := T6.setTop (mkF m 15 #[.val (.int x0), .val (.ref (w 1)), .val (.ref (w 3)), .val (.int (3 : Int32)), .val (.int (2 : Int32)), .val (.ref (w 1))] [(.int (3 : Int32)), (.int (2 : Int32))])) (fun t k => XS.iloadN X6.here hx rfl (hb hby d1_14) rfl k) ?_
        refine Go.step (S' := T6.setTop (mkF m 18 #[.val (.int x0), .val (.ref (w 1)), .val (.ref (w 3)), .val (.int (3 : Int32)), .val (.int (2 : Int32)), .val (.ref (w 1))] [])) (fun t k => XS.icmpNo X6.here hx rfl (hb hby d1_15) rfl (tlt (by decide : ((2 : Int32) < (3 : Int32)))).2.1 k) ?_
        refine Go.step (S' := T6.setTop (mkF m 19 #[.val (.int x0), .val (.ref (w 1)), .val (.ref (w 3)), .val (.int (3 : Int32)), .val (.int (2 : Int32)), .val (.ref (w 1))] [(.ref (w 3))])) (fun t k => XS.aloadN X6.here hx rfl (hb hby d1_18) rfl rfl k) ?_
        refine Go.step (S' := T6.setTop (mkF m 21 #[.val (.int x0), .val (.ref (w 1)), .val (.ref (w 3)), .val (.int (3 : Int32)), .val (.int (2 : Int32)), .val (.ref (w 1))] [(.int (2 : Int32)), (.ref (w 3))])) (fun t k => XS.iload X6.here hx rfl (hb hby d1_19) rfl k) ?_
        refine Go.step (S' := T6.setTop (mkF m 22 #[.val (.int x0), .val (.ref (w 1)), .val (.ref (w 3)), .val (.int (3 : Int32)), .val (.int (2 : Int32)), .val (.ref (w 1))] [(.ref (w 2))])) (fun t k => X6.aaload hx (j := (2 : Int32)) (v := (.ref (w 2))) (by rw [e6]; exact Ar.1) (State.isArrayOf_alike hZ.alike Ar.2.1) rfl Ar.2.2 (by rw [hsz]; decide) hat2 (g := (mkF m 21 #[.val (.int x0), .val (.ref (w 1)), .val (.ref (w 3)), .val (.int (3 : Int32)), .val (.int (2 : Int32)), .val (.ref (w 1))] [(.int (2 : Int32)), (.ref (w 3))])) rfl rfl (hb hby d1_21) _ k) ?_
        refine Go.step (S' := T6.setTop (mkF m 24 #[.val (.int x0), .val (.ref (w 1)), .val (.ref (w 3)), .val (.int (3 : Int32)), .val (.int (2 : Int32)), .val (.ref (w 2))] [])) (fun t k => XS.astore X6.here hx rfl (hb hby d1_22) rfl rfl (l' := #[.val (.int x0), .val (.ref (w 1)), .val (.ref (w 3)), .val (.int (3 : Int32)), .val (.int (2 : Int32)), .val (.ref (w 2))]) rfl k) ?_
        refine Go.step (S' := T6.setTop (mkF m 26 #[.val (.int x0), .val (.ref (w 1)), .val (.ref (w 3)), .val (.int (3 : Int32)), .val (.int (2 : Int32)), .val (.ref (w 2))] [(.ref (w 2))])) (fun t k => XS.aload X6.here hx rfl (hb hby d1_24) rfl rfl k) ?_
        obtain ⟨T9, X9, e9, st9⟩ := getF X6 hx hZ hown (host := "") (Or.inl (hw _ (List.mem_of_getElem? (i := 6) rfl))) Via.refl e6 F2 (g := (mkF m 26 #[.val (.int x0), .val (.ref (w 1)), .val (.ref (w 3)), .val (.int (3 : Int32)), .val (.int (2 : Int32)), .val (.ref (w 2))] [(.ref (w 2))])) rfl rfl (hb hby d1_26)
        refine Go.step (S' := T9.setTop (mkF m 29 #[.val (.int x0), .val (.ref (w 1)), .val (.ref (w 3)), .val (.int (3 : Int32)), .val (.int (2 : Int32)), .val (.ref (w 2))] [(.int (22 : Int32))])) (fun t k => st9 t k) ?_
        refine Go.step (S' := T9.setTop (mkF m 30 #[.val (.int x0), .val (.ref (w 1)), .val (.ref (w 3)), .val (.int (3 : Int32)), .val (.int (2 : Int32)), .val (.ref (w 2))] [(.int x0), (.int (22 : Int32))])) (fun t k => XS.iloadN X9.here hx rfl (hb hby d1_29) rfl k) ?_
        by_cases hc10 : (22 : Int32) = x0
        · rw [if_pos hc10] at hr
          refine Go.step (S' := T9.setTop (mkF m 33 #[.val (.int x0), .val (.ref (w 1)), .val (.ref (w 3)), .val (.int (3 : Int32)), .val (.int (2 : Int32)), .val (.ref (w 2))] [])) (fun t k => XS.icmpNo X9.here hx rfl (hb hby d1_30) rfl (teq hc10).2 k) ?_
          refine Go.step (S' := T9.setTop (mkF m 35 #[.val (.int x0), .val (.ref (w 1)), .val (.ref (w 3)), .val (.int (3 : Int32)), .val (.int (2 : Int32)), .val (.ref (w 2))] [(.ref (w 2))])) (fun t k => XS.aload X9.here hx rfl (hb hby d1_33) rfl rfl k) ?_
          refine Go.step (S' := T9.setTop (mkF m 36 #[.val (.int x0), .val (.ref (w 2)), .val (.ref (w 3)), .val (.int (3 : Int32)), .val (.int (2 : Int32)), .val (.ref (w 2))] [])) (fun t k => XS.astoreN X9.here hx rfl (hb hby d1_35) rfl rfl (l' := #[.val (.int x0), .val (.ref (w 2)), .val (.ref (w 3)), .val (.int (3 : Int32)), .val (.int (2 : Int32)), .val (.ref (w 2))]) rfl k) ?_
          refine Go.step (S' := T9.setTop (mkF m 39 #[.val (.int x0), .val (.ref (w 2)), .val (.ref (w 3)), .val (.int (3 : Int32)), .val (.int (3 : Int32)), .val (.ref (w 2))] [])) (fun t k => XS.iinc X9.here hx rfl (hb hby d1_36) rfl (l' := #[.val (.int x0), .val (.ref (w 2)), .val (.ref (w 3)), .val (.int (3 : Int32)), .val (.int (3 : Int32)), .val (.ref (w 2))]) rfl k) ?_
          refine Go.step (S' := T9.setTop (mkF m 12 #[.val (.int x0), .val (.ref (w 2)), .val (.ref (w 3)), .val (.int (3 : Int32)), .val (.int (3 : Int32)), .val (.ref (w 2))] [])) (fun t k => XS.goto X9.here hx rfl (pc0 := 39) (pc' := 12) rfl (hb hby d1_39) (by decide) (by decide) k) ?_
          refine Go.step (S' := T9.setTop (mkF m 14 #[.val (.int x0), .val (.ref (w 2)), .val (.ref (w 3)), .val (.int (3 : Int32)), .val (.int (3 : Int32)), .val (.ref (w 2))] [(.int (3 : Int32))])) (fun t k => XS.iload X9.here hx rfl (hb hby d1_12) rfl k) ?_
          refine Go.step (S' := T9.setTop (mkF m 15 #[.val (.int x0), .val (.ref (w 2)), .val (.ref (w 3)), .val (.int (3 : Int32)), .val (.int (3 : Int32)), .val (.ref (w 2))] [(.int (3 : Int32)), (.int (3 : Int32))])) (fun t k => XS.iloadN X9.here hx rfl (hb hby d1_14) rfl k) ?_
          refine Go.step (S' := T9.setTop (mkF m 42 #[.val (.int x0), .val (.ref (w 2)), .val (.ref (w 3)), .val (.int (3 : Int32)), .val (.int (3 : Int32)), .val (.ref (w 2))] [])) (fun t k => XS.icmpYes X9.here hx rfl (pc0 := 15) (pc' := 42) rfl (hb hby d1_15) rfl (flt (by decide : ¬ ((3 : Int32) < (3 : Int32)))).2.1 (by decide) (by decide) k) ?_
          refine Go.step (S' := T9.setTop (mkF m 43 #[.val (.int x0), .val (.ref (w 2)), .val (.ref (w 3)), .val (.int (3 : Int32)), .val (.int (3 : Int32)), .val (.ref (w 2))] [(.ref (w 2))])) (fun t k => XS.aloadN X9.here hx rfl (hb hby d1_42) rfl rfl k) ?_
          exact Go.retA X9 hx Bd.returns rfl rfl Bd.notSynchronized (hb hby d1_43) ⟨by rw [hr0, ← hr]; first | done | rfl, NF, e9⟩ (by decide) (by decide)
        · rw [if_neg hc10] at hr
          refine Go.step (S' := T9.setTop (mkF m 36 #[.val (.int x0), .val (.ref (w 1)), .val (.ref (w 3)), .val (.int (3 : Int32)), .val (.int (2 : Int32)), .val (.ref (w 2))] [])) (fun t k => XS.icmpYes X9.here hx rfl (pc0 := 30) (pc' := 36) rfl (hb hby d1_30) rfl (feq hc10).2 (by decide) (by decide) k) ?_
          refine Go.step (S' := T9.setTop (mkF m 39 #[.val (.int x0), .val (.ref (w 1)), .val (.ref (w 3)), .val (.int (3 : Int32)), .val (.int (3 : Int32)), .val (.ref (w 2))] [])) (fun t k => XS.iinc X9.here hx rfl (hb hby d1_36) rfl (l' := #[.val (.int x0), .val (.ref (w 1)), .val (.ref (w 3)), .val (.int (3 : Int32)), .val (.int (3 : Int32)), .val (.ref (w 2))]) rfl k) ?_
          refine Go.step (S' := T9.setTop (mkF m 12 #[.val (.int x0), .val (.ref (w 1)), .val (.ref (w 3)), .val (.int (3 : Int32)), .val (.int (3 : Int32)), .val (.ref (w 2))] [])) (fun t k => XS.goto X9.here hx rfl (pc0 := 39) (pc' := 12) rfl (hb hby d1_39) (by decide) (by decide) k) ?_
          refine Go.step (S' := T9.setTop (mkF m 14 #[.val (.int x0), .val (.ref (w 1)), .val (.ref (w 3)), .val (.int (3 : Int32)), .val (.int (3 : Int32)), .val (.ref (w 2))] [(.int (3 : Int32))])) (fun t k => XS.iload X9.here hx rfl (hb hby d1_12) rfl k) ?_
          refine Go.step (S' := T9.setTop (mkF m 15 #[.val (.int x0), .val (.ref (w 1)), .val (.ref (w 3)), .val (.int (3 : Int32)), .val (.int (3 : Int32)), .val (.ref (w 2))] [(.int (3 : Int32)), (.int (3 : Int32))])) (fun t k => XS.iloadN X9.here hx rfl (hb hby d1_14) rfl k) ?_
          refine Go.step (S' := T9.setTop (mkF m 42 #[.val (.int x0), .val (.ref (w 1)), .val (.ref (w 3)), .val (.int (3 : Int32)), .val (.int (3 : Int32)), .val (.ref (w 2))] [])) (fun t k => XS.icmpYes X9.here hx rfl (pc0 := 15) (pc' := 42) rfl (hb hby d1_15) rfl (flt (by decide : ¬ ((3 : Int32) < (3 : Int32)))).2.1 (by decide) (by decide) k) ?_
          refine Go.step (S' := T9.setTop (mkF m 43 #[.val (.int x0), .val (.ref (w 1)), .val (.ref (w 3)), .val (.int (3 : Int32)), .val (.int (3 : Int32)), .val (.ref (w 2))] [(.ref (w 1))])) (fun t k => XS.aloadN X9.here hx rfl (hb hby d1_42) rfl rfl k) ?_
          exact Go.retA X9 hx Bd.returns rfl rfl Bd.notSynchronized (hb hby d1_43) ⟨by rw [hr0, ← hr]; first | done | rfl, NF, e9⟩ (by decide) (by decide)
      · rw [if_neg hc7] at hr
        refine Go.step (S' := T6.setTop (mkF m 36 #[.val (.int x0), .val (.ref (w 0)), .val (.ref (w 3)), .val (.int (3 : Int32)), .val (.int (1 : Int32)), .val (.ref (w 1))] [])) (fun t k => XS.icmpYes X6.here hx rfl (pc0 := 30) (pc' := 36) rfl (hb hby d1_30) rfl (feq hc7).2 (by decide) (by decide) k) ?_
        refine Go.step (S' := T6.setTop (mkF m 39 #[.val (.int x0), .val (.ref (w 0)), .val (.ref (w 3)), .val (.int (3 : Int32)), .val (.int (2 : Int32)), .val (.ref (w 1))] [])) (fun t k => XS.iinc X6.here hx rfl (hb hby d1_36) rfl (l' := #[.val (.int x0), .val (.ref (w 0)), .val (.ref (w 3)), .val (.int (3 : Int32)), .val (.int (2 : Int32)), .val (.ref (w 1))]) rfl k) ?_
        refine Go.step (S' := T6.setTop (mkF m 12 #[.val (.int x0), .val (.ref (w 0)), .val (.ref (w 3)), .val (.int (3 : Int32)), .val (.int (2 : Int32)), .val (.ref (w 1))] [])) (fun t k => XS.goto X6.here hx rfl (pc0 := 39) (pc' := 12) rfl (hb hby d1_39) (by decide) (by decide) k) ?_
        refine Go.step (S' := T6.setTop (mkF m 14 #[.val (.int x0), .val (.ref (w 0)), .val (.ref (w 3)), .val (.int (3 : Int32)), .val (.int (2 : Int32)), .val (.ref (w 1))] [(.int (2 : Int32))])) (fun t k => XS.iload X6.here hx rfl (hb hby d1_12) rfl k) ?_
        refine Go.step (S' := T6.setTop (mkF m 15 #[.val (.int x0), .val (.ref (w 0)), .val (.ref (w 3)), .val (.int (3 : Int32)), .val (.int (2 : Int32)), .val (.ref (w 1))] [(.int (3 : Int32)), (.int (2 : Int32))])) (fun t k => XS.iloadN X6.here hx rfl (hb hby d1_14) rfl k) ?_
        refine Go.step (S' := T6.setTop (mkF m 18 #[.val (.int x0), .val (.ref (w 0)), .val (.ref (w 3)), .val (.int (3 : Int32)), .val (.int (2 : Int32)), .val (.ref (w 1))] [])) (fun t k => XS.icmpNo X6.here hx rfl (hb hby d1_15) rfl (tlt (by decide : ((2 : Int32) < (3 : Int32)))).2.1 k) ?_
        refine Go.step (S' := T6.setTop (mkF m 19 #[.val (.int x0), .val (.ref (w 0)), .val (.ref (w 3)), .val (.int (3 : Int32)), .val (.int (2 : Int32)), .val (.ref (w 1))] [(.ref (w 3))])) (fun t k => XS.aloadN X6.here hx rfl (hb hby d1_18) rfl rfl k) ?_
        refine Go.step (S' := T6.setTop (mkF m 21 #[.val (.int x0), .val (.ref (w 0)), .val (.ref (w 3)), .val (.int (3 : Int32)), .val (.int (2 : Int32)), .val (.ref (w 1))] [(.int (2 : Int32)), (.ref (w 3))])) (fun t k => XS.iload X6.here hx rfl (hb hby d1_19) rfl k) ?_
        refine Go.step (S' := T6.setTop (mkF m 22 #[.val (.int x0), .val (.ref (w 0)), .val (.ref (w 3)), .val (.int (3 : Int32)), .val (.int (2 : Int32)), .val (.ref (w 1))] [(.ref (w 2))])) (fun t k => X6.aaload hx (j := (2 : Int32)) (v := (.ref (w 2))) (by rw [e6]; exact Ar.1) (State.isArrayOf_alike hZ.alike Ar.2.1) rfl Ar.2.2 (by rw [hsz]; decide) hat2 (g := (mkF m 21 #[.val (.int x0), .val (.ref (w 0)), .val (.ref (w 3)), .val (.int (3 : Int32)), .val (.int (2 : Int32)), .val (.ref (w 1))] [(.int (2 : Int32)), (.ref (w 3))])) rfl rfl (hb hby d1_21) _ k) ?_
        refine Go.step (S' := T6.setTop (mkF m 24 #[.val (.int x0), .val (.ref (w 0)), .val (.ref (w 3)), .val (.int (3 : Int32)), .val (.int (2 : Int32)), .val (.ref (w 2))] [])) (fun t k => XS.astore X6.here hx rfl (hb hby d1_22) rfl rfl (l' := #[.val (.int x0), .val (.ref (w 0)), .val (.ref (w 3)), .val (.int (3 : Int32)), .val (.int (2 : Int32)), .val (.ref (w 2))]) rfl k) ?_
        refine Go.step (S' := T6.setTop (mkF m 26 #[.val (.int x0), .val (.ref (w 0)), .val (.ref (w 3)), .val (.int (3 : Int32)), .val (.int (2 : Int32)), .val (.ref (w 2))] [(.ref (w 2))])) (fun t k => XS.aload X6.here hx rfl (hb hby d1_24) rfl rfl k) ?_
        obtain ⟨T14, X14, e14, st14⟩ := getF X6 hx hZ hown (host := "") (Or.inl (hw _ (List.mem_of_getElem? (i := 6) rfl))) Via.refl e6 F2 (g := (mkF m 26 #[.val (.int x0), .val (.ref (w 0)), .val (.ref (w 3)), .val (.int (3 : Int32)), .val (.int (2 : Int32)), .val (.ref (w 2))] [(.ref (w 2))])) rfl rfl (hb hby d1_26)
        refine Go.step (S' := T14.setTop (mkF m 29 #[.val (.int x0), .val (.ref (w 0)), .val (.ref (w 3)), .val (.int (3 : Int32)), .val (.int (2 : Int32)), .val (.ref (w 2))] [(.int (22 : Int32))])) (fun t k => st14 t k) ?_
        refine Go.step (S' := T14.setTop (mkF m 30 #[.val (.int x0), .val (.ref (w 0)), .val (.ref (w 3)), .val (.int (3 : Int32)), .val (.int (2 : Int32)), .val (.ref (w 2))] [(.int x0), (.int (22 : Int32))])) (fun t k => XS.iloadN X14.here hx rfl (hb hby d1_29) rfl k) ?_
        by_cases hc15 : (22 : Int32) = x0
        · rw [if_pos hc15] at hr
          refine Go.step (S' := T14.setTop (mkF m 33 #[.val (.int x0), .val (.ref (w 0)), .val (.ref (w 3)), .val (.int (3 : Int32)), .val (.int (2 : Int32)), .val (.ref (w 2))] [])) (fun t k => XS.icmpNo X14.here hx rfl (hb hby d1_30) rfl (teq hc15).2 k) ?_
          refine Go.step (S' := T14.setTop (mkF m 35 #[.val (.int x0), .val (.ref (w 0)), .val (.ref (w 3)), .val (.int (3 : Int32)), .val (.int (2 : Int32)), .val (.ref (w 2))] [(.ref (w 2))])) (fun t k => XS.aload X14.here hx rfl (hb hby d1_33) rfl rfl k) ?_
          refine Go.step (S' := T14.setTop (mkF m 36 #[.val (.int x0), .val (.ref (w 2)), .val (.ref (w 3)), .val (.int (3 : Int32)), .val (.int (2 : Int32)), .val (.ref (w 2))] [])) (fun t k => XS.astoreN X14.here hx rfl (hb hby d1_35) rfl rfl (l' := #[.val (.int x0), .val (.ref (w 2)), .val (.ref (w 3)), .val (.int (3 : Int32)), .val (.int (2 : Int32)), .val (.ref (w 2))]) rfl k) ?_
          refine Go.step (S' := T14.setTop (mkF m 39 #[.val (.int x0), .val (.ref (w 2)), .val (.ref (w 3)), .val (.int (3 : Int32)), .val (.int (3 : Int32)), .val (.ref (w 2))] [])) (fun t k => XS.iinc X14.here hx rfl (hb hby d1_36) rfl (l' := #[.val (.int x0), .val (.ref (w 2)), .val (.ref (w 3)), .val (.int (3 : Int32)), .val (.int (3 : Int32)), .val (.ref (w 2))]) rfl k) ?_
          refine Go.step (S' := T14.setTop (mkF m 12 #[.val (.int x0), .val (.ref (w 2)), .val (.ref (w 3)), .val (.int (3 : Int32)), .val (.int (3 : Int32)), .val (.ref (w 2))] [])) (fun t k => XS.goto X14.here hx rfl (pc0 := 39) (pc' := 12) rfl (hb hby d1_39) (by decide) (by decide) k) ?_
          refine Go.step (S' := T14.setTop (mkF m 14 #[.val (.int x0), .val (.ref (w 2)), .val (.ref (w 3)), .val (.int (3 : Int32)), .val (.int (3 : Int32)), .val (.ref (w 2))] [(.int (3 : Int32))])) (fun t k => XS.iload X14.here hx rfl (hb hby d1_12) rfl k) ?_
          refine Go.step (S' := T14.setTop (mkF m 15 #[.val (.int x0), .val (.ref (w 2)), .val (.ref (w 3)), .val (.int (3 : Int32)), .val (.int (3 : Int32)), .val (.ref (w 2))] [(.int (3 : Int32)), (.int (3 : Int32))])) (fun t k => XS.iloadN X14.here hx rfl (hb hby d1_14) rfl k) ?_
          refine Go.step (S' := T14.setTop (mkF m 42 #[.val (.int x0), .val (.ref (w 2)), .val (.ref (w 3)), .val (.int (3 : Int32)), .val (.int (3 : Int32)), .val (.ref (w 2))] [])) (fun t k => XS.icmpYes X14.here hx rfl (pc0 := 15) (pc' := 42) rfl (hb hby d1_15) rfl (flt (by decide : ¬ ((3 : Int32) < (3 : Int32)))).2.1 (by decide) (by decide) k) ?_
          refine Go.step (S' := T14.setTop (mkF m 43 #[.val (.int x0), .val (.ref (w 2)), .val (.ref (w 3)), .val (.int (3 : Int32)), .val (.int (3 : Int32)), .val (.ref (w 2))] [(.ref (w 2))])) (fun t k => XS.aloadN X14.here hx rfl (hb hby d1_42) rfl rfl k) ?_
          exact Go.retA X14 hx Bd.returns rfl rfl Bd.notSynchronized (hb hby d1_43) ⟨by rw [hr0, ← hr]; first | done | rfl, NF, e14⟩ (by decide) (by decide)
        · rw [if_neg hc15] at hr
          refine Go.step (S' := T14.setTop (mkF m 36 #[.val (.int x0), .val (.ref (w 0)), .val (.ref (w 3)), .val (.int (3 : Int32)), .val (.int (2 : Int32)), .val (.ref (w 2))] [])) (fun t k => XS.icmpYes X14.here hx rfl (pc0 := 30) (pc' := 36) rfl (hb hby d1_30) rfl (feq hc15).2 (by decide) (by decide) k) ?_
          refine Go.step (S' := T14.setTop (mkF m 39 #[.val (.int x0), .val (.ref (w 0)), .val (.ref (w 3)), .val (.int (3 : Int32)), .val (.int (3 : Int32)), .val (.ref (w 2))] [])) (fun t k => XS.iinc X14.here hx rfl (hb hby d1_36) rfl (l' := #[.val (.int x0), .val (.ref (w 0)), .val (.ref (w 3)), .val (.int (3 : Int32)), .val (.int (3 : Int32)), .val (.ref (w 2))]) rfl k) ?_
          refine Go.step (S' := T14.setTop (mkF m 12 #[.val (.int x0), .val (.ref (w 0)), .val (.ref (w 3)), .val (.int (3 : Int32)), .val (.int (3 : Int32)), .val (.ref (w 2))] [])) (fun t k => XS.goto X14.here hx rfl (pc0 := 39) (pc' := 12) rfl (hb hby d1_39) (by decide) (by decide) k) ?_
          refine Go.step (S' := T14.setTop (mkF m 14 #[.val (.int x0), .val (.ref (w 0)), .val (.ref (w 3)), .val (.int (3 : Int32)), .val (.int (3 : Int32)), .val (.ref (w 2))] [(.int (3 : Int32))])) (fun t k => XS.iload X14.here hx rfl (hb hby d1_12) rfl k) ?_
          refine Go.step (S' := T14.setTop (mkF m 15 #[.val (.int x0), .val (.ref (w 0)), .val (.ref (w 3)), .val (.int (3 : Int32)), .val (.int (3 : Int32)), .val (.ref (w 2))] [(.int (3 : Int32)), (.int (3 : Int32))])) (fun t k => XS.iloadN X14.here hx rfl (hb hby d1_14) rfl k) ?_
          refine Go.step (S' := T14.setTop (mkF m 42 #[.val (.int x0), .val (.ref (w 0)), .val (.ref (w 3)), .val (.int (3 : Int32)), .val (.int (3 : Int32)), .val (.ref (w 2))] [])) (fun t k => XS.icmpYes X14.here hx rfl (pc0 := 15) (pc' := 42) rfl (hb hby d1_15) rfl (flt (by decide : ¬ ((3 : Int32) < (3 : Int32)))).2.1 (by decide) (by decide) k) ?_
          refine Go.step (S' := T14.setTop (mkF m 43 #[.val (.int x0), .val (.ref (w 0)), .val (.ref (w 3)), .val (.int (3 : Int32)), .val (.int (3 : Int32)), .val (.ref (w 2))] [(.ref (w 0))])) (fun t k => XS.aloadN X14.here hx rfl (hb hby d1_42) rfl rfl k) ?_
          exact Go.retA X14 hx Bd.returns rfl rfl Bd.notSynchronized (hb hby d1_43) ⟨by rw [hr0, ← hr]; first | done | rfl, NF, e14⟩ (by decide) (by decide)
    · rw [if_neg hc4] at hr
      refine Go.step (S' := T3.setTop (mkF m 36 #[.val (.int x0), .val .null, .val (.ref (w 3)), .val (.int (3 : Int32)), .val (.int (0 : Int32)), .val (.ref (w 0))] [])) (fun t k => XS.icmpYes X3.here hx rfl (pc0 := 30) (pc' := 36) rfl (hb hby d1_30) rfl (feq hc4).2 (by decide) (by decide) k) ?_
      refine Go.step (S' := T3.setTop (mkF m 39 #[.val (.int x0), .val .null, .val (.ref (w 3)), .val (.int (3 : Int32)), .val (.int (1 : Int32)), .val (.ref (w 0))] [])) (fun t k => XS.iinc X3.here hx rfl (hb hby d1_36) rfl (l' := #[.val (.int x0), .val .null, .val (.ref (w 3)), .val (.int (3 : Int32)), .val (.int (1 : Int32)), .val (.ref (w 0))]) rfl k) ?_
      refine Go.step (S' := T3.setTop (mkF m 12 #[.val (.int x0), .val .null, .val (.ref (w 3)), .val (.int (3 : Int32)), .val (.int (1 : Int32)), .val (.ref (w 0))] [])) (fun t k => XS.goto X3.here hx rfl (pc0 := 39) (pc' := 12) rfl (hb hby d1_39) (by decide) (by decide) k) ?_
      refine Go.step (S' := T3.setTop (mkF m 14 #[.val (.int x0), .val .null, .val (.ref (w 3)), .val (.int (3 : Int32)), .val (.int (1 : Int32)), .val (.ref (w 0))] [(.int (1 : Int32))])) (fun t k => XS.iload X3.here hx rfl (hb hby d1_12) rfl k) ?_
      refine Go.step (S' := T3.setTop (mkF m 15 #[.val (.int x0), .val .null, .val (.ref (w 3)), .val (.int (3 : Int32)), .val (.int (1 : Int32)), .val (.ref (w 0))] [(.int (3 : Int32)), (.int (1 : Int32))])) (fun t k => XS.iloadN X3.here hx rfl (hb hby d1_14) rfl k) ?_
      refine Go.step (S' := T3.setTop (mkF m 18 #[.val (.int x0), .val .null, .val (.ref (w 3)), .val (.int (3 : Int32)), .val (.int (1 : Int32)), .val (.ref (w 0))] [])) (fun t k => XS.icmpNo X3.here hx rfl (hb hby d1_15) rfl (tlt (by decide : ((1 : Int32) < (3 : Int32)))).2.1 k) ?_
      refine Go.step (S' := T3.setTop (mkF m 19 #[.val (.int x0), .val .null, .val (.ref (w 3)), .val (.int (3 : Int32)), .val (.int (1 : Int32)), .val (.ref (w 0))] [(.ref (w 3))])) (fun t k => XS.aloadN X3.here hx rfl (hb hby d1_18) rfl rfl k) ?_
      refine Go.step (S' := T3.setTop (mkF m 21 #[.val (.int x0), .val .null, .val (.ref (w 3)), .val (.int (3 : Int32)), .val (.int (1 : Int32)), .val (.ref (w 0))] [(.int (1 : Int32)), (.ref (w 3))])) (fun t k => XS.iload X3.here hx rfl (hb hby d1_19) rfl k) ?_
      refine Go.step (S' := T3.setTop (mkF m 22 #[.val (.int x0), .val .null, .val (.ref (w 3)), .val (.int (3 : Int32)), .val (.int (1 : Int32)), .val (.ref (w 0))] [(.ref (w 1))])) (fun t k => X3.aaload hx (j := (1 : Int32)) (v := (.ref (w 1))) (by rw [e3]; exact Ar.1) (State.isArrayOf_alike hZ.alike Ar.2.1) rfl Ar.2.2 (by rw [hsz]; decide) hat1 (g := (mkF m 21 #[.val (.int x0), .val .null, .val (.ref (w 3)), .val (.int (3 : Int32)), .val (.int (1 : Int32)), .val (.ref (w 0))] [(.int (1 : Int32)), (.ref (w 3))])) rfl rfl (hb hby d1_21) _ k) ?_
      refine Go.step (S' := T3.setTop (mkF m 24 #[.val (.int x0), .val .null, .val (.ref (w 3)), .val (.int (3 : Int32)), .val (.int (1 : Int32)), .val (.ref (w 1))] [])) (fun t k => XS.astore X3.here hx rfl (hb hby d1_22) rfl rfl (l' := #[.val (.int x0), .val .null, .val (.ref (w 3)), .val (.int (3 : Int32)), .val (.int (1 : Int32)), .val (.ref (w 1))]) rfl k) ?_
      refine Go.step (S' := T3.setTop (mkF m 26 #[.val (.int x0), .val .null, .val (.ref (w 3)), .val (.int (3 : Int32)), .val (.int (1 : Int32)), .val (.ref (w 1))] [(.ref (w 1))])) (fun t k => XS.aload X3.here hx rfl (hb hby d1_24) rfl rfl k) ?_
      obtain ⟨T19, X19, e19, st19⟩ := getF X3 hx hZ hown (host := "") (Or.inl (hw _ (List.mem_of_getElem? (i := 6) rfl))) Via.refl e3 F1 (g := (mkF m 26 #[.val (.int x0), .val .null, .val (.ref (w 3)), .val (.int (3 : Int32)), .val (.int (1 : Int32)), .val (.ref (w 1))] [(.ref (w 1))])) rfl rfl (hb hby d1_26)
      refine Go.step (S' := T19.setTop (mkF m 29 #[.val (.int x0), .val .null, .val (.ref (w 3)), .val (.int (3 : Int32)), .val (.int (1 : Int32)), .val (.ref (w 1))] [(.int (21 : Int32))])) (fun t k => st19 t k) ?_
      refine Go.step (S' := T19.setTop (mkF m 30 #[.val (.int x0), .val .null, .val (.ref (w 3)), .val (.int (3 : Int32)), .val (.int (1 : Int32)), .val (.ref (w 1))] [(.int x0), (.int (21 : Int32))])) (fun t k => XS.iloadN X19.here hx rfl (hb hby d1_29) rfl k) ?_
      by_cases hc20 : (21 : Int32) = x0
      · rw [if_pos hc20] at hr
        refine Go.step (S' := T19.setTop (mkF m 33 #[.val (.int x0), .val .null, .val (.ref (w 3)), .val (.int (3 : Int32)), .val (.int (1 : Int32)), .val (.ref (w 1))] [])) (fun t k => XS.icmpNo X19.here hx rfl (hb hby d1_30) rfl (teq hc20).2 k) ?_
        refine Go.step (S' := T19.setTop (mkF m 35 #[.val (.int x0), .val .null, .val (.ref (w 3)), .val (.int (3 : Int32)), .val (.int (1 : Int32)), .val (.ref (w 1))] [(.ref (w 1))])) (fun t k => XS.aload X19.here hx rfl (hb hby d1_33) rfl rfl k) ?_
        refine Go.step (S' := T19.setTop (mkF m 36 #[.val (.int x0), .val (.ref (w 1)), .val (.ref (w 3)), .val (.int (3 : Int32)), .val (.int (1 : Int32)), .val (.ref (w 1))] [])) (fun t k => XS.astoreN X19.here hx rfl (hb hby d1_35) rfl rfl (l' := #[.val (.int x0), .val (.ref (w 1)), .val (.ref (w 3)), .val (.int (3 : Int32)), .val (.int (1 : Int32)), .val (.ref (w 1))]) rfl k) ?_
        refine Go.step (S' := T19.setTop (mkF m 39 #[.val (.int x0), .val (.ref (w 1)), .val (.ref (w 3)), .val (.int (3 : Int32)), .val (.int (2 : Int32)), .val (.ref (w 1))] [])) (fun t k => XS.iinc X19.here hx rfl (hb hby d1_36) rfl (l' := #[.val (.int x0), .val (.ref (w 1)), .val (.ref (w 3)), .val (.int (3 : Int32)), .val (.int (2 : Int32)), .val (.ref (w 1))]) rfl k) ?_
        refine Go.step (S' := T19.setTop (mkF m 12 #[.val (.int x0), .val (.ref (w 1)), .val (.ref (w 3)), .val (.int (3 : Int32)), .val (.int (2 : Int32)), .val (.ref (w 1))] [])) (fun t k => XS.goto X19.here hx rfl (pc0 := 39) (pc' := 12) rfl (hb hby d1_39) (by decide) (by decide) k) ?_
        refine Go.step (S' := T19.setTop (mkF m 14 #[.val (.int x0), .val (.ref (w 1)), .val (.ref (w 3)), .val (.int (3 : Int32)), .val (.int (2 : Int32)), .val (.ref (w 1))] [(.int (2 : Int32))])) (fun t k => XS.iload X19.here hx rfl (hb hby d1_12) rfl k) ?_
        refine Go.step (S' := T19.setTop (mkF m 15 #[.val (.int x0), .val (.ref (w 1)), .val (.ref (w 3)), .val (.int (3 : Int32)), .val (.int (2 : Int32)), .val (.ref (w 1))] [(.int (3 : Int32)), (.int (2 : Int32))])) (fun t k => XS.iloadN X19.here hx rfl (hb hby d1_14) rfl k) ?_
        refine Go.step (S' := T19.setTop (mkF m 18 #[.val (.int x0), .val (.ref (w 1)), .val (.ref (w 3)), .val (.int (3 : Int32)), .val (.int (2 : Int32)), .val (.ref (w 1))] [])) (fun t k => XS.icmpNo X19.here hx rfl (hb hby d1_15) rfl (tlt (by decide : ((2 : Int32) < (3 : Int32)))).2.1 k) ?_
        refine Go.step (S' := T19.setTop (mkF m 19 #[.val (.int x0), .val (.ref (w 1)), .val (.ref (w 3)), .val (.int (3 : Int32)), .val (.int (2 : Int32)), .val (.ref (w 1))] [(.ref (w 3))])) (fun t k => XS.aloadN X19.here hx rfl (hb hby d1_18) rfl rfl k) ?_
        refine Go.step (S' := T19.setTop (mkF m 21 #[.val (.int x0), .val (.ref (w 1)), .val (.ref (w 3)), .val (.int (3 : Int32)), .val (.int (2 : Int32)), .val (.ref (w 1))] [(.int (2 : Int32)), (.ref (w 3))])) (fun t k => XS.iload X19.here hx rfl (hb hby d1_19) rfl k) ?_
        refine Go.step (S' := T19.setTop (mkF m 22 #[.val (.int x0), .val (.ref (w 1)), .val (.ref (w 3)), .val (.int (3 : Int32)), .val (.int (2 : Int32)), .val (.ref (w 1))] [(.ref (w 2))])) (fun t k => X19.aaload hx (j := (2 : Int32)) (v := (.ref (w 2))) (by rw [e19]; exact Ar.1) (State.isArrayOf_alike hZ.alike Ar.2.1) rfl Ar.2.2 (by rw [hsz]; decide) hat2 (g := (mkF m 21 #[.val (.int x0), .val (.ref (w 1)), .val (.ref (w 3)), .val (.int (3 : Int32)), .val (.int (2 : Int32)), .val (.ref (w 1))] [(.int (2 : Int32)), (.ref (w 3))])) rfl rfl (hb hby d1_21) _ k) ?_
        refine Go.step (S' := T19.setTop (mkF m 24 #[.val (.int x0), .val (.ref (w 1)), .val (.ref (w 3)), .val (.int (3 : Int32)), .val (.int (2 : Int32)), .val (.ref (w 2))] [])) (fun t k => XS.astore X19.here hx rfl (hb hby d1_22) rfl rfl (l' := #[.val (.int x0), .val (.ref (w 1)), .val (.ref (w 3)), .val (.int (3 : Int32)), .val (.int (2 : Int32)), .val (.ref (w 2))]) rfl k) ?_
        refine Go.step (S' := T19.setTop (mkF m 26 #[.val (.int x0), .val (.ref (w 1)), .val (.ref (w 3)), .val (.int (3 : Int32)), .val (.int (2 : Int32)), .val (.ref (w 2))] [(.ref (w 2))])) (fun t k => XS.aload X19.here hx rfl (hb hby d1_24) rfl rfl k) ?_
        obtain ⟨T22, X22, e22, st22⟩ := getF X19 hx hZ hown (host := "") (Or.inl (hw _ (List.mem_of_getElem? (i := 6) rfl))) Via.refl e19 F2 (g := (mkF m 26 #[.val (.int x0), .val (.ref (w 1)), .val (.ref (w 3)), .val (.int (3 : Int32)), .val (.int (2 : Int32)), .val (.ref (w 2))] [(.ref (w 2))])) rfl rfl (hb hby d1_26)
        refine Go.step (S' := T22.setTop (mkF m 29 #[.val (.int x0), .val (.ref (w 1)), .val (.ref (w 3)), .val (.int (3 : Int32)), .val (.int (2 : Int32)), .val (.ref (w 2))] [(.int (22 : Int32))])) (fun t k => st22 t k) ?_
        refine Go.step (S' := T22.setTop (mkF m 30 #[.val (.int x0), .val (.ref (w 1)), .val (.ref (w 3)), .val (.int (3 : Int32)), .val (.int (2 : Int32)), .val (.ref (w 2))] [(.int x0), (.int (22 : Int32))])) (fun t k => XS.iloadN X22.here hx rfl (hb hby d1_29) rfl k) ?_
        by_cases hc23 : (22 : Int32) = x0
        · rw [if_pos hc23] at hr
          refine Go.step (S' := T22.setTop (mkF m 33 #[.val (.int x0), .val (.ref (w 1)), .val (.ref (w 3)), .val (.int (3 : Int32)), .val (.int (2 : Int32)), .val (.ref (w 2))] [])) (fun t k => XS.icmpNo X22.here hx rfl (hb hby d1_30) rfl (teq hc23).2 k) ?_
          refine Go.step (S' := T22.setTop (mkF m 35 #[.val (.int x0), .val (.ref (w 1)), .val (.ref (w 3)), .val (.int (3 : Int32)), .val (.int (2 : Int32)), .val (.ref (w 2))] [(.ref (w 2))])) (fun t k => XS.aload X22.here hx rfl (hb hby d1_33) rfl rfl k) ?_
          refine Go.step (S' := T22.setTop (mkF m 36 #[.val (.int x0), .val (.ref (w 2)), .val (.ref (w 3)), .val (.int (3 : Int32)), .val (.int (2 : Int32)), .val (.ref (w 2))] [])) (fun t k => XS.astoreN X22.here hx rfl (hb hby d1_35) rfl rfl (l' := #[.val (.int x0), .val (.ref (w 2)), .val (.ref (w 3)), .val (.int (3 : Int32)), .val (.int (2 : Int32)), .val (.ref (w 2))]) rfl k) ?_
          refine Go.step (S' := T22.setTop (mkF m 39 #[.val (.int x0), .val (.ref (w 2)), .val (.ref (w 3)), .val (.int (3 : Int32)), .val (.int (3 : Int32)), .val (.ref (w 2))] [])) (fun t k => XS.iinc X22.here hx rfl (hb hby d1_36) rfl (l' := #[.val (.int x0), .val (.ref (w 2)), .val (.ref (w 3)), .val (.int (3 : Int32)), .val (.int (3 : Int32)), .val (.ref (w 2))]) rfl k) ?_
          refine Go.step (S' := T22.setTop (mkF m 12 #[.val (.int x0), .val (.ref (w 2)), .val (.ref (w 3)), .val (.int (3 : Int32)), .val (.int (3 : Int32)), .val (.ref (w 2))] [])) (fun t k => XS.goto X22.here hx rfl (pc0 := 39) (pc' := 12) rfl (hb hby d1_39) (by decide) (by decide) k) ?_
          refine Go.step (S' := T22.setTop (mkF m 14 #[.val (.int x0), .val (.ref (w 2)), .val (.ref (w 3)), .val (.int (3 : Int32)), .val (.int (3 : Int32)), .val (.ref (w 2))] [(.int (3 : Int32))])) (fun t k => XS.iload X22.here hx rfl (hb hby d1_12) rfl k) ?_
          refine Go.step (S' := T22.setTop (mkF m 15 #[.val (.int x0), .val (.ref (w 2)), .val (.ref (w 3)), .val (.int (3 : Int32)), .val (.int (3 : Int32)), .val (.ref (w 2))] [(.int (3 : Int32)), (.int (3 : Int32))])) (fun t k => XS.iloadN X22.here hx rfl (hb hby d1_14) rfl k) ?_
          refine Go.step (S' := T22.setTop (mkF m 42 #[.val (.int x0), .val (.ref (w 2)), .val (.ref (w 3)), .val (.int (3 : Int32)), .val (.int (3 : Int32)), .val (.ref (w 2))] [])) (fun t k => XS.icmpYes X22.here hx rfl (pc0 := 15) (pc' := 42) rfl (hb hby d1_15) rfl (flt (by decide : ¬ ((3 : Int32) < (3 : Int32)))).2.1 (by decide) (by decide) k) ?_
          refine Go.step (S' := T22.setTop (mkF m 43 #[.val (.int x0), .val (.ref (w 2)), .val (.ref (w 3)), .val (.int (3 : Int32)), .val (.int (3 : Int32)), .val (.ref (w 2))] [(.ref (w 2))])) (fun t k => XS.aloadN X22.here hx rfl (hb hby d1_42) rfl rfl k) ?_
          exact Go.retA X22 hx Bd.returns rfl rfl Bd.notSynchronized (hb hby d1_43) ⟨by rw [hr0, ← hr]; first | done | rfl, NF, e22⟩ (by decide) (by decide)
        · rw [if_neg hc23] at hr
          refine Go.step (S' := T22.setTop (mkF m 36 #[.val (.int x0), .val (.ref (w 1)), .val (.ref (w 3)), .val (.int (3 : Int32)), .val (.int (2 : Int32)), .val (.ref (w 2))] [])) (fun t k => XS.icmpYes X22.here hx rfl (pc0 := 30) (pc' := 36) rfl (hb hby d1_30) rfl (feq hc23).2 (by decide) (by decide) k) ?_
          refine Go.step (S' := T22.setTop (mkF m 39 #[.val (.int x0), .val (.ref (w 1)), .val (.ref (w 3)), .val (.int (3 : Int32)), .val (.int (3 : Int32)), .val (.ref (w 2))] [])) (fun t k => XS.iinc X22.here hx rfl (hb hby d1_36) rfl (l' := #[.val (.int x0), .val (.ref (w 1)), .val (.ref (w 3)), .val (.int (3 : Int32)), .val (.int (3 : Int32)), .val (.ref (w 2))]) rfl k) ?_
          refine Go.step (S' := T22.setTop (mkF m 12 #[.val (.int x0), .val (.ref (w 1)), .val (.ref (w 3)), .val (.int (3 : Int32)), .val (.int (3 : Int32)), .val (.ref (w 2))] [])) (fun t k => XS.goto X22.here hx rfl (pc0 := 39) (pc' := 12) rfl (hb hby d1_39) (by decide) (by decide) k) ?_
          refine Go.step (S' := T22.setTop (mkF m 14 #[.val (.int x0), .val (.ref (w 1)), .val (.ref (w 3)), .val (.int (3 : Int32)), .val (.int (3 : Int32)), .val (.ref (w 2))] [(.int (3 : Int32))])) (fun t k => XS.iload X22.here hx rfl (hb hby d1_12) rfl k) ?_
          refine Go.step (S' := T22.setTop (mkF m 15 #[.val (.int x0), .val (.ref (w 1)), .val (.ref (w 3)), .val (.int (3 : Int32)), .val (.int (3 : Int32)), .val (.ref (w 2))] [(.int (3 : Int32)), (.int (3 : Int32))])) (fun t k => XS.iloadN X22.here hx rfl (hb hby d1_14) rfl k) ?_
          refine Go.step (S' := T22.setTop (mkF m 42 #[.val (.int x0), .val (.ref (w 1)), .val (.ref (w 3)), .val (.int (3 : Int32)), .val (.int (3 : Int32)), .val (.ref (w 2))] [])) (fun t k => XS.icmpYes X22.here hx rfl (pc0 := 15) (pc' := 42) rfl (hb hby d1_15) rfl (flt (by decide : ¬ ((3 : Int32) < (3 : Int32)))).2.1 (by decide) (by decide) k) ?_
          refine Go.step (S' := T22.setTop (mkF m 43 #[.val (.int x0), .val (.ref (w 1)), .val (.ref (w 3)), .val (.int (3 : Int32)), .val (.int (3 : Int32)), .val (.ref (w 2))] [(.ref (w 1))])) (fun t k => XS.aloadN X22.here hx rfl (hb hby d1_42) rfl rfl k) ?_
          exact Go.retA X22 hx Bd.returns rfl rfl Bd.notSynchronized (hb hby d1_43) ⟨by rw [hr0, ← hr]; first | done | rfl, NF, e22⟩ (by decide) (by decide)
      · rw [if_neg hc20] at hr
        refine Go.step (S' := T19.setTop (mkF m 36 #[.val (.int x0), .val .null, .val (.ref (w 3)), .val (.int (3 : Int32)), .val (.int (1 : Int32)), .val (.ref (w 1))] [])) (fun t k => XS.icmpYes X19.here hx rfl (pc0 := 30) (pc' := 36) rfl (hb hby d1_30) rfl (feq hc20).2 (by decide) (by decide) k) ?_
        refine Go.step (S' := T19.setTop (mkF m 39 #[.val (.int x0), .val .null, .val (.ref (w 3)), .val (.int (3 : Int32)), .val (.int (2 : Int32)), .val (.ref (w 1))] [])) (fun t k => XS.iinc X19.here hx rfl (hb hby d1_36) rfl (l' := #[.val (.int x0), .val .null, .val (.ref (w 3)), .val (.int (3 : Int32)), .val (.int (2 : Int32)), .val (.ref (w 1))]) rfl k) ?_
        refine Go.step (S' := T19.setTop (mkF m 12 #[.val (.int x0), .val .null, .val (.ref (w 3)), .val (.int (3 : Int32)), .val (.int (2 : Int32)), .val (.ref (w 1))] [])) (fun t k => XS.goto X19.here hx rfl (pc0 := 39) (pc' := 12) rfl (hb hby d1_39) (by decide) (by decide) k) ?_
        refine Go.step (S' := T19.setTop (mkF m 14 #[.val (.int x0), .val .null, .val (.ref (w 3)), .val (.int (3 : Int32)), .val (.int (2 : Int32)), .val (.ref (w 1))] [(.int (2 : Int32))])) (fun t k => XS.iload X19.here hx rfl (hb hby d1_12) rfl k) ?_
        refine Go.step (S' := T19.setTop (mkF m 15 #[.val (.int x0), .val .null, .val (.ref (w 3)), .val (.int (3 : Int32)), .val (.int (2 : Int32)), .val (.ref (w 1))] [(.int (3 : Int32)), (.int (2 : Int32))])) (fun t k => XS.iloadN X19.here hx rfl (hb hby d1_14) rfl k) ?_
        refine Go.step (S' := T19.setTop (mkF m 18 #[.val (.int x0), .val .null, .val (.ref (w 3)), .val (.int (3 : Int32)), .val (.int (2 : Int32)), .val (.ref (w 1))] [])) (fun t k => XS.icmpNo X19.here hx rfl (hb hby d1_15) rfl (tlt (by decide : ((2 : Int32) < (3 : Int32)))).2.1 k) ?_
        refine Go.step (S' := T19.setTop (mkF m 19 #[.val (.int x0), .val .null, .val (.ref (w 3)), .val (.int (3 : Int32)), .val (.int (2 : Int32)), .val (.ref (w 1))] [(.ref (w 3))])) (fun t k => XS.aloadN X19.here hx rfl (hb hby d1_18) rfl rfl k) ?_
        refine Go.step (S' := T19.setTop (mkF m 21 #[.val (.int x0), .val .null, .val (.ref (w 3)), .val (.int (3 : Int32)), .val (.int (2 : Int32)), .val (.ref (w 1))] [(.int (2 : Int32)), (.ref (w 3))])) (fun t k => XS.iload X19.here hx rfl (hb hby d1_19) rfl k) ?_
        refine Go.step (S' := T19.setTop (mkF m 22 #[.val (.int x0), .val .null, .val (.ref (w 3)), .val (.int (3 : Int32)), .val (.int (2 : Int32)), .val (.ref (w 1))] [(.ref (w 2))])) (fun t k => X19.aaload hx (j := (2 : Int32)) (v := (.ref (w 2))) (by rw [e19]; exact Ar.1) (State.isArrayOf_alike hZ.alike Ar.2.1) rfl Ar.2.2 (by rw [hsz]; decide) hat2 (g := (mkF m 21 #[.val (.int x0), .val .null, .val (.ref (w 3)), .val (.int (3 : Int32)), .val (.int (2 : Int32)), .val (.ref (w 1))] [(.int (2 : Int32)), (.ref (w 3))])) rfl rfl (hb hby d1_21) _ k) ?_
        refine Go.step (S' := T19.setTop (mkF m 24 #[.val (.int x0), .val .null, .val (.ref (w 3)), .val (.int (3 : Int32)), .val (.int (2 : Int32)), .val (.ref (w 2))] [])) (fun t k => XS.astore X19.here hx rfl (hb hby d1_22) rfl rfl (l' := #[.val (.int x0), .val .null, .val (.ref (w 3)), .val (.int (3 : Int32)), .val (.int (2 : Int32)), .val (.ref (w 2))]) rfl k) ?_
        refine Go.step (S' := T19.setTop (mkF m 26 #[.val (.int x0), .val .null, .val (.ref (w 3)), .val (.int (3 : Int32)), .val (.int (2 : Int32)), .val (.ref (w 2))] [(.ref (w 2))])) (fun t k => XS.aload X19.here hx rfl (hb hby d1_24) rfl rfl k) ?_
        obtain ⟨T27, X27, e27, st27⟩ := getF X19 hx hZ hown (host := "") (Or.inl (hw _ (List.mem_of_getElem? (i := 6) rfl))) Via.refl e19 F2 (g := (mkF m 26 #[.val (.int x0), .val .null, .val (.ref (w 3)), .val (.int (3 : Int32)), .val (.int (2 : Int32)), .val (.ref (w 2))] [(.ref (w 2))])) rfl rfl (hb hby d1_26)
        refine Go.step (S' := T27.setTop (mkF m 29 #[.val (.int x0), .val .null, .val (.ref (w 3)), .val (.int (3 : Int32)), .val (.int (2 : Int32)), .val (.ref (w 2))] [(.int (22 : Int32))])) (fun t k => st27 t k) ?_
        refine Go.step (S' := T27.setTop (mkF m 30 #[.val (.int x0), .val .null, .val (.ref (w 3)), .val (.int (3 : Int32)), .val (.int (2 : Int32)), .val (.ref (w 2))] [(.int x0), (.int (22 : Int32))])) (fun t k => XS.iloadN X27.here hx rfl (hb hby d1_29) rfl k) ?_
        by_cases hc28 : (22 : Int32) = x0
        · rw [if_pos hc28] at hr
          refine Go.step (S' := T27.setTop (mkF m 33 #[.val (.int x0), .val .null, .val (.ref (w 3)), .val (.int (3 : Int32)), .val (.int (2 : Int32)), .val (.ref (w 2))] [])) (fun t k => XS.icmpNo X27.here hx rfl (hb hby d1_30) rfl (teq hc28).2 k) ?_
          refine Go.step (S' := T27.setTop (mkF m 35 #[.val (.int x0), .val .null, .val (.ref (w 3)), .val (.int (3 : Int32)), .val (.int (2 : Int32)), .val (.ref (w 2))] [(.ref (w 2))])) (fun t k => XS.aload X27.here hx rfl (hb hby d1_33) rfl rfl k) ?_
          refine Go.step (S' := T27.setTop (mkF m 36 #[.val (.int x0), .val (.ref (w 2)), .val (.ref (w 3)), .val (.int (3 : Int32)), .val (.int (2 : Int32)), .val (.ref (w 2))] [])) (fun t k => XS.astoreN X27.here hx rfl (hb hby d1_35) rfl rfl (l' := #[.val (.int x0), .val (.ref (w 2)), .val (.ref (w 3)), .val (.int (3 : Int32)), .val (.int (2 : Int32)), .val (.ref (w 2))]) rfl k) ?_
          refine Go.step (S' := T27.setTop (mkF m 39 #[.val (.int x0), .val (.ref (w 2)), .val (.ref (w 3)), .val (.int (3 : Int32)), .val (.int (3 : Int32)), .val (.ref (w 2))] [])) (fun t k => XS.iinc X27.here hx rfl (hb hby d1_36) rfl (l' := #[.val (.int x0), .val (.ref (w 2)), .val (.ref (w 3)), .val (.int (3 : Int32)), .val (.int (3 : Int32)), .val (.ref (w 2))]) rfl k) ?_
          refine Go.step (S' := T27.setTop (mkF m 12 #[.val (.int x0), .val (.ref (w 2)), .val (.ref (w 3)), .val (.int (3 : Int32)), .val (.int (3 : Int32)), .val (.ref (w 2))] [])) (fun t k => XS.goto X27.here hx rfl (pc0 := 39) (pc' := 12) rfl (hb hby d1_39) (by decide) (by decide) k) ?_
          refine Go.step (S' := T27.setTop (mkF m 14 #[.val (.int x0), .val (.ref (w 2)), .val (.ref (w 3)), .val (.int (3 : Int32)), .val (.int (3 : Int32)), .val (.ref (w 2))] [(.int (3 : Int32))])) (fun t k => XS.iload X27.here hx rfl (hb hby d1_12) rfl k) ?_
          refine Go.step (S' := T27.setTop (mkF m 15 #[.val (.int x0), .val (.ref (w 2)), .val (.ref (w 3)), .val (.int (3 : Int32)), .val (.int (3 : Int32)), .val (.ref (w 2))] [(.int (3 : Int32)), (.int (3 : Int32))])) (fun t k => XS.iloadN X27.here hx rfl (hb hby d1_14) rfl k) ?_
          refine Go.step (S' := T27.setTop (mkF m 42 #[.val (.int x0), .val (.ref (w 2)), .val (.ref (w 3)), .val (.int (3 : Int32)), .val (.int (3 : Int32)), .val (.ref (w 2))] [])) (fun t k => XS.icmpYes X27.here hx rfl (pc0 := 15) (pc' := 42) rfl (hb hby d1_15) rfl (flt (by decide : ¬ ((3 : Int32) < (3 : Int32)))).2.1 (by decide) (by decide) k) ?_
          refine Go.step (S' := T27.setTop (mkF m 43 #[.val (.int x0), .val (.ref (w 2)), .val (.ref (w 3)), .val (.int (3 : Int32)), .val (.int (3 : Int32)), .val (.ref (w 2))] [(.ref (w 2))])) (fun t k => XS.aloadN X27.here hx rfl (hb hby d1_42) rfl rfl k) ?_
          exact Go.retA X27 hx Bd.returns rfl rfl Bd.notSynchronized (hb hby d1_43) ⟨by rw [hr0, ← hr]; first | done | rfl, NF, e27⟩ (by decide) (by decide)
        · rw [if_neg hc28] at hr
          refine Go.step (S' := T27.setTop (mkF m 36 #[.val (.int x0), .val .null, .val (.ref (w 3)), .val (.int (3 : Int32)), .val (.int (2 : Int32)), .val (.ref (w 2))] [])) (fun t k => XS.icmpYes X27.here hx rfl (pc0 := 30) (pc' := 36) rfl (hb hby d1_30) rfl (feq hc28).2 (by decide) (by decide) k) ?_
          refine Go.step (S' := T27.setTop (mkF m 39 #[.val (.int x0), .val .null, .val (.ref (w 3)), .val (.int (3 : Int32)), .val (.int (3 : Int32)), .val (.ref (w 2))] [])) (fun t k => XS.iinc X27.here hx rfl (hb hby d1_36) rfl (l' := #[.val (.int x0), .val .null, .val (.ref (w 3)), .val (.int (3 : Int32)), .val (.int (3 : Int32)), .val (.ref (w 2))]) rfl k) ?_
          refine Go.step (S' := T27.setTop (mkF m 12 #[.val (.int x0), .val .null, .val (.ref (w 3)), .val (.int (3 : Int32)), .val (.int (3 : Int32)), .val (.ref (w 2))] [])) (fun t k => XS.goto X27.here hx rfl (pc0 := 39) (pc' := 12) rfl (hb hby d1_39) (by decide) (by decide) k) ?_
          refine Go.step (S' := T27.setTop (mkF m 14 #[.val (.int x0), .val .null, .val (.ref (w 3)), .val (.int (3 : Int32)), .val (.int (3 : Int32)), .val (.ref (w 2))] [(.int (3 : Int32))])) (fun t k => XS.iload X27.here hx rfl (hb hby d1_12) rfl k) ?_
          refine Go.step (S' := T27.setTop (mkF m 15 #[.val (.int x0), .val .null, .val (.ref (w 3)), .val (.int (3 : Int32)), .val (.int (3 : Int32)), .val (.ref (w 2))] [(.int (3 : Int32)), (.int (3 : Int32))])) (fun t k => XS.iloadN X27.here hx rfl (hb hby d1_14) rfl k) ?_
          refine Go.step (S' := T27.setTop (mkF m 42 #[.val (.int x0), .val .null, .val (.ref (w 3)), .val (.int (3 : Int32)), .val (.int (3 : Int32)), .val (.ref (w 2))] [])) (fun t k => XS.icmpYes X27.here hx rfl (pc0 := 15) (pc' := 42) rfl (hb hby d1_15) rfl (flt (by decide : ¬ ((3 : Int32) < (3 : Int32)))).2.1 (by decide) (by decide) k) ?_
          refine Go.step (S' := T27.setTop (mkF m 43 #[.val (.int x0), .val .null, .val (.ref (w 3)), .val (.int (3 : Int32)), .val (.int (3 : Int32)), .val (.ref (w 2))] [.null])) (fun t k => XS.aloadN X27.here hx rfl (hb hby d1_42) rfl rfl k) ?_
          exact Go.retA X27 hx Bd.returns rfl rfl Bd.notSynchronized (hb hby d1_43) ⟨by rw [hr0, ← hr]; first | done | rfl, NF, e27⟩ (by decide) (by decide)
  show Go p e below s (Q1 x0 w cl h0 n0) ({ frames := 0, cells := 0, slots := 0, locals := 0 } : Room).cells ({ frames := 0, cells := 0, slots := 0, locals := 0 } : Room).slots (s₁.setTop (entryFrame m #[(.int x0)] 6))
  rw [ef1]
  exact B0 s₁ [] X0 e0 (Fr.nil n0) hr0
theorem d2_0 : decode method_2_code 0 = .ok (.iload_n 0, 1) := by decide +kernel
theorem d2_1 : decode method_2_code 1 = .ok (.bipush 20, 2) := by decide +kernel
theorem d2_3 : decode method_2_code 3 = .ok (.if_icmp .ne 10, 3) := by decide +kernel
theorem d2_6 : decode method_2_code 6 = .ok (.getstatic 7, 3) := by decide +kernel
theorem d2_9 : decode method_2_code 9 = .ok (.astore_n 1, 1) := by decide +kernel
theorem d2_10 : decode method_2_code 10 = .ok (.goto 31, 3) := by decide +kernel
theorem d2_13 : decode method_2_code 13 = .ok (.iload_n 0, 1) := by decide +kernel
theorem d2_14 : decode method_2_code 14 = .ok (.bipush 21, 2) := by decide +kernel
theorem d2_16 : decode method_2_code 16 = .ok (.if_icmp .ne 10, 3) := by decide +kernel
theorem d2_19 : decode method_2_code 19 = .ok (.getstatic 13, 3) := by decide +kernel
theorem d2_22 : decode method_2_code 22 = .ok (.astore_n 1, 1) := by decide +kernel
theorem d2_23 : decode method_2_code 23 = .ok (.goto 18, 3) := by decide +kernel
theorem d2_26 : decode method_2_code 26 = .ok (.iload_n 0, 1) := by decide +kernel
theorem d2_27 : decode method_2_code 27 = .ok (.bipush 22, 2) := by decide +kernel
theorem d2_29 : decode method_2_code 29 = .ok (.if_icmp .ne 10, 3) := by decide +kernel
theorem d2_32 : decode method_2_code 32 = .ok (.getstatic 16, 3) := by decide +kernel
theorem d2_35 : decode method_2_code 35 = .ok (.astore_n 1, 1) := by decide +kernel
theorem d2_36 : decode method_2_code 36 = .ok (.goto 5, 3) := by decide +kernel
theorem d2_39 : decode method_2_code 39 = .ok (.aconst_null, 1) := by decide +kernel
theorem d2_40 : decode method_2_code 40 = .ok (.astore_n 1, 1) := by decide +kernel
theorem d2_41 : decode method_2_code 41 = .ok (.aload_n 1, 1) := by decide +kernel
theorem d2_42 : decode method_2_code 42 = .ok (.areturn, 1) := by decide +kernel
theorem pn1 : plainName "com/example/hearthwire/hearthwire/cbor/CborSimpleFromNumberPinLaw" = true := by first | (simp [plainName, overriddenIn]; done) | decide +kernel
theorem ef2 (m : MethodId) (x0 : Int32) : entryFrame m #[(.int x0)] 2 = mkF m 0 #[.val (.int x0), .unset] [] := by first | (simp [entryFrame, mkF, argsToLocals, Value.category]; done) | rfl
def f2 (x0 : Int32) (w : Nat → Addr) : Value := (if x0 = (20 : Int32) then (.ref (w 0)) else (if x0 = (21 : Int32) then (.ref (w 1)) else (if x0 = (22 : Int32) then (.ref (w 2)) else .null)))
def Q2 (x0 : Int32) (w : Nat → Addr) (h0 : Heap) (n0 : Nat) (v : Option Value) (h : Heap) (L : List Loc) : Prop := v = some (f2 x0 w) ∧ Fr n0 L ∧ h = h0
set_option maxRecDepth 65536 in
set_option maxHeartbeats 40000000 in
theorem rm2 (l : Launch) (Z : State) (a0 : Array Value) (hw : ∀ d ∈ tables_1, d.before a0 Z = true) (ws : List Jvm.Cond) (x0 : Int32) (w : Nat → Addr) (h0 : Heap) (n0 : Nat) (Z0 : n0 ≤ h0.size) (S_FALSE : Sta Z h0 "com/example/hearthwire/hearthwire/cbor/CborSimple" "FALSE" "Lcom/example/hearthwire/hearthwire/cbor/CborSimple;" (.ref (w 0))) (S_TRUE : Sta Z h0 "com/example/hearthwire/hearthwire/cbor/CborSimple" "TRUE" "Lcom/example/hearthwire/hearthwire/cbor/CborSimple;" (.ref (w 1))) (S_NULL : Sta Z h0 "com/example/hearthwire/hearthwire/cbor/CborSimple" "NULL" "Lcom/example/hearthwire/hearthwire/cbor/CborSimple;" (.ref (w 2))) :
    MetFree l (⟨"com/example/hearthwire/hearthwire/cbor/CborSimpleFromNumberPinLaw", "expected", "(I)Lcom/example/hearthwire/hearthwire/cbor/CborSimple;"⟩ : MethodName) (head1 (Jvm.Cond.code (⟨"com/example/hearthwire/hearthwire/cbor/CborSimpleFromNumberPinLaw", "expected", "(I)Lcom/example/hearthwire/hearthwire/cbor/CborSimple;"⟩ : MethodName) method_2_code 2 (some (.object "com/example/hearthwire/hearthwire/cbor/CborSimple")) :: ws) ({ frames := 0, cells := 0, slots := 0, locals := 0 } : Room)) (fun a U => a = #[(.int x0)] ∧ Z.Warmed39 U.vm ∧ U.heap = h0) (fun _ _ _ _ _ => True) (fun _ U o U' => ∃ v L, o = .returned v ∧ Q2 x0 w h0 n0 v U'.heap L ∧ FrameEnd U o U' L ({ frames := 0, cells := 0, slots := 0, locals := 0 } : Room).cells ({ frames := 0, cells := 0, slots := 0, locals := 0 } : Room).slots) := by
  refine MetFree.of_bodySF (plainFor_of_name pn1) hisR ?_
  intro p e s m args below meth c s₁ Bd hml0 hP hK
  obtain ⟨rfl, hZ, hh⟩ := hP
  have hx := Bd.exec
  have hby := Bd.bytes
  have hml : c.maxLocals = 2 := hml0
  have hown : s.vm.findClass "com/example/hearthwire/hearthwire/cbor/CborSimpleFromNumberPinLaw" = some m.cls := findClass_of_methodNamed Bd.named
  have X0 : Stand p l e ({ frames := 0, cells := 0, slots := 0, locals := 0 } : Room) s m #[(.int x0)] below meth c s₁ [] 0 0 := Stand.of_body Bd
  have e0 : s₁.heap = h0 := by rw [← hh, Bd.state]; rfl
  obtain ⟨r, hr0⟩ : ∃ r, f2 x0 w = r := ⟨_, rfl⟩
  have B0 : ∀  (T : State) (locs : List Loc) (X : Stand p l e ({ frames := 0, cells := 0, slots := 0, locals := 0 } : Room) s m #[(.int x0)] below meth c T locs 0 0) (eT : T.heap = h0) (NF : Fr n0 locs) (hr : f2 x0 w = r), Go p e below s (Q2 x0 w h0 n0) ({ frames := 0, cells := 0, slots := 0, locals := 0 } : Room).cells ({ frames := 0, cells := 0, slots := 0, locals := 0 } : Room).slots (T.setTop (mkF m 0 #[.val (.int x0), .unset] [])) := by
    intro  T locs X eT NF hr
    unfold f2 at hr
    refine Go.step (S' := T.setTop (mkF m 1 #[.val (.int x0), .unset] [(.int x0)])) (fun t k => XS.iloadN X.here hx rfl (hb hby d2_0) rfl k) ?_
    refine Go.step (S' := T.setTop (mkF m 3 #[.val (.int x0), .unset] [(.int (20 : Int32)), (.int x0)])) (fun t k => XS.bipush X.here hx rfl (hb hby d2_1) k) ?_
    by_cases hc1 : x0 = (20 : Int32)
    · rw [if_pos hc1] at hr
      refine Go.step (S' := T.setTop (mkF m 6 #[.val (.int x0), .unset] [])) (fun t k => XS.icmpNo X.here hx rfl (hb hby d2_3) rfl (teq hc1).2 k) ?_
      obtain ⟨T2, X2, e2, st2⟩ := getS2 X hx hZ hown (host := "") (Or.inl (hw _ (List.mem_of_getElem? (i := 12) rfl))) Via.refl eT S_FALSE (g := (mkF m 6 #[.val (.int x0), .unset] [])) rfl (hb hby d2_6)
      refine Go.step (S' := T2.setTop (mkF m 9 #[.val (.int x0), .unset] [(.ref (w 0))])) (fun t k => st2 t k) ?_
      refine Go.step (S' := T2.setTop (mkF m 10 #[.val (.int x0), .val (.ref (w 0))] [])) (fun t k => XS.astoreN X2.here hx rfl (hb hby d2_9) rfl rfl (l' := #[.val (.int x0), .val (.ref (w 0))]) rfl k) ?_
      refine Go.step (S' := T2.setTop (mkF m 41 #[.val (.int x0), .val (.ref (w 0))] [])) (fun t k => XS.goto X2.here hx rfl (pc0 := 10) (pc' := 41) rfl (hb hby d2_10) (by decide) (by decide) k) ?_
      refine Go.step (S' := T2.setTop (mkF m 42 #[.val (.int x0), .val (.ref (w 0))] [(.ref (w 0))])) (fun t k => XS.aloadN X2.here hx rfl (hb hby d2_41) rfl rfl k) ?_
      exact Go.retA X2 hx Bd.returns rfl rfl Bd.notSynchronized (hb hby d2_42) ⟨by rw [hr0, ← hr]; first | done | rfl, NF, e2⟩ (by decide) (by decide)
    · rw [if_neg hc1] at hr
      refine Go.step (S' := T.setTop (mkF m 13 #[.val (.int x0), .unset] [])) (fun t k => XS.icmpYes X.here hx rfl (pc0 := 3) (pc' := 13) rfl (hb hby d2_3) rfl (feq hc1).2 (by decide) (by decide) k) ?_
      refine Go.step (S' := T.setTop (mkF m 14 #[.val (.int x0), .unset] [(.int x0)])) (fun t k => XS.iloadN X.here hx rfl (hb hby d2_13) rfl k) ?_
      refine Go.step (S' := T.setTop (mkF m 16 #[.val (.int x0), .unset] [(.int (21 : Int32)), (.int x0)])) (fun t k => XS.bipush X.here hx rfl (hb hby d2_14) k) ?_
      by_cases hc3 : x0 = (21 : Int32)
      · rw [if_pos hc3] at hr
        refine Go.step (S' := T.setTop (mkF m 19 #[.val (.int x0), .unset] [])) (fun t k => XS.icmpNo X.here hx rfl (hb hby d2_16) rfl (teq hc3).2 k) ?_
        obtain ⟨T4, X4, e4, st4⟩ := getS2 X hx hZ hown (host := "") (Or.inl (hw _ (List.mem_of_getElem? (i := 14) rfl))) Via.refl eT S_TRUE (g := (mkF m 19 #[.val (.int x0), .unset] [])) rfl (hb hby d2_19)
        refine Go.step (S' := T4.setTop (mkF m 22 #[.val (.int x0), .unset] [(.ref (w 1))])) (fun t k => st4 t k) ?_
        refine Go.step (S' := T4.setTop (mkF m 23 #[.val (.int x0), .val (.ref (w 1))] [])) (fun t k => XS.astoreN X4.here hx rfl (hb hby d2_22) rfl rfl (l' := #[.val (.int x0), .val (.ref (w 1))]) rfl k) ?_
        refine Go.step (S' := T4.setTop (mkF m 41 #[.val (.int x0), .val (.ref (w 1))] [])) (fun t k => XS.goto X4.here hx rfl (pc0 := 23) (pc' := 41) rfl (hb hby d2_23) (by decide) (by decide) k) ?_
        refine Go.step (S' := T4.setTop (mkF m 42 #[.val (.int x0), .val (.ref (w 1))] [(.ref (w 1))])) (fun t k => XS.aloadN X4.here hx rfl (hb hby d2_41) rfl rfl k) ?_
        exact Go.retA X4 hx Bd.returns rfl rfl Bd.notSynchronized (hb hby d2_42) ⟨by rw [hr0, ← hr]; first | done | rfl, NF, e4⟩ (by decide) (by decide)
      · rw [if_neg hc3] at hr
        refine Go.step (S' := T.setTop (mkF m 26 #[.val (.int x0), .unset] [])) (fun t k => XS.icmpYes X.here hx rfl (pc0 := 16) (pc' := 26) rfl (hb hby d2_16) rfl (feq hc3).2 (by decide) (by decide) k) ?_
        refine Go.step (S' := T.setTop (mkF m 27 #[.val (.int x0), .unset] [(.int x0)])) (fun t k => XS.iloadN X.here hx rfl (hb hby d2_26) rfl k) ?_
        refine Go.step (S' := T.setTop (mkF m 29 #[.val (.int x0), .unset] [(.int (22 : Int32)), (.int x0)])) (fun t k => XS.bipush X.here hx rfl (hb hby d2_27) k) ?_
        by_cases hc5 : x0 = (22 : Int32)
        · rw [if_pos hc5] at hr
          refine Go.step (S' := T.setTop (mkF m 32 #[.val (.int x0), .unset] [])) (fun t k => XS.icmpNo X.here hx rfl (hb hby d2_29) rfl (teq hc5).2 k) ?_
          obtain ⟨T6, X6, e6, st6⟩ := getS2 X hx hZ hown (host := "") (Or.inl (hw _ (List.mem_of_getElem? (i := 16) rfl))) Via.refl eT S_NULL (g := (mkF m 32 #[.val (.int x0), .unset] [])) rfl (hb hby d2_32)
          refine Go.step (S' := T6.setTop (mkF m 35 #[.val (.int x0), .unset] [(.ref (w 2))])) (fun t k => st6 t k) ?_
          refine Go.step (S' := T6.setTop (mkF m 36 #[.val (.int x0), .val (.ref (w 2))] [])) (fun t k => XS.astoreN X6.here hx rfl (hb hby d2_35) rfl rfl (l' := #[.val (.int x0), .val (.ref (w 2))]) rfl k) ?_
          refine Go.step (S' := T6.setTop (mkF m 41 #[.val (.int x0), .val (.ref (w 2))] [])) (fun t k => XS.goto X6.here hx rfl (pc0 := 36) (pc' := 41) rfl (hb hby d2_36) (by decide) (by decide) k) ?_
          refine Go.step (S' := T6.setTop (mkF m 42 #[.val (.int x0), .val (.ref (w 2))] [(.ref (w 2))])) (fun t k => XS.aloadN X6.here hx rfl (hb hby d2_41) rfl rfl k) ?_
          exact Go.retA X6 hx Bd.returns rfl rfl Bd.notSynchronized (hb hby d2_42) ⟨by rw [hr0, ← hr]; first | done | rfl, NF, e6⟩ (by decide) (by decide)
        · rw [if_neg hc5] at hr
          refine Go.step (S' := T.setTop (mkF m 39 #[.val (.int x0), .unset] [])) (fun t k => XS.icmpYes X.here hx rfl (pc0 := 29) (pc' := 39) rfl (hb hby d2_29) rfl (feq hc5).2 (by decide) (by decide) k) ?_
          refine Go.step (S' := T.setTop (mkF m 40 #[.val (.int x0), .unset] [.null])) (fun t k => XS.aconstNull X.here hx rfl (hb hby d2_39) k) ?_
          refine Go.step (S' := T.setTop (mkF m 41 #[.val (.int x0), .val .null] [])) (fun t k => XS.astoreN X.here hx rfl (hb hby d2_40) rfl rfl (l' := #[.val (.int x0), .val .null]) rfl k) ?_
          refine Go.step (S' := T.setTop (mkF m 42 #[.val (.int x0), .val .null] [.null])) (fun t k => XS.aloadN X.here hx rfl (hb hby d2_41) rfl rfl k) ?_
          exact Go.retA X hx Bd.returns rfl rfl Bd.notSynchronized (hb hby d2_42) ⟨by rw [hr0, ← hr]; first | done | rfl, NF, eT⟩ (by decide) (by decide)
  show Go p e below s (Q2 x0 w h0 n0) ({ frames := 0, cells := 0, slots := 0, locals := 0 } : Room).cells ({ frames := 0, cells := 0, slots := 0, locals := 0 } : Room).slots (s₁.setTop (entryFrame m #[(.int x0)] 2))
  rw [ef2]
  exact B0 s₁ [] X0 e0 (Fr.nil n0) hr0
theorem own_itp {α : Type} {R : α → Prop} {P : Prop} [Decidable P] {a b : α} (h1 : P → R a) (h2 : ¬ P → R b) : R (if P then a else b) := by
  by_cases h : P
  · rw [if_pos h]; exact h1 h
  · rw [if_neg h]; exact h2 h
theorem own_ref1 (n : Int32) (w : Nat → Addr) (cl : Cell) : (f1 n w cl).isRef = true := by
  unfold f1
  (repeat' refine own_itp (R := fun z : Value => z.isRef = true) (fun _ => ?_) (fun _ => ?_)) <;> rfl
theorem own_ref2 (n : Int32) (w : Nat → Addr) : (f2 n w).isRef = true := by
  unfold f2
  (repeat' refine own_itp (R := fun z : Value => z.isRef = true) (fun _ => ?_) (fun _ => ?_)) <;> rfl
theorem pd1 : parseMethodDescriptor "(II)Z" = some ⟨[.int, .int], some .boolean⟩ := by decide +kernel
theorem ef0 (m : MethodId) (x0 : Int32) (x1 : Int32) : entryFrame m #[(.int x0), (.int x1)] maxLocals = mkF m 0 #[.val (.int x0), .val (.int x1), .unset, .unset, .unset] [] := by first | (simp [entryFrame, mkF, argsToLocals, Value.category, maxLocals]; done) | rfl
def f0_29 (x0 : Int32) (x1 : Int32) (w : Nat → Addr) (cl : Cell) (l2_29 : Int32) (s0_29 : Int32) : Int32 := (if (f1 s0_29 w cl) = (f2 s0_29 w) then (1 : Int32) else (0 : Int32))
def f0_11 (x0 : Int32) (x1 : Int32) (w : Nat → Addr) (cl : Cell) (s0_11 : Int32) : Int32 := (if s0_11 = (0 : Int32) then (f0_29 x0 x1 w cl s0_11 x0) else (f0_29 x0 x1 w cl s0_11 ((18 : Int32) + (((x1.toUInt32 >>> ((1 : Int32) &&& 31).toUInt32).toInt32) &&& (7 : Int32)))))
def f0 (x0 : Int32) (x1 : Int32) (w : Nat → Addr) (cl : Cell) : Int32 := (if (x1 &&& (1 : Int32)) = (0 : Int32) then (f0_11 x0 x1 w cl (0 : Int32)) else (f0_11 x0 x1 w cl (1 : Int32)))
def Q0 (x0 : Int32) (x1 : Int32) (w : Nat → Addr) (cl : Cell) (h0 : Heap) (n0 : Nat) (v : Option Value) (h : Heap) (L : List Loc) : Prop := v = some (.int (f0 x0 x1 w cl)) ∧ Fr n0 L ∧ h = h0
set_option maxRecDepth 65536 in
set_option maxHeartbeats 40000000 in
theorem rm0 (l : Launch) (Z : State) (a0 : Array Value) (hw : ∀ d ∈ tables_1, d.before a0 Z = true) (ws : List Jvm.Cond) (x0 : Int32) (x1 : Int32) (w : Nat → Addr) (cl : Cell) (h0 : Heap) (n0 : Nat) (Z0 : n0 ≤ h0.size) (S_ALL : Sta Z h0 "com/example/hearthwire/hearthwire/cbor/CborSimple" "ALL" "[Lcom/example/hearthwire/hearthwire/cbor/CborSimple;" (.ref (w 3))) (Ar : Arr Z h0 (w 3) cl (.object "com/example/hearthwire/hearthwire/cbor/CborSimple")) (hsz : cl.slots.size = 3) (hat0 : cl.slots[0]? = some (.ref (w 0))) (hat1 : cl.slots[1]? = some (.ref (w 1))) (hat2 : cl.slots[2]? = some (.ref (w 2))) (F0 : Fld Z h0 (w 0) "com/example/hearthwire/hearthwire/cbor/CborSimple" "number" "I" (.int 20)) (F1 : Fld Z h0 (w 1) "com/example/hearthwire/hearthwire/cbor/CborSimple" "number" "I" (.int 21)) (F2 : Fld Z h0 (w 2) "com/example/hearthwire/hearthwire/cbor/CborSimple" "number" "I" (.int 22)) (S_FALSE : Sta Z h0 "com/example/hearthwire/hearthwire/cbor/CborSimple" "FALSE" "Lcom/example/hearthwire/hearthwire/cbor/CborSimple;" (.ref (w 0))) (S_TRUE : Sta Z h0 "com/example/hearthwire/hearthwire/cbor/CborSimple" "TRUE" "Lcom/example/hearthwire/hearthwire/cbor/CborSimple;" (.ref (w 1))) (S_NULL : Sta Z h0 "com/example/hearthwire/hearthwire/cbor/CborSimple" "NULL" "Lcom/example/hearthwire/hearthwire/cbor/CborSimple;" (.ref (w 2))) :
    MetFree l x (head1 (Jvm.Cond.code x code maxLocals ret :: ws) room_1) (fun a U => a = #[(.int x0), (.int x1)] ∧ Z.Warmed39 U.vm ∧ U.heap = h0) (fun _ _ _ _ _ => True) (fun _ U o U' => ∃ v L, o = .returned v ∧ Q0 x0 x1 w cl h0 n0 v U'.heap L ∧ FrameEnd U o U' L room_1.cells room_1.slots) := by
  refine MetFree.of_bodySF (plainFor_of_name pn1) hisR ?_
  intro p e s m args below meth c s₁ Bd hml0 hP hK
  obtain ⟨rfl, hZ, hh⟩ := hP
  have hx := Bd.exec
  have hby := Bd.bytes
  have hml : c.maxLocals = 5 := hml0
  have hown : s.vm.findClass "com/example/hearthwire/hearthwire/cbor/CborSimpleFromNumberPinLaw" = some m.cls := findClass_of_methodNamed Bd.named
  have X0 : Stand p l e room_1 s m #[(.int x0), (.int x1)] below meth c s₁ [] 0 0 := Stand.of_body Bd
  have e0 : s₁.heap = h0 := by rw [← hh, Bd.state]; rfl
  obtain ⟨r, hr0⟩ : ∃ r, f0 x0 x1 w cl = r := ⟨_, rfl⟩
  have B29 : ∀ (l2_29 : Int32) (s0_29 : Int32) (T : State) (locs : List Loc) (X : Stand p l e room_1 s m #[(.int x0), (.int x1)] below meth c T locs 0 0) (eT : T.heap = h0) (NF : Fr n0 locs) (hr : f0_29 x0 x1 w cl l2_29 s0_29 = r), Go p e below s (Q0 x0 x1 w cl h0 n0) room_1.cells room_1.slots (T.setTop (mkF m 29 #[.val (.int x0), .val (.int x1), .val (.int l2_29), .unset, .unset] [(.int s0_29)])) := by
    intro l2_29 s0_29 T locs X eT NF hr
    unfold f0_29 at hr
    refine Go.step (S' := T.setTop (mkF m 30 #[.val (.int x0), .val (.int x1), .val (.int l2_29), .val (.int s0_29), .unset] [])) (fun t k => XS.istoreN X.here hx rfl (hb hby at_29) rfl (l' := #[.val (.int x0), .val (.int x1), .val (.int l2_29), .val (.int s0_29), .unset]) rfl k) ?_
    refine Go.step (S' := T.setTop (mkF m 31 #[.val (.int x0), .val (.int x1), .val (.int l2_29), .val (.int s0_29), .unset] [(.int s0_29)])) (fun t k => XS.iloadN X.here hx rfl (hb hby at_30) rfl k) ?_
    obtain ⟨_, _, ⟨T3, L3, k3, n3⟩, -, X3, ⟨Lc3, hQ3, l3, y3, z3⟩, st3⟩ := Jvm.LawKit.callS X hx (y := (⟨"com/example/hearthwire/hearthwire/cbor/CborSimple", "fromNumber", "(I)Lcom/example/hearthwire/hearthwire/cbor/CborSimple;"⟩ : MethodName)) hown (mvT hZ (hw _ (List.mem_of_getElem? (i := 0) rfl))) (mvT hZ (hw _ (List.mem_of_getElem? (i := 1) rfl))) (mvT hZ (hw _ (List.mem_of_getElem? (i := 2) rfl))) (mvT hZ (hw _ (List.mem_of_getElem? (i := 3) rfl))) (by decide) (backOf (W := 0) (rm1 l Z a0 hw [] s0_29 w cl h0 n0 Z0 S_ALL Ar hsz hat0 hat1 hat2 F0 F1 F2) hZ (hw _ (List.mem_of_getElem? (i := 3) rfl)) (hw _ (List.mem_of_getElem? (i := 2) rfl)) (by decide) (by decide)) (g := (mkF m 31 #[.val (.int x0), .val (.int x1), .val (.int l2_29), .val (.int s0_29), .unset] [(.int s0_29)])) rfl (by rw [hml]; rfl) (argsL := [(.int s0_29)]) (rest := []) (lenOf pd0 rfl) rfl (by show 2 * 0 + _ ≤ _; exact Nat.le_of_eq rfl) (hb hby at_31) (fun _ _ => ⟨rfl, eT, (by decide : 0 + 0 ≤ _), (by decide : 0 + 0 ≤ _)⟩)
    dsimp only [Pt.U, Pt.locs, Pt.cells, Pt.slots] at X3 l3 y3 z3 st3 hQ3
    subst l3 y3 z3
    obtain ⟨rfl, Nq3, e3⟩ := hQ3
    have N3 := Fr.app NF Nq3
    refine Go.step (S' := T3.setTop (mkF m 34 #[.val (.int x0), .val (.int x1), .val (.int l2_29), .val (.int s0_29), .unset] [(f1 s0_29 w cl)])) (fun t k => st3 t k) ?_
    refine Go.step (S' := T3.setTop (mkF m 36 #[.val (.int x0), .val (.int x1), .val (.int l2_29), .val (.int s0_29), .val (f1 s0_29 w cl)] [])) (fun t k => XS.astore X3.here hx rfl (hb hby at_34) rfl (own_ref1 _ _ _) (l' := #[.val (.int x0), .val (.int x1), .val (.int l2_29), .val (.int s0_29), .val (f1 s0_29 w cl)]) (by rcases ref_cases (own_ref1 _ _ _) with q | ⟨a, q⟩ <;> rw [q] <;> rfl) k) ?_
    refine Go.step (S' := T3.setTop (mkF m 38 #[.val (.int x0), .val (.int x1), .val (.int l2_29), .val (.int s0_29), .val (f1 s0_29 w cl)] [(f1 s0_29 w cl)])) (fun t k => XS.aload X3.here hx rfl (hb hby at_36) rfl (own_ref1 _ _ _) k) ?_
    refine Go.step (S' := T3.setTop (mkF m 39 #[.val (.int x0), .val (.int x1), .val (.int l2_29), .val (.int s0_29), .val (f1 s0_29 w cl)] [(.int s0_29), (f1 s0_29 w cl)])) (fun t k => XS.iloadN X3.here hx rfl (hb hby at_38) rfl k) ?_
    obtain ⟨_, _, ⟨T4, L4, k4, n4⟩, -, X4, ⟨Lc4, hQ4, l4, y4, z4⟩, st4⟩ := Jvm.LawKit.callS X3 hx (y := (⟨"com/example/hearthwire/hearthwire/cbor/CborSimpleFromNumberPinLaw", "expected", "(I)Lcom/example/hearthwire/hearthwire/cbor/CborSimple;"⟩ : MethodName)) hown (mvT hZ (hw _ (List.mem_of_getElem? (i := 8) rfl))) (mvT hZ (hw _ (List.mem_of_getElem? (i := 9) rfl))) (mvT hZ (hw _ (List.mem_of_getElem? (i := 10) rfl))) (mvT hZ (hw _ (List.mem_of_getElem? (i := 11) rfl))) (by decide) (backOf (W := 1) (rm2 l Z a0 hw [] s0_29 w h0 n0 Z0 S_FALSE S_TRUE S_NULL) hZ (hw _ (List.mem_of_getElem? (i := 11) rfl)) (hw _ (List.mem_of_getElem? (i := 10) rfl)) (by decide) (by decide)) (g := (mkF m 39 #[.val (.int x0), .val (.int x1), .val (.int l2_29), .val (.int s0_29), .val (f1 s0_29 w cl)] [(.int s0_29), (f1 s0_29 w cl)])) rfl (by rw [hml]; rfl) (argsL := [(.int s0_29)]) (rest := [(f1 s0_29 w cl)]) (lenOf pd0 rfl) rfl (by show 2 * 0 + (List.map (fun v => v.category) [(f1 s0_29 w cl)]).sum ≤ 1; rcases ref_cases (own_ref1 _ _ _) with q | ⟨a, q⟩ <;> rw [q] <;> exact Nat.le_of_eq rfl) (hb hby at_39) (fun _ _ => ⟨rfl, e3, (by decide : 0 + 0 ≤ _), (by decide : 0 + 0 ≤ _)⟩)
    dsimp only [Pt.U, Pt.locs, Pt.cells, Pt.slots] at X4 l4 y4 z4 st4 hQ4
    subst l4 y4 z4
    obtain ⟨rfl, Nq4, e4⟩ := hQ4
    have N4 := Fr.app N3 Nq4
    refine Go.step (S' := T4.setTop (mkF m 42 #[.val (.int x0), .val (.int x1), .val (.int l2_29), .val (.int s0_29), .val (f1 s0_29 w cl)] [(f2 s0_29 w), (f1 s0_29 w cl)])) (fun t k => st4 t k) ?_
    by_cases hc5 : (f1 s0_29 w cl) = (f2 s0_29 w)
    · rw [if_pos hc5] at hr
      refine Go.step (S' := T4.setTop (mkF m 45 #[.val (.int x0), .val (.int x1), .val (.int l2_29), .val (.int s0_29), .val (f1 s0_29 w cl)] [])) (fun t k => Jvm.RoadKit.acmp (g := (mkF m 42 #[.val (.int x0), .val (.int x1), .val (.int l2_29), .val (.int s0_29), .val (f1 s0_29 w cl)] [(f2 s0_29 w), (f1 s0_29 w cl)])) X4 hx rfl (own_ref1 _ _ _) (own_ref2 _ _) (pc0 := 42) (pc' := 45) (same := true) rfl (hb hby at_42) rfl (decide_eq_true hc5) (by decide) (by decide) k) ?_
      refine Go.step (S' := T4.setTop (mkF m 46 #[.val (.int x0), .val (.int x1), .val (.int l2_29), .val (.int s0_29), .val (f1 s0_29 w cl)] [(.int (1 : Int32))])) (fun t k => XS.iconst X4.here hx rfl (hb hby at_45) k) ?_
      refine Go.step (S' := T4.setTop (mkF m 50 #[.val (.int x0), .val (.int x1), .val (.int l2_29), .val (.int s0_29), .val (f1 s0_29 w cl)] [(.int (1 : Int32))])) (fun t k => XS.goto X4.here hx rfl (pc0 := 46) (pc' := 50) rfl (hb hby at_46) (by decide) (by decide) k) ?_
      exact Go.retN X4 hx (t := .boolean) Bd.returns (by simp) Bd.notSynchronized (hb hby at_50) ⟨by rw [hr0, ← hr]; first | done | rfl, N4, e4⟩ (by decide) (by decide)
    · rw [if_neg hc5] at hr
      refine Go.step (S' := T4.setTop (mkF m 49 #[.val (.int x0), .val (.int x1), .val (.int l2_29), .val (.int s0_29), .val (f1 s0_29 w cl)] [])) (fun t k => Jvm.RoadKit.acmp (g := (mkF m 42 #[.val (.int x0), .val (.int x1), .val (.int l2_29), .val (.int s0_29), .val (f1 s0_29 w cl)] [(f2 s0_29 w), (f1 s0_29 w cl)])) X4 hx rfl (own_ref1 _ _ _) (own_ref2 _ _) (pc0 := 42) (pc' := 49) (same := false) rfl (hb hby at_42) rfl (decide_eq_false hc5) (by decide) (by decide) k) ?_
      refine Go.step (S' := T4.setTop (mkF m 50 #[.val (.int x0), .val (.int x1), .val (.int l2_29), .val (.int s0_29), .val (f1 s0_29 w cl)] [(.int (0 : Int32))])) (fun t k => XS.iconst X4.here hx rfl (hb hby at_49) k) ?_
      exact Go.retN X4 hx (t := .boolean) Bd.returns (by simp) Bd.notSynchronized (hb hby at_50) ⟨by rw [hr0, ← hr]; first | done | rfl, N4, e4⟩ (by decide) (by decide)
  have B11 : ∀ (s0_11 : Int32) (T : State) (locs : List Loc) (X : Stand p l e room_1 s m #[(.int x0), (.int x1)] below meth c T locs 0 0) (eT : T.heap = h0) (NF : Fr n0 locs) (hr : f0_11 x0 x1 w cl s0_11 = r), Go p e below s (Q0 x0 x1 w cl h0 n0) room_1.cells room_1.slots (T.setTop (mkF m 11 #[.val (.int x0), .val (.int x1), .unset, .unset, .unset] [(.int s0_11)])) := by
    intro s0_11 T locs X eT NF hr
    unfold f0_11 at hr
    refine Go.step (S' := T.setTop (mkF m 12 #[.val (.int x0), .val (.int x1), .val (.int s0_11), .unset, .unset] [])) (fun t k => XS.istoreN X.here hx rfl (hb hby at_11) rfl (l' := #[.val (.int x0), .val (.int x1), .val (.int s0_11), .unset, .unset]) rfl k) ?_
    refine Go.step (S' := T.setTop (mkF m 13 #[.val (.int x0), .val (.int x1), .val (.int s0_11), .unset, .unset] [(.int s0_11)])) (fun t k => XS.iloadN X.here hx rfl (hb hby at_12) rfl k) ?_
    by_cases hc2 : s0_11 = (0 : Int32)
    · rw [if_pos hc2] at hr
      refine Go.step (S' := T.setTop (mkF m 28 #[.val (.int x0), .val (.int x1), .val (.int s0_11), .unset, .unset] [])) (fun t k => XS.ifYes X.here hx rfl (pc0 := 13) (pc' := 28) rfl (hb hby at_13) rfl ((if0 _ _).trans (teq hc2).1) (by decide) (by decide) k) ?_
      refine Go.step (S' := T.setTop (mkF m 29 #[.val (.int x0), .val (.int x1), .val (.int s0_11), .unset, .unset] [(.int x0)])) (fun t k => XS.iloadN X.here hx rfl (hb hby at_28) rfl k) ?_
      exact B29 (s0_11) (x0) T _ X eT NF hr
    · rw [if_neg hc2] at hr
      refine Go.step (S' := T.setTop (mkF m 16 #[.val (.int x0), .val (.int x1), .val (.int s0_11), .unset, .unset] [])) (fun t k => XS.ifNo X.here hx rfl (hb hby at_13) rfl ((if0 _ _).trans (feq hc2).1) k) ?_
      refine Go.step (S' := T.setTop (mkF m 18 #[.val (.int x0), .val (.int x1), .val (.int s0_11), .unset, .unset] [(.int (18 : Int32))])) (fun t k => XS.bipush X.here hx rfl (hb hby at_16) k) ?_
      refine Go.step (S' := T.setTop (mkF m 19 #[.val (.int x0), .val (.int x1), .val (.int s0_11), .unset, .unset] [(.int x1), (.int (18 : Int32))])) (fun t k => XS.iloadN X.here hx rfl (hb hby at_18) rfl k) ?_
      refine Go.step (S' := T.setTop (mkF m 20 #[.val (.int x0), .val (.int x1), .val (.int s0_11), .unset, .unset] [(.int (1 : Int32)), (.int x1), (.int (18 : Int32))])) (fun t k => XS.iconst X.here hx rfl (hb hby at_19) k) ?_
      refine Go.step (S' := T.setTop (mkF m 21 #[.val (.int x0), .val (.int x1), .val (.int s0_11), .unset, .unset] [(.int ((x1.toUInt32 >>> ((1 : Int32) &&& 31).toUInt32).toInt32)), (.int (18 : Int32))])) (fun t k => XS.iushr X.here hx rfl (hb hby at_20) rfl k) ?_
      refine Go.step (S' := T.setTop (mkF m 23 #[.val (.int x0), .val (.int x1), .val (.int s0_11), .unset, .unset] [(.int (7 : Int32)), (.int ((x1.toUInt32 >>> ((1 : Int32) &&& 31).toUInt32).toInt32)), (.int (18 : Int32))])) (fun t k => XS.bipush X.here hx rfl (hb hby at_21) k) ?_
      refine Go.step (S' := T.setTop (mkF m 24 #[.val (.int x0), .val (.int x1), .val (.int s0_11), .unset, .unset] [(.int (((x1.toUInt32 >>> ((1 : Int32) &&& 31).toUInt32).toInt32) &&& (7 : Int32))), (.int (18 : Int32))])) (fun t k => XS.iand X.here hx rfl (hb hby at_23) rfl k) ?_
      refine Go.step (S' := T.setTop (mkF m 25 #[.val (.int x0), .val (.int x1), .val (.int s0_11), .unset, .unset] [(.int ((18 : Int32) + (((x1.toUInt32 >>> ((1 : Int32) &&& 31).toUInt32).toInt32) &&& (7 : Int32))))])) (fun t k => XS.iadd X.here hx rfl (hb hby at_24) rfl k) ?_
      refine Go.step (S' := T.setTop (mkF m 29 #[.val (.int x0), .val (.int x1), .val (.int s0_11), .unset, .unset] [(.int ((18 : Int32) + (((x1.toUInt32 >>> ((1 : Int32) &&& 31).toUInt32).toInt32) &&& (7 : Int32))))])) (fun t k => XS.goto X.here hx rfl (pc0 := 25) (pc' := 29) rfl (hb hby at_25) (by decide) (by decide) k) ?_
      exact B29 (s0_11) (((18 : Int32) + (((x1.toUInt32 >>> ((1 : Int32) &&& 31).toUInt32).toInt32) &&& (7 : Int32)))) T _ X eT NF hr
  have B0 : ∀  (T : State) (locs : List Loc) (X : Stand p l e room_1 s m #[(.int x0), (.int x1)] below meth c T locs 0 0) (eT : T.heap = h0) (NF : Fr n0 locs) (hr : f0 x0 x1 w cl = r), Go p e below s (Q0 x0 x1 w cl h0 n0) room_1.cells room_1.slots (T.setTop (mkF m 0 #[.val (.int x0), .val (.int x1), .unset, .unset, .unset] [])) := by
    intro  T locs X eT NF hr
    unfold f0 at hr
    refine Go.step (S' := T.setTop (mkF m 1 #[.val (.int x0), .val (.int x1), .unset, .unset, .unset] [(.int x1)])) (fun t k => XS.iloadN X.here hx rfl (hb hby at_0) rfl k) ?_
    refine Go.step (S' := T.setTop (mkF m 2 #[.val (.int x0), .val (.int x1), .unset, .unset, .unset] [(.int (1 : Int32)), (.int x1)])) (fun t k => XS.iconst X.here hx rfl (hb hby at_1) k) ?_
    refine Go.step (S' := T.setTop (mkF m 3 #[.val (.int x0), .val (.int x1), .unset, .unset, .unset] [(.int (x1 &&& (1 : Int32)))])) (fun t k => XS.iand X.here hx rfl (hb hby at_2) rfl k) ?_
    by_cases hc1 : (x1 &&& (1 : Int32)) = (0 : Int32)
    · rw [if_pos hc1] at hr
      refine Go.step (S' := T.setTop (mkF m 10 #[.val (.int x0), .val (.int x1), .unset, .unset, .unset] [])) (fun t k => XS.ifYes X.here hx rfl (pc0 := 3) (pc' := 10) rfl (hb hby at_3) rfl ((if0 _ _).trans (teq hc1).1) (by decide) (by decide) k) ?_
      refine Go.step (S' := T.setTop (mkF m 11 #[.val (.int x0), .val (.int x1), .unset, .unset, .unset] [(.int (0 : Int32))])) (fun t k => XS.iconst X.here hx rfl (hb hby at_10) k) ?_
      exact B11 ((0 : Int32)) T _ X eT NF hr
    · rw [if_neg hc1] at hr
      refine Go.step (S' := T.setTop (mkF m 6 #[.val (.int x0), .val (.int x1), .unset, .unset, .unset] [])) (fun t k => XS.ifNo X.here hx rfl (hb hby at_3) rfl ((if0 _ _).trans (feq hc1).1) k) ?_
      refine Go.step (S' := T.setTop (mkF m 7 #[.val (.int x0), .val (.int x1), .unset, .unset, .unset] [(.int (1 : Int32))])) (fun t k => XS.iconst X.here hx rfl (hb hby at_6) k) ?_
      refine Go.step (S' := T.setTop (mkF m 11 #[.val (.int x0), .val (.int x1), .unset, .unset, .unset] [(.int (1 : Int32))])) (fun t k => XS.goto X.here hx rfl (pc0 := 7) (pc' := 11) rfl (hb hby at_7) (by decide) (by decide) k) ?_
      exact B11 ((1 : Int32)) T _ X eT NF hr
  show Go p e below s (Q0 x0 x1 w cl h0 n0) room_1.cells room_1.slots (s₁.setTop (entryFrame m #[(.int x0), (.int x1)] maxLocals))
  rw [ef0]
  exact B0 s₁ [] X0 e0 (Fr.nil n0) hr0
theorem own_same (n : Int32) (w : Nat → Addr) (cl : Cell) : f1 n w cl = f2 n w := by
  unfold f1 f2
  by_cases h0 : n = 20
  · subst h0; rfl
  by_cases h1 : n = 21
  · subst h1; rfl
  by_cases h2 : n = 22
  · subst h2; rfl
  simp only [if_neg h0, if_neg h1, if_neg h2, if_neg (fun q => h0 (Eq.symm q)), if_neg (fun q => h1 (Eq.symm q)), if_neg (fun q => h2 (Eq.symm q))]
theorem own_29 (x0 x1 : Int32) (w : Nat → Addr) (cl : Cell) (a b : Int32) : f0_29 x0 x1 w cl a b = 1 := by
  unfold f0_29; rw [if_pos (own_same _ _ _)]
theorem own_11 (x0 x1 : Int32) (w : Nat → Addr) (cl : Cell) (a : Int32) : f0_11 x0 x1 w cl a = 1 := by
  unfold f0_11; rw [own_29, own_29]; exact own_itp (R := fun z : Int32 => z = 1) (fun _ => rfl) (fun _ => rfl)
theorem own_tail (x0 x1 : Int32) (w : Nat → Addr) (cl : Cell) : f0 x0 x1 w cl = 1 := by
  unfold f0; rw [own_11, own_11]; exact own_itp (R := fun z : Int32 => z = 1) (fun _ => rfl) (fun _ => rfl)
theorem own_len {args : Array Value} {Z : State} {t : Term} {a : Addr} {cl : Cell} {ty : FieldType} (ev : t.eval args Z none [] Z = some (.ref a)) (h : (Term.length t).eval args Z none [] Z = some (.int 3)) (A : Arr Z Z.heap a cl ty) : cl.slots.size = 3 := by
  have ha := A.fin (U := Z) (Vm.Alike.refl _)
  simp only [Term.eval, ev, ha, Option.bind_eq_bind, Option.bind_some, Option.pure_def] at h
  split at h
  · rename_i hlt
    have q := Value.int.inj (Option.some.inj h)
    have q2 : (cl.slots.size.toInt32).toInt = 3 := by rw [q]; decide
    rw [len_toInt hlt] at q2
    omega
  · cases h
theorem own_eqr {args : Array Value} {Z : State} {a b : Term} {x : Addr} (ev : b.eval args Z none [] Z = some (.ref x)) (h : (Cond.eq a b).value args Z none Z [] = some true) : a.eval args Z none [] Z = some (.ref x) := by
  obtain ⟨u, v, e1, e2, -, -⟩ := cmp_v (Or.inl h)
  rw [ev] at e2
  cases e2
  rw [e1]
  cases u with
  | ref y =>
    have q := gotT (eq_R e1 ev rfl rfl) h
    rw [q]
  | _ => simp [Cond.value, e1, ev] at h
set_option maxRecDepth 65536 in
set_option maxHeartbeats 40000000 in
theorem comes_1 {Post : Tables → Env → Array Value → State → Outcome → State → Prop} (hpost : ∀ tb e args s v u, (limb_1_1.after args s (.returned v) u = true ∧ limb_1_2.after args s (.returned v) u = true ∧ True) → FrameEnd s (.returned v) u (Jvm.fieldLocs frame_1_writes args s ++ Jvm.arrayLocs frame_1_arrays args s ++ Jvm.staticLocs frame_1_statics s) 0 0 → Post tb e args s (.returned v) u) :
    ArmFor flags0 classFile x code maxLocals ret World_1 tables_1 room_1 Calls_1 rest_1 Pre_1 Post := by
  intro l hfl _ _ p e ha hc hk s m args below hf hA hF happ hP
  obtain ⟨hcalls, hrest, hpre⟩ := hP
  obtain ⟨-, -, -, hnamed, -, -, -, hat⟩ := (Spec.applies_iff hf).mp happ
  obtain ⟨hg, hn⟩ := and_e (Cond.before_iff.mp (show (Jvm.Cond.and given_1 narrow_1).before args s = true from hpre))
  obtain ⟨hcount, hg⟩ := and_e hg
  obtain ⟨ha0, hg⟩ := and_e hg
  obtain ⟨w0, w1, rfl⟩ : ∃ w0 w1 : Value, args = #[w0, w1] := by
    have hs : args.size = 2 := by simpa [Cond.value, given_1] using hcount
    obtain ⟨L⟩ := args
    match L, hs with
    | [w0, w1], _ => exact ⟨w0, w1, rfl⟩
  have hw := fun d (hd : d ∈ tables_1) => atoms_spec (ws := Jvm.Cond.code x code maxLocals ret :: tables_1) hat d (List.mem_cons_of_mem _ hd)
  obtain ⟨i0, ei0⟩ := is_v ha0
  obtain rfl : w0 = (.int i0) := Option.some.inj ei0
  obtain ⟨i1, ei1⟩ := is_v hg
  obtain rfl : w1 = (.int i1) := Option.some.inj ei1
  obtain ⟨hA, hn⟩ := and_e hn
  obtain ⟨hL, hn⟩ := and_e hn
  obtain ⟨hx0, hn⟩ := and_e hn
  obtain ⟨hm0, hn⟩ := and_e hn
  obtain ⟨hx1, hn⟩ := and_e hn
  obtain ⟨hm1, hn⟩ := and_e hn
  obtain ⟨hx2, hn⟩ := and_e hn
  obtain ⟨hm2, hn⟩ := and_e hn
  obtain ⟨hc0, hn⟩ := and_e hn
  obtain ⟨hc1, hc2⟩ := and_e hn
  obtain ⟨aA, evA⟩ := arr_v hA
  have S_ALL := Sta.start evA (Or.inr ⟨(hw _ (List.mem_of_getElem? (i := 2) rfl)), (hw _ (List.mem_of_getElem? (i := 5) rfl))⟩)
  obtain ⟨cl, Ar⟩ := Arr.start evA hA
  have eL := Jvm.Free.NT.SwA.eq_int (Cond.before_iff.mpr hL)
  have hsz : cl.slots.size = 3 := own_len evA eL Ar
  obtain ⟨w0', ev0⟩ := exa_v hx0
  have hat0 : cl.slots[0]? = some (.ref w0') := (elem_in ev0 evA (Term.int_eval _) Ar.1).2
  have F0 := Fld.start ((fld_at ev0).symm.trans (Jvm.Free.NT.SwA.eq_int (Cond.before_iff.mpr hm0)))
  have es0 := own_eqr (ev := ev0) hc0
  have S_FALSE := Sta.start es0 (Or.inr ⟨(hw _ (List.mem_of_getElem? (i := 2) rfl)), (hw _ (List.mem_of_getElem? (i := 13) rfl))⟩)
  obtain ⟨w1', ev1⟩ := exa_v hx1
  have hat1 : cl.slots[1]? = some (.ref w1') := (elem_in ev1 evA (Term.int_eval _) Ar.1).2
  have F1 := Fld.start ((fld_at ev1).symm.trans (Jvm.Free.NT.SwA.eq_int (Cond.before_iff.mpr hm1)))
  have es1 := own_eqr (ev := ev1) hc1
  have S_TRUE := Sta.start es1 (Or.inr ⟨(hw _ (List.mem_of_getElem? (i := 2) rfl)), (hw _ (List.mem_of_getElem? (i := 15) rfl))⟩)
  obtain ⟨w2', ev2⟩ := exa_v hx2
  have hat2 : cl.slots[2]? = some (.ref w2') := (elem_in ev2 evA (Term.int_eval _) Ar.1).2
  have F2 := Fld.start ((fld_at ev2).symm.trans (Jvm.Free.NT.SwA.eq_int (Cond.before_iff.mpr hm2)))
  have es2 := own_eqr (ev := ev2) hc2
  have S_NULL := Sta.start es2 (Or.inr ⟨(hw _ (List.mem_of_getElem? (i := 2) rfl)), (hw _ (List.mem_of_getElem? (i := 17) rfl))⟩)
  obtain ⟨wf, q0, q1, q2, q3⟩ : ∃ wf : Nat → Addr, wf 0 = w0' ∧ wf 1 = w1' ∧ wf 2 = w2' ∧ wf 3 = aA := ⟨fun i => match i with | 0 => w0' | 1 => w1' | 2 => w2' | _ => aA, rfl, rfl, rfl, rfl⟩
  rw [← q0] at hat0 F0 S_FALSE
  rw [← q1] at hat1 F1 S_TRUE
  rw [← q2] at hat2 F2 S_NULL
  rw [← q3] at S_ALL Ar
  obtain ⟨n, o, h1, h2, h3, v, L, rfl, ⟨hv, N, -⟩, hq⟩ := rm0 l s _ hw tables_1 i0 i1 wf cl s.heap s.heap.size (Nat.le_refl _) S_ALL Ar hsz hat0 hat1 hat2 F0 F1 F2 S_FALSE S_TRUE S_NULL p e ha hc hk s m _ below hf ((Spec.applies_iff_loose hf).mp happ).1 ⟨rfl, State.Warmed39.refl s, rfl⟩ trivial
  rw [own_tail i0 i1 wf cl] at hv
  subst hv
  refine ⟨n, _, h1, h2, h3, hpost _ _ _ _ _ _ ⟨Cond.after_iff.mpr rfl, Cond.after_iff.mpr (eq_i res_at (Term.int_eval (1)) rfl), trivial⟩ ⟨hq.1, hq.2.1, (hq.2.2.sift fun y hy => Or.inr (N y hy)).mono (by decide) (by decide)⟩⟩
theorem main_1_1 : Claimed_1_1 := comes_1 fun _ _ _ _ _ _ h hF => ⟨h.1, hF⟩
theorem main_1_2 : Claimed_1_2 := comes_1 fun _ _ _ _ _ _ h hF => ⟨h.2.1, hF⟩
end Jvm.Pilot.@@N@@
namespace Jvm.Pilot.@@N@@
open Jvm Jvm.ClassFile Sem Op Lib Jvm.Free Jvm.Stand Jvm.Pilot.@@N@@.Jvm.D
/-! MADE BY PROGRAM (witnessworld.py) out of the Statement's table words and the real class files: 11 classes; the members and pool entries that the words name. The judged class is class 1, her method 2. -/
namespace start1
open Jvm.ClassFile
def u (s : String) : CpInfo := .utf8 (stringToUtf16 s)
/-- a pool by its gaps: so many unusable entries, then the entry; so many at the end -/
def gap : Nat → List CpInfo → List CpInfo
  | 0, r => r
  | n + 1, r => .unusable :: gap n r
def poolList (es : List (Nat × CpInfo)) (last : Nat) : List CpInfo := es.foldr (fun e r => gap e.1 (e.2 :: r)) (gap last [])
def pool (es : List (Nat × CpInfo)) (last : Nat) : Array CpInfo := ⟨poolList es last⟩
def fileOf (pool : Array CpInfo) (this : Nat) (attrs : Array Attribute := #[]) (ms : Array MethodInfo := #[]) (fl : Nat := 33) (sup : Nat := 0) (ifs : Array Nat := #[]) (fds : Array FieldInfo := #[]) : ClassFile where
  minorVersion := 0
  majorVersion := 65
  constantPool := pool
  accessFlags := fl
  thisClass := this
  superClass := sup
  interfaces := ifs
  fields := fds
  methods := ms
  attributes := attrs
def plain (name : String) (sup : Option ClassId) : Class where
  name := name
  kind := .ordinary
  loader := none
  accessFlags := 33
  super := sup
  interfaces := #[]
  cf := none
  fields := #[]
  methods := #[]
  instanceTypes := #[]
  staticTypes := #[]
  resolved := #[]
  callSites := []
  init := .initialized
  statics := none
  mirror := none

def pool0 : Array CpInfo := pool [(5, u "<init>"), (0, u "()V"), (1, .class_ 10), (1, u "java/lang/Object")] 113

def k0m0 : Method := { name := "<init>", desc := "()V", sig := { parameters := [], returnType := none }, accessFlags := 1, code := none }
/-- java/lang/Object -/
def k0 : Class := { plain "java/lang/Object" none with
  accessFlags := 33
  interfaces := #[]
  cf := some (fileOf pool0 8 #[] #[{ accessFlags := 1, nameIndex := 5, descriptorIndex := 6, attributes := #[] }] 33 0 #[] #[])
  fields := #[]
  methods := #[k0m0]
  instanceTypes := #[]
  staticTypes := #[]
  resolved := Array.replicate 124 none
  statics := none }

def pool1 : Array CpInfo := pool [(2, .class_ 4), (1, u "java/lang/Object"), (0, u "<init>"), (0, u "()V"), (0, .fieldref 8 9), (0, .class_ 10), (0, .nameAndType 11 12), (0, u "com/example/hearthwire/hearthwire/cbor/CborSimple"), (0, u "FALSE"), (0, u "Lcom/example/hearthwire/hearthwire/cbor/CborSimple;"), (0, .fieldref 8 14), (0, .nameAndType 15 12), (0, u "TRUE"), (0, .fieldref 8 17), (0, .nameAndType 18 12), (0, u "NULL"), (0, .methodref 8 20), (0, .nameAndType 21 22), (0, u "fromNumber"), (0, u "(I)Lcom/example/hearthwire/hearthwire/cbor/CborSimple;"), (0, .methodref 24 25), (0, .class_ 26), (0, .nameAndType 27 22), (0, u "com/example/hearthwire/hearthwire/cbor/CborSimpleFromNumberPinLaw"), (0, u "expected"), (3, u "law"), (0, u "(II)Z")] 2

def k1m0 : Method := { name := "<init>", desc := "()V", sig := { parameters := [], returnType := none }, accessFlags := 2, code := none }
def k1c1 : Code := { maxStack := 2, maxLocals := 2, code := method_2_code, exceptionTable := #[], attributes := #[] }
def k1m1 : Method := { name := "expected", desc := "(I)Lcom/example/hearthwire/hearthwire/cbor/CborSimple;", sig := { parameters := [.int], returnType := some (.object "com/example/hearthwire/hearthwire/cbor/CborSimple") }, accessFlags := 10, code := some k1c1 }
def k1c2 : Code := { maxStack := 3, maxLocals := 5, code := code, exceptionTable := #[], attributes := #[] }
def k1m2 : Method := { name := "law", desc := "(II)Z", sig := { parameters := [.int, .int], returnType := some .boolean }, accessFlags := 9, code := some k1c2 }
/-- com/example/hearthwire/hearthwire/cbor/CborSimpleFromNumberPinLaw -/
def k1 : Class := { plain "com/example/hearthwire/hearthwire/cbor/CborSimpleFromNumberPinLaw" (some 0) with
  accessFlags := 49
  interfaces := #[]
  cf := some (fileOf pool1 24 #[] #[{ accessFlags := 2, nameIndex := 5, descriptorIndex := 6, attributes := #[] }, { accessFlags := 10, nameIndex := 27, descriptorIndex := 22, attributes := #[] }, { accessFlags := 9, nameIndex := 31, descriptorIndex := 32, attributes := #[] }] 49 2 #[] #[])
  fields := #[]
  methods := #[k1m0, k1m1, k1m2]
  instanceTypes := #[]
  staticTypes := #[]
  resolved := Array.replicate 35 none
  statics := none }

def pool2 : Array CpInfo := pool [(2, .class_ 4), (1, u "java/lang/Object"), (0, u "<init>"), (0, u "()V"), (1, .class_ 10), (1, u "com/example/hearthwire/hearthwire/cbor/CborItem"), (0, u "NO_CONTENT"), (0, u "[B"), (40, .class_ 54), (0, u "com/example/hearthwire/hearthwire/cbor/CborItem$Comparison")] 100

def k2m0 : Method := { name := "<init>", desc := "()V", sig := { parameters := [], returnType := none }, accessFlags := 0, code := none }
/-- com/example/hearthwire/hearthwire/cbor/CborItem -/
def k2 : Class := { plain "com/example/hearthwire/hearthwire/cbor/CborItem" (some 0) with
  accessFlags := 1057
  interfaces := #[]
  cf := some (fileOf pool2 8 #[.nestMembers #[53]] #[{ accessFlags := 0, nameIndex := 5, descriptorIndex := 6, attributes := #[] }] 1057 2 #[] #[{ accessFlags := 26, nameIndex := 11, descriptorIndex := 12, attributes := #[] }])
  fields := #[{ name := "NO_CONTENT", type := (.array .byte), accessFlags := 26, slot := 0, constantValue := 0 }]
  methods := #[k2m0]
  instanceTypes := #[]
  staticTypes := #[(.array .byte)]
  resolved := Array.replicate 155 none
  statics := none }

def pool3 : Array CpInfo := pool [(2, .class_ 4), (1, u "com/example/hearthwire/hearthwire/cbor/CborItem"), (2, .fieldref 8 9), (0, .class_ 10), (0, .nameAndType 11 12), (0, u "com/example/hearthwire/hearthwire/cbor/CborSimple"), (0, u "number"), (0, u "I"), (2, u "name"), (0, u "Ljava/lang/String;"), (0, .fieldref 8 18), (0, .nameAndType 19 20), (0, u "ALL"), (0, u "[Lcom/example/hearthwire/hearthwire/cbor/CborSimple;"), (15, u "FALSE"), (0, u "Lcom/example/hearthwire/hearthwire/cbor/CborSimple;"), (4, u "TRUE"), (4, u "NULL"), (2, u "fromNumber"), (0, u "(I)Lcom/example/hearthwire/hearthwire/cbor/CborSimple;")] 12

def k3c0 : Code := { maxStack := 2, maxLocals := 6, code := prog_30_method_2_code, exceptionTable := #[], attributes := #[] }
def k3m0 : Method := { name := "fromNumber", desc := "(I)Lcom/example/hearthwire/hearthwire/cbor/CborSimple;", sig := { parameters := [.int], returnType := some (.object "com/example/hearthwire/hearthwire/cbor/CborSimple") }, accessFlags := 8, code := some k3c0 }
/-- com/example/hearthwire/hearthwire/cbor/CborSimple -/
def k3 : Class := { plain "com/example/hearthwire/hearthwire/cbor/CborSimple" (some 2) with
  accessFlags := 49
  interfaces := #[]
  cf := some (fileOf pool3 8 #[] #[{ accessFlags := 8, nameIndex := 50, descriptorIndex := 51, attributes := #[] }] 49 2 #[] #[{ accessFlags := 25, nameIndex := 36, descriptorIndex := 37, attributes := #[] }, { accessFlags := 25, nameIndex := 42, descriptorIndex := 37, attributes := #[] }, { accessFlags := 25, nameIndex := 47, descriptorIndex := 37, attributes := #[] }, { accessFlags := 26, nameIndex := 19, descriptorIndex := 20, attributes := #[] }, { accessFlags := 18, nameIndex := 11, descriptorIndex := 12, attributes := #[] }, { accessFlags := 18, nameIndex := 15, descriptorIndex := 16, attributes := #[] }])
  fields := #[{ name := "FALSE", type := (.object "com/example/hearthwire/hearthwire/cbor/CborSimple"), accessFlags := 25, slot := 0, constantValue := 0 }, { name := "TRUE", type := (.object "com/example/hearthwire/hearthwire/cbor/CborSimple"), accessFlags := 25, slot := 1, constantValue := 0 }, { name := "NULL", type := (.object "com/example/hearthwire/hearthwire/cbor/CborSimple"), accessFlags := 25, slot := 2, constantValue := 0 }, { name := "ALL", type := (.array (.object "com/example/hearthwire/hearthwire/cbor/CborSimple")), accessFlags := 26, slot := 3, constantValue := 0 }, { name := "number", type := .int, accessFlags := 18, slot := 0, constantValue := 0 }, { name := "name", type := (.object "java/lang/String"), accessFlags := 18, slot := 1, constantValue := 0 }]
  methods := #[k3m0]
  instanceTypes := #[.int, (.object "java/lang/String")]
  staticTypes := #[(.object "com/example/hearthwire/hearthwire/cbor/CborSimple"), (.object "com/example/hearthwire/hearthwire/cbor/CborSimple"), (.object "com/example/hearthwire/hearthwire/cbor/CborSimple"), (.array (.object "com/example/hearthwire/hearthwire/cbor/CborSimple"))]
  resolved := Array.replicate 64 none
  statics := some 0 }

def pool4 : Array CpInfo := pool [(1, u "java/lang/Cloneable"), (0, .class_ 1), (0, u "java/lang/Object"), (0, .class_ 3)] 3

/-- java/lang/Cloneable -/
def k4 : Class := { plain "java/lang/Cloneable" (some 0) with
  accessFlags := 1537
  interfaces := #[]
  cf := some (fileOf pool4 2 #[] #[] 1537 4 #[] #[])
  fields := #[]
  methods := #[]
  instanceTypes := #[]
  staticTypes := #[]
  resolved := Array.replicate 8 none
  statics := none }

def pool5 : Array CpInfo := pool [(1, u "java/io/Serializable"), (0, .class_ 1), (0, u "java/lang/Object"), (0, .class_ 3)] 3

/-- java/io/Serializable -/
def k5 : Class := { plain "java/io/Serializable" (some 0) with
  accessFlags := 1537
  interfaces := #[]
  cf := some (fileOf pool5 2 #[] #[] 1537 4 #[] #[])
  fields := #[]
  methods := #[]
  instanceTypes := #[]
  staticTypes := #[]
  resolved := Array.replicate 8 none
  statics := none }

/-- the primitive byte -/
def k6 : Class := { plain "byte" none with kind := .primitive 'B', accessFlags := 0x411 }
/-- [B -/
def k7 : Class := { plain "[B" (some 0) with kind := .array 6 .byte, interfaces := #[4, 5], accessFlags := 1041 }

/-- the primitive int -/
def k8 : Class := { plain "int" none with kind := .primitive 'I', accessFlags := 0x411 }
/-- [I -/
def k9 : Class := { plain "[I" (some 0) with kind := .array 8 .int, interfaces := #[4, 5], accessFlags := 1041 }

/-- [Lcom/example/hearthwire/hearthwire/cbor/CborSimple; -/
def k10 : Class := { plain "[Lcom/example/hearthwire/hearthwire/cbor/CborSimple;" (some 0) with kind := .array 3 (.object "com/example/hearthwire/hearthwire/cbor/CborSimple"), interfaces := #[4, 5], accessFlags := 1041 }

def heap : Heap := #[{ cls := 3, slots := #[.ref 2, .ref 3, .ref 4, .ref 1], vm := .statics 3 },
  { cls := 10, slots := #[.ref 2, .ref 3, .ref 4], vm := .none },
  { cls := 3, slots := #[.int 20, .null], vm := .none },
  { cls := 3, slots := #[.int 21, .null], vm := .none },
  { cls := 3, slots := #[.int 22, .null], vm := .none }]
def classes : Array Class := #[k0, k1, k2, k3, k4, k5, k6, k7, k8, k9, k10]
def interned : List (Array UInt16 × Addr) := []
def slotsUsed : Nat := 13
def theMethod : MethodId := ⟨1, 2⟩
def args0 : Array Value := #[.int 5, .int 3]
def aboutOver (below : List Frame) : State where
  vm := { classes := classes, interned := interned.toArray }
  heap := heap
  slotsUsed := slotsUsed
  threads := #[{ frames := .invoking theMethod args0 :: below }]
def below0 : List Frame := [.native { method := ⟨0, 0⟩, args := #[] }]
def about1 : State := aboutOver below0
def p0 : Program := .bare "" "" ""
def e0 : Env := launch0.env 0 0 0
theorem w_frames : about1.frames = Frame.invoking theMethod args0 :: below0 := rfl
set_option maxRecDepth 65536 in
theorem w_args : argsFit about1.vm theMethod args0 = true := by decide +kernel
set_option maxRecDepth 65536 in
theorem w_heap : heapFits about1 = true := by decide +kernel
set_option maxRecDepth 65536 in
theorem w_runnable : about1.curStatus? = some .runnable := by decide +kernel
set_option maxRecDepth 65536 in
theorem w_alone : about1.alone = true := by decide +kernel
set_option maxRecDepth 65536 in
theorem w_named : about1.methodNamed? x = some theMethod := by decide +kernel
set_option maxRecDepth 65536 in
theorem w_hears : about1.hears theMethod below0 = true := by decide +kernel
set_option maxRecDepth 65536 in
theorem w_ripe : about1.ripe theMethod args0 below0 = true := by decide +kernel
theorem w_running : about1.status = .running := rfl
set_option maxRecDepth 65536 in
theorem w_room : about1.hasRoom e0.platform room_1 = true :=
  launch0.hasRoom_least _ room_1 (by decide +kernel) (by decide +kernel) (by decide +kernel) (by decide +kernel) (by decide +kernel) (by decide +kernel)
theorem allAtoms_all (ts : List Jvm.Cond) (a : Array Jvm.Value) (st : Jvm.State) : (allAtoms ts).before a st = ts.all (fun c => c.before a st) := by
  induction ts with
  | nil => rfl
  | cons c t ih =>
    show (Jvm.Cond.and c (allAtoms t)).before a st = _
    rw [Jvm.Cond.before_and, ih, List.all_cons]
def words1 : List Jvm.Cond := Jvm.Cond.code x code maxLocals ret :: tables_1
/-- a 'code' word, met by the world's own term for the bytes: nothing is compared byte by byte -/
theorem code_word {y : MethodName} {bytes : ByteArray} {mx : Nat} {rt : Option FieldType} {a : Array Value} {s : State} {m : MethodId} {meth : Method} {c : Code} (h1 : s.methodNamed? y = some m) (h2 : s.vm.method? m = some meth) (h3 : meth.code = some c) (h4 : c.code = bytes)
    (h5 : (c.maxLocals == mx && c.exceptionTable.isEmpty && decide (c.maxStack ≤ mostOperands) && decide (meth.sig.returnType = rt) && !meth.locks && decide (parseMethodDescriptor y.desc = some meth.sig)) = true) : (Jvm.Cond.code y bytes mx rt).before a s = true := by
  simp only [Bool.and_eq_true, beq_iff_eq, Bool.not_eq_true', decide_eq_true_eq] at h5
  obtain ⟨⟨⟨⟨⟨g1, g2⟩, g3⟩, g4⟩, g5⟩, g6⟩ := h5
  simp [Cond.before, Cond.holds, Cond.value, h1, h2, h3, h4, g1, g2, g3, g4, g5, g6]
def isCode : Jvm.Cond → Bool
  | .code _ _ _ _ => true
  | _ => false
theorem all_split {L : List Jvm.Cond} {P : Jvm.Cond → Bool} (h1 : L.all (fun c => isCode c || P c) = true) (h2 : ∀ c ∈ L.filter isCode, P c = true) : L.all P = true := by
  refine List.all_eq_true.mpr fun c hc => ?_
  have h := List.all_eq_true.mp h1 c hc
  rcases Bool.eq_false_or_eq_true (isCode c) with hi | hi
  · exact h2 c (List.mem_filter.mpr ⟨hc, hi⟩)
  · simpa [hi] using h
set_option maxRecDepth 65536 in
theorem w_c0 : (Jvm.Cond.code x code maxLocals ret).before args0 about1 = true := code_word (m := ⟨1, 2⟩) (meth := k1m2) (c := k1c2) (by decide +kernel) rfl rfl rfl (by decide +kernel)
set_option maxRecDepth 65536 in
theorem w_c1 : (Jvm.Cond.code ({ cls := "com/example/hearthwire/hearthwire/cbor/CborSimple", name := "fromNumber", desc := "(I)Lcom/example/hearthwire/hearthwire/cbor/CborSimple;" } : Jvm.MethodName) prog_30_method_2_code (6 : Nat) (Option.some (Jvm.ClassFile.FieldType.object "com/example/hearthwire/hearthwire/cbor/CborSimple"))).before args0 about1 = true := code_word (m := ⟨3, 0⟩) (meth := k3m0) (c := k3c0) (by decide +kernel) rfl rfl rfl (by decide +kernel)
set_option maxRecDepth 65536 in
theorem w_c2 : (Jvm.Cond.code ({ cls := "com/example/hearthwire/hearthwire/cbor/CborSimpleFromNumberPinLaw", name := "expected", desc := "(I)Lcom/example/hearthwire/hearthwire/cbor/CborSimple;" } : Jvm.MethodName) method_2_code (2 : Nat) (Option.some (Jvm.ClassFile.FieldType.object "com/example/hearthwire/hearthwire/cbor/CborSimple"))).before args0 about1 = true := code_word (m := ⟨1, 1⟩) (meth := k1m1) (c := k1c1) (by decide +kernel) rfl rfl rfl (by decide +kernel)
def codes1 : List Jvm.Cond := [Jvm.Cond.code x code maxLocals ret, Jvm.Cond.code ({ cls := "com/example/hearthwire/hearthwire/cbor/CborSimple", name := "fromNumber", desc := "(I)Lcom/example/hearthwire/hearthwire/cbor/CborSimple;" } : Jvm.MethodName) prog_30_method_2_code (6 : Nat) (Option.some (Jvm.ClassFile.FieldType.object "com/example/hearthwire/hearthwire/cbor/CborSimple")), Jvm.Cond.code ({ cls := "com/example/hearthwire/hearthwire/cbor/CborSimpleFromNumberPinLaw", name := "expected", desc := "(I)Lcom/example/hearthwire/hearthwire/cbor/CborSimple;" } : Jvm.MethodName) method_2_code (2 : Nat) (Option.some (Jvm.ClassFile.FieldType.object "com/example/hearthwire/hearthwire/cbor/CborSimple"))]
set_option maxRecDepth 65536 in
theorem codes_eq : words1.filter isCode = codes1 := rfl
theorem w_codes : ∀ c ∈ words1.filter isCode, c.before args0 about1 = true := by
  rw [codes_eq]
  intro c hc
  simp only [codes1, List.mem_cons, List.not_mem_nil, or_false] at hc
  rcases hc with rfl | rfl | rfl
  · exact w_c0
  · exact w_c1
  · exact w_c2
set_option maxRecDepth 65536 in
theorem w_t1 : words1.all (fun c => isCode c || c.before args0 about1) = true := by decide +kernel
theorem w_tables : (allAtoms (Jvm.Cond.code x code maxLocals ret :: tables_1)).before args0 about1 = true := by
  rw [allAtoms_all]
  show words1.all (fun c => c.before args0 about1) = true
  refine all_split ?_ w_codes
  rw [w_t1]
set_option maxRecDepth 65536 in
theorem w_case : (Jvm.Cond.and given_1 narrow_1).before args0 about1 = true := by decide +kernel
theorem w_applies : (headSpec (Jvm.Cond.code x code maxLocals ret :: tables_1) room_1).applies x e0.platform about1 = true :=
  (Spec.applies_iff w_frames).mpr ⟨w_running, w_runnable, w_alone, w_named, w_hears, w_ripe, w_room, w_tables⟩
theorem atStart : AtStart classFile x code maxLocals ret World_1 tables_1 room_1 Calls_1 rest_1 Pre_1 launch0 p0 e0 about1 theMethod args0 below0 :=
  ⟨lists_1, trivial, launch0.admits_env _ _ _, launch0.least_env, fairChoices_fair.cas, fairChoices_fair.clock, w_frames, w_args, w_heap, w_applies, trivial, trivial, w_case⟩
end start1
theorem witness_1 : WitnessClaimed_1 := ⟨start1.p0, start1.e0, start1.about1, start1.theMethod, start1.args0, start1.below0, start1.atStart⟩
end Jvm.Pilot.@@N@@
