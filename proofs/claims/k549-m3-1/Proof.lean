import JvmDerived
import JvmDerived.Pilot.@@N@@Statement
import JvmDerived.Pilot.@@N@@Code
set_option linter.unusedVariables false
set_option linter.unusedSimpArgs false
@@BLOCK:NumsL.lean.txt@@
namespace Jvm.RoadKit
open Sem ClassFile Op Lib Jvm.Stand Jvm.Free Jvm.LawKit
section New
variable {p : Program} {l : Launch} {e : Env} {R : Room} {s : State} {m : MethodId} {args : Array Value} {below : List Frame} {meth : Method} {c : Code} {T : State} {locs : List Loc} {cells slots : Nat}
theorem retI (X : Stand p l e R s m args below meth c T locs cells slots) (hx : p.tables.exec = Jvm.exec) {pc : Nat} {Ls : Array Slot} {z : Int32} {rest : List Value} (hret : meth.sig.returnType = some .int) (hd : decode c.code pc = .ok (.ireturn, 1)) {fs : List Frame}
    (hl : ∀ (f : JFrame) (acts : List Action), f.method = m → f.locked = none → f.entered = [] → (doReturn e (T.setTop f) acts (some (.int z))).1 = T.setFrames fs) : Steps p.tables e below (T.setTop (mkF m pc Ls (.int z :: rest))) (T.setFrames fs) := by
  have hm' : T.vm.method? m = some meth := X.method'
  have hn : narrow .int (.int z) = .int z := rfl
  show Steps p.tables e below (T.setTop { method := m, pc := pc, locals := Ls, stack := _ :: rest, locked := none }) _
  jvm_step X.here [X.here.top, hx, hd, hm', hret, hn]
  first | (intro acts; rw [hl _ acts rfl rfl rfl]) | rw [hl _ _ rfl rfl rfl]
  exact Steps.refl _
/-- from here the run ends and leaves what Q says -/
def Go (p : Program) (e : Env) (below : List Frame) (s : State) (Q : Option Value → Heap → List Loc → Prop) (C N : Nat) (S : State) : Prop :=
  ∃ s₂ o, Steps p.tables e below S s₂ ∧ s₂.status = .running ∧ Ended s₂ below o ∧ ∃ v L, o = .returned v ∧ Q v s₂.heap L ∧ FrameEnd s o s₂ L C N
variable {Q : Option Value → Heap → List Loc → Prop} {C N : Nat}
theorem Go.step {S S' : State} (k : ∀ t, Steps p.tables e below S' t → Steps p.tables e below S t) (g : Go p e below s Q C N S') : Go p e below s Q C N S := by
  obtain ⟨s2, o, h1, h2⟩ := g
  exact ⟨s2, o, k _ h1, h2⟩
theorem Go.retN (X : Stand p l e R s m args below meth c T locs cells slots) (hx : p.tables.exec = Jvm.exec) {pc : Nat} {Ls : Array Slot} {z : Int32} {t : FieldType} {rest : List Value} (hret : meth.sig.returnType = some t) (ht : t = .boolean ∨ t = .byte ∨ t = .char ∨ t = .short) (hlk : meth.locks = false) (hd : decode c.code pc = .ok (.ireturn, 1))
    (hq : Q (some (.int (nar t z))) T.heap locs) (hc : cells ≤ C) (hs : slots ≤ N) : Go p e below s Q C N (T.setTop (mkF m pc Ls (.int z :: rest))) := by
  obtain ⟨fs, hr, hrun, hended, hW, hsame⟩ := X.leave (v := some (.int (nar t z))) (fun h => by rw [hret] at h; cases h) hlk
  exact ⟨_, _, Jvm.RoadKit.retN X hx (t := t) hret ht hd hr, hrun, hended, _, _, rfl, hq, ⟨_, rfl⟩, hW, hsame.mono hc hs⟩
theorem Go.retI (X : Stand p l e R s m args below meth c T locs cells slots) (hx : p.tables.exec = Jvm.exec) {pc : Nat} {Ls : Array Slot} {z : Int32} {rest : List Value} (hret : meth.sig.returnType = some .int) (hlk : meth.locks = false) (hd : decode c.code pc = .ok (.ireturn, 1))
    (hq : Q (some (.int z)) T.heap locs) (hc : cells ≤ C) (hs : slots ≤ N) : Go p e below s Q C N (T.setTop (mkF m pc Ls (.int z :: rest))) := by
  obtain ⟨fs, hr, hrun, hended, hW, hsame⟩ := X.leave (v := some (.int z)) (fun h => by rw [hret] at h; cases h) hlk
  exact ⟨_, _, Jvm.RoadKit.retI X hx hret hd hr, hrun, hended, _, _, rfl, hq, ⟨_, rfl⟩, hW, hsame.mono hc hs⟩
theorem Go.retA (X : Stand p l e R s m args below meth c T locs cells slots) (hx : p.tables.exec = Jvm.exec) {pc : Nat} {Ls : Array Slot} {v : Value} {rest : List Value} {t : FieldType} (hret : meth.sig.returnType = some t) (ht : t.isReference = true) (hv : v.isRef = true) (hlk : meth.locks = false) (hd : decode c.code pc = .ok (.areturn, 1))
    (hq : Q (some v) T.heap locs) (hc : cells ≤ C) (hs : slots ≤ N) : Go p e below s Q C N (T.setTop (mkF m pc Ls (v :: rest))) := by
  obtain ⟨fs, hr, hrun, hended, hW, hsame⟩ := X.leave (v := some v) (fun h => by rw [hret] at h; cases h) hlk
  refine ⟨_, _, ?_, hrun, hended, _, _, rfl, hq, ⟨_, rfl⟩, hW, hsame.mono hc hs⟩
  have hm' : T.vm.method? m = some meth := X.method'
  show Steps p.tables e below (T.setTop { method := m, pc := pc, locals := Ls, stack := v :: rest, locked := none }) _
  jvm_step X.here [X.here.top, hx, hd, hm', hret, hv, ht]
  first | (intro acts; rw [hr _ acts rfl rfl rfl]) | rw [hr _ _ rfl rfl rfl]
  exact Steps.refl _
theorem own_ne {x k : Int32} {z : Int} (hz : k.toInt = z) (h : ¬ x = k) : x.toInt ≠ z := fun q => h (Int32.toInt_inj.mp (q.trans hz.symm))
end New
end Jvm.RoadKit
namespace Jvm.Pilot.@@N@@
open Jvm Jvm.ClassFile Sem Op Lib Jvm.Free Jvm.Stand Jvm.LawKit Jvm.RoadKit Bundle Jvm.Pilot.@@N@@.Jvm.D
def nmA (i : Nat) : String := ["ANY_ATOMIC", "UNTYPED_ATOMIC", "STRING", "ANY_URI", "BOOLEAN", "DECIMAL", "INTEGER", "NON_POSITIVE_INTEGER", "NEGATIVE_INTEGER", "LONG", "INT", "SHORT", "BYTE", "NON_NEGATIVE_INTEGER", "UNSIGNED_LONG", "UNSIGNED_INT", "UNSIGNED_SHORT", "UNSIGNED_BYTE", "POSITIVE_INTEGER", "FLOAT", "DOUBLE", "DATE_TIME", "DATE", "TIME", "G_YEAR_MONTH", "G_YEAR", "G_MONTH_DAY", "G_DAY", "G_MONTH", "DURATION", "YEAR_MONTH_DURATION", "DAY_TIME_DURATION"].getD i ""
abbrev cA : String := "com/example/tessera/tessera/query/AtomicType"
abbrev dA : String := "Lcom/example/tessera/tessera/query/AtomicType;"
def HSt (Z : State) (h : Heap) (w : Nat → Addr) : Prop := ∀ i, i < 32 → Sta Z h cA (nmA i) dA (.ref (w i))
def HEx (Z : State) (h : Heap) (w : Nat → Addr) : Prop := ∀ i, i < 32 → Exa Z h (w i) cA
def BF (Z : State) (h : Heap) (n0 : Nat) (a : Addr) (w : Nat → Addr) (n : Nat) : Prop :=
  n0 ≤ h.size ∧ n0 ≤ a ∧ HSt Z h w ∧ HEx Z h w ∧ ∃ c, Arr Z h a c (.object cA) ∧ Ovr Z c.cls cA ∧ c.slots.size = 32 ∧ ∀ j, j < n → c.slots[j]? = some (.ref (w j))
theorem BF.new {Z : State} {h h' : Heap} {n0 : Nat} {a : Addr} {w : Nat → Addr} {k : ClassId} (ha : a = h.size) (E : Ext h h') (Z0 : n0 ≤ h.size) (HS : HSt Z h w) (HE : HEx Z h w) (A : Arr Z h' a (newA k (.object cA) 32) (.object cA)) (O : Ovr Z k cA) : BF Z h' n0 a w 0 :=
  ⟨Nat.le_trans Z0 E.1, by rw [ha]; exact Z0, fun i hi => (HS i hi).ext E, fun i hi => (HE i hi).ext E, _, A, O, by rw [sz_new]; rfl, fun j hj => absurd hj (Nat.not_lt_zero j)⟩
theorem BF.next {Z : State} {h h' : Heap} {n0 : Nat} {a : Addr} {w : Nat → Addr} {n : Nat} (B : BF Z h n0 a w n) (hn : n < 32) (W : Wr h h' a n (.ref (w n))) : BF Z h' n0 a w (n + 1) := by
  obtain ⟨b1, b2, b3, b4, c, b5, b6, b7, b8⟩ := B
  refine ⟨by rw [W.size]; exact b1, b2, fun i hi => (b3 i hi).wr W, fun i hi => (b4 i hi).wr W, _, b5.same W, b6, ?_, fun j hj => ?_⟩
  · show (c.slots.setIfInBounds n _).size = 32
    rw [Array.size_setIfInBounds]; exact b7
  · show (c.slots.setIfInBounds n _)[j]? = _
    by_cases e : j = n
    · subst e; rw [Array.getElem?_setIfInBounds_self_of_lt (by omega)]
    · rw [Array.getElem?_setIfInBounds_ne (Ne.symm e)]; exact b8 j (by omega)
theorem own_31i (x : Int32) : 0 ≤ (x &&& (31 : Int32)).toInt ∧ (x &&& (31 : Int32)).toInt < 32 := by
  have e := Jvm.Kit.i32_mask x 31 (k := 5) (by decide) (by decide)
  omega
theorem own_31n (x : Int32) : (((x &&& (31 : Int32)).toNatClampNeg : Nat) : Int) = (x &&& (31 : Int32)).toInt := by
  have h := own_31i x
  show (((x &&& (31 : Int32)).toInt.toNat : Nat) : Int) = _
  omega
theorem own_31 (x : Int32) : ¬ ((x &&& (31 : Int32)) < 0 ∨ 32 ≤ (x &&& (31 : Int32)).toNatClampNeg) := by
  have h := own_31i x
  have h2 := own_31n x
  have e0 : (0 : Int32).toInt = 0 := by decide
  rw [Int32.lt_iff_toInt_lt, e0]
  omega
theorem d1_0 : decode prog_127_method_13_code 0 = .ok (.aload_n 0, 1) := by decide +kernel
theorem d1_1 : decode prog_127_method_13_code 1 = .ok (.getstatic 67, 3) := by decide +kernel
theorem d1_4 : decode prog_127_method_13_code 4 = .ok (.if_acmp .eq 52, 3) := by decide +kernel
theorem d1_7 : decode prog_127_method_13_code 7 = .ok (.aload_n 0, 1) := by decide +kernel
theorem d1_8 : decode prog_127_method_13_code 8 = .ok (.getstatic 70, 3) := by decide +kernel
theorem d1_11 : decode prog_127_method_13_code 11 = .ok (.if_acmp .eq 45, 3) := by decide +kernel
theorem d1_14 : decode prog_127_method_13_code 14 = .ok (.aload_n 0, 1) := by decide +kernel
theorem d1_15 : decode prog_127_method_13_code 15 = .ok (.getstatic 73, 3) := by decide +kernel
theorem d1_18 : decode prog_127_method_13_code 18 = .ok (.if_acmp .eq 38, 3) := by decide +kernel
theorem d1_21 : decode prog_127_method_13_code 21 = .ok (.aload_n 0, 1) := by decide +kernel
theorem d1_22 : decode prog_127_method_13_code 22 = .ok (.getstatic 76, 3) := by decide +kernel
theorem d1_25 : decode prog_127_method_13_code 25 = .ok (.if_acmp .eq 31, 3) := by decide +kernel
theorem d1_28 : decode prog_127_method_13_code 28 = .ok (.aload_n 0, 1) := by decide +kernel
theorem d1_29 : decode prog_127_method_13_code 29 = .ok (.getstatic 79, 3) := by decide +kernel
theorem d1_32 : decode prog_127_method_13_code 32 = .ok (.if_acmp .eq 24, 3) := by decide +kernel
theorem d1_35 : decode prog_127_method_13_code 35 = .ok (.aload_n 0, 1) := by decide +kernel
theorem d1_36 : decode prog_127_method_13_code 36 = .ok (.getstatic 82, 3) := by decide +kernel
theorem d1_39 : decode prog_127_method_13_code 39 = .ok (.if_acmp .eq 17, 3) := by decide +kernel
theorem d1_42 : decode prog_127_method_13_code 42 = .ok (.aload_n 0, 1) := by decide +kernel
theorem d1_43 : decode prog_127_method_13_code 43 = .ok (.getstatic 85, 3) := by decide +kernel
theorem d1_46 : decode prog_127_method_13_code 46 = .ok (.if_acmp .eq 10, 3) := by decide +kernel
theorem d1_49 : decode prog_127_method_13_code 49 = .ok (.aload_n 0, 1) := by decide +kernel
theorem d1_50 : decode prog_127_method_13_code 50 = .ok (.getstatic 88, 3) := by decide +kernel
theorem d1_53 : decode prog_127_method_13_code 53 = .ok (.if_acmp .ne 7, 3) := by decide +kernel
theorem d1_56 : decode prog_127_method_13_code 56 = .ok (.iconst 1, 1) := by decide +kernel
theorem d1_57 : decode prog_127_method_13_code 57 = .ok (.goto 4, 3) := by decide +kernel
theorem d1_60 : decode prog_127_method_13_code 60 = .ok (.iconst 0, 1) := by decide +kernel
theorem d1_61 : decode prog_127_method_13_code 61 = .ok (.ireturn, 1) := by decide +kernel
theorem pn0 : plainName "com/example/tessera/tessera/query/AtomicType" = true := by first | (simp [plainName, overriddenIn]; done) | decide +kernel
theorem pd0 : parseMethodDescriptor "()Z" = some ⟨[], some .boolean⟩ := by decide +kernel
theorem ef1 (m : MethodId) (o0 : Addr) : entryFrame m #[(.ref o0)] 1 = mkF m 0 #[.val (.ref o0)] [] := by first | (simp [entryFrame, mkF, argsToLocals, Value.category]; done) | rfl
def f1 (o0 : Addr) (w : Nat → Addr) : Int32 := (if o0 = (w 21) then (1 : Int32) else (if o0 = (w 22) then (1 : Int32) else (if o0 = (w 23) then (1 : Int32) else (if o0 = (w 24) then (1 : Int32) else (if o0 = (w 25) then (1 : Int32) else (if o0 = (w 26) then (1 : Int32) else (if o0 = (w 27) then (1 : Int32) else (if o0 = (w 28) then (1 : Int32) else (0 : Int32)))))))))
def Q1 (o0 : Addr) (w : Nat → Addr) (h0 : Heap) (n0 : Nat) (v : Option Value) (h : Heap) (L : List Loc) : Prop := v = some (.int (f1 o0 w)) ∧ Fr n0 L ∧ h = h0
set_option maxRecDepth 65536 in
set_option maxHeartbeats 40000000 in
theorem rm1 (l : Launch) (Z : State) (a0 : Array Value) (hw : ∀ d ∈ tables_1, d.before a0 Z = true) (ws : List Jvm.Cond) (o0 : Addr) (w : Nat → Addr) (h0 : Heap) (n0 : Nat) (Z0 : n0 ≤ h0.size) (HS : HSt Z h0 w) :
    MetFree l (⟨"com/example/tessera/tessera/query/AtomicType", "isCalendar", "()Z"⟩ : MethodName) (head1 (Jvm.Cond.code (⟨"com/example/tessera/tessera/query/AtomicType", "isCalendar", "()Z"⟩ : MethodName) prog_127_method_13_code 1 (some .boolean) :: ws) ({ frames := 0, cells := 0, slots := 0, locals := 0 } : Room)) (fun a U => a = #[(.ref o0)] ∧ Z.Warmed39 U.vm ∧ U.heap = h0) (fun _ _ _ _ _ => True) (fun _ U o U' => ∃ v L, o = .returned v ∧ Q1 o0 w h0 n0 v U'.heap L ∧ FrameEnd U o U' L ({ frames := 0, cells := 0, slots := 0, locals := 0 } : Room).cells ({ frames := 0, cells := 0, slots := 0, locals := 0 } : Room).slots) := by
  refine MetFree.of_bodySF (plainFor_of_name pn0) hisR ?_
  intro p e s m args below meth c s₁ Bd hml0 hP hK
  obtain ⟨rfl, hZ, hh⟩ := hP
  have hx := Bd.exec
  have hby := Bd.bytes
  have hml : c.maxLocals = 1 := hml0
  have hown : s.vm.findClass "com/example/tessera/tessera/query/AtomicType" = some m.cls := findClass_of_methodNamed Bd.named
  have X0 : Stand p l e ({ frames := 0, cells := 0, slots := 0, locals := 0 } : Room) s m #[(.ref o0)] below meth c s₁ [] 0 0 := Stand.of_body Bd
  have e0 : s₁.heap = h0 := by rw [← hh, Bd.state]; rfl
  obtain ⟨r, hr0⟩ : ∃ r, f1 o0 w = r := ⟨_, rfl⟩
  have B0 : ∀  (T : State) (locs : List Loc) (X : Stand p l e ({ frames := 0, cells := 0, slots := 0, locals := 0 } : Room) s m #[(.ref o0)] below meth c T locs 0 0) (eT : T.heap = h0) (NF : Fr n0 locs) (hr : f1 o0 w = r), Go p e below s (Q1 o0 w h0 n0) ({ frames := 0, cells := 0, slots := 0, locals := 0 } : Room).cells ({ frames := 0, cells := 0, slots := 0, locals := 0 } : Room).slots (T.setTop (mkF m 0 #[.val (.ref o0)] [])) := by
    intro  T locs X eT NF hr
    unfold f1 at hr
    refine Go.step (S' := T.setTop (mkF m 1 #[.val (.ref o0)] [(.ref o0)])) (fun t k => XS.aloadN X.here hx rfl (hb hby d1_0) rfl rfl k) ?_
    obtain ⟨T1, X1, e1, st1⟩ := getS2 X hx hZ hown (host := "") (Or.inl (hw _ (List.mem_of_getElem? (i := 73) rfl))) Via.refl eT (HS 21 (by decide)) (g := (mkF m 1 #[.val (.ref o0)] [(.ref o0)])) rfl (hb hby d1_1)
    refine Go.step (S' := T1.setTop (mkF m 4 #[.val (.ref o0)] [(.ref (w 21)), (.ref o0)])) (fun t k => st1 t k) ?_
    by_cases hc2 : o0 = (w 21)
    · rw [if_pos hc2] at hr
      refine Go.step (S' := T1.setTop (mkF m 56 #[.val (.ref o0)] [])) (fun t k => Jvm.RoadKit.acmp (g := (mkF m 4 #[.val (.ref o0)] [(.ref (w 21)), (.ref o0)])) X1 hx rfl rfl rfl (pc0 := 4) (pc' := 56) (same := true) rfl (hb hby d1_4) rfl (decide_eq_true (congrArg Value.ref hc2)) (by decide) (by decide) k) ?_
      refine Go.step (S' := T1.setTop (mkF m 57 #[.val (.ref o0)] [(.int (1 : Int32))])) (fun t k => XS.iconst X1.here hx rfl (hb hby d1_56) k) ?_
      refine Go.step (S' := T1.setTop (mkF m 61 #[.val (.ref o0)] [(.int (1 : Int32))])) (fun t k => XS.goto X1.here hx rfl (pc0 := 57) (pc' := 61) rfl (hb hby d1_57) (by decide) (by decide) k) ?_
      exact Go.retN X1 hx (t := .boolean) Bd.returns (by simp) Bd.notSynchronized (hb hby d1_61) ⟨by rw [hr0, ← hr]; first | done | rfl, NF, e1⟩ (by decide) (by decide)
    · rw [if_neg hc2] at hr
      refine Go.step (S' := T1.setTop (mkF m 7 #[.val (.ref o0)] [])) (fun t k => Jvm.RoadKit.acmp (g := (mkF m 4 #[.val (.ref o0)] [(.ref (w 21)), (.ref o0)])) X1 hx rfl rfl rfl (pc0 := 4) (pc' := 7) (same := false) rfl (hb hby d1_4) rfl (decide_eq_false fun q => hc2 (Value.ref.inj q)) (by decide) (by decide) k) ?_
      refine Go.step (S' := T1.setTop (mkF m 8 #[.val (.ref o0)] [(.ref o0)])) (fun t k => XS.aloadN X1.here hx rfl (hb hby d1_7) rfl rfl k) ?_
      obtain ⟨T3, X3, e3, st3⟩ := getS2 X1 hx hZ hown (host := "") (Or.inl (hw _ (List.mem_of_getElem? (i := 74) rfl))) Via.refl e1 (HS 22 (by decide)) (g := (mkF m 8 #[.val (.ref o0)] [(.ref o0)])) rfl (hb hby d1_8)
      refine Go.step (S' := T3.setTop (mkF m 11 #[.val (.ref o0)] [(.ref (w 22)), (.ref o0)])) (fun t k => st3 t k) ?_
      by_cases hc4 : o0 = (w 22)
      · rw [if_pos hc4] at hr
        refine Go.step (S' := T3.setTop (mkF m 56 #[.val (.ref o0)] [])) (fun t k => Jvm.RoadKit.acmp (g := (mkF m 11 #[.val (.ref o0)] [(.ref (w 22)), (.ref o0)])) X3 hx rfl rfl rfl (pc0 := 11) (pc' := 56) (same := true) rfl (hb hby d1_11) rfl (decide_eq_true (congrArg Value.ref hc4)) (by decide) (by decide) k) ?_
        refine Go.step (S' := T3.setTop (mkF m 57 #[.val (.ref o0)] [(.int (1 : Int32))])) (fun t k => XS.iconst X3.here hx rfl (hb hby d1_56) k) ?_
        refine Go.step (S' := T3.setTop (mkF m 61 #[.val (.ref o0)] [(.int (1 : Int32))])) (fun t k => XS.goto X3.here hx rfl (pc0 := 57) (pc' := 61) rfl (hb hby d1_57) (by decide) (by decide) k) ?_
        exact Go.retN X3 hx (t := .boolean) Bd.returns (by simp) Bd.notSynchronized (hb hby d1_61) ⟨by rw [hr0, ← hr]; first | done | rfl, NF, e3⟩ (by decide) (by decide)
      · rw [if_neg hc4] at hr
        refine Go.step (S' := T3.setTop (mkF m 14 #[.val (.ref o0)] [])) (fun t k => Jvm.RoadKit.acmp (g := (mkF m 11 #[.val (.ref o0)] [(.ref (w 22)), (.ref o0)])) X3 hx rfl rfl rfl (pc0 := 11) (pc' := 14) (same := false) rfl (hb hby d1_11) rfl (decide_eq_false fun q => hc4 (Value.ref.inj q)) (by decide) (by decide) k) ?_
        refine Go.step (S' := T3.setTop (mkF m 15 #[.val (.ref o0)] [(.ref o0)])) (fun t k => XS.aloadN X3.here hx rfl (hb hby d1_14) rfl rfl k) ?_
        obtain ⟨T5, X5, e5, st5⟩ := getS2 X3 hx hZ hown (host := "") (Or.inl (hw _ (List.mem_of_getElem? (i := 75) rfl))) Via.refl e3 (HS 23 (by decide)) (g := (mkF m 15 #[.val (.ref o0)] [(.ref o0)])) rfl (hb hby d1_15)
        refine Go.step (S' := T5.setTop (mkF m 18 #[.val (.ref o0)] [(.ref (w 23)), (.ref o0)])) (fun t k => st5 t k) ?_
        by_cases hc6 : o0 = (w 23)
        · rw [if_pos hc6] at hr
          refine Go.step (S' := T5.setTop (mkF m 56 #[.val (.ref o0)] [])) (fun t k => Jvm.RoadKit.acmp (g := (mkF m 18 #[.val (.ref o0)] [(.ref (w 23)), (.ref o0)])) X5 hx rfl rfl rfl (pc0 := 18) (pc' := 56) (same := true) rfl (hb hby d1_18) rfl (decide_eq_true (congrArg Value.ref hc6)) (by decide) (by decide) k) ?_
          refine Go.step (S' := T5.setTop (mkF m 57 #[.val (.ref o0)] [(.int (1 : Int32))])) (fun t k => XS.iconst X5.here hx rfl (hb hby d1_56) k) ?_
          refine Go.step (S' := T5.setTop (mkF m 61 #[.val (.ref o0)] [(.int (1 : Int32))])) (fun t k => XS.goto X5.here hx rfl (pc0 := 57) (pc' := 61) rfl (hb hby d1_57) (by decide) (by decide) k) ?_
          exact Go.retN X5 hx (t := .boolean) Bd.returns (by simp) Bd.notSynchronized (hb hby d1_61) ⟨by rw [hr0, ← hr]; first | done | rfl, NF, e5⟩ (by decide) (by decide)
        · rw [if_neg hc6] at hr
          refine Go.step (S' := T5.setTop (mkF m 21 #[.val (.ref o0)] [])) (fun t k => Jvm.RoadKit.acmp (g := (mkF m 18 #[.val (.ref o0)] [(.ref (w 23)), (.ref o0)])) X5 hx rfl rfl rfl (pc0 := 18) (pc' := 21) (same := false) rfl (hb hby d1_18) rfl (decide_eq_false fun q => hc6 (Value.ref.inj q)) (by decide) (by decide) k) ?_
          refine Go.step (S' := T5.setTop (mkF m 22 #[.val (.ref o0)] [(.ref o0)])) (fun t k => XS.aloadN X5.here hx rfl (hb hby d1_21) rfl rfl k) ?_
          obtain ⟨T7, X7, e7, st7⟩ := getS2 X5 hx hZ hown (host := "") (Or.inl (hw _ (List.mem_of_getElem? (i := 76) rfl))) Via.refl e5 (HS 24 (by decide)) (g := (mkF m 22 #[.val (.ref o0)] [(.ref o0)])) rfl (hb hby d1_22)
          refine Go.step (S' := T7.setTop (mkF m 25 #[.val (.ref o0)] [(.ref (w 24)), (.ref o0)])) (fun t k => st7 t k) ?_
          by_cases hc8 : o0 = (w 24)
          · rw [if_pos hc8] at hr
            refine Go.step (S' := T7.setTop (mkF m 56 #[.val (.ref o0)] [])) (fun t k => Jvm.RoadKit.acmp (g := (mkF m 25 #[.val (.ref o0)] [(.ref (w 24)), (.ref o0)])) X7 hx rfl rfl rfl (pc0 := 25) (pc' := 56) (same := true) rfl (hb hby d1_25) rfl (decide_eq_true (congrArg Value.ref hc8)) (by decide) (by decide) k) ?_
            refine Go.step (S' := T7.setTop (mkF m 57 #[.val (.ref o0)] [(.int (1 : Int32))])) (fun t k => XS.iconst X7.here hx rfl (hb hby d1_56) k) ?_
            refine Go.step (S' := T7.setTop (mkF m 61 #[.val (.ref o0)] [(.int (1 : Int32))])) (fun t k => XS.goto X7.here hx rfl (pc0 := 57) (pc' := 61) rfl (hb hby d1_57) (by decide) (by decide) k) ?_
            exact Go.retN X7 hx (t := .boolean) Bd.returns (by simp) Bd.notSynchronized (hb hby d1_61) ⟨by rw [hr0, ← hr]; first | done | rfl, NF, e7⟩ (by decide) (by decide)
          · rw [if_neg hc8] at hr
            refine Go.step (S' := T7.setTop (mkF m 28 #[.val (.ref o0)] [])) (fun t k => Jvm.RoadKit.acmp (g := (mkF m 25 #[.val (.ref o0)] [(.ref (w 24)), (.ref o0)])) X7 hx rfl rfl rfl (pc0 := 25) (pc' := 28) (same := false) rfl (hb hby d1_25) rfl (decide_eq_false fun q => hc8 (Value.ref.inj q)) (by decide) (by decide) k) ?_
            refine Go.step (S' := T7.setTop (mkF m 29 #[.val (.ref o0)] [(.ref o0)])) (fun t k => XS.aloadN X7.here hx rfl (hb hby d1_28) rfl rfl k) ?_
            obtain ⟨T9, X9, e9, st9⟩ := getS2 X7 hx hZ hown (host := "") (Or.inl (hw _ (List.mem_of_getElem? (i := 77) rfl))) Via.refl e7 (HS 25 (by decide)) (g := (mkF m 29 #[.val (.ref o0)] [(.ref o0)])) rfl (hb hby d1_29)
            refine Go.step (S' := T9.setTop (mkF m 32 #[.val (.ref o0)] [(.ref (w 25)), (.ref o0)])) (fun t k => st9 t k) ?_
            by_cases hc10 : o0 = (w 25)
            · rw [if_pos hc10] at hr
              refine Go.step (S' := T9.setTop (mkF m 56 #[.val (.ref o0)] [])) (fun t k => Jvm.RoadKit.acmp (g := (mkF m 32 #[.val (.ref o0)] [(.ref (w 25)), (.ref o0)])) X9 hx rfl rfl rfl (pc0 := 32) (pc' := 56) (same := true) rfl (hb hby d1_32) rfl (decide_eq_true (congrArg Value.ref hc10)) (by decide) (by decide) k) ?_
              refine Go.step (S' := T9.setTop (mkF m 57 #[.val (.ref o0)] [(.int (1 : Int32))])) (fun t k => XS.iconst X9.here hx rfl (hb hby d1_56) k) ?_
              refine Go.step (S' := T9.setTop (mkF m 61 #[.val (.ref o0)] [(.int (1 : Int32))])) (fun t k => XS.goto X9.here hx rfl (pc0 := 57) (pc' := 61) rfl (hb hby d1_57) (by decide) (by decide) k) ?_
              exact Go.retN X9 hx (t := .boolean) Bd.returns (by simp) Bd.notSynchronized (hb hby d1_61) ⟨by rw [hr0, ← hr]; first | done | rfl, NF, e9⟩ (by decide) (by decide)
            · rw [if_neg hc10] at hr
              refine Go.step (S' := T9.setTop (mkF m 35 #[.val (.ref o0)] [])) (fun t k => Jvm.RoadKit.acmp (g := (mkF m 32 #[.val (.ref o0)] [(.ref (w 25)), (.ref o0)])) X9 hx rfl rfl rfl (pc0 := 32) (pc' := 35) (same := false) rfl (hb hby d1_32) rfl (decide_eq_false fun q => hc10 (Value.ref.inj q)) (by decide) (by decide) k) ?_
              refine Go.step (S' := T9.setTop (mkF m 36 #[.val (.ref o0)] [(.ref o0)])) (fun t k => XS.aloadN X9.here hx rfl (hb hby d1_35) rfl rfl k) ?_
              obtain ⟨T11, X11, e11, st11⟩ := getS2 X9 hx hZ hown (host := "") (Or.inl (hw _ (List.mem_of_getElem? (i := 78) rfl))) Via.refl e9 (HS 26 (by decide)) (g := (mkF m 36 #[.val (.ref o0)] [(.ref o0)])) rfl (hb hby d1_36)
              refine Go.step (S' := T11.setTop (mkF m 39 #[.val (.ref o0)] [(.ref (w 26)), (.ref o0)])) (fun t k => st11 t k) ?_
              by_cases hc12 : o0 = (w 26)
              · rw [if_pos hc12] at hr
                refine Go.step (S' := T11.setTop (mkF m 56 #[.val (.ref o0)] [])) (fun t k => Jvm.RoadKit.acmp (g := (mkF m 39 #[.val (.ref o0)] [(.ref (w 26)), (.ref o0)])) X11 hx rfl rfl rfl (pc0 := 39) (pc' := 56) (same := true) rfl (hb hby d1_39) rfl (decide_eq_true (congrArg Value.ref hc12)) (by decide) (by decide) k) ?_
                refine Go.step (S' := T11.setTop (mkF m 57 #[.val (.ref o0)] [(.int (1 : Int32))])) (fun t k => XS.iconst X11.here hx rfl (hb hby d1_56) k) ?_
                refine Go.step (S' := T11.setTop (mkF m 61 #[.val (.ref o0)] [(.int (1 : Int32))])) (fun t k => XS.goto X11.here hx rfl (pc0 := 57) (pc' := 61) rfl (hb hby d1_57) (by decide) (by decide) k) ?_
                exact Go.retN X11 hx (t := .boolean) Bd.returns (by simp) Bd.notSynchronized (hb hby d1_61) ⟨by rw [hr0, ← hr]; first | done | rfl, NF, e11⟩ (by decide) (by decide)
              · rw [if_neg hc12] at hr
                refine Go.step (S' := T11.setTop (mkF m 42 #[.val (.ref o0)] [])) (fun t k => Jvm.RoadKit.acmp (g := (mkF m 39 #[.val (.ref o0)] [(.ref (w 26)), (.ref o0)])) X11 hx rfl rfl rfl (pc0 := 39) (pc' := 42) (same := false) rfl (hb hby d1_39) rfl (decide_eq_false fun q => hc12 (Value.ref.inj q)) (by decide) (by decide) k) ?_
                refine Go.step (S' := T11.setTop (mkF m 43 #[.val (.ref o0)] [(.ref o0)])) (fun t k => XS.aloadN X11.here hx rfl (hb hby d1_42) rfl rfl k) ?_
                obtain ⟨T13, X13, e13, st13⟩ := getS2 X11 hx hZ hown (host := "") (Or.inl (hw _ (List.mem_of_getElem? (i := 79) rfl))) Via.refl e11 (HS 27 (by decide)) (g := (mkF m 43 #[.val (.ref o0)] [(.ref o0)])) rfl (hb hby d1_43)
                refine Go.step (S' := T13.setTop (mkF m 46 #[.val (.ref o0)] [(.ref (w 27)), (.ref o0)])) (fun t k => st13 t k) ?_
                by_cases hc14 : o0 = (w 27)
                · rw [if_pos hc14] at hr
                  refine Go.step (S' := T13.setTop (mkF m 56 #[.val (.ref o0)] [])) (fun t k => Jvm.RoadKit.acmp (g := (mkF m 46 #[.val (.ref o0)] [(.ref (w 27)), (.ref o0)])) X13 hx rfl rfl rfl (pc0 := 46) (pc' := 56) (same := true) rfl (hb hby d1_46) rfl (decide_eq_true (congrArg Value.ref hc14)) (by decide) (by decide) k) ?_
                  refine Go.step (S' := T13.setTop (mkF m 57 #[.val (.ref o0)] [(.int (1 : Int32))])) (fun t k => XS.iconst X13.here hx rfl (hb hby d1_56) k) ?_
                  refine Go.step (S' := T13.setTop (mkF m 61 #[.val (.ref o0)] [(.int (1 : Int32))])) (fun t k => XS.goto X13.here hx rfl (pc0 := 57) (pc' := 61) rfl (hb hby d1_57) (by decide) (by decide) k) ?_
                  exact Go.retN X13 hx (t := .boolean) Bd.returns (by simp) Bd.notSynchronized (hb hby d1_61) ⟨by rw [hr0, ← hr]; first | done | rfl, NF, e13⟩ (by decide) (by decide)
                · rw [if_neg hc14] at hr
                  refine Go.step (S' := T13.setTop (mkF m 49 #[.val (.ref o0)] [])) (fun t k => Jvm.RoadKit.acmp (g := (mkF m 46 #[.val (.ref o0)] [(.ref (w 27)), (.ref o0)])) X13 hx rfl rfl rfl (pc0 := 46) (pc' := 49) (same := false) rfl (hb hby d1_46) rfl (decide_eq_false fun q => hc14 (Value.ref.inj q)) (by decide) (by decide) k) ?_
                  refine Go.step (S' := T13.setTop (mkF m 50 #[.val (.ref o0)] [(.ref o0)])) (fun t k => XS.aloadN X13.here hx rfl (hb hby d1_49) rfl rfl k) ?_
                  obtain ⟨T15, X15, e15, st15⟩ := getS2 X13 hx hZ hown (host := "") (Or.inl (hw _ (List.mem_of_getElem? (i := 80) rfl))) Via.refl e13 (HS 28 (by decide)) (g := (mkF m 50 #[.val (.ref o0)] [(.ref o0)])) rfl (hb hby d1_50)
                  refine Go.step (S' := T15.setTop (mkF m 53 #[.val (.ref o0)] [(.ref (w 28)), (.ref o0)])) (fun t k => st15 t k) ?_
                  by_cases hc16 : o0 = (w 28)
                  · rw [if_pos hc16] at hr
                    refine Go.step (S' := T15.setTop (mkF m 56 #[.val (.ref o0)] [])) (fun t k => Jvm.RoadKit.acmp (g := (mkF m 53 #[.val (.ref o0)] [(.ref (w 28)), (.ref o0)])) X15 hx rfl rfl rfl (pc0 := 53) (pc' := 56) (same := true) rfl (hb hby d1_53) rfl (decide_eq_true (congrArg Value.ref hc16)) (by decide) (by decide) k) ?_
                    refine Go.step (S' := T15.setTop (mkF m 57 #[.val (.ref o0)] [(.int (1 : Int32))])) (fun t k => XS.iconst X15.here hx rfl (hb hby d1_56) k) ?_
                    refine Go.step (S' := T15.setTop (mkF m 61 #[.val (.ref o0)] [(.int (1 : Int32))])) (fun t k => XS.goto X15.here hx rfl (pc0 := 57) (pc' := 61) rfl (hb hby d1_57) (by decide) (by decide) k) ?_
                    exact Go.retN X15 hx (t := .boolean) Bd.returns (by simp) Bd.notSynchronized (hb hby d1_61) ⟨by rw [hr0, ← hr]; first | done | rfl, NF, e15⟩ (by decide) (by decide)
                  · rw [if_neg hc16] at hr
                    refine Go.step (S' := T15.setTop (mkF m 60 #[.val (.ref o0)] [])) (fun t k => Jvm.RoadKit.acmp (g := (mkF m 53 #[.val (.ref o0)] [(.ref (w 28)), (.ref o0)])) X15 hx rfl rfl rfl (pc0 := 53) (pc' := 60) (same := false) rfl (hb hby d1_53) rfl (decide_eq_false fun q => hc16 (Value.ref.inj q)) (by decide) (by decide) k) ?_
                    refine Go.step (S' := T15.setTop (mkF m 61 #[.val (.ref o0)] [(.int (0 : Int32))])) (fun t k => XS.iconst X15.here hx rfl (hb hby d1_60) k) ?_
                    exact Go.retN X15 hx (t := .boolean) Bd.returns (by simp) Bd.notSynchronized (hb hby d1_61) ⟨by rw [hr0, ← hr]; first | done | rfl, NF, e15⟩ (by decide) (by decide)
  show Go p e below s (Q1 o0 w h0 n0) ({ frames := 0, cells := 0, slots := 0, locals := 0 } : Room).cells ({ frames := 0, cells := 0, slots := 0, locals := 0 } : Room).slots (s₁.setTop (entryFrame m #[(.ref o0)] 1))
  rw [ef1]
  exact B0 s₁ [] X0 e0 (Fr.nil n0) hr0
theorem pn1 : plainName "com/example/tessera/tessera/query/AtomicTypeIsCalendarPinLaw" = true := by first | (simp [plainName, overriddenIn]; done) | decide +kernel
theorem pd1 : parseMethodDescriptor "(I)Z" = some ⟨[.int], some .boolean⟩ := by decide +kernel
theorem ef0 (m : MethodId) (x0 : Int32) : entryFrame m #[(.int x0)] maxLocals = mkF m 0 #[.val (.int x0), .unset, .unset, .unset, .unset] [] := by first | (simp [entryFrame, mkF, argsToLocals, Value.category, maxLocals]; done) | rfl
def f0 (x0 : Int32) (w : Nat → Addr) : Int32 := (if (x0 &&& (31 : Int32)) < (21 : Int32) then (if (f1 (w (x0 &&& (31 : Int32)).toNatClampNeg) w) = (0 : Int32) then (1 : Int32) else (0 : Int32)) else (if (28 : Int32) < (x0 &&& (31 : Int32)) then (if (f1 (w (x0 &&& (31 : Int32)).toNatClampNeg) w) = (0 : Int32) then (1 : Int32) else (0 : Int32)) else (if (f1 (w (x0 &&& (31 : Int32)).toNatClampNeg) w) = (1 : Int32) then (1 : Int32) else (0 : Int32))))
def Q0 (x0 : Int32) (w : Nat → Addr) (h0 : Heap) (n0 : Nat) (v : Option Value) (h : Heap) (L : List Loc) : Prop := v = some (.int (f0 x0 w)) ∧ Fr n0 L
set_option maxRecDepth 65536 in
set_option maxHeartbeats 40000000 in
theorem rm0 (l : Launch) (Z : State) (a0 : Array Value) (hw : ∀ d ∈ tables_1, d.before a0 Z = true) (ws : List Jvm.Cond) (x0 : Int32) (w : Nat → Addr) (h0 : Heap) (n0 : Nat) (Z0 : n0 ≤ h0.size) (HS : HSt Z h0 w) (HE : HEx Z h0 w) :
    MetFree l x (head1 (Jvm.Cond.code x code maxLocals ret :: ws) room_1) (fun a U => a = #[(.int x0)] ∧ Z.Warmed39 U.vm ∧ U.heap = h0) (fun _ _ _ _ _ => True) (fun _ U o U' => ∃ v L, o = .returned v ∧ Q0 x0 w h0 n0 v U'.heap L ∧ FrameEnd U o U' L room_1.cells room_1.slots) := by
  refine MetFree.of_bodySF (plainFor_of_name pn1) hisR ?_
  intro p e s m args below meth c s₁ Bd hml0 hP hK
  obtain ⟨rfl, hZ, hh⟩ := hP
  have hx := Bd.exec
  have hby := Bd.bytes
  have hml : c.maxLocals = 5 := hml0
  have hown : s.vm.findClass "com/example/tessera/tessera/query/AtomicTypeIsCalendarPinLaw" = some m.cls := findClass_of_methodNamed Bd.named
  have X0 : Stand p l e room_1 s m #[(.int x0)] below meth c s₁ [] 0 0 := Stand.of_body Bd
  have e0 : s₁.heap = h0 := by rw [← hh, Bd.state]; rfl
  obtain ⟨r, hr0⟩ : ∃ r, f0 x0 w = r := ⟨_, rfl⟩
  have B0 : ∀  (T : State) (locs : List Loc) (X : Stand p l e room_1 s m #[(.int x0)] below meth c T locs 0 0) (eT : T.heap = h0) (NF : Fr n0 locs) (hr : f0 x0 w = r), Go p e below s (Q0 x0 w h0 n0) room_1.cells room_1.slots (T.setTop (mkF m 0 #[.val (.int x0), .unset, .unset, .unset, .unset] [])) := by
    intro  T locs X eT NF hr
    unfold f0 at hr
    refine Go.step (S' := T.setTop (mkF m 2 #[.val (.int x0), .unset, .unset, .unset, .unset] [(.int (32 : Int32))])) (fun t k => XS.bipush X.here hx rfl (hb hby at_0) k) ?_
    obtain ⟨T1, h1, k1, X1, e1, E1, A1, O1, st1⟩ := newR X hx hZ hown (hw _ (List.mem_of_getElem? (i := 0) rfl)) (hw _ (List.mem_of_getElem? (i := 1) rfl)) eT (g := (mkF m 2 #[.val (.int x0), .unset, .unset, .unset, .unset] [(.int (32 : Int32))])) rfl (hb hby at_2) rfl (by decide) (cap := 32) (by decide) (by decide) (by decide) (by decide)
    obtain ⟨aN, ga⟩ : ∃ z, z = h0.size := ⟨_, rfl⟩
    rw [← ga] at A1 st1
    have Bf1 : BF Z h1 n0 aN w 0 := BF.new ga E1 Z0 HS HE A1 O1
    refine Go.step (S' := T1.setTop (mkF m 5 #[.val (.int x0), .unset, .unset, .unset, .unset] [(.ref aN)])) (fun t k => st1 t k) ?_
    refine Go.step (S' := T1.setTop (mkF m 6 #[.val (.int x0), .unset, .unset, .unset, .unset] [(.ref aN), (.ref aN)])) (fun t k => XS.dup X1.here hx rfl (hb hby at_5) rfl rfl k) ?_
    refine Go.step (S' := T1.setTop (mkF m 7 #[.val (.int x0), .unset, .unset, .unset, .unset] [(.int (0 : Int32)), (.ref aN), (.ref aN)])) (fun t k => XS.iconst X1.here hx rfl (hb hby at_6) k) ?_
    obtain ⟨T2, X2, e2, st2⟩ := getS2 X1 hx hZ hown (host := "") (Or.inl (hw _ (List.mem_of_getElem? (i := 2) rfl))) Via.refl e1 (Bf1.2.2.1 0 (by decide)) (g := (mkF m 7 #[.val (.int x0), .unset, .unset, .unset, .unset] [(.int (0 : Int32)), (.ref aN), (.ref aN)])) rfl (hb hby at_7)
    refine Go.step (S' := T2.setTop (mkF m 10 #[.val (.int x0), .unset, .unset, .unset, .unset] [(.ref (w 0)), (.int (0 : Int32)), (.ref aN), (.ref aN)])) (fun t k => st2 t k) ?_
    obtain ⟨_, _, _, _, cl3, Ar3, Ov3, hsz3, -⟩ := id Bf1
    obtain ⟨T3, h3, X3, e3, W3, st3⟩ := stR X2 hx hZ e2 Ar3 (j := (0 : Int32)) (by rw [hsz3]; decide) rfl (Sto.of Ar3 Ov3 (Ins.self (Bf1.2.2.2.1 0 (by decide)))) (g := (mkF m 10 #[.val (.int x0), .unset, .unset, .unset, .unset] [(.ref (w 0)), (.int (0 : Int32)), (.ref aN), (.ref aN)])) rfl rfl (hb hby at_10)
    have Bf3 : BF Z h3 n0 aN w 1 := Bf1.next (by decide) W3
    have N3 := Fr.snoc X3 NF Bf1.2.1
    refine Go.step (S' := T3.setTop (mkF m 11 #[.val (.int x0), .unset, .unset, .unset, .unset] [(.ref aN)])) (fun t k => st3 t k) ?_
    refine Go.step (S' := T3.setTop (mkF m 12 #[.val (.int x0), .unset, .unset, .unset, .unset] [(.ref aN), (.ref aN)])) (fun t k => XS.dup X3.here hx rfl (hb hby at_11) rfl rfl k) ?_
    refine Go.step (S' := T3.setTop (mkF m 13 #[.val (.int x0), .unset, .unset, .unset, .unset] [(.int (1 : Int32)), (.ref aN), (.ref aN)])) (fun t k => XS.iconst X3.here hx rfl (hb hby at_12) k) ?_
    obtain ⟨T4, X4, e4, st4⟩ := getS2 X3 hx hZ hown (host := "") (Or.inl (hw _ (List.mem_of_getElem? (i := 6) rfl))) Via.refl e3 (Bf3.2.2.1 1 (by decide)) (g := (mkF m 13 #[.val (.int x0), .unset, .unset, .unset, .unset] [(.int (1 : Int32)), (.ref aN), (.ref aN)])) rfl (hb hby at_13)
    refine Go.step (S' := T4.setTop (mkF m 16 #[.val (.int x0), .unset, .unset, .unset, .unset] [(.ref (w 1)), (.int (1 : Int32)), (.ref aN), (.ref aN)])) (fun t k => st4 t k) ?_
    obtain ⟨_, _, _, _, cl5, Ar5, Ov5, hsz5, -⟩ := id Bf3
    obtain ⟨T5, h5, X5, e5, W5, st5⟩ := stR X4 hx hZ e4 Ar5 (j := (1 : Int32)) (by rw [hsz5]; decide) rfl (Sto.of Ar5 Ov5 (Ins.self (Bf3.2.2.2.1 1 (by decide)))) (g := (mkF m 16 #[.val (.int x0), .unset, .unset, .unset, .unset] [(.ref (w 1)), (.int (1 : Int32)), (.ref aN), (.ref aN)])) rfl rfl (hb hby at_16)
    have Bf5 : BF Z h5 n0 aN w 2 := Bf3.next (by decide) W5
    have N5 := Fr.snoc X5 N3 Bf3.2.1
    refine Go.step (S' := T5.setTop (mkF m 17 #[.val (.int x0), .unset, .unset, .unset, .unset] [(.ref aN)])) (fun t k => st5 t k) ?_
    refine Go.step (S' := T5.setTop (mkF m 18 #[.val (.int x0), .unset, .unset, .unset, .unset] [(.ref aN), (.ref aN)])) (fun t k => XS.dup X5.here hx rfl (hb hby at_17) rfl rfl k) ?_
    refine Go.step (S' := T5.setTop (mkF m 19 #[.val (.int x0), .unset, .unset, .unset, .unset] [(.int (2 : Int32)), (.ref aN), (.ref aN)])) (fun t k => XS.iconst X5.here hx rfl (hb hby at_18) k) ?_
    obtain ⟨T6, X6, e6, st6⟩ := getS2 X5 hx hZ hown (host := "") (Or.inl (hw _ (List.mem_of_getElem? (i := 8) rfl))) Via.refl e5 (Bf5.2.2.1 2 (by decide)) (g := (mkF m 19 #[.val (.int x0), .unset, .unset, .unset, .unset] [(.int (2 : Int32)), (.ref aN), (.ref aN)])) rfl (hb hby at_19)
    refine Go.step (S' := T6.setTop (mkF m 22 #[.val (.int x0), .unset, .unset, .unset, .unset] [(.ref (w 2)), (.int (2 : Int32)), (.ref aN), (.ref aN)])) (fun t k => st6 t k) ?_
    obtain ⟨_, _, _, _, cl7, Ar7, Ov7, hsz7, -⟩ := id Bf5
    obtain ⟨T7, h7, X7, e7, W7, st7⟩ := stR X6 hx hZ e6 Ar7 (j := (2 : Int32)) (by rw [hsz7]; decide) rfl (Sto.of Ar7 Ov7 (Ins.self (Bf5.2.2.2.1 2 (by decide)))) (g := (mkF m 22 #[.val (.int x0), .unset, .unset, .unset, .unset] [(.ref (w 2)), (.int (2 : Int32)), (.ref aN), (.ref aN)])) rfl rfl (hb hby at_22)
    have Bf7 : BF Z h7 n0 aN w 3 := Bf5.next (by decide) W7
    have N7 := Fr.snoc X7 N5 Bf5.2.1
    refine Go.step (S' := T7.setTop (mkF m 23 #[.val (.int x0), .unset, .unset, .unset, .unset] [(.ref aN)])) (fun t k => st7 t k) ?_
    refine Go.step (S' := T7.setTop (mkF m 24 #[.val (.int x0), .unset, .unset, .unset, .unset] [(.ref aN), (.ref aN)])) (fun t k => XS.dup X7.here hx rfl (hb hby at_23) rfl rfl k) ?_
    refine Go.step (S' := T7.setTop (mkF m 25 #[.val (.int x0), .unset, .unset, .unset, .unset] [(.int (3 : Int32)), (.ref aN), (.ref aN)])) (fun t k => XS.iconst X7.here hx rfl (hb hby at_24) k) ?_
    obtain ⟨T8, X8, e8, st8⟩ := getS2 X7 hx hZ hown (host := "") (Or.inl (hw _ (List.mem_of_getElem? (i := 10) rfl))) Via.refl e7 (Bf7.2.2.1 3 (by decide)) (g := (mkF m 25 #[.val (.int x0), .unset, .unset, .unset, .unset] [(.int (3 : Int32)), (.ref aN), (.ref aN)])) rfl (hb hby at_25)
    refine Go.step (S' := T8.setTop (mkF m 28 #[.val (.int x0), .unset, .unset, .unset, .unset] [(.ref (w 3)), (.int (3 : Int32)), (.ref aN), (.ref aN)])) (fun t k => st8 t k) ?_
    obtain ⟨_, _, _, _, cl9, Ar9, Ov9, hsz9, -⟩ := id Bf7
    obtain ⟨T9, h9, X9, e9, W9, st9⟩ := stR X8 hx hZ e8 Ar9 (j := (3 : Int32)) (by rw [hsz9]; decide) rfl (Sto.of Ar9 Ov9 (Ins.self (Bf7.2.2.2.1 3 (by decide)))) (g := (mkF m 28 #[.val (.int x0), .unset, .unset, .unset, .unset] [(.ref (w 3)), (.int (3 : Int32)), (.ref aN), (.ref aN)])) rfl rfl (hb hby at_28)
    have Bf9 : BF Z h9 n0 aN w 4 := Bf7.next (by decide) W9
    have N9 := Fr.snoc X9 N7 Bf7.2.1
    refine Go.step (S' := T9.setTop (mkF m 29 #[.val (.int x0), .unset, .unset, .unset, .unset] [(.ref aN)])) (fun t k => st9 t k) ?_
    refine Go.step (S' := T9.setTop (mkF m 30 #[.val (.int x0), .unset, .unset, .unset, .unset] [(.ref aN), (.ref aN)])) (fun t k => XS.dup X9.here hx rfl (hb hby at_29) rfl rfl k) ?_
    refine Go.step (S' := T9.setTop (mkF m 31 #[.val (.int x0), .unset, .unset, .unset, .unset] [(.int (4 : Int32)), (.ref aN), (.ref aN)])) (fun t k => XS.iconst X9.here hx rfl (hb hby at_30) k) ?_
    obtain ⟨T10, X10, e10, st10⟩ := getS2 X9 hx hZ hown (host := "") (Or.inl (hw _ (List.mem_of_getElem? (i := 12) rfl))) Via.refl e9 (Bf9.2.2.1 4 (by decide)) (g := (mkF m 31 #[.val (.int x0), .unset, .unset, .unset, .unset] [(.int (4 : Int32)), (.ref aN), (.ref aN)])) rfl (hb hby at_31)
    refine Go.step (S' := T10.setTop (mkF m 34 #[.val (.int x0), .unset, .unset, .unset, .unset] [(.ref (w 4)), (.int (4 : Int32)), (.ref aN), (.ref aN)])) (fun t k => st10 t k) ?_
    obtain ⟨_, _, _, _, cl11, Ar11, Ov11, hsz11, -⟩ := id Bf9
    obtain ⟨T11, h11, X11, e11, W11, st11⟩ := stR X10 hx hZ e10 Ar11 (j := (4 : Int32)) (by rw [hsz11]; decide) rfl (Sto.of Ar11 Ov11 (Ins.self (Bf9.2.2.2.1 4 (by decide)))) (g := (mkF m 34 #[.val (.int x0), .unset, .unset, .unset, .unset] [(.ref (w 4)), (.int (4 : Int32)), (.ref aN), (.ref aN)])) rfl rfl (hb hby at_34)
    have Bf11 : BF Z h11 n0 aN w 5 := Bf9.next (by decide) W11
    have N11 := Fr.snoc X11 N9 Bf9.2.1
    refine Go.step (S' := T11.setTop (mkF m 35 #[.val (.int x0), .unset, .unset, .unset, .unset] [(.ref aN)])) (fun t k => st11 t k) ?_
    refine Go.step (S' := T11.setTop (mkF m 36 #[.val (.int x0), .unset, .unset, .unset, .unset] [(.ref aN), (.ref aN)])) (fun t k => XS.dup X11.here hx rfl (hb hby at_35) rfl rfl k) ?_
    refine Go.step (S' := T11.setTop (mkF m 37 #[.val (.int x0), .unset, .unset, .unset, .unset] [(.int (5 : Int32)), (.ref aN), (.ref aN)])) (fun t k => XS.iconst X11.here hx rfl (hb hby at_36) k) ?_
    obtain ⟨T12, X12, e12, st12⟩ := getS2 X11 hx hZ hown (host := "") (Or.inl (hw _ (List.mem_of_getElem? (i := 14) rfl))) Via.refl e11 (Bf11.2.2.1 5 (by decide)) (g := (mkF m 37 #[.val (.int x0), .unset, .unset, .unset, .unset] [(.int (5 : Int32)), (.ref aN), (.ref aN)])) rfl (hb hby at_37)
    refine Go.step (S' := T12.setTop (mkF m 40 #[.val (.int x0), .unset, .unset, .unset, .unset] [(.ref (w 5)), (.int (5 : Int32)), (.ref aN), (.ref aN)])) (fun t k => st12 t k) ?_
    obtain ⟨_, _, _, _, cl13, Ar13, Ov13, hsz13, -⟩ := id Bf11
    obtain ⟨T13, h13, X13, e13, W13, st13⟩ := stR X12 hx hZ e12 Ar13 (j := (5 : Int32)) (by rw [hsz13]; decide) rfl (Sto.of Ar13 Ov13 (Ins.self (Bf11.2.2.2.1 5 (by decide)))) (g := (mkF m 40 #[.val (.int x0), .unset, .unset, .unset, .unset] [(.ref (w 5)), (.int (5 : Int32)), (.ref aN), (.ref aN)])) rfl rfl (hb hby at_40)
    have Bf13 : BF Z h13 n0 aN w 6 := Bf11.next (by decide) W13
    have N13 := Fr.snoc X13 N11 Bf11.2.1
    refine Go.step (S' := T13.setTop (mkF m 41 #[.val (.int x0), .unset, .unset, .unset, .unset] [(.ref aN)])) (fun t k => st13 t k) ?_
    refine Go.step (S' := T13.setTop (mkF m 42 #[.val (.int x0), .unset, .unset, .unset, .unset] [(.ref aN), (.ref aN)])) (fun t k => XS.dup X13.here hx rfl (hb hby at_41) rfl rfl k) ?_
    refine Go.step (S' := T13.setTop (mkF m 44 #[.val (.int x0), .unset, .unset, .unset, .unset] [(.int (6 : Int32)), (.ref aN), (.ref aN)])) (fun t k => XS.bipush X13.here hx rfl (hb hby at_42) k) ?_
    obtain ⟨T14, X14, e14, st14⟩ := getS2 X13 hx hZ hown (host := "") (Or.inl (hw _ (List.mem_of_getElem? (i := 16) rfl))) Via.refl e13 (Bf13.2.2.1 6 (by decide)) (g := (mkF m 44 #[.val (.int x0), .unset, .unset, .unset, .unset] [(.int (6 : Int32)), (.ref aN), (.ref aN)])) rfl (hb hby at_44)
    refine Go.step (S' := T14.setTop (mkF m 47 #[.val (.int x0), .unset, .unset, .unset, .unset] [(.ref (w 6)), (.int (6 : Int32)), (.ref aN), (.ref aN)])) (fun t k => st14 t k) ?_
    obtain ⟨_, _, _, _, cl15, Ar15, Ov15, hsz15, -⟩ := id Bf13
    obtain ⟨T15, h15, X15, e15, W15, st15⟩ := stR X14 hx hZ e14 Ar15 (j := (6 : Int32)) (by rw [hsz15]; decide) rfl (Sto.of Ar15 Ov15 (Ins.self (Bf13.2.2.2.1 6 (by decide)))) (g := (mkF m 47 #[.val (.int x0), .unset, .unset, .unset, .unset] [(.ref (w 6)), (.int (6 : Int32)), (.ref aN), (.ref aN)])) rfl rfl (hb hby at_47)
    have Bf15 : BF Z h15 n0 aN w 7 := Bf13.next (by decide) W15
    have N15 := Fr.snoc X15 N13 Bf13.2.1
    refine Go.step (S' := T15.setTop (mkF m 48 #[.val (.int x0), .unset, .unset, .unset, .unset] [(.ref aN)])) (fun t k => st15 t k) ?_
    refine Go.step (S' := T15.setTop (mkF m 49 #[.val (.int x0), .unset, .unset, .unset, .unset] [(.ref aN), (.ref aN)])) (fun t k => XS.dup X15.here hx rfl (hb hby at_48) rfl rfl k) ?_
    refine Go.step (S' := T15.setTop (mkF m 51 #[.val (.int x0), .unset, .unset, .unset, .unset] [(.int (7 : Int32)), (.ref aN), (.ref aN)])) (fun t k => XS.bipush X15.here hx rfl (hb hby at_49) k) ?_
    obtain ⟨T16, X16, e16, st16⟩ := getS2 X15 hx hZ hown (host := "") (Or.inl (hw _ (List.mem_of_getElem? (i := 18) rfl))) Via.refl e15 (Bf15.2.2.1 7 (by decide)) (g := (mkF m 51 #[.val (.int x0), .unset, .unset, .unset, .unset] [(.int (7 : Int32)), (.ref aN), (.ref aN)])) rfl (hb hby at_51)
    refine Go.step (S' := T16.setTop (mkF m 54 #[.val (.int x0), .unset, .unset, .unset, .unset] [(.ref (w 7)), (.int (7 : Int32)), (.ref aN), (.ref aN)])) (fun t k => st16 t k) ?_
    obtain ⟨_, _, _, _, cl17, Ar17, Ov17, hsz17, -⟩ := id Bf15
    obtain ⟨T17, h17, X17, e17, W17, st17⟩ := stR X16 hx hZ e16 Ar17 (j := (7 : Int32)) (by rw [hsz17]; decide) rfl (Sto.of Ar17 Ov17 (Ins.self (Bf15.2.2.2.1 7 (by decide)))) (g := (mkF m 54 #[.val (.int x0), .unset, .unset, .unset, .unset] [(.ref (w 7)), (.int (7 : Int32)), (.ref aN), (.ref aN)])) rfl rfl (hb hby at_54)
    have Bf17 : BF Z h17 n0 aN w 8 := Bf15.next (by decide) W17
    have N17 := Fr.snoc X17 N15 Bf15.2.1
    refine Go.step (S' := T17.setTop (mkF m 55 #[.val (.int x0), .unset, .unset, .unset, .unset] [(.ref aN)])) (fun t k => st17 t k) ?_
    refine Go.step (S' := T17.setTop (mkF m 56 #[.val (.int x0), .unset, .unset, .unset, .unset] [(.ref aN), (.ref aN)])) (fun t k => XS.dup X17.here hx rfl (hb hby at_55) rfl rfl k) ?_
    refine Go.step (S' := T17.setTop (mkF m 58 #[.val (.int x0), .unset, .unset, .unset, .unset] [(.int (8 : Int32)), (.ref aN), (.ref aN)])) (fun t k => XS.bipush X17.here hx rfl (hb hby at_56) k) ?_
    obtain ⟨T18, X18, e18, st18⟩ := getS2 X17 hx hZ hown (host := "") (Or.inl (hw _ (List.mem_of_getElem? (i := 20) rfl))) Via.refl e17 (Bf17.2.2.1 8 (by decide)) (g := (mkF m 58 #[.val (.int x0), .unset, .unset, .unset, .unset] [(.int (8 : Int32)), (.ref aN), (.ref aN)])) rfl (hb hby at_58)
    refine Go.step (S' := T18.setTop (mkF m 61 #[.val (.int x0), .unset, .unset, .unset, .unset] [(.ref (w 8)), (.int (8 : Int32)), (.ref aN), (.ref aN)])) (fun t k => st18 t k) ?_
    obtain ⟨_, _, _, _, cl19, Ar19, Ov19, hsz19, -⟩ := id Bf17
    obtain ⟨T19, h19, X19, e19, W19, st19⟩ := stR X18 hx hZ e18 Ar19 (j := (8 : Int32)) (by rw [hsz19]; decide) rfl (Sto.of Ar19 Ov19 (Ins.self (Bf17.2.2.2.1 8 (by decide)))) (g := (mkF m 61 #[.val (.int x0), .unset, .unset, .unset, .unset] [(.ref (w 8)), (.int (8 : Int32)), (.ref aN), (.ref aN)])) rfl rfl (hb hby at_61)
    have Bf19 : BF Z h19 n0 aN w 9 := Bf17.next (by decide) W19
    have N19 := Fr.snoc X19 N17 Bf17.2.1
    refine Go.step (S' := T19.setTop (mkF m 62 #[.val (.int x0), .unset, .unset, .unset, .unset] [(.ref aN)])) (fun t k => st19 t k) ?_
    refine Go.step (S' := T19.setTop (mkF m 63 #[.val (.int x0), .unset, .unset, .unset, .unset] [(.ref aN), (.ref aN)])) (fun t k => XS.dup X19.here hx rfl (hb hby at_62) rfl rfl k) ?_
    refine Go.step (S' := T19.setTop (mkF m 65 #[.val (.int x0), .unset, .unset, .unset, .unset] [(.int (9 : Int32)), (.ref aN), (.ref aN)])) (fun t k => XS.bipush X19.here hx rfl (hb hby at_63) k) ?_
    obtain ⟨T20, X20, e20, st20⟩ := getS2 X19 hx hZ hown (host := "") (Or.inl (hw _ (List.mem_of_getElem? (i := 22) rfl))) Via.refl e19 (Bf19.2.2.1 9 (by decide)) (g := (mkF m 65 #[.val (.int x0), .unset, .unset, .unset, .unset] [(.int (9 : Int32)), (.ref aN), (.ref aN)])) rfl (hb hby at_65)
    refine Go.step (S' := T20.setTop (mkF m 68 #[.val (.int x0), .unset, .unset, .unset, .unset] [(.ref (w 9)), (.int (9 : Int32)), (.ref aN), (.ref aN)])) (fun t k => st20 t k) ?_
    obtain ⟨_, _, _, _, cl21, Ar21, Ov21, hsz21, -⟩ := id Bf19
    obtain ⟨T21, h21, X21, e21, W21, st21⟩ := stR X20 hx hZ e20 Ar21 (j := (9 : Int32)) (by rw [hsz21]; decide) rfl (Sto.of Ar21 Ov21 (Ins.self (Bf19.2.2.2.1 9 (by decide)))) (g := (mkF m 68 #[.val (.int x0), .unset, .unset, .unset, .unset] [(.ref (w 9)), (.int (9 : Int32)), (.ref aN), (.ref aN)])) rfl rfl (hb hby at_68)
    have Bf21 : BF Z h21 n0 aN w 10 := Bf19.next (by decide) W21
    have N21 := Fr.snoc X21 N19 Bf19.2.1
    refine Go.step (S' := T21.setTop (mkF m 69 #[.val (.int x0), .unset, .unset, .unset, .unset] [(.ref aN)])) (fun t k => st21 t k) ?_
    refine Go.step (S' := T21.setTop (mkF m 70 #[.val (.int x0), .unset, .unset, .unset, .unset] [(.ref aN), (.ref aN)])) (fun t k => XS.dup X21.here hx rfl (hb hby at_69) rfl rfl k) ?_
    refine Go.step (S' := T21.setTop (mkF m 72 #[.val (.int x0), .unset, .unset, .unset, .unset] [(.int (10 : Int32)), (.ref aN), (.ref aN)])) (fun t k => XS.bipush X21.here hx rfl (hb hby at_70) k) ?_
    obtain ⟨T22, X22, e22, st22⟩ := getS2 X21 hx hZ hown (host := "") (Or.inl (hw _ (List.mem_of_getElem? (i := 24) rfl))) Via.refl e21 (Bf21.2.2.1 10 (by decide)) (g := (mkF m 72 #[.val (.int x0), .unset, .unset, .unset, .unset] [(.int (10 : Int32)), (.ref aN), (.ref aN)])) rfl (hb hby at_72)
    refine Go.step (S' := T22.setTop (mkF m 75 #[.val (.int x0), .unset, .unset, .unset, .unset] [(.ref (w 10)), (.int (10 : Int32)), (.ref aN), (.ref aN)])) (fun t k => st22 t k) ?_
    obtain ⟨_, _, _, _, cl23, Ar23, Ov23, hsz23, -⟩ := id Bf21
    obtain ⟨T23, h23, X23, e23, W23, st23⟩ := stR X22 hx hZ e22 Ar23 (j := (10 : Int32)) (by rw [hsz23]; decide) rfl (Sto.of Ar23 Ov23 (Ins.self (Bf21.2.2.2.1 10 (by decide)))) (g := (mkF m 75 #[.val (.int x0), .unset, .unset, .unset, .unset] [(.ref (w 10)), (.int (10 : Int32)), (.ref aN), (.ref aN)])) rfl rfl (hb hby at_75)
    have Bf23 : BF Z h23 n0 aN w 11 := Bf21.next (by decide) W23
    have N23 := Fr.snoc X23 N21 Bf21.2.1
    refine Go.step (S' := T23.setTop (mkF m 76 #[.val (.int x0), .unset, .unset, .unset, .unset] [(.ref aN)])) (fun t k => st23 t k) ?_
    refine Go.step (S' := T23.setTop (mkF m 77 #[.val (.int x0), .unset, .unset, .unset, .unset] [(.ref aN), (.ref aN)])) (fun t k => XS.dup X23.here hx rfl (hb hby at_76) rfl rfl k) ?_
    refine Go.step (S' := T23.setTop (mkF m 79 #[.val (.int x0), .unset, .unset, .unset, .unset] [(.int (11 : Int32)), (.ref aN), (.ref aN)])) (fun t k => XS.bipush X23.here hx rfl (hb hby at_77) k) ?_
    obtain ⟨T24, X24, e24, st24⟩ := getS2 X23 hx hZ hown (host := "") (Or.inl (hw _ (List.mem_of_getElem? (i := 26) rfl))) Via.refl e23 (Bf23.2.2.1 11 (by decide)) (g := (mkF m 79 #[.val (.int x0), .unset, .unset, .unset, .unset] [(.int (11 : Int32)), (.ref aN), (.ref aN)])) rfl (hb hby at_79)
    refine Go.step (S' := T24.setTop (mkF m 82 #[.val (.int x0), .unset, .unset, .unset, .unset] [(.ref (w 11)), (.int (11 : Int32)), (.ref aN), (.ref aN)])) (fun t k => st24 t k) ?_
    obtain ⟨_, _, _, _, cl25, Ar25, Ov25, hsz25, -⟩ := id Bf23
    obtain ⟨T25, h25, X25, e25, W25, st25⟩ := stR X24 hx hZ e24 Ar25 (j := (11 : Int32)) (by rw [hsz25]; decide) rfl (Sto.of Ar25 Ov25 (Ins.self (Bf23.2.2.2.1 11 (by decide)))) (g := (mkF m 82 #[.val (.int x0), .unset, .unset, .unset, .unset] [(.ref (w 11)), (.int (11 : Int32)), (.ref aN), (.ref aN)])) rfl rfl (hb hby at_82)
    have Bf25 : BF Z h25 n0 aN w 12 := Bf23.next (by decide) W25
    have N25 := Fr.snoc X25 N23 Bf23.2.1
    refine Go.step (S' := T25.setTop (mkF m 83 #[.val (.int x0), .unset, .unset, .unset, .unset] [(.ref aN)])) (fun t k => st25 t k) ?_
    refine Go.step (S' := T25.setTop (mkF m 84 #[.val (.int x0), .unset, .unset, .unset, .unset] [(.ref aN), (.ref aN)])) (fun t k => XS.dup X25.here hx rfl (hb hby at_83) rfl rfl k) ?_
    refine Go.step (S' := T25.setTop (mkF m 86 #[.val (.int x0), .unset, .unset, .unset, .unset] [(.int (12 : Int32)), (.ref aN), (.ref aN)])) (fun t k => XS.bipush X25.here hx rfl (hb hby at_84) k) ?_
    obtain ⟨T26, X26, e26, st26⟩ := getS2 X25 hx hZ hown (host := "") (Or.inl (hw _ (List.mem_of_getElem? (i := 28) rfl))) Via.refl e25 (Bf25.2.2.1 12 (by decide)) (g := (mkF m 86 #[.val (.int x0), .unset, .unset, .unset, .unset] [(.int (12 : Int32)), (.ref aN), (.ref aN)])) rfl (hb hby at_86)
    refine Go.step (S' := T26.setTop (mkF m 89 #[.val (.int x0), .unset, .unset, .unset, .unset] [(.ref (w 12)), (.int (12 : Int32)), (.ref aN), (.ref aN)])) (fun t k => st26 t k) ?_
    obtain ⟨_, _, _, _, cl27, Ar27, Ov27, hsz27, -⟩ := id Bf25
    obtain ⟨T27, h27, X27, e27, W27, st27⟩ := stR X26 hx hZ e26 Ar27 (j := (12 : Int32)) (by rw [hsz27]; decide) rfl (Sto.of Ar27 Ov27 (Ins.self (Bf25.2.2.2.1 12 (by decide)))) (g := (mkF m 89 #[.val (.int x0), .unset, .unset, .unset, .unset] [(.ref (w 12)), (.int (12 : Int32)), (.ref aN), (.ref aN)])) rfl rfl (hb hby at_89)
    have Bf27 : BF Z h27 n0 aN w 13 := Bf25.next (by decide) W27
    have N27 := Fr.snoc X27 N25 Bf25.2.1
    refine Go.step (S' := T27.setTop (mkF m 90 #[.val (.int x0), .unset, .unset, .unset, .unset] [(.ref aN)])) (fun t k => st27 t k) ?_
    refine Go.step (S' := T27.setTop (mkF m 91 #[.val (.int x0), .unset, .unset, .unset, .unset] [(.ref aN), (.ref aN)])) (fun t k => XS.dup X27.here hx rfl (hb hby at_90) rfl rfl k) ?_
    refine Go.step (S' := T27.setTop (mkF m 93 #[.val (.int x0), .unset, .unset, .unset, .unset] [(.int (13 : Int32)), (.ref aN), (.ref aN)])) (fun t k => XS.bipush X27.here hx rfl (hb hby at_91) k) ?_
    obtain ⟨T28, X28, e28, st28⟩ := getS2 X27 hx hZ hown (host := "") (Or.inl (hw _ (List.mem_of_getElem? (i := 30) rfl))) Via.refl e27 (Bf27.2.2.1 13 (by decide)) (g := (mkF m 93 #[.val (.int x0), .unset, .unset, .unset, .unset] [(.int (13 : Int32)), (.ref aN), (.ref aN)])) rfl (hb hby at_93)
    refine Go.step (S' := T28.setTop (mkF m 96 #[.val (.int x0), .unset, .unset, .unset, .unset] [(.ref (w 13)), (.int (13 : Int32)), (.ref aN), (.ref aN)])) (fun t k => st28 t k) ?_
    obtain ⟨_, _, _, _, cl29, Ar29, Ov29, hsz29, -⟩ := id Bf27
    obtain ⟨T29, h29, X29, e29, W29, st29⟩ := stR X28 hx hZ e28 Ar29 (j := (13 : Int32)) (by rw [hsz29]; decide) rfl (Sto.of Ar29 Ov29 (Ins.self (Bf27.2.2.2.1 13 (by decide)))) (g := (mkF m 96 #[.val (.int x0), .unset, .unset, .unset, .unset] [(.ref (w 13)), (.int (13 : Int32)), (.ref aN), (.ref aN)])) rfl rfl (hb hby at_96)
    have Bf29 : BF Z h29 n0 aN w 14 := Bf27.next (by decide) W29
    have N29 := Fr.snoc X29 N27 Bf27.2.1
    refine Go.step (S' := T29.setTop (mkF m 97 #[.val (.int x0), .unset, .unset, .unset, .unset] [(.ref aN)])) (fun t k => st29 t k) ?_
    refine Go.step (S' := T29.setTop (mkF m 98 #[.val (.int x0), .unset, .unset, .unset, .unset] [(.ref aN), (.ref aN)])) (fun t k => XS.dup X29.here hx rfl (hb hby at_97) rfl rfl k) ?_
    refine Go.step (S' := T29.setTop (mkF m 100 #[.val (.int x0), .unset, .unset, .unset, .unset] [(.int (14 : Int32)), (.ref aN), (.ref aN)])) (fun t k => XS.bipush X29.here hx rfl (hb hby at_98) k) ?_
    obtain ⟨T30, X30, e30, st30⟩ := getS2 X29 hx hZ hown (host := "") (Or.inl (hw _ (List.mem_of_getElem? (i := 32) rfl))) Via.refl e29 (Bf29.2.2.1 14 (by decide)) (g := (mkF m 100 #[.val (.int x0), .unset, .unset, .unset, .unset] [(.int (14 : Int32)), (.ref aN), (.ref aN)])) rfl (hb hby at_100)
    refine Go.step (S' := T30.setTop (mkF m 103 #[.val (.int x0), .unset, .unset, .unset, .unset] [(.ref (w 14)), (.int (14 : Int32)), (.ref aN), (.ref aN)])) (fun t k => st30 t k) ?_
    obtain ⟨_, _, _, _, cl31, Ar31, Ov31, hsz31, -⟩ := id Bf29
    obtain ⟨T31, h31, X31, e31, W31, st31⟩ := stR X30 hx hZ e30 Ar31 (j := (14 : Int32)) (by rw [hsz31]; decide) rfl (Sto.of Ar31 Ov31 (Ins.self (Bf29.2.2.2.1 14 (by decide)))) (g := (mkF m 103 #[.val (.int x0), .unset, .unset, .unset, .unset] [(.ref (w 14)), (.int (14 : Int32)), (.ref aN), (.ref aN)])) rfl rfl (hb hby at_103)
    have Bf31 : BF Z h31 n0 aN w 15 := Bf29.next (by decide) W31
    have N31 := Fr.snoc X31 N29 Bf29.2.1
    refine Go.step (S' := T31.setTop (mkF m 104 #[.val (.int x0), .unset, .unset, .unset, .unset] [(.ref aN)])) (fun t k => st31 t k) ?_
    refine Go.step (S' := T31.setTop (mkF m 105 #[.val (.int x0), .unset, .unset, .unset, .unset] [(.ref aN), (.ref aN)])) (fun t k => XS.dup X31.here hx rfl (hb hby at_104) rfl rfl k) ?_
    refine Go.step (S' := T31.setTop (mkF m 107 #[.val (.int x0), .unset, .unset, .unset, .unset] [(.int (15 : Int32)), (.ref aN), (.ref aN)])) (fun t k => XS.bipush X31.here hx rfl (hb hby at_105) k) ?_
    obtain ⟨T32, X32, e32, st32⟩ := getS2 X31 hx hZ hown (host := "") (Or.inl (hw _ (List.mem_of_getElem? (i := 34) rfl))) Via.refl e31 (Bf31.2.2.1 15 (by decide)) (g := (mkF m 107 #[.val (.int x0), .unset, .unset, .unset, .unset] [(.int (15 : Int32)), (.ref aN), (.ref aN)])) rfl (hb hby at_107)
    refine Go.step (S' := T32.setTop (mkF m 110 #[.val (.int x0), .unset, .unset, .unset, .unset] [(.ref (w 15)), (.int (15 : Int32)), (.ref aN), (.ref aN)])) (fun t k => st32 t k) ?_
    obtain ⟨_, _, _, _, cl33, Ar33, Ov33, hsz33, -⟩ := id Bf31
    obtain ⟨T33, h33, X33, e33, W33, st33⟩ := stR X32 hx hZ e32 Ar33 (j := (15 : Int32)) (by rw [hsz33]; decide) rfl (Sto.of Ar33 Ov33 (Ins.self (Bf31.2.2.2.1 15 (by decide)))) (g := (mkF m 110 #[.val (.int x0), .unset, .unset, .unset, .unset] [(.ref (w 15)), (.int (15 : Int32)), (.ref aN), (.ref aN)])) rfl rfl (hb hby at_110)
    have Bf33 : BF Z h33 n0 aN w 16 := Bf31.next (by decide) W33
    have N33 := Fr.snoc X33 N31 Bf31.2.1
    refine Go.step (S' := T33.setTop (mkF m 111 #[.val (.int x0), .unset, .unset, .unset, .unset] [(.ref aN)])) (fun t k => st33 t k) ?_
    refine Go.step (S' := T33.setTop (mkF m 112 #[.val (.int x0), .unset, .unset, .unset, .unset] [(.ref aN), (.ref aN)])) (fun t k => XS.dup X33.here hx rfl (hb hby at_111) rfl rfl k) ?_
    refine Go.step (S' := T33.setTop (mkF m 114 #[.val (.int x0), .unset, .unset, .unset, .unset] [(.int (16 : Int32)), (.ref aN), (.ref aN)])) (fun t k => XS.bipush X33.here hx rfl (hb hby at_112) k) ?_
    obtain ⟨T34, X34, e34, st34⟩ := getS2 X33 hx hZ hown (host := "") (Or.inl (hw _ (List.mem_of_getElem? (i := 36) rfl))) Via.refl e33 (Bf33.2.2.1 16 (by decide)) (g := (mkF m 114 #[.val (.int x0), .unset, .unset, .unset, .unset] [(.int (16 : Int32)), (.ref aN), (.ref aN)])) rfl (hb hby at_114)
    refine Go.step (S' := T34.setTop (mkF m 117 #[.val (.int x0), .unset, .unset, .unset, .unset] [(.ref (w 16)), (.int (16 : Int32)), (.ref aN), (.ref aN)])) (fun t k => st34 t k) ?_
    obtain ⟨_, _, _, _, cl35, Ar35, Ov35, hsz35, -⟩ := id Bf33
    obtain ⟨T35, h35, X35, e35, W35, st35⟩ := stR X34 hx hZ e34 Ar35 (j := (16 : Int32)) (by rw [hsz35]; decide) rfl (Sto.of Ar35 Ov35 (Ins.self (Bf33.2.2.2.1 16 (by decide)))) (g := (mkF m 117 #[.val (.int x0), .unset, .unset, .unset, .unset] [(.ref (w 16)), (.int (16 : Int32)), (.ref aN), (.ref aN)])) rfl rfl (hb hby at_117)
    have Bf35 : BF Z h35 n0 aN w 17 := Bf33.next (by decide) W35
    have N35 := Fr.snoc X35 N33 Bf33.2.1
    refine Go.step (S' := T35.setTop (mkF m 118 #[.val (.int x0), .unset, .unset, .unset, .unset] [(.ref aN)])) (fun t k => st35 t k) ?_
    refine Go.step (S' := T35.setTop (mkF m 119 #[.val (.int x0), .unset, .unset, .unset, .unset] [(.ref aN), (.ref aN)])) (fun t k => XS.dup X35.here hx rfl (hb hby at_118) rfl rfl k) ?_
    refine Go.step (S' := T35.setTop (mkF m 121 #[.val (.int x0), .unset, .unset, .unset, .unset] [(.int (17 : Int32)), (.ref aN), (.ref aN)])) (fun t k => XS.bipush X35.here hx rfl (hb hby at_119) k) ?_
    obtain ⟨T36, X36, e36, st36⟩ := getS2 X35 hx hZ hown (host := "") (Or.inl (hw _ (List.mem_of_getElem? (i := 38) rfl))) Via.refl e35 (Bf35.2.2.1 17 (by decide)) (g := (mkF m 121 #[.val (.int x0), .unset, .unset, .unset, .unset] [(.int (17 : Int32)), (.ref aN), (.ref aN)])) rfl (hb hby at_121)
    refine Go.step (S' := T36.setTop (mkF m 124 #[.val (.int x0), .unset, .unset, .unset, .unset] [(.ref (w 17)), (.int (17 : Int32)), (.ref aN), (.ref aN)])) (fun t k => st36 t k) ?_
    obtain ⟨_, _, _, _, cl37, Ar37, Ov37, hsz37, -⟩ := id Bf35
    obtain ⟨T37, h37, X37, e37, W37, st37⟩ := stR X36 hx hZ e36 Ar37 (j := (17 : Int32)) (by rw [hsz37]; decide) rfl (Sto.of Ar37 Ov37 (Ins.self (Bf35.2.2.2.1 17 (by decide)))) (g := (mkF m 124 #[.val (.int x0), .unset, .unset, .unset, .unset] [(.ref (w 17)), (.int (17 : Int32)), (.ref aN), (.ref aN)])) rfl rfl (hb hby at_124)
    have Bf37 : BF Z h37 n0 aN w 18 := Bf35.next (by decide) W37
    have N37 := Fr.snoc X37 N35 Bf35.2.1
    refine Go.step (S' := T37.setTop (mkF m 125 #[.val (.int x0), .unset, .unset, .unset, .unset] [(.ref aN)])) (fun t k => st37 t k) ?_
    refine Go.step (S' := T37.setTop (mkF m 126 #[.val (.int x0), .unset, .unset, .unset, .unset] [(.ref aN), (.ref aN)])) (fun t k => XS.dup X37.here hx rfl (hb hby at_125) rfl rfl k) ?_
    refine Go.step (S' := T37.setTop (mkF m 128 #[.val (.int x0), .unset, .unset, .unset, .unset] [(.int (18 : Int32)), (.ref aN), (.ref aN)])) (fun t k => XS.bipush X37.here hx rfl (hb hby at_126) k) ?_
    obtain ⟨T38, X38, e38, st38⟩ := getS2 X37 hx hZ hown (host := "") (Or.inl (hw _ (List.mem_of_getElem? (i := 40) rfl))) Via.refl e37 (Bf37.2.2.1 18 (by decide)) (g := (mkF m 128 #[.val (.int x0), .unset, .unset, .unset, .unset] [(.int (18 : Int32)), (.ref aN), (.ref aN)])) rfl (hb hby at_128)
    refine Go.step (S' := T38.setTop (mkF m 131 #[.val (.int x0), .unset, .unset, .unset, .unset] [(.ref (w 18)), (.int (18 : Int32)), (.ref aN), (.ref aN)])) (fun t k => st38 t k) ?_
    obtain ⟨_, _, _, _, cl39, Ar39, Ov39, hsz39, -⟩ := id Bf37
    obtain ⟨T39, h39, X39, e39, W39, st39⟩ := stR X38 hx hZ e38 Ar39 (j := (18 : Int32)) (by rw [hsz39]; decide) rfl (Sto.of Ar39 Ov39 (Ins.self (Bf37.2.2.2.1 18 (by decide)))) (g := (mkF m 131 #[.val (.int x0), .unset, .unset, .unset, .unset] [(.ref (w 18)), (.int (18 : Int32)), (.ref aN), (.ref aN)])) rfl rfl (hb hby at_131)
    have Bf39 : BF Z h39 n0 aN w 19 := Bf37.next (by decide) W39
    have N39 := Fr.snoc X39 N37 Bf37.2.1
    refine Go.step (S' := T39.setTop (mkF m 132 #[.val (.int x0), .unset, .unset, .unset, .unset] [(.ref aN)])) (fun t k => st39 t k) ?_
    refine Go.step (S' := T39.setTop (mkF m 133 #[.val (.int x0), .unset, .unset, .unset, .unset] [(.ref aN), (.ref aN)])) (fun t k => XS.dup X39.here hx rfl (hb hby at_132) rfl rfl k) ?_
    refine Go.step (S' := T39.setTop (mkF m 135 #[.val (.int x0), .unset, .unset, .unset, .unset] [(.int (19 : Int32)), (.ref aN), (.ref aN)])) (fun t k => XS.bipush X39.here hx rfl (hb hby at_133) k) ?_
    obtain ⟨T40, X40, e40, st40⟩ := getS2 X39 hx hZ hown (host := "") (Or.inl (hw _ (List.mem_of_getElem? (i := 42) rfl))) Via.refl e39 (Bf39.2.2.1 19 (by decide)) (g := (mkF m 135 #[.val (.int x0), .unset, .unset, .unset, .unset] [(.int (19 : Int32)), (.ref aN), (.ref aN)])) rfl (hb hby at_135)
    refine Go.step (S' := T40.setTop (mkF m 138 #[.val (.int x0), .unset, .unset, .unset, .unset] [(.ref (w 19)), (.int (19 : Int32)), (.ref aN), (.ref aN)])) (fun t k => st40 t k) ?_
    obtain ⟨_, _, _, _, cl41, Ar41, Ov41, hsz41, -⟩ := id Bf39
    obtain ⟨T41, h41, X41, e41, W41, st41⟩ := stR X40 hx hZ e40 Ar41 (j := (19 : Int32)) (by rw [hsz41]; decide) rfl (Sto.of Ar41 Ov41 (Ins.self (Bf39.2.2.2.1 19 (by decide)))) (g := (mkF m 138 #[.val (.int x0), .unset, .unset, .unset, .unset] [(.ref (w 19)), (.int (19 : Int32)), (.ref aN), (.ref aN)])) rfl rfl (hb hby at_138)
    have Bf41 : BF Z h41 n0 aN w 20 := Bf39.next (by decide) W41
    have N41 := Fr.snoc X41 N39 Bf39.2.1
    refine Go.step (S' := T41.setTop (mkF m 139 #[.val (.int x0), .unset, .unset, .unset, .unset] [(.ref aN)])) (fun t k => st41 t k) ?_
    refine Go.step (S' := T41.setTop (mkF m 140 #[.val (.int x0), .unset, .unset, .unset, .unset] [(.ref aN), (.ref aN)])) (fun t k => XS.dup X41.here hx rfl (hb hby at_139) rfl rfl k) ?_
    refine Go.step (S' := T41.setTop (mkF m 142 #[.val (.int x0), .unset, .unset, .unset, .unset] [(.int (20 : Int32)), (.ref aN), (.ref aN)])) (fun t k => XS.bipush X41.here hx rfl (hb hby at_140) k) ?_
    obtain ⟨T42, X42, e42, st42⟩ := getS2 X41 hx hZ hown (host := "") (Or.inl (hw _ (List.mem_of_getElem? (i := 44) rfl))) Via.refl e41 (Bf41.2.2.1 20 (by decide)) (g := (mkF m 142 #[.val (.int x0), .unset, .unset, .unset, .unset] [(.int (20 : Int32)), (.ref aN), (.ref aN)])) rfl (hb hby at_142)
    refine Go.step (S' := T42.setTop (mkF m 145 #[.val (.int x0), .unset, .unset, .unset, .unset] [(.ref (w 20)), (.int (20 : Int32)), (.ref aN), (.ref aN)])) (fun t k => st42 t k) ?_
    obtain ⟨_, _, _, _, cl43, Ar43, Ov43, hsz43, -⟩ := id Bf41
    obtain ⟨T43, h43, X43, e43, W43, st43⟩ := stR X42 hx hZ e42 Ar43 (j := (20 : Int32)) (by rw [hsz43]; decide) rfl (Sto.of Ar43 Ov43 (Ins.self (Bf41.2.2.2.1 20 (by decide)))) (g := (mkF m 145 #[.val (.int x0), .unset, .unset, .unset, .unset] [(.ref (w 20)), (.int (20 : Int32)), (.ref aN), (.ref aN)])) rfl rfl (hb hby at_145)
    have Bf43 : BF Z h43 n0 aN w 21 := Bf41.next (by decide) W43
    have N43 := Fr.snoc X43 N41 Bf41.2.1
    refine Go.step (S' := T43.setTop (mkF m 146 #[.val (.int x0), .unset, .unset, .unset, .unset] [(.ref aN)])) (fun t k => st43 t k) ?_
    refine Go.step (S' := T43.setTop (mkF m 147 #[.val (.int x0), .unset, .unset, .unset, .unset] [(.ref aN), (.ref aN)])) (fun t k => XS.dup X43.here hx rfl (hb hby at_146) rfl rfl k) ?_
    refine Go.step (S' := T43.setTop (mkF m 149 #[.val (.int x0), .unset, .unset, .unset, .unset] [(.int (21 : Int32)), (.ref aN), (.ref aN)])) (fun t k => XS.bipush X43.here hx rfl (hb hby at_147) k) ?_
    obtain ⟨T44, X44, e44, st44⟩ := getS2 X43 hx hZ hown (host := "") (Or.inl (hw _ (List.mem_of_getElem? (i := 46) rfl))) Via.refl e43 (Bf43.2.2.1 21 (by decide)) (g := (mkF m 149 #[.val (.int x0), .unset, .unset, .unset, .unset] [(.int (21 : Int32)), (.ref aN), (.ref aN)])) rfl (hb hby at_149)
    refine Go.step (S' := T44.setTop (mkF m 152 #[.val (.int x0), .unset, .unset, .unset, .unset] [(.ref (w 21)), (.int (21 : Int32)), (.ref aN), (.ref aN)])) (fun t k => st44 t k) ?_
    obtain ⟨_, _, _, _, cl45, Ar45, Ov45, hsz45, -⟩ := id Bf43
    obtain ⟨T45, h45, X45, e45, W45, st45⟩ := stR X44 hx hZ e44 Ar45 (j := (21 : Int32)) (by rw [hsz45]; decide) rfl (Sto.of Ar45 Ov45 (Ins.self (Bf43.2.2.2.1 21 (by decide)))) (g := (mkF m 152 #[.val (.int x0), .unset, .unset, .unset, .unset] [(.ref (w 21)), (.int (21 : Int32)), (.ref aN), (.ref aN)])) rfl rfl (hb hby at_152)
    have Bf45 : BF Z h45 n0 aN w 22 := Bf43.next (by decide) W45
    have N45 := Fr.snoc X45 N43 Bf43.2.1
    refine Go.step (S' := T45.setTop (mkF m 153 #[.val (.int x0), .unset, .unset, .unset, .unset] [(.ref aN)])) (fun t k => st45 t k) ?_
    refine Go.step (S' := T45.setTop (mkF m 154 #[.val (.int x0), .unset, .unset, .unset, .unset] [(.ref aN), (.ref aN)])) (fun t k => XS.dup X45.here hx rfl (hb hby at_153) rfl rfl k) ?_
    refine Go.step (S' := T45.setTop (mkF m 156 #[.val (.int x0), .unset, .unset, .unset, .unset] [(.int (22 : Int32)), (.ref aN), (.ref aN)])) (fun t k => XS.bipush X45.here hx rfl (hb hby at_154) k) ?_
    obtain ⟨T46, X46, e46, st46⟩ := getS2 X45 hx hZ hown (host := "") (Or.inl (hw _ (List.mem_of_getElem? (i := 48) rfl))) Via.refl e45 (Bf45.2.2.1 22 (by decide)) (g := (mkF m 156 #[.val (.int x0), .unset, .unset, .unset, .unset] [(.int (22 : Int32)), (.ref aN), (.ref aN)])) rfl (hb hby at_156)
    refine Go.step (S' := T46.setTop (mkF m 159 #[.val (.int x0), .unset, .unset, .unset, .unset] [(.ref (w 22)), (.int (22 : Int32)), (.ref aN), (.ref aN)])) (fun t k => st46 t k) ?_
    obtain ⟨_, _, _, _, cl47, Ar47, Ov47, hsz47, -⟩ := id Bf45
    obtain ⟨T47, h47, X47, e47, W47, st47⟩ := stR X46 hx hZ e46 Ar47 (j := (22 : Int32)) (by rw [hsz47]; decide) rfl (Sto.of Ar47 Ov47 (Ins.self (Bf45.2.2.2.1 22 (by decide)))) (g := (mkF m 159 #[.val (.int x0), .unset, .unset, .unset, .unset] [(.ref (w 22)), (.int (22 : Int32)), (.ref aN), (.ref aN)])) rfl rfl (hb hby at_159)
    have Bf47 : BF Z h47 n0 aN w 23 := Bf45.next (by decide) W47
    have N47 := Fr.snoc X47 N45 Bf45.2.1
    refine Go.step (S' := T47.setTop (mkF m 160 #[.val (.int x0), .unset, .unset, .unset, .unset] [(.ref aN)])) (fun t k => st47 t k) ?_
    refine Go.step (S' := T47.setTop (mkF m 161 #[.val (.int x0), .unset, .unset, .unset, .unset] [(.ref aN), (.ref aN)])) (fun t k => XS.dup X47.here hx rfl (hb hby at_160) rfl rfl k) ?_
    refine Go.step (S' := T47.setTop (mkF m 163 #[.val (.int x0), .unset, .unset, .unset, .unset] [(.int (23 : Int32)), (.ref aN), (.ref aN)])) (fun t k => XS.bipush X47.here hx rfl (hb hby at_161) k) ?_
    obtain ⟨T48, X48, e48, st48⟩ := getS2 X47 hx hZ hown (host := "") (Or.inl (hw _ (List.mem_of_getElem? (i := 50) rfl))) Via.refl e47 (Bf47.2.2.1 23 (by decide)) (g := (mkF m 163 #[.val (.int x0), .unset, .unset, .unset, .unset] [(.int (23 : Int32)), (.ref aN), (.ref aN)])) rfl (hb hby at_163)
    refine Go.step (S' := T48.setTop (mkF m 166 #[.val (.int x0), .unset, .unset, .unset, .unset] [(.ref (w 23)), (.int (23 : Int32)), (.ref aN), (.ref aN)])) (fun t k => st48 t k) ?_
    obtain ⟨_, _, _, _, cl49, Ar49, Ov49, hsz49, -⟩ := id Bf47
    obtain ⟨T49, h49, X49, e49, W49, st49⟩ := stR X48 hx hZ e48 Ar49 (j := (23 : Int32)) (by rw [hsz49]; decide) rfl (Sto.of Ar49 Ov49 (Ins.self (Bf47.2.2.2.1 23 (by decide)))) (g := (mkF m 166 #[.val (.int x0), .unset, .unset, .unset, .unset] [(.ref (w 23)), (.int (23 : Int32)), (.ref aN), (.ref aN)])) rfl rfl (hb hby at_166)
    have Bf49 : BF Z h49 n0 aN w 24 := Bf47.next (by decide) W49
    have N49 := Fr.snoc X49 N47 Bf47.2.1
    refine Go.step (S' := T49.setTop (mkF m 167 #[.val (.int x0), .unset, .unset, .unset, .unset] [(.ref aN)])) (fun t k => st49 t k) ?_
    refine Go.step (S' := T49.setTop (mkF m 168 #[.val (.int x0), .unset, .unset, .unset, .unset] [(.ref aN), (.ref aN)])) (fun t k => XS.dup X49.here hx rfl (hb hby at_167) rfl rfl k) ?_
    refine Go.step (S' := T49.setTop (mkF m 170 #[.val (.int x0), .unset, .unset, .unset, .unset] [(.int (24 : Int32)), (.ref aN), (.ref aN)])) (fun t k => XS.bipush X49.here hx rfl (hb hby at_168) k) ?_
    obtain ⟨T50, X50, e50, st50⟩ := getS2 X49 hx hZ hown (host := "") (Or.inl (hw _ (List.mem_of_getElem? (i := 52) rfl))) Via.refl e49 (Bf49.2.2.1 24 (by decide)) (g := (mkF m 170 #[.val (.int x0), .unset, .unset, .unset, .unset] [(.int (24 : Int32)), (.ref aN), (.ref aN)])) rfl (hb hby at_170)
    refine Go.step (S' := T50.setTop (mkF m 173 #[.val (.int x0), .unset, .unset, .unset, .unset] [(.ref (w 24)), (.int (24 : Int32)), (.ref aN), (.ref aN)])) (fun t k => st50 t k) ?_
    obtain ⟨_, _, _, _, cl51, Ar51, Ov51, hsz51, -⟩ := id Bf49
    obtain ⟨T51, h51, X51, e51, W51, st51⟩ := stR X50 hx hZ e50 Ar51 (j := (24 : Int32)) (by rw [hsz51]; decide) rfl (Sto.of Ar51 Ov51 (Ins.self (Bf49.2.2.2.1 24 (by decide)))) (g := (mkF m 173 #[.val (.int x0), .unset, .unset, .unset, .unset] [(.ref (w 24)), (.int (24 : Int32)), (.ref aN), (.ref aN)])) rfl rfl (hb hby at_173)
    have Bf51 : BF Z h51 n0 aN w 25 := Bf49.next (by decide) W51
    have N51 := Fr.snoc X51 N49 Bf49.2.1
    refine Go.step (S' := T51.setTop (mkF m 174 #[.val (.int x0), .unset, .unset, .unset, .unset] [(.ref aN)])) (fun t k => st51 t k) ?_
    refine Go.step (S' := T51.setTop (mkF m 175 #[.val (.int x0), .unset, .unset, .unset, .unset] [(.ref aN), (.ref aN)])) (fun t k => XS.dup X51.here hx rfl (hb hby at_174) rfl rfl k) ?_
    refine Go.step (S' := T51.setTop (mkF m 177 #[.val (.int x0), .unset, .unset, .unset, .unset] [(.int (25 : Int32)), (.ref aN), (.ref aN)])) (fun t k => XS.bipush X51.here hx rfl (hb hby at_175) k) ?_
    obtain ⟨T52, X52, e52, st52⟩ := getS2 X51 hx hZ hown (host := "") (Or.inl (hw _ (List.mem_of_getElem? (i := 54) rfl))) Via.refl e51 (Bf51.2.2.1 25 (by decide)) (g := (mkF m 177 #[.val (.int x0), .unset, .unset, .unset, .unset] [(.int (25 : Int32)), (.ref aN), (.ref aN)])) rfl (hb hby at_177)
    refine Go.step (S' := T52.setTop (mkF m 180 #[.val (.int x0), .unset, .unset, .unset, .unset] [(.ref (w 25)), (.int (25 : Int32)), (.ref aN), (.ref aN)])) (fun t k => st52 t k) ?_
    obtain ⟨_, _, _, _, cl53, Ar53, Ov53, hsz53, -⟩ := id Bf51
    obtain ⟨T53, h53, X53, e53, W53, st53⟩ := stR X52 hx hZ e52 Ar53 (j := (25 : Int32)) (by rw [hsz53]; decide) rfl (Sto.of Ar53 Ov53 (Ins.self (Bf51.2.2.2.1 25 (by decide)))) (g := (mkF m 180 #[.val (.int x0), .unset, .unset, .unset, .unset] [(.ref (w 25)), (.int (25 : Int32)), (.ref aN), (.ref aN)])) rfl rfl (hb hby at_180)
    have Bf53 : BF Z h53 n0 aN w 26 := Bf51.next (by decide) W53
    have N53 := Fr.snoc X53 N51 Bf51.2.1
    refine Go.step (S' := T53.setTop (mkF m 181 #[.val (.int x0), .unset, .unset, .unset, .unset] [(.ref aN)])) (fun t k => st53 t k) ?_
    refine Go.step (S' := T53.setTop (mkF m 182 #[.val (.int x0), .unset, .unset, .unset, .unset] [(.ref aN), (.ref aN)])) (fun t k => XS.dup X53.here hx rfl (hb hby at_181) rfl rfl k) ?_
    refine Go.step (S' := T53.setTop (mkF m 184 #[.val (.int x0), .unset, .unset, .unset, .unset] [(.int (26 : Int32)), (.ref aN), (.ref aN)])) (fun t k => XS.bipush X53.here hx rfl (hb hby at_182) k) ?_
    obtain ⟨T54, X54, e54, st54⟩ := getS2 X53 hx hZ hown (host := "") (Or.inl (hw _ (List.mem_of_getElem? (i := 56) rfl))) Via.refl e53 (Bf53.2.2.1 26 (by decide)) (g := (mkF m 184 #[.val (.int x0), .unset, .unset, .unset, .unset] [(.int (26 : Int32)), (.ref aN), (.ref aN)])) rfl (hb hby at_184)
    refine Go.step (S' := T54.setTop (mkF m 187 #[.val (.int x0), .unset, .unset, .unset, .unset] [(.ref (w 26)), (.int (26 : Int32)), (.ref aN), (.ref aN)])) (fun t k => st54 t k) ?_
    obtain ⟨_, _, _, _, cl55, Ar55, Ov55, hsz55, -⟩ := id Bf53
    obtain ⟨T55, h55, X55, e55, W55, st55⟩ := stR X54 hx hZ e54 Ar55 (j := (26 : Int32)) (by rw [hsz55]; decide) rfl (Sto.of Ar55 Ov55 (Ins.self (Bf53.2.2.2.1 26 (by decide)))) (g := (mkF m 187 #[.val (.int x0), .unset, .unset, .unset, .unset] [(.ref (w 26)), (.int (26 : Int32)), (.ref aN), (.ref aN)])) rfl rfl (hb hby at_187)
    have Bf55 : BF Z h55 n0 aN w 27 := Bf53.next (by decide) W55
    have N55 := Fr.snoc X55 N53 Bf53.2.1
    refine Go.step (S' := T55.setTop (mkF m 188 #[.val (.int x0), .unset, .unset, .unset, .unset] [(.ref aN)])) (fun t k => st55 t k) ?_
    refine Go.step (S' := T55.setTop (mkF m 189 #[.val (.int x0), .unset, .unset, .unset, .unset] [(.ref aN), (.ref aN)])) (fun t k => XS.dup X55.here hx rfl (hb hby at_188) rfl rfl k) ?_
    refine Go.step (S' := T55.setTop (mkF m 191 #[.val (.int x0), .unset, .unset, .unset, .unset] [(.int (27 : Int32)), (.ref aN), (.ref aN)])) (fun t k => XS.bipush X55.here hx rfl (hb hby at_189) k) ?_
    obtain ⟨T56, X56, e56, st56⟩ := getS2 X55 hx hZ hown (host := "") (Or.inl (hw _ (List.mem_of_getElem? (i := 58) rfl))) Via.refl e55 (Bf55.2.2.1 27 (by decide)) (g := (mkF m 191 #[.val (.int x0), .unset, .unset, .unset, .unset] [(.int (27 : Int32)), (.ref aN), (.ref aN)])) rfl (hb hby at_191)
    refine Go.step (S' := T56.setTop (mkF m 194 #[.val (.int x0), .unset, .unset, .unset, .unset] [(.ref (w 27)), (.int (27 : Int32)), (.ref aN), (.ref aN)])) (fun t k => st56 t k) ?_
    obtain ⟨_, _, _, _, cl57, Ar57, Ov57, hsz57, -⟩ := id Bf55
    obtain ⟨T57, h57, X57, e57, W57, st57⟩ := stR X56 hx hZ e56 Ar57 (j := (27 : Int32)) (by rw [hsz57]; decide) rfl (Sto.of Ar57 Ov57 (Ins.self (Bf55.2.2.2.1 27 (by decide)))) (g := (mkF m 194 #[.val (.int x0), .unset, .unset, .unset, .unset] [(.ref (w 27)), (.int (27 : Int32)), (.ref aN), (.ref aN)])) rfl rfl (hb hby at_194)
    have Bf57 : BF Z h57 n0 aN w 28 := Bf55.next (by decide) W57
    have N57 := Fr.snoc X57 N55 Bf55.2.1
    refine Go.step (S' := T57.setTop (mkF m 195 #[.val (.int x0), .unset, .unset, .unset, .unset] [(.ref aN)])) (fun t k => st57 t k) ?_
    refine Go.step (S' := T57.setTop (mkF m 196 #[.val (.int x0), .unset, .unset, .unset, .unset] [(.ref aN), (.ref aN)])) (fun t k => XS.dup X57.here hx rfl (hb hby at_195) rfl rfl k) ?_
    refine Go.step (S' := T57.setTop (mkF m 198 #[.val (.int x0), .unset, .unset, .unset, .unset] [(.int (28 : Int32)), (.ref aN), (.ref aN)])) (fun t k => XS.bipush X57.here hx rfl (hb hby at_196) k) ?_
    obtain ⟨T58, X58, e58, st58⟩ := getS2 X57 hx hZ hown (host := "") (Or.inl (hw _ (List.mem_of_getElem? (i := 60) rfl))) Via.refl e57 (Bf57.2.2.1 28 (by decide)) (g := (mkF m 198 #[.val (.int x0), .unset, .unset, .unset, .unset] [(.int (28 : Int32)), (.ref aN), (.ref aN)])) rfl (hb hby at_198)
    refine Go.step (S' := T58.setTop (mkF m 201 #[.val (.int x0), .unset, .unset, .unset, .unset] [(.ref (w 28)), (.int (28 : Int32)), (.ref aN), (.ref aN)])) (fun t k => st58 t k) ?_
    obtain ⟨_, _, _, _, cl59, Ar59, Ov59, hsz59, -⟩ := id Bf57
    obtain ⟨T59, h59, X59, e59, W59, st59⟩ := stR X58 hx hZ e58 Ar59 (j := (28 : Int32)) (by rw [hsz59]; decide) rfl (Sto.of Ar59 Ov59 (Ins.self (Bf57.2.2.2.1 28 (by decide)))) (g := (mkF m 201 #[.val (.int x0), .unset, .unset, .unset, .unset] [(.ref (w 28)), (.int (28 : Int32)), (.ref aN), (.ref aN)])) rfl rfl (hb hby at_201)
    have Bf59 : BF Z h59 n0 aN w 29 := Bf57.next (by decide) W59
    have N59 := Fr.snoc X59 N57 Bf57.2.1
    refine Go.step (S' := T59.setTop (mkF m 202 #[.val (.int x0), .unset, .unset, .unset, .unset] [(.ref aN)])) (fun t k => st59 t k) ?_
    refine Go.step (S' := T59.setTop (mkF m 203 #[.val (.int x0), .unset, .unset, .unset, .unset] [(.ref aN), (.ref aN)])) (fun t k => XS.dup X59.here hx rfl (hb hby at_202) rfl rfl k) ?_
    refine Go.step (S' := T59.setTop (mkF m 205 #[.val (.int x0), .unset, .unset, .unset, .unset] [(.int (29 : Int32)), (.ref aN), (.ref aN)])) (fun t k => XS.bipush X59.here hx rfl (hb hby at_203) k) ?_
    obtain ⟨T60, X60, e60, st60⟩ := getS2 X59 hx hZ hown (host := "") (Or.inl (hw _ (List.mem_of_getElem? (i := 62) rfl))) Via.refl e59 (Bf59.2.2.1 29 (by decide)) (g := (mkF m 205 #[.val (.int x0), .unset, .unset, .unset, .unset] [(.int (29 : Int32)), (.ref aN), (.ref aN)])) rfl (hb hby at_205)
    refine Go.step (S' := T60.setTop (mkF m 208 #[.val (.int x0), .unset, .unset, .unset, .unset] [(.ref (w 29)), (.int (29 : Int32)), (.ref aN), (.ref aN)])) (fun t k => st60 t k) ?_
    obtain ⟨_, _, _, _, cl61, Ar61, Ov61, hsz61, -⟩ := id Bf59
    obtain ⟨T61, h61, X61, e61, W61, st61⟩ := stR X60 hx hZ e60 Ar61 (j := (29 : Int32)) (by rw [hsz61]; decide) rfl (Sto.of Ar61 Ov61 (Ins.self (Bf59.2.2.2.1 29 (by decide)))) (g := (mkF m 208 #[.val (.int x0), .unset, .unset, .unset, .unset] [(.ref (w 29)), (.int (29 : Int32)), (.ref aN), (.ref aN)])) rfl rfl (hb hby at_208)
    have Bf61 : BF Z h61 n0 aN w 30 := Bf59.next (by decide) W61
    have N61 := Fr.snoc X61 N59 Bf59.2.1
    refine Go.step (S' := T61.setTop (mkF m 209 #[.val (.int x0), .unset, .unset, .unset, .unset] [(.ref aN)])) (fun t k => st61 t k) ?_
    refine Go.step (S' := T61.setTop (mkF m 210 #[.val (.int x0), .unset, .unset, .unset, .unset] [(.ref aN), (.ref aN)])) (fun t k => XS.dup X61.here hx rfl (hb hby at_209) rfl rfl k) ?_
    refine Go.step (S' := T61.setTop (mkF m 212 #[.val (.int x0), .unset, .unset, .unset, .unset] [(.int (30 : Int32)), (.ref aN), (.ref aN)])) (fun t k => XS.bipush X61.here hx rfl (hb hby at_210) k) ?_
    obtain ⟨T62, X62, e62, st62⟩ := getS2 X61 hx hZ hown (host := "") (Or.inl (hw _ (List.mem_of_getElem? (i := 64) rfl))) Via.refl e61 (Bf61.2.2.1 30 (by decide)) (g := (mkF m 212 #[.val (.int x0), .unset, .unset, .unset, .unset] [(.int (30 : Int32)), (.ref aN), (.ref aN)])) rfl (hb hby at_212)
    refine Go.step (S' := T62.setTop (mkF m 215 #[.val (.int x0), .unset, .unset, .unset, .unset] [(.ref (w 30)), (.int (30 : Int32)), (.ref aN), (.ref aN)])) (fun t k => st62 t k) ?_
    obtain ⟨_, _, _, _, cl63, Ar63, Ov63, hsz63, -⟩ := id Bf61
    obtain ⟨T63, h63, X63, e63, W63, st63⟩ := stR X62 hx hZ e62 Ar63 (j := (30 : Int32)) (by rw [hsz63]; decide) rfl (Sto.of Ar63 Ov63 (Ins.self (Bf61.2.2.2.1 30 (by decide)))) (g := (mkF m 215 #[.val (.int x0), .unset, .unset, .unset, .unset] [(.ref (w 30)), (.int (30 : Int32)), (.ref aN), (.ref aN)])) rfl rfl (hb hby at_215)
    have Bf63 : BF Z h63 n0 aN w 31 := Bf61.next (by decide) W63
    have N63 := Fr.snoc X63 N61 Bf61.2.1
    refine Go.step (S' := T63.setTop (mkF m 216 #[.val (.int x0), .unset, .unset, .unset, .unset] [(.ref aN)])) (fun t k => st63 t k) ?_
    refine Go.step (S' := T63.setTop (mkF m 217 #[.val (.int x0), .unset, .unset, .unset, .unset] [(.ref aN), (.ref aN)])) (fun t k => XS.dup X63.here hx rfl (hb hby at_216) rfl rfl k) ?_
    refine Go.step (S' := T63.setTop (mkF m 219 #[.val (.int x0), .unset, .unset, .unset, .unset] [(.int (31 : Int32)), (.ref aN), (.ref aN)])) (fun t k => XS.bipush X63.here hx rfl (hb hby at_217) k) ?_
    obtain ⟨T64, X64, e64, st64⟩ := getS2 X63 hx hZ hown (host := "") (Or.inl (hw _ (List.mem_of_getElem? (i := 66) rfl))) Via.refl e63 (Bf63.2.2.1 31 (by decide)) (g := (mkF m 219 #[.val (.int x0), .unset, .unset, .unset, .unset] [(.int (31 : Int32)), (.ref aN), (.ref aN)])) rfl (hb hby at_219)
    refine Go.step (S' := T64.setTop (mkF m 222 #[.val (.int x0), .unset, .unset, .unset, .unset] [(.ref (w 31)), (.int (31 : Int32)), (.ref aN), (.ref aN)])) (fun t k => st64 t k) ?_
    obtain ⟨_, _, _, _, cl65, Ar65, Ov65, hsz65, -⟩ := id Bf63
    obtain ⟨T65, h65, X65, e65, W65, st65⟩ := stR X64 hx hZ e64 Ar65 (j := (31 : Int32)) (by rw [hsz65]; decide) rfl (Sto.of Ar65 Ov65 (Ins.self (Bf63.2.2.2.1 31 (by decide)))) (g := (mkF m 222 #[.val (.int x0), .unset, .unset, .unset, .unset] [(.ref (w 31)), (.int (31 : Int32)), (.ref aN), (.ref aN)])) rfl rfl (hb hby at_222)
    have Bf65 : BF Z h65 n0 aN w 32 := Bf63.next (by decide) W65
    have N65 := Fr.snoc X65 N63 Bf63.2.1
    refine Go.step (S' := T65.setTop (mkF m 223 #[.val (.int x0), .unset, .unset, .unset, .unset] [(.ref aN)])) (fun t k => st65 t k) ?_
    refine Go.step (S' := T65.setTop (mkF m 224 #[.val (.int x0), .val (.ref aN), .unset, .unset, .unset] [])) (fun t k => XS.astoreN X65.here hx rfl (hb hby at_223) rfl rfl (l' := #[.val (.int x0), .val (.ref aN), .unset, .unset, .unset]) rfl k) ?_
    refine Go.step (S' := T65.setTop (mkF m 225 #[.val (.int x0), .val (.ref aN), .unset, .unset, .unset] [(.int x0)])) (fun t k => XS.iloadN X65.here hx rfl (hb hby at_224) rfl k) ?_
    refine Go.step (S' := T65.setTop (mkF m 227 #[.val (.int x0), .val (.ref aN), .unset, .unset, .unset] [(.int (31 : Int32)), (.int x0)])) (fun t k => XS.bipush X65.here hx rfl (hb hby at_225) k) ?_
    refine Go.step (S' := T65.setTop (mkF m 228 #[.val (.int x0), .val (.ref aN), .unset, .unset, .unset] [(.int (x0 &&& (31 : Int32)))])) (fun t k => XS.iand X65.here hx rfl (hb hby at_227) rfl k) ?_
    refine Go.step (S' := T65.setTop (mkF m 229 #[.val (.int x0), .val (.ref aN), .val (.int (x0 &&& (31 : Int32))), .unset, .unset] [])) (fun t k => XS.istoreN X65.here hx rfl (hb hby at_228) rfl (l' := #[.val (.int x0), .val (.ref aN), .val (.int (x0 &&& (31 : Int32))), .unset, .unset]) rfl k) ?_
    refine Go.step (S' := T65.setTop (mkF m 230 #[.val (.int x0), .val (.ref aN), .val (.int (x0 &&& (31 : Int32))), .unset, .unset] [(.ref aN)])) (fun t k => XS.aloadN X65.here hx rfl (hb hby at_229) rfl rfl k) ?_
    refine Go.step (S' := T65.setTop (mkF m 231 #[.val (.int x0), .val (.ref aN), .val (.int (x0 &&& (31 : Int32))), .unset, .unset] [(.int (x0 &&& (31 : Int32))), (.ref aN)])) (fun t k => XS.iloadN X65.here hx rfl (hb hby at_230) rfl k) ?_
    obtain ⟨_, _, _, _, cl, Ar, -, hsz, hat⟩ := id Bf65
    have own_lt : (x0 &&& (31 : Int32)).toNatClampNeg < 32 := Nat.lt_of_not_le fun q => own_31 x0 (Or.inr q)
    refine Go.step (S' := T65.setTop (mkF m 232 #[.val (.int x0), .val (.ref aN), .val (.int (x0 &&& (31 : Int32))), .unset, .unset] [(.ref (w (x0 &&& (31 : Int32)).toNatClampNeg))])) (fun t k => X65.aaload hx (j := (x0 &&& (31 : Int32))) (v := (.ref (w (x0 &&& (31 : Int32)).toNatClampNeg))) (by rw [e65]; exact Ar.1) (State.isArrayOf_alike hZ.alike Ar.2.1) rfl Ar.2.2 (by rw [hsz]; exact own_31 x0) (hat _ own_lt) (g := (mkF m 231 #[.val (.int x0), .val (.ref aN), .val (.int (x0 &&& (31 : Int32))), .unset, .unset] [(.int (x0 &&& (31 : Int32))), (.ref aN)])) rfl rfl (hb hby at_231) _ k) ?_
    refine Go.step (S' := T65.setTop (mkF m 233 #[.val (.int x0), .val (.ref aN), .val (.int (x0 &&& (31 : Int32))), .val (.ref (w (x0 &&& (31 : Int32)).toNatClampNeg)), .unset] [])) (fun t k => XS.astoreN X65.here hx rfl (hb hby at_232) rfl rfl (l' := #[.val (.int x0), .val (.ref aN), .val (.int (x0 &&& (31 : Int32))), .val (.ref (w (x0 &&& (31 : Int32)).toNatClampNeg)), .unset]) rfl k) ?_
    refine Go.step (S' := T65.setTop (mkF m 234 #[.val (.int x0), .val (.ref aN), .val (.int (x0 &&& (31 : Int32))), .val (.ref (w (x0 &&& (31 : Int32)).toNatClampNeg)), .unset] [(.int (x0 &&& (31 : Int32)))])) (fun t k => XS.iloadN X65.here hx rfl (hb hby at_233) rfl k) ?_
    refine Go.step (S' := T65.setTop (mkF m 236 #[.val (.int x0), .val (.ref aN), .val (.int (x0 &&& (31 : Int32))), .val (.ref (w (x0 &&& (31 : Int32)).toNatClampNeg)), .unset] [(.int (21 : Int32)), (.int (x0 &&& (31 : Int32)))])) (fun t k => XS.bipush X65.here hx rfl (hb hby at_234) k) ?_
    by_cases hc67 : (x0 &&& (31 : Int32)) < (21 : Int32)
    · rw [if_pos hc67] at hr
      refine Go.step (S' := T65.setTop (mkF m 249 #[.val (.int x0), .val (.ref aN), .val (.int (x0 &&& (31 : Int32))), .val (.ref (w (x0 &&& (31 : Int32)).toNatClampNeg)), .unset] [])) (fun t k => XS.icmpYes X65.here hx rfl (pc0 := 236) (pc' := 249) rfl (hb hby at_236) rfl (tlt hc67).1 (by decide) (by decide) k) ?_
      refine Go.step (S' := T65.setTop (mkF m 250 #[.val (.int x0), .val (.ref aN), .val (.int (x0 &&& (31 : Int32))), .val (.ref (w (x0 &&& (31 : Int32)).toNatClampNeg)), .unset] [(.int (0 : Int32))])) (fun t k => XS.iconst X65.here hx rfl (hb hby at_249) k) ?_
      refine Go.step (S' := T65.setTop (mkF m 252 #[.val (.int x0), .val (.ref aN), .val (.int (x0 &&& (31 : Int32))), .val (.ref (w (x0 &&& (31 : Int32)).toNatClampNeg)), .val (.int (0 : Int32))] [])) (fun t k => XS.istore X65.here hx rfl (hb hby at_250) rfl (l' := #[.val (.int x0), .val (.ref aN), .val (.int (x0 &&& (31 : Int32))), .val (.ref (w (x0 &&& (31 : Int32)).toNatClampNeg)), .val (.int (0 : Int32))]) rfl k) ?_
      refine Go.step (S' := T65.setTop (mkF m 253 #[.val (.int x0), .val (.ref aN), .val (.int (x0 &&& (31 : Int32))), .val (.ref (w (x0 &&& (31 : Int32)).toNatClampNeg)), .val (.int (0 : Int32))] [(.ref (w (x0 &&& (31 : Int32)).toNatClampNeg))])) (fun t k => XS.aloadN X65.here hx rfl (hb hby at_252) rfl rfl k) ?_
      obtain ⟨cq68, kq68, q68a, q68b, q68c⟩ := isOf hZ e65 (Bf65.2.2.2.1 _ own_lt)
      obtain ⟨_, _, ⟨T68, L68, k68, n68⟩, -, X68, ⟨Lc68, hQ68, l68, y68, z68⟩, st68⟩ := X65.virtualBack hx (y := (⟨"com/example/tessera/tessera/query/AtomicType", "isCalendar", "()Z"⟩ : MethodName)) (z := (⟨"com/example/tessera/tessera/query/AtomicType", "isCalendar", "()Z"⟩ : MethodName)) hown (mvT hZ (hw _ (List.mem_of_getElem? (i := 68) rfl))) (mvT hZ (hw _ (List.mem_of_getElem? (i := 69) rfl))) (notFace_of_selects (args := #[]) (mvT hZ (hw _ (List.mem_of_getElem? (i := 71) rfl)))) (mvT hZ (hw _ (List.mem_of_getElem? (i := 71) rfl))) (mvT hZ (hw _ (List.mem_of_getElem? (i := 70) rfl))) (by decide) (backOf (W := 0) (rm1 l Z a0 hw [] (w (x0 &&& (31 : Int32)).toNatClampNeg) w h65 n0 Bf65.1 Bf65.2.2.1) hZ (hw _ (List.mem_of_getElem? (i := 72) rfl)) (hw _ (List.mem_of_getElem? (i := 3) rfl)) (by decide) (by decide)) q68a q68c (g := (mkF m 253 #[.val (.int x0), .val (.ref aN), .val (.int (x0 &&& (31 : Int32))), .val (.ref (w (x0 &&& (31 : Int32)).toNatClampNeg)), .val (.int (0 : Int32))] [(.ref (w (x0 &&& (31 : Int32)).toNatClampNeg))])) rfl (by rw [hml]; rfl) (Steps.refl _) (argsL := []) (rest := []) (lenOf pd0 rfl) rfl (by show 2 * 0 + _ ≤ _; exact Nat.le_of_eq rfl) (hb hby at_253) (fun _ _ => ⟨rfl, e65, (by decide : 1 + 0 ≤ _), (by decide : 32 + 0 ≤ _)⟩)
      dsimp only [Pt.U, Pt.locs, Pt.cells, Pt.slots] at X68 l68 y68 z68 st68 hQ68
      obtain ⟨hv68, Nq68, e68⟩ := hQ68
      rw [hv68] at st68
      have N68 : Fr n0 L68 := by rw [l68]; exact Fr.app N65 Nq68
      refine Go.step (S' := T68.setTop (mkF m 256 #[.val (.int x0), .val (.ref aN), .val (.int (x0 &&& (31 : Int32))), .val (.ref (w (x0 &&& (31 : Int32)).toNatClampNeg)), .val (.int (0 : Int32))] [(.int (f1 (w (x0 &&& (31 : Int32)).toNatClampNeg) w))])) (fun t k => st68.trans k) ?_
      refine Go.step (S' := T68.setTop (mkF m 258 #[.val (.int x0), .val (.ref aN), .val (.int (x0 &&& (31 : Int32))), .val (.ref (w (x0 &&& (31 : Int32)).toNatClampNeg)), .val (.int (0 : Int32))] [(.int (0 : Int32)), (.int (f1 (w (x0 &&& (31 : Int32)).toNatClampNeg) w))])) (fun t k => XS.iload X68.here hx rfl (hb hby at_256) rfl k) ?_
      by_cases hc69 : (f1 (w (x0 &&& (31 : Int32)).toNatClampNeg) w) = (0 : Int32)
      · rw [if_pos hc69] at hr
        refine Go.step (S' := T68.setTop (mkF m 261 #[.val (.int x0), .val (.ref aN), .val (.int (x0 &&& (31 : Int32))), .val (.ref (w (x0 &&& (31 : Int32)).toNatClampNeg)), .val (.int (0 : Int32))] [])) (fun t k => XS.icmpNo X68.here hx rfl (hb hby at_258) rfl (teq hc69).2 k) ?_
        refine Go.step (S' := T68.setTop (mkF m 262 #[.val (.int x0), .val (.ref aN), .val (.int (x0 &&& (31 : Int32))), .val (.ref (w (x0 &&& (31 : Int32)).toNatClampNeg)), .val (.int (0 : Int32))] [(.int (1 : Int32))])) (fun t k => XS.iconst X68.here hx rfl (hb hby at_261) k) ?_
        refine Go.step (S' := T68.setTop (mkF m 266 #[.val (.int x0), .val (.ref aN), .val (.int (x0 &&& (31 : Int32))), .val (.ref (w (x0 &&& (31 : Int32)).toNatClampNeg)), .val (.int (0 : Int32))] [(.int (1 : Int32))])) (fun t k => XS.goto X68.here hx rfl (pc0 := 262) (pc' := 266) rfl (hb hby at_262) (by decide) (by decide) k) ?_
        exact Go.retN X68 hx (t := .boolean) Bd.returns (by simp) Bd.notSynchronized (hb hby at_266) ⟨by rw [hr0, ← hr]; first | done | rfl, N68⟩ (by rw [y68]; decide) (by rw [z68]; decide)
      · rw [if_neg hc69] at hr
        refine Go.step (S' := T68.setTop (mkF m 265 #[.val (.int x0), .val (.ref aN), .val (.int (x0 &&& (31 : Int32))), .val (.ref (w (x0 &&& (31 : Int32)).toNatClampNeg)), .val (.int (0 : Int32))] [])) (fun t k => XS.icmpYes X68.here hx rfl (pc0 := 258) (pc' := 265) rfl (hb hby at_258) rfl (feq hc69).2 (by decide) (by decide) k) ?_
        refine Go.step (S' := T68.setTop (mkF m 266 #[.val (.int x0), .val (.ref aN), .val (.int (x0 &&& (31 : Int32))), .val (.ref (w (x0 &&& (31 : Int32)).toNatClampNeg)), .val (.int (0 : Int32))] [(.int (0 : Int32))])) (fun t k => XS.iconst X68.here hx rfl (hb hby at_265) k) ?_
        exact Go.retN X68 hx (t := .boolean) Bd.returns (by simp) Bd.notSynchronized (hb hby at_266) ⟨by rw [hr0, ← hr]; first | done | rfl, N68⟩ (by rw [y68]; decide) (by rw [z68]; decide)
    · rw [if_neg hc67] at hr
      refine Go.step (S' := T65.setTop (mkF m 239 #[.val (.int x0), .val (.ref aN), .val (.int (x0 &&& (31 : Int32))), .val (.ref (w (x0 &&& (31 : Int32)).toNatClampNeg)), .unset] [])) (fun t k => XS.icmpNo X65.here hx rfl (hb hby at_236) rfl (flt hc67).1 k) ?_
      refine Go.step (S' := T65.setTop (mkF m 240 #[.val (.int x0), .val (.ref aN), .val (.int (x0 &&& (31 : Int32))), .val (.ref (w (x0 &&& (31 : Int32)).toNatClampNeg)), .unset] [(.int (x0 &&& (31 : Int32)))])) (fun t k => XS.iloadN X65.here hx rfl (hb hby at_239) rfl k) ?_
      refine Go.step (S' := T65.setTop (mkF m 242 #[.val (.int x0), .val (.ref aN), .val (.int (x0 &&& (31 : Int32))), .val (.ref (w (x0 &&& (31 : Int32)).toNatClampNeg)), .unset] [(.int (28 : Int32)), (.int (x0 &&& (31 : Int32)))])) (fun t k => XS.bipush X65.here hx rfl (hb hby at_240) k) ?_
      by_cases hc70 : (28 : Int32) < (x0 &&& (31 : Int32))
      · rw [if_pos hc70] at hr
        refine Go.step (S' := T65.setTop (mkF m 249 #[.val (.int x0), .val (.ref aN), .val (.int (x0 &&& (31 : Int32))), .val (.ref (w (x0 &&& (31 : Int32)).toNatClampNeg)), .unset] [])) (fun t k => XS.icmpYes X65.here hx rfl (pc0 := 242) (pc' := 249) rfl (hb hby at_242) rfl (tlt hc70).2.2.1 (by decide) (by decide) k) ?_
        refine Go.step (S' := T65.setTop (mkF m 250 #[.val (.int x0), .val (.ref aN), .val (.int (x0 &&& (31 : Int32))), .val (.ref (w (x0 &&& (31 : Int32)).toNatClampNeg)), .unset] [(.int (0 : Int32))])) (fun t k => XS.iconst X65.here hx rfl (hb hby at_249) k) ?_
        refine Go.step (S' := T65.setTop (mkF m 252 #[.val (.int x0), .val (.ref aN), .val (.int (x0 &&& (31 : Int32))), .val (.ref (w (x0 &&& (31 : Int32)).toNatClampNeg)), .val (.int (0 : Int32))] [])) (fun t k => XS.istore X65.here hx rfl (hb hby at_250) rfl (l' := #[.val (.int x0), .val (.ref aN), .val (.int (x0 &&& (31 : Int32))), .val (.ref (w (x0 &&& (31 : Int32)).toNatClampNeg)), .val (.int (0 : Int32))]) rfl k) ?_
        refine Go.step (S' := T65.setTop (mkF m 253 #[.val (.int x0), .val (.ref aN), .val (.int (x0 &&& (31 : Int32))), .val (.ref (w (x0 &&& (31 : Int32)).toNatClampNeg)), .val (.int (0 : Int32))] [(.ref (w (x0 &&& (31 : Int32)).toNatClampNeg))])) (fun t k => XS.aloadN X65.here hx rfl (hb hby at_252) rfl rfl k) ?_
        obtain ⟨cq71, kq71, q71a, q71b, q71c⟩ := isOf hZ e65 (Bf65.2.2.2.1 _ own_lt)
        obtain ⟨_, _, ⟨T71, L71, k71, n71⟩, -, X71, ⟨Lc71, hQ71, l71, y71, z71⟩, st71⟩ := X65.virtualBack hx (y := (⟨"com/example/tessera/tessera/query/AtomicType", "isCalendar", "()Z"⟩ : MethodName)) (z := (⟨"com/example/tessera/tessera/query/AtomicType", "isCalendar", "()Z"⟩ : MethodName)) hown (mvT hZ (hw _ (List.mem_of_getElem? (i := 68) rfl))) (mvT hZ (hw _ (List.mem_of_getElem? (i := 69) rfl))) (notFace_of_selects (args := #[]) (mvT hZ (hw _ (List.mem_of_getElem? (i := 71) rfl)))) (mvT hZ (hw _ (List.mem_of_getElem? (i := 71) rfl))) (mvT hZ (hw _ (List.mem_of_getElem? (i := 70) rfl))) (by decide) (backOf (W := 0) (rm1 l Z a0 hw [] (w (x0 &&& (31 : Int32)).toNatClampNeg) w h65 n0 Bf65.1 Bf65.2.2.1) hZ (hw _ (List.mem_of_getElem? (i := 72) rfl)) (hw _ (List.mem_of_getElem? (i := 3) rfl)) (by decide) (by decide)) q71a q71c (g := (mkF m 253 #[.val (.int x0), .val (.ref aN), .val (.int (x0 &&& (31 : Int32))), .val (.ref (w (x0 &&& (31 : Int32)).toNatClampNeg)), .val (.int (0 : Int32))] [(.ref (w (x0 &&& (31 : Int32)).toNatClampNeg))])) rfl (by rw [hml]; rfl) (Steps.refl _) (argsL := []) (rest := []) (lenOf pd0 rfl) rfl (by show 2 * 0 + _ ≤ _; exact Nat.le_of_eq rfl) (hb hby at_253) (fun _ _ => ⟨rfl, e65, (by decide : 1 + 0 ≤ _), (by decide : 32 + 0 ≤ _)⟩)
        dsimp only [Pt.U, Pt.locs, Pt.cells, Pt.slots] at X71 l71 y71 z71 st71 hQ71
        obtain ⟨hv71, Nq71, e71⟩ := hQ71
        rw [hv71] at st71
        have N71 : Fr n0 L71 := by rw [l71]; exact Fr.app N65 Nq71
        refine Go.step (S' := T71.setTop (mkF m 256 #[.val (.int x0), .val (.ref aN), .val (.int (x0 &&& (31 : Int32))), .val (.ref (w (x0 &&& (31 : Int32)).toNatClampNeg)), .val (.int (0 : Int32))] [(.int (f1 (w (x0 &&& (31 : Int32)).toNatClampNeg) w))])) (fun t k => st71.trans k) ?_
        refine Go.step (S' := T71.setTop (mkF m 258 #[.val (.int x0), .val (.ref aN), .val (.int (x0 &&& (31 : Int32))), .val (.ref (w (x0 &&& (31 : Int32)).toNatClampNeg)), .val (.int (0 : Int32))] [(.int (0 : Int32)), (.int (f1 (w (x0 &&& (31 : Int32)).toNatClampNeg) w))])) (fun t k => XS.iload X71.here hx rfl (hb hby at_256) rfl k) ?_
        by_cases hc72 : (f1 (w (x0 &&& (31 : Int32)).toNatClampNeg) w) = (0 : Int32)
        · rw [if_pos hc72] at hr
          refine Go.step (S' := T71.setTop (mkF m 261 #[.val (.int x0), .val (.ref aN), .val (.int (x0 &&& (31 : Int32))), .val (.ref (w (x0 &&& (31 : Int32)).toNatClampNeg)), .val (.int (0 : Int32))] [])) (fun t k => XS.icmpNo X71.here hx rfl (hb hby at_258) rfl (teq hc72).2 k) ?_
          refine Go.step (S' := T71.setTop (mkF m 262 #[.val (.int x0), .val (.ref aN), .val (.int (x0 &&& (31 : Int32))), .val (.ref (w (x0 &&& (31 : Int32)).toNatClampNeg)), .val (.int (0 : Int32))] [(.int (1 : Int32))])) (fun t k => XS.iconst X71.here hx rfl (hb hby at_261) k) ?_
          refine Go.step (S' := T71.setTop (mkF m 266 #[.val (.int x0), .val (.ref aN), .val (.int (x0 &&& (31 : Int32))), .val (.ref (w (x0 &&& (31 : Int32)).toNatClampNeg)), .val (.int (0 : Int32))] [(.int (1 : Int32))])) (fun t k => XS.goto X71.here hx rfl (pc0 := 262) (pc' := 266) rfl (hb hby at_262) (by decide) (by decide) k) ?_
          exact Go.retN X71 hx (t := .boolean) Bd.returns (by simp) Bd.notSynchronized (hb hby at_266) ⟨by rw [hr0, ← hr]; first | done | rfl, N71⟩ (by rw [y71]; decide) (by rw [z71]; decide)
        · rw [if_neg hc72] at hr
          refine Go.step (S' := T71.setTop (mkF m 265 #[.val (.int x0), .val (.ref aN), .val (.int (x0 &&& (31 : Int32))), .val (.ref (w (x0 &&& (31 : Int32)).toNatClampNeg)), .val (.int (0 : Int32))] [])) (fun t k => XS.icmpYes X71.here hx rfl (pc0 := 258) (pc' := 265) rfl (hb hby at_258) rfl (feq hc72).2 (by decide) (by decide) k) ?_
          refine Go.step (S' := T71.setTop (mkF m 266 #[.val (.int x0), .val (.ref aN), .val (.int (x0 &&& (31 : Int32))), .val (.ref (w (x0 &&& (31 : Int32)).toNatClampNeg)), .val (.int (0 : Int32))] [(.int (0 : Int32))])) (fun t k => XS.iconst X71.here hx rfl (hb hby at_265) k) ?_
          exact Go.retN X71 hx (t := .boolean) Bd.returns (by simp) Bd.notSynchronized (hb hby at_266) ⟨by rw [hr0, ← hr]; first | done | rfl, N71⟩ (by rw [y71]; decide) (by rw [z71]; decide)
      · rw [if_neg hc70] at hr
        refine Go.step (S' := T65.setTop (mkF m 245 #[.val (.int x0), .val (.ref aN), .val (.int (x0 &&& (31 : Int32))), .val (.ref (w (x0 &&& (31 : Int32)).toNatClampNeg)), .unset] [])) (fun t k => XS.icmpNo X65.here hx rfl (hb hby at_242) rfl (flt hc70).2.2.1 k) ?_
        refine Go.step (S' := T65.setTop (mkF m 246 #[.val (.int x0), .val (.ref aN), .val (.int (x0 &&& (31 : Int32))), .val (.ref (w (x0 &&& (31 : Int32)).toNatClampNeg)), .unset] [(.int (1 : Int32))])) (fun t k => XS.iconst X65.here hx rfl (hb hby at_245) k) ?_
        refine Go.step (S' := T65.setTop (mkF m 250 #[.val (.int x0), .val (.ref aN), .val (.int (x0 &&& (31 : Int32))), .val (.ref (w (x0 &&& (31 : Int32)).toNatClampNeg)), .unset] [(.int (1 : Int32))])) (fun t k => XS.goto X65.here hx rfl (pc0 := 246) (pc' := 250) rfl (hb hby at_246) (by decide) (by decide) k) ?_
        refine Go.step (S' := T65.setTop (mkF m 252 #[.val (.int x0), .val (.ref aN), .val (.int (x0 &&& (31 : Int32))), .val (.ref (w (x0 &&& (31 : Int32)).toNatClampNeg)), .val (.int (1 : Int32))] [])) (fun t k => XS.istore X65.here hx rfl (hb hby at_250) rfl (l' := #[.val (.int x0), .val (.ref aN), .val (.int (x0 &&& (31 : Int32))), .val (.ref (w (x0 &&& (31 : Int32)).toNatClampNeg)), .val (.int (1 : Int32))]) rfl k) ?_
        refine Go.step (S' := T65.setTop (mkF m 253 #[.val (.int x0), .val (.ref aN), .val (.int (x0 &&& (31 : Int32))), .val (.ref (w (x0 &&& (31 : Int32)).toNatClampNeg)), .val (.int (1 : Int32))] [(.ref (w (x0 &&& (31 : Int32)).toNatClampNeg))])) (fun t k => XS.aloadN X65.here hx rfl (hb hby at_252) rfl rfl k) ?_
        obtain ⟨cq73, kq73, q73a, q73b, q73c⟩ := isOf hZ e65 (Bf65.2.2.2.1 _ own_lt)
        obtain ⟨_, _, ⟨T73, L73, k73, n73⟩, -, X73, ⟨Lc73, hQ73, l73, y73, z73⟩, st73⟩ := X65.virtualBack hx (y := (⟨"com/example/tessera/tessera/query/AtomicType", "isCalendar", "()Z"⟩ : MethodName)) (z := (⟨"com/example/tessera/tessera/query/AtomicType", "isCalendar", "()Z"⟩ : MethodName)) hown (mvT hZ (hw _ (List.mem_of_getElem? (i := 68) rfl))) (mvT hZ (hw _ (List.mem_of_getElem? (i := 69) rfl))) (notFace_of_selects (args := #[]) (mvT hZ (hw _ (List.mem_of_getElem? (i := 71) rfl)))) (mvT hZ (hw _ (List.mem_of_getElem? (i := 71) rfl))) (mvT hZ (hw _ (List.mem_of_getElem? (i := 70) rfl))) (by decide) (backOf (W := 0) (rm1 l Z a0 hw [] (w (x0 &&& (31 : Int32)).toNatClampNeg) w h65 n0 Bf65.1 Bf65.2.2.1) hZ (hw _ (List.mem_of_getElem? (i := 72) rfl)) (hw _ (List.mem_of_getElem? (i := 3) rfl)) (by decide) (by decide)) q73a q73c (g := (mkF m 253 #[.val (.int x0), .val (.ref aN), .val (.int (x0 &&& (31 : Int32))), .val (.ref (w (x0 &&& (31 : Int32)).toNatClampNeg)), .val (.int (1 : Int32))] [(.ref (w (x0 &&& (31 : Int32)).toNatClampNeg))])) rfl (by rw [hml]; rfl) (Steps.refl _) (argsL := []) (rest := []) (lenOf pd0 rfl) rfl (by show 2 * 0 + _ ≤ _; exact Nat.le_of_eq rfl) (hb hby at_253) (fun _ _ => ⟨rfl, e65, (by decide : 1 + 0 ≤ _), (by decide : 32 + 0 ≤ _)⟩)
        dsimp only [Pt.U, Pt.locs, Pt.cells, Pt.slots] at X73 l73 y73 z73 st73 hQ73
        obtain ⟨hv73, Nq73, e73⟩ := hQ73
        rw [hv73] at st73
        have N73 : Fr n0 L73 := by rw [l73]; exact Fr.app N65 Nq73
        refine Go.step (S' := T73.setTop (mkF m 256 #[.val (.int x0), .val (.ref aN), .val (.int (x0 &&& (31 : Int32))), .val (.ref (w (x0 &&& (31 : Int32)).toNatClampNeg)), .val (.int (1 : Int32))] [(.int (f1 (w (x0 &&& (31 : Int32)).toNatClampNeg) w))])) (fun t k => st73.trans k) ?_
        refine Go.step (S' := T73.setTop (mkF m 258 #[.val (.int x0), .val (.ref aN), .val (.int (x0 &&& (31 : Int32))), .val (.ref (w (x0 &&& (31 : Int32)).toNatClampNeg)), .val (.int (1 : Int32))] [(.int (1 : Int32)), (.int (f1 (w (x0 &&& (31 : Int32)).toNatClampNeg) w))])) (fun t k => XS.iload X73.here hx rfl (hb hby at_256) rfl k) ?_
        by_cases hc74 : (f1 (w (x0 &&& (31 : Int32)).toNatClampNeg) w) = (1 : Int32)
        · rw [if_pos hc74] at hr
          refine Go.step (S' := T73.setTop (mkF m 261 #[.val (.int x0), .val (.ref aN), .val (.int (x0 &&& (31 : Int32))), .val (.ref (w (x0 &&& (31 : Int32)).toNatClampNeg)), .val (.int (1 : Int32))] [])) (fun t k => XS.icmpNo X73.here hx rfl (hb hby at_258) rfl (teq hc74).2 k) ?_
          refine Go.step (S' := T73.setTop (mkF m 262 #[.val (.int x0), .val (.ref aN), .val (.int (x0 &&& (31 : Int32))), .val (.ref (w (x0 &&& (31 : Int32)).toNatClampNeg)), .val (.int (1 : Int32))] [(.int (1 : Int32))])) (fun t k => XS.iconst X73.here hx rfl (hb hby at_261) k) ?_
          refine Go.step (S' := T73.setTop (mkF m 266 #[.val (.int x0), .val (.ref aN), .val (.int (x0 &&& (31 : Int32))), .val (.ref (w (x0 &&& (31 : Int32)).toNatClampNeg)), .val (.int (1 : Int32))] [(.int (1 : Int32))])) (fun t k => XS.goto X73.here hx rfl (pc0 := 262) (pc' := 266) rfl (hb hby at_262) (by decide) (by decide) k) ?_
          exact Go.retN X73 hx (t := .boolean) Bd.returns (by simp) Bd.notSynchronized (hb hby at_266) ⟨by rw [hr0, ← hr]; first | done | rfl, N73⟩ (by rw [y73]; decide) (by rw [z73]; decide)
        · rw [if_neg hc74] at hr
          refine Go.step (S' := T73.setTop (mkF m 265 #[.val (.int x0), .val (.ref aN), .val (.int (x0 &&& (31 : Int32))), .val (.ref (w (x0 &&& (31 : Int32)).toNatClampNeg)), .val (.int (1 : Int32))] [])) (fun t k => XS.icmpYes X73.here hx rfl (pc0 := 258) (pc' := 265) rfl (hb hby at_258) rfl (feq hc74).2 (by decide) (by decide) k) ?_
          refine Go.step (S' := T73.setTop (mkF m 266 #[.val (.int x0), .val (.ref aN), .val (.int (x0 &&& (31 : Int32))), .val (.ref (w (x0 &&& (31 : Int32)).toNatClampNeg)), .val (.int (1 : Int32))] [(.int (0 : Int32))])) (fun t k => XS.iconst X73.here hx rfl (hb hby at_265) k) ?_
          exact Go.retN X73 hx (t := .boolean) Bd.returns (by simp) Bd.notSynchronized (hb hby at_266) ⟨by rw [hr0, ← hr]; first | done | rfl, N73⟩ (by rw [y73]; decide) (by rw [z73]; decide)
  show Go p e below s (Q0 x0 w h0 n0) room_1.cells room_1.slots (s₁.setTop (entryFrame m #[(.int x0)] maxLocals))
  rw [ef0]
  exact B0 s₁ [] X0 e0 (Fr.nil n0) hr0
theorem own_all {P : Nat → Prop} (p0 : P 0) (p1 : P 1) (p2 : P 2) (p3 : P 3) (p4 : P 4) (p5 : P 5) (p6 : P 6) (p7 : P 7) (p8 : P 8) (p9 : P 9) (p10 : P 10) (p11 : P 11) (p12 : P 12) (p13 : P 13) (p14 : P 14) (p15 : P 15) (p16 : P 16) (p17 : P 17) (p18 : P 18) (p19 : P 19) (p20 : P 20) (p21 : P 21) (p22 : P 22) (p23 : P 23) (p24 : P 24) (p25 : P 25) (p26 : P 26) (p27 : P 27) (p28 : P 28) (p29 : P 29) (p30 : P 30) (p31 : P 31) : ∀ i, i < 32 → P i
  | 0, _ => p0
  | 1, _ => p1
  | 2, _ => p2
  | 3, _ => p3
  | 4, _ => p4
  | 5, _ => p5
  | 6, _ => p6
  | 7, _ => p7
  | 8, _ => p8
  | 9, _ => p9
  | 10, _ => p10
  | 11, _ => p11
  | 12, _ => p12
  | 13, _ => p13
  | 14, _ => p14
  | 15, _ => p15
  | 16, _ => p16
  | 17, _ => p17
  | 18, _ => p18
  | 19, _ => p19
  | 20, _ => p20
  | 21, _ => p21
  | 22, _ => p22
  | 23, _ => p23
  | 24, _ => p24
  | 25, _ => p25
  | 26, _ => p26
  | 27, _ => p27
  | 28, _ => p28
  | 29, _ => p29
  | 30, _ => p30
  | 31, _ => p31
  | n + 32, h => absurd h (by omega)
theorem own_uni {Z : State} {h : Heap} {a : Addr} {C n d : String} {v v' : Value} (F : Fld Z h a C n d v) (F' : Fld Z h a C n d v') : v = v' := by
  obtain ⟨cell, cf, k, i, f, h1, h2, h3, h4, h5, h6, h7⟩ := F
  obtain ⟨cell', cf', k', i', f', g1, g2, g3, g4, g5, g6, g7⟩ := F'
  cases h1.symm.trans g1
  cases h2.symm.trans g2
  exact Option.some.inj (h7.symm.trans g7)
theorem own_dist {Z : State} {h : Heap} {w : Nat → Addr} (HO : ∀ i, i < 32 → Fld Z h (w i) "java/lang/Enum" "ordinal" "I" (.int (Int32.ofNat i))) : ∀ i j, i < 32 → j < 32 → w i = w j → i = j := by
  intro i j hi hj e
  have q := own_uni (e ▸ HO i hi) (HO j hj)
  have q2 := Value.int.inj q
  have q3 := congrArg Int32.toInt q2
  rw [Int32.toInt_ofNat_small (by omega), Int32.toInt_ofNat_small (by omega)] at q3
  omega
theorem own_ite {P : Prop} [Decidable P] {a b r : Int32} (h1 : P → a = r) (h2 : ¬ P → b = r) : (if P then a else b) = r := by
  by_cases h : P
  · rw [if_pos h]; exact h1 h
  · rw [if_neg h]; exact h2 h
theorem own_f1 (n : Nat) (hn : n < 32) (w : Nat → Addr) (HD : ∀ i j, i < 32 → j < 32 → w i = w j → i = j) : f1 (w n) w = if 21 ≤ n ∧ n ≤ 28 then 1 else 0 := by
  have key : ∀ j, j < 32 → (w n = w j) = (n = j) := fun j hj => propext ⟨HD n j hn hj, fun q => by rw [q]⟩
  unfold f1
  simp only [key 21 (by decide), key 22 (by decide), key 23 (by decide), key 24 (by decide), key 25 (by decide), key 26 (by decide), key 27 (by decide), key 28 (by decide)]
  (repeat' refine own_ite (fun h => ?_) (fun h => ?_)) <;> first | exact (if_pos (by omega)).symm | exact (if_neg (by omega)).symm
theorem own_law (x0 : Int32) (w : Nat → Addr) (HD : ∀ i j, i < 32 → j < 32 → w i = w j → i = j) : f0 x0 w = 1 := by
  have h := own_31i x0
  have h2 := own_31n x0
  have e := own_f1 (x0 &&& (31 : Int32)).toNatClampNeg (by omega) w HD
  have e21 : (21 : Int32).toInt = 21 := by decide
  have e28 : (28 : Int32).toInt = 28 := by decide
  unfold f0
  simp only [e, Int32.lt_iff_toInt_lt, e21, e28]
  refine own_ite (fun h => ?_) (fun h => own_ite (fun h' => ?_) (fun h' => ?_))
  · rw [if_pos (if_neg (by omega))]
  · rw [if_pos (if_neg (by omega))]
  · rw [if_pos (if_pos (by omega))]
set_option maxRecDepth 65536 in
set_option maxHeartbeats 40000000 in
theorem comes_1 {Post : Tables → Env → Array Value → State → Outcome → State → Prop} (hpost : ∀ tb e args s v u, (limb_1_1.after args s (.returned v) u = true ∧ limb_1_2.after args s (.returned v) u = true ∧ True) → FrameEnd s (.returned v) u (Jvm.fieldLocs frame_1_writes args s ++ Jvm.arrayLocs frame_1_arrays args s ++ Jvm.staticLocs frame_1_statics s) 16 128 → Post tb e args s (.returned v) u) :
    ArmFor flags0 classFile x code maxLocals ret World_1 tables_1 room_1 Calls_1 rest_1 Pre_1 Post := by
  intro l hfl _ _ p e ha hc hk s m args below hf hA hF happ hP
  obtain ⟨hcalls, hrest, hpre⟩ := hP
  obtain ⟨-, -, -, hnamed, -, -, -, hat⟩ := (Spec.applies_iff hf).mp happ
  obtain ⟨hg, hn⟩ := and_e (Cond.before_iff.mp (show (Jvm.Cond.and given_1 narrow_1).before args s = true from hpre))
  obtain ⟨hcount, hg⟩ := and_e hg
  obtain ⟨w0, rfl⟩ : ∃ w0 : Value, args = #[w0] := by
    have hs : args.size = 1 := by simpa [Cond.value, given_1] using hcount
    obtain ⟨L⟩ := args
    match L, hs with
    | [w0], _ => exact ⟨w0, rfl⟩
  have hw := fun d (hd : d ∈ tables_1) => atoms_spec (ws := Jvm.Cond.code x code maxLocals ret :: tables_1) hat d (List.mem_cons_of_mem _ hd)
  obtain ⟨i0, ei0⟩ := is_v hg
  obtain rfl : w0 = (.int i0) := Option.some.inj ei0
  obtain ⟨hx_0, hn⟩ := and_e hn
  obtain ⟨w_0, ev_0⟩ := exa_v hx_0
  have S_0 := Sta.start ev_0 (Or.inr ⟨(hw _ (List.mem_of_getElem? (i := 3) rfl)), (hw _ (List.mem_of_getElem? (i := 4) rfl))⟩)
  have E_0 := Exa.start ev_0 hx_0
  obtain ⟨hx_1, hn⟩ := and_e hn
  obtain ⟨w_1, ev_1⟩ := exa_v hx_1
  have S_1 := Sta.start ev_1 (Or.inr ⟨(hw _ (List.mem_of_getElem? (i := 3) rfl)), (hw _ (List.mem_of_getElem? (i := 7) rfl))⟩)
  have E_1 := Exa.start ev_1 hx_1
  obtain ⟨hx_2, hn⟩ := and_e hn
  obtain ⟨w_2, ev_2⟩ := exa_v hx_2
  have S_2 := Sta.start ev_2 (Or.inr ⟨(hw _ (List.mem_of_getElem? (i := 3) rfl)), (hw _ (List.mem_of_getElem? (i := 9) rfl))⟩)
  have E_2 := Exa.start ev_2 hx_2
  obtain ⟨hx_3, hn⟩ := and_e hn
  obtain ⟨w_3, ev_3⟩ := exa_v hx_3
  have S_3 := Sta.start ev_3 (Or.inr ⟨(hw _ (List.mem_of_getElem? (i := 3) rfl)), (hw _ (List.mem_of_getElem? (i := 11) rfl))⟩)
  have E_3 := Exa.start ev_3 hx_3
  obtain ⟨hx_4, hn⟩ := and_e hn
  obtain ⟨w_4, ev_4⟩ := exa_v hx_4
  have S_4 := Sta.start ev_4 (Or.inr ⟨(hw _ (List.mem_of_getElem? (i := 3) rfl)), (hw _ (List.mem_of_getElem? (i := 13) rfl))⟩)
  have E_4 := Exa.start ev_4 hx_4
  obtain ⟨hx_5, hn⟩ := and_e hn
  obtain ⟨w_5, ev_5⟩ := exa_v hx_5
  have S_5 := Sta.start ev_5 (Or.inr ⟨(hw _ (List.mem_of_getElem? (i := 3) rfl)), (hw _ (List.mem_of_getElem? (i := 15) rfl))⟩)
  have E_5 := Exa.start ev_5 hx_5
  obtain ⟨hx_6, hn⟩ := and_e hn
  obtain ⟨w_6, ev_6⟩ := exa_v hx_6
  have S_6 := Sta.start ev_6 (Or.inr ⟨(hw _ (List.mem_of_getElem? (i := 3) rfl)), (hw _ (List.mem_of_getElem? (i := 17) rfl))⟩)
  have E_6 := Exa.start ev_6 hx_6
  obtain ⟨hx_7, hn⟩ := and_e hn
  obtain ⟨w_7, ev_7⟩ := exa_v hx_7
  have S_7 := Sta.start ev_7 (Or.inr ⟨(hw _ (List.mem_of_getElem? (i := 3) rfl)), (hw _ (List.mem_of_getElem? (i := 19) rfl))⟩)
  have E_7 := Exa.start ev_7 hx_7
  obtain ⟨hx_8, hn⟩ := and_e hn
  obtain ⟨w_8, ev_8⟩ := exa_v hx_8
  have S_8 := Sta.start ev_8 (Or.inr ⟨(hw _ (List.mem_of_getElem? (i := 3) rfl)), (hw _ (List.mem_of_getElem? (i := 21) rfl))⟩)
  have E_8 := Exa.start ev_8 hx_8
  obtain ⟨hx_9, hn⟩ := and_e hn
  obtain ⟨w_9, ev_9⟩ := exa_v hx_9
  have S_9 := Sta.start ev_9 (Or.inr ⟨(hw _ (List.mem_of_getElem? (i := 3) rfl)), (hw _ (List.mem_of_getElem? (i := 23) rfl))⟩)
  have E_9 := Exa.start ev_9 hx_9
  obtain ⟨hx_10, hn⟩ := and_e hn
  obtain ⟨w_10, ev_10⟩ := exa_v hx_10
  have S_10 := Sta.start ev_10 (Or.inr ⟨(hw _ (List.mem_of_getElem? (i := 3) rfl)), (hw _ (List.mem_of_getElem? (i := 25) rfl))⟩)
  have E_10 := Exa.start ev_10 hx_10
  obtain ⟨hx_11, hn⟩ := and_e hn
  obtain ⟨w_11, ev_11⟩ := exa_v hx_11
  have S_11 := Sta.start ev_11 (Or.inr ⟨(hw _ (List.mem_of_getElem? (i := 3) rfl)), (hw _ (List.mem_of_getElem? (i := 27) rfl))⟩)
  have E_11 := Exa.start ev_11 hx_11
  obtain ⟨hx_12, hn⟩ := and_e hn
  obtain ⟨w_12, ev_12⟩ := exa_v hx_12
  have S_12 := Sta.start ev_12 (Or.inr ⟨(hw _ (List.mem_of_getElem? (i := 3) rfl)), (hw _ (List.mem_of_getElem? (i := 29) rfl))⟩)
  have E_12 := Exa.start ev_12 hx_12
  obtain ⟨hx_13, hn⟩ := and_e hn
  obtain ⟨w_13, ev_13⟩ := exa_v hx_13
  have S_13 := Sta.start ev_13 (Or.inr ⟨(hw _ (List.mem_of_getElem? (i := 3) rfl)), (hw _ (List.mem_of_getElem? (i := 31) rfl))⟩)
  have E_13 := Exa.start ev_13 hx_13
  obtain ⟨hx_14, hn⟩ := and_e hn
  obtain ⟨w_14, ev_14⟩ := exa_v hx_14
  have S_14 := Sta.start ev_14 (Or.inr ⟨(hw _ (List.mem_of_getElem? (i := 3) rfl)), (hw _ (List.mem_of_getElem? (i := 33) rfl))⟩)
  have E_14 := Exa.start ev_14 hx_14
  obtain ⟨hx_15, hn⟩ := and_e hn
  obtain ⟨w_15, ev_15⟩ := exa_v hx_15
  have S_15 := Sta.start ev_15 (Or.inr ⟨(hw _ (List.mem_of_getElem? (i := 3) rfl)), (hw _ (List.mem_of_getElem? (i := 35) rfl))⟩)
  have E_15 := Exa.start ev_15 hx_15
  obtain ⟨hx_16, hn⟩ := and_e hn
  obtain ⟨w_16, ev_16⟩ := exa_v hx_16
  have S_16 := Sta.start ev_16 (Or.inr ⟨(hw _ (List.mem_of_getElem? (i := 3) rfl)), (hw _ (List.mem_of_getElem? (i := 37) rfl))⟩)
  have E_16 := Exa.start ev_16 hx_16
  obtain ⟨hx_17, hn⟩ := and_e hn
  obtain ⟨w_17, ev_17⟩ := exa_v hx_17
  have S_17 := Sta.start ev_17 (Or.inr ⟨(hw _ (List.mem_of_getElem? (i := 3) rfl)), (hw _ (List.mem_of_getElem? (i := 39) rfl))⟩)
  have E_17 := Exa.start ev_17 hx_17
  obtain ⟨hx_18, hn⟩ := and_e hn
  obtain ⟨w_18, ev_18⟩ := exa_v hx_18
  have S_18 := Sta.start ev_18 (Or.inr ⟨(hw _ (List.mem_of_getElem? (i := 3) rfl)), (hw _ (List.mem_of_getElem? (i := 41) rfl))⟩)
  have E_18 := Exa.start ev_18 hx_18
  obtain ⟨hx_19, hn⟩ := and_e hn
  obtain ⟨w_19, ev_19⟩ := exa_v hx_19
  have S_19 := Sta.start ev_19 (Or.inr ⟨(hw _ (List.mem_of_getElem? (i := 3) rfl)), (hw _ (List.mem_of_getElem? (i := 43) rfl))⟩)
  have E_19 := Exa.start ev_19 hx_19
  obtain ⟨hx_20, hn⟩ := and_e hn
  obtain ⟨w_20, ev_20⟩ := exa_v hx_20
  have S_20 := Sta.start ev_20 (Or.inr ⟨(hw _ (List.mem_of_getElem? (i := 3) rfl)), (hw _ (List.mem_of_getElem? (i := 45) rfl))⟩)
  have E_20 := Exa.start ev_20 hx_20
  obtain ⟨hx_21, hn⟩ := and_e hn
  obtain ⟨w_21, ev_21⟩ := exa_v hx_21
  have S_21 := Sta.start ev_21 (Or.inr ⟨(hw _ (List.mem_of_getElem? (i := 3) rfl)), (hw _ (List.mem_of_getElem? (i := 47) rfl))⟩)
  have E_21 := Exa.start ev_21 hx_21
  obtain ⟨hx_22, hn⟩ := and_e hn
  obtain ⟨w_22, ev_22⟩ := exa_v hx_22
  have S_22 := Sta.start ev_22 (Or.inr ⟨(hw _ (List.mem_of_getElem? (i := 3) rfl)), (hw _ (List.mem_of_getElem? (i := 49) rfl))⟩)
  have E_22 := Exa.start ev_22 hx_22
  obtain ⟨hx_23, hn⟩ := and_e hn
  obtain ⟨w_23, ev_23⟩ := exa_v hx_23
  have S_23 := Sta.start ev_23 (Or.inr ⟨(hw _ (List.mem_of_getElem? (i := 3) rfl)), (hw _ (List.mem_of_getElem? (i := 51) rfl))⟩)
  have E_23 := Exa.start ev_23 hx_23
  obtain ⟨hx_24, hn⟩ := and_e hn
  obtain ⟨w_24, ev_24⟩ := exa_v hx_24
  have S_24 := Sta.start ev_24 (Or.inr ⟨(hw _ (List.mem_of_getElem? (i := 3) rfl)), (hw _ (List.mem_of_getElem? (i := 53) rfl))⟩)
  have E_24 := Exa.start ev_24 hx_24
  obtain ⟨hx_25, hn⟩ := and_e hn
  obtain ⟨w_25, ev_25⟩ := exa_v hx_25
  have S_25 := Sta.start ev_25 (Or.inr ⟨(hw _ (List.mem_of_getElem? (i := 3) rfl)), (hw _ (List.mem_of_getElem? (i := 55) rfl))⟩)
  have E_25 := Exa.start ev_25 hx_25
  obtain ⟨hx_26, hn⟩ := and_e hn
  obtain ⟨w_26, ev_26⟩ := exa_v hx_26
  have S_26 := Sta.start ev_26 (Or.inr ⟨(hw _ (List.mem_of_getElem? (i := 3) rfl)), (hw _ (List.mem_of_getElem? (i := 57) rfl))⟩)
  have E_26 := Exa.start ev_26 hx_26
  obtain ⟨hx_27, hn⟩ := and_e hn
  obtain ⟨w_27, ev_27⟩ := exa_v hx_27
  have S_27 := Sta.start ev_27 (Or.inr ⟨(hw _ (List.mem_of_getElem? (i := 3) rfl)), (hw _ (List.mem_of_getElem? (i := 59) rfl))⟩)
  have E_27 := Exa.start ev_27 hx_27
  obtain ⟨hx_28, hn⟩ := and_e hn
  obtain ⟨w_28, ev_28⟩ := exa_v hx_28
  have S_28 := Sta.start ev_28 (Or.inr ⟨(hw _ (List.mem_of_getElem? (i := 3) rfl)), (hw _ (List.mem_of_getElem? (i := 61) rfl))⟩)
  have E_28 := Exa.start ev_28 hx_28
  obtain ⟨hx_29, hn⟩ := and_e hn
  obtain ⟨w_29, ev_29⟩ := exa_v hx_29
  have S_29 := Sta.start ev_29 (Or.inr ⟨(hw _ (List.mem_of_getElem? (i := 3) rfl)), (hw _ (List.mem_of_getElem? (i := 63) rfl))⟩)
  have E_29 := Exa.start ev_29 hx_29
  obtain ⟨hx_30, hn⟩ := and_e hn
  obtain ⟨w_30, ev_30⟩ := exa_v hx_30
  have S_30 := Sta.start ev_30 (Or.inr ⟨(hw _ (List.mem_of_getElem? (i := 3) rfl)), (hw _ (List.mem_of_getElem? (i := 65) rfl))⟩)
  have E_30 := Exa.start ev_30 hx_30
  obtain ⟨hx_31, hn⟩ := and_e hn
  obtain ⟨w_31, ev_31⟩ := exa_v hx_31
  have S_31 := Sta.start ev_31 (Or.inr ⟨(hw _ (List.mem_of_getElem? (i := 3) rfl)), (hw _ (List.mem_of_getElem? (i := 67) rfl))⟩)
  have E_31 := Exa.start ev_31 hx_31
  obtain ⟨ho_0, hn⟩ := and_e hn
  have F_0 := Fld.start ((fld_at ev_0).symm.trans (Jvm.Free.NT.SwA.eq_int (Cond.before_iff.mpr ho_0)))
  obtain ⟨ho_21, hn⟩ := and_e hn
  have F_21 := Fld.start ((fld_at ev_21).symm.trans (Jvm.Free.NT.SwA.eq_int (Cond.before_iff.mpr ho_21)))
  obtain ⟨ho_22, hn⟩ := and_e hn
  have F_22 := Fld.start ((fld_at ev_22).symm.trans (Jvm.Free.NT.SwA.eq_int (Cond.before_iff.mpr ho_22)))
  obtain ⟨ho_23, hn⟩ := and_e hn
  have F_23 := Fld.start ((fld_at ev_23).symm.trans (Jvm.Free.NT.SwA.eq_int (Cond.before_iff.mpr ho_23)))
  obtain ⟨ho_24, hn⟩ := and_e hn
  have F_24 := Fld.start ((fld_at ev_24).symm.trans (Jvm.Free.NT.SwA.eq_int (Cond.before_iff.mpr ho_24)))
  obtain ⟨ho_25, hn⟩ := and_e hn
  have F_25 := Fld.start ((fld_at ev_25).symm.trans (Jvm.Free.NT.SwA.eq_int (Cond.before_iff.mpr ho_25)))
  obtain ⟨ho_26, hn⟩ := and_e hn
  have F_26 := Fld.start ((fld_at ev_26).symm.trans (Jvm.Free.NT.SwA.eq_int (Cond.before_iff.mpr ho_26)))
  obtain ⟨ho_27, hn⟩ := and_e hn
  have F_27 := Fld.start ((fld_at ev_27).symm.trans (Jvm.Free.NT.SwA.eq_int (Cond.before_iff.mpr ho_27)))
  obtain ⟨ho_28, hn⟩ := and_e hn
  have F_28 := Fld.start ((fld_at ev_28).symm.trans (Jvm.Free.NT.SwA.eq_int (Cond.before_iff.mpr ho_28)))
  obtain ⟨ho_3, hn⟩ := and_e hn
  have F_3 := Fld.start ((fld_at ev_3).symm.trans (Jvm.Free.NT.SwA.eq_int (Cond.before_iff.mpr ho_3)))
  obtain ⟨ho_14, hn⟩ := and_e hn
  have F_14 := Fld.start ((fld_at ev_14).symm.trans (Jvm.Free.NT.SwA.eq_int (Cond.before_iff.mpr ho_14)))
  obtain ⟨ho_15, hn⟩ := and_e hn
  have F_15 := Fld.start ((fld_at ev_15).symm.trans (Jvm.Free.NT.SwA.eq_int (Cond.before_iff.mpr ho_15)))
  obtain ⟨ho_10, hn⟩ := and_e hn
  have F_10 := Fld.start ((fld_at ev_10).symm.trans (Jvm.Free.NT.SwA.eq_int (Cond.before_iff.mpr ho_10)))
  obtain ⟨ho_7, hn⟩ := and_e hn
  have F_7 := Fld.start ((fld_at ev_7).symm.trans (Jvm.Free.NT.SwA.eq_int (Cond.before_iff.mpr ho_7)))
  obtain ⟨ho_2, hn⟩ := and_e hn
  have F_2 := Fld.start ((fld_at ev_2).symm.trans (Jvm.Free.NT.SwA.eq_int (Cond.before_iff.mpr ho_2)))
  obtain ⟨ho_11, hn⟩ := and_e hn
  have F_11 := Fld.start ((fld_at ev_11).symm.trans (Jvm.Free.NT.SwA.eq_int (Cond.before_iff.mpr ho_11)))
  obtain ⟨ho_8, hn⟩ := and_e hn
  have F_8 := Fld.start ((fld_at ev_8).symm.trans (Jvm.Free.NT.SwA.eq_int (Cond.before_iff.mpr ho_8)))
  obtain ⟨ho_1, hn⟩ := and_e hn
  have F_1 := Fld.start ((fld_at ev_1).symm.trans (Jvm.Free.NT.SwA.eq_int (Cond.before_iff.mpr ho_1)))
  obtain ⟨ho_19, hn⟩ := and_e hn
  have F_19 := Fld.start ((fld_at ev_19).symm.trans (Jvm.Free.NT.SwA.eq_int (Cond.before_iff.mpr ho_19)))
  obtain ⟨ho_18, hn⟩ := and_e hn
  have F_18 := Fld.start ((fld_at ev_18).symm.trans (Jvm.Free.NT.SwA.eq_int (Cond.before_iff.mpr ho_18)))
  obtain ⟨ho_17, hn⟩ := and_e hn
  have F_17 := Fld.start ((fld_at ev_17).symm.trans (Jvm.Free.NT.SwA.eq_int (Cond.before_iff.mpr ho_17)))
  obtain ⟨ho_16, hn⟩ := and_e hn
  have F_16 := Fld.start ((fld_at ev_16).symm.trans (Jvm.Free.NT.SwA.eq_int (Cond.before_iff.mpr ho_16)))
  obtain ⟨ho_4, hn⟩ := and_e hn
  have F_4 := Fld.start ((fld_at ev_4).symm.trans (Jvm.Free.NT.SwA.eq_int (Cond.before_iff.mpr ho_4)))
  obtain ⟨ho_31, hn⟩ := and_e hn
  have F_31 := Fld.start ((fld_at ev_31).symm.trans (Jvm.Free.NT.SwA.eq_int (Cond.before_iff.mpr ho_31)))
  obtain ⟨ho_30, hn⟩ := and_e hn
  have F_30 := Fld.start ((fld_at ev_30).symm.trans (Jvm.Free.NT.SwA.eq_int (Cond.before_iff.mpr ho_30)))
  obtain ⟨ho_29, hn⟩ := and_e hn
  have F_29 := Fld.start ((fld_at ev_29).symm.trans (Jvm.Free.NT.SwA.eq_int (Cond.before_iff.mpr ho_29)))
  obtain ⟨ho_12, hn⟩ := and_e hn
  have F_12 := Fld.start ((fld_at ev_12).symm.trans (Jvm.Free.NT.SwA.eq_int (Cond.before_iff.mpr ho_12)))
  obtain ⟨ho_6, hn⟩ := and_e hn
  have F_6 := Fld.start ((fld_at ev_6).symm.trans (Jvm.Free.NT.SwA.eq_int (Cond.before_iff.mpr ho_6)))
  obtain ⟨ho_9, hn⟩ := and_e hn
  have F_9 := Fld.start ((fld_at ev_9).symm.trans (Jvm.Free.NT.SwA.eq_int (Cond.before_iff.mpr ho_9)))
  obtain ⟨ho_13, hn⟩ := and_e hn
  have F_13 := Fld.start ((fld_at ev_13).symm.trans (Jvm.Free.NT.SwA.eq_int (Cond.before_iff.mpr ho_13)))
  obtain ⟨ho_5, hn⟩ := and_e hn
  have F_5 := Fld.start ((fld_at ev_5).symm.trans (Jvm.Free.NT.SwA.eq_int (Cond.before_iff.mpr ho_5)))
  have ho_20 := hn
  have F_20 := Fld.start ((fld_at ev_20).symm.trans (Jvm.Free.NT.SwA.eq_int (Cond.before_iff.mpr ho_20)))
  obtain ⟨wf, hwf⟩ : ∃ wf : Nat → Addr, wf = fun i => [w_0, w_1, w_2, w_3, w_4, w_5, w_6, w_7, w_8, w_9, w_10, w_11, w_12, w_13, w_14, w_15, w_16, w_17, w_18, w_19, w_20, w_21, w_22, w_23, w_24, w_25, w_26, w_27, w_28, w_29, w_30, w_31].getD i 0 := ⟨_, rfl⟩
  have HS : HSt s s.heap wf := by subst hwf; exact own_all (P := fun i => Sta s s.heap cA (nmA i) dA (.ref ([w_0, w_1, w_2, w_3, w_4, w_5, w_6, w_7, w_8, w_9, w_10, w_11, w_12, w_13, w_14, w_15, w_16, w_17, w_18, w_19, w_20, w_21, w_22, w_23, w_24, w_25, w_26, w_27, w_28, w_29, w_30, w_31].getD i 0))) S_0 S_1 S_2 S_3 S_4 S_5 S_6 S_7 S_8 S_9 S_10 S_11 S_12 S_13 S_14 S_15 S_16 S_17 S_18 S_19 S_20 S_21 S_22 S_23 S_24 S_25 S_26 S_27 S_28 S_29 S_30 S_31
  have HE : HEx s s.heap wf := by subst hwf; exact own_all (P := fun i => Exa s s.heap ([w_0, w_1, w_2, w_3, w_4, w_5, w_6, w_7, w_8, w_9, w_10, w_11, w_12, w_13, w_14, w_15, w_16, w_17, w_18, w_19, w_20, w_21, w_22, w_23, w_24, w_25, w_26, w_27, w_28, w_29, w_30, w_31].getD i 0) cA) E_0 E_1 E_2 E_3 E_4 E_5 E_6 E_7 E_8 E_9 E_10 E_11 E_12 E_13 E_14 E_15 E_16 E_17 E_18 E_19 E_20 E_21 E_22 E_23 E_24 E_25 E_26 E_27 E_28 E_29 E_30 E_31
  have HO : ∀ i, i < 32 → Fld s s.heap (wf i) "java/lang/Enum" "ordinal" "I" (.int (Int32.ofNat i)) := by subst hwf; exact own_all (P := fun i => Fld s s.heap ([w_0, w_1, w_2, w_3, w_4, w_5, w_6, w_7, w_8, w_9, w_10, w_11, w_12, w_13, w_14, w_15, w_16, w_17, w_18, w_19, w_20, w_21, w_22, w_23, w_24, w_25, w_26, w_27, w_28, w_29, w_30, w_31].getD i 0) "java/lang/Enum" "ordinal" "I" (.int (Int32.ofNat i))) F_0 F_1 F_2 F_3 F_4 F_5 F_6 F_7 F_8 F_9 F_10 F_11 F_12 F_13 F_14 F_15 F_16 F_17 F_18 F_19 F_20 F_21 F_22 F_23 F_24 F_25 F_26 F_27 F_28 F_29 F_30 F_31
  have HD := own_dist HO
  obtain ⟨n, o, h1, h2, h3, v, L, rfl, ⟨hv, N⟩, hq⟩ := rm0 l s _ hw tables_1 i0 wf s.heap s.heap.size (Nat.le_refl _) HS HE p e ha hc hk s m _ below hf ((Spec.applies_iff_loose hf).mp happ).1 ⟨rfl, State.Warmed39.refl s, rfl⟩ trivial
  rw [own_law i0 wf HD] at hv
  subst hv
  refine ⟨n, _, h1, h2, h3, hpost _ _ _ _ _ _ ⟨Cond.after_iff.mpr rfl, Cond.after_iff.mpr (eq_i res_at (Term.int_eval (1)) rfl), trivial⟩ ⟨hq.1, hq.2.1, (hq.2.2.sift fun y hy => Or.inr (N y hy)).mono (by decide) (by decide)⟩⟩
theorem main_1_1 : Claimed_1_1 := comes_1 fun _ _ _ _ _ _ h hF => ⟨h.1, hF⟩
theorem main_1_2 : Claimed_1_2 := comes_1 fun _ _ _ _ _ _ h hF => ⟨h.2.1, hF⟩
end Jvm.Pilot.@@N@@
namespace Jvm.Pilot.@@N@@
open Jvm Jvm.ClassFile Sem Op Lib Jvm.Free Jvm.Stand Jvm.Pilot.@@N@@.Jvm.D
/-! MADE BY PROGRAM (witnessworld.py) out of the Statement's table words and the real class files: 13 classes; the members and pool entries that the words name. The judged class is class 1, her method 1. -/
namespace start1
open Jvm.ClassFile
def u (s : String) : CpInfo := .utf8 (stringToUtf16 s)
/-- a pool by its gaps: so many unusable entries, then the entry; so many at the end -/
def gap : Nat → List CpInfo → List CpInfo
  | 0, r => r
  | n + 1, r => .unusable :: gap n r
def poolList (es : List (Nat × CpInfo)) (last : Nat) : List CpInfo := es.foldr (fun e r => gap e.1 (e.2 :: r)) (gap last [])
def pool (es : List (Nat × CpInfo)) (last : Nat) : Array CpInfo := ⟨poolList es last⟩
def fileOf (pool : Array CpInfo) (this : Nat) (attrs : Array Attribute := #[]) (ms : Array MethodInfo := #[]) (fl : Nat := 33) (sup : Nat := 0) (ifs : Array Nat := #[]) (fds : Array FieldInfo := #[]) : ClassFile where
  minorVersion := 0
  majorVersion := 65
  constantPool := pool
  accessFlags := fl
  thisClass := this
  superClass := sup
  interfaces := ifs
  fields := fds
  methods := ms
  attributes := attrs
def plain (name : String) (sup : Option ClassId) : Class where
  name := name
  kind := .ordinary
  loader := none
  accessFlags := 33
  super := sup
  interfaces := #[]
  cf := none
  fields := #[]
  methods := #[]
  instanceTypes := #[]
  staticTypes := #[]
  resolved := #[]
  callSites := []
  init := .initialized
  statics := none
  mirror := none

def pool0 : Array CpInfo := pool [(5, u "<init>"), (0, u "()V"), (1, .class_ 10), (1, u "java/lang/Object")] 113

def k0m0 : Method := { name := "<init>", desc := "()V", sig := { parameters := [], returnType := none }, accessFlags := 1, code := none }
/-- java/lang/Object -/
def k0 : Class := { plain "java/lang/Object" none with
  accessFlags := 33
  interfaces := #[]
  cf := some (fileOf pool0 8 #[] #[{ accessFlags := 1, nameIndex := 5, descriptorIndex := 6, attributes := #[] }] 33 0 #[] #[])
  fields := #[]
  methods := #[k0m0]
  instanceTypes := #[]
  staticTypes := #[]
  resolved := Array.replicate 124 none
  statics := none }

def pool1 : Array CpInfo := pool [(2, .class_ 4), (1, u "java/lang/Object"), (0, u "<init>"), (0, u "()V"), (0, .class_ 8), (0, u "com/example/tessera/tessera/query/AtomicType"), (0, .fieldref 7 10), (0, .nameAndType 11 12), (0, u "ANY_ATOMIC"), (0, u "Lcom/example/tessera/tessera/query/AtomicType;"), (0, .fieldref 7 14), (0, .nameAndType 15 12), (0, u "UNTYPED_ATOMIC"), (0, .fieldref 7 17), (0, .nameAndType 18 12), (0, u "STRING"), (0, .fieldref 7 20), (0, .nameAndType 21 12), (0, u "ANY_URI"), (0, .fieldref 7 23), (0, .nameAndType 24 12), (0, u "BOOLEAN"), (0, .fieldref 7 26), (0, .nameAndType 27 12), (0, u "DECIMAL"), (0, .fieldref 7 29), (0, .nameAndType 30 12), (0, u "INTEGER"), (0, .fieldref 7 32), (0, .nameAndType 33 12), (0, u "NON_POSITIVE_INTEGER"), (0, .fieldref 7 35), (0, .nameAndType 36 12), (0, u "NEGATIVE_INTEGER"), (0, .fieldref 7 38), (0, .nameAndType 39 12), (0, u "LONG"), (0, .fieldref 7 41), (0, .nameAndType 42 12), (0, u "INT"), (0, .fieldref 7 44), (0, .nameAndType 45 12), (0, u "SHORT"), (0, .fieldref 7 47), (0, .nameAndType 48 12), (0, u "BYTE"), (0, .fieldref 7 50), (0, .nameAndType 51 12), (0, u "NON_NEGATIVE_INTEGER"), (0, .fieldref 7 53), (0, .nameAndType 54 12), (0, u "UNSIGNED_LONG"), (0, .fieldref 7 56), (0, .nameAndType 57 12), (0, u "UNSIGNED_INT"), (0, .fieldref 7 59), (0, .nameAndType 60 12), (0, u "UNSIGNED_SHORT"), (0, .fieldref 7 62), (0, .nameAndType 63 12), (0, u "UNSIGNED_BYTE"), (0, .fieldref 7 65), (0, .nameAndType 66 12), (0, u "POSITIVE_INTEGER"), (0, .fieldref 7 68), (0, .nameAndType 69 12), (0, u "FLOAT"), (0, .fieldref 7 71), (0, .nameAndType 72 12), (0, u "DOUBLE"), (0, .fieldref 7 74), (0, .nameAndType 75 12), (0, u "DATE_TIME"), (0, .fieldref 7 77), (0, .nameAndType 78 12), (0, u "DATE"), (0, .fieldref 7 80), (0, .nameAndType 81 12), (0, u "TIME"), (0, .fieldref 7 83), (0, .nameAndType 84 12), (0, u "G_YEAR_MONTH"), (0, .fieldref 7 86), (0, .nameAndType 87 12), (0, u "G_YEAR"), (0, .fieldref 7 89), (0, .nameAndType 90 12), (0, u "G_MONTH_DAY"), (0, .fieldref 7 92), (0, .nameAndType 93 12), (0, u "G_DAY"), (0, .fieldref 7 95), (0, .nameAndType 96 12), (0, u "G_MONTH"), (0, .fieldref 7 98), (0, .nameAndType 99 12), (0, u "DURATION"), (0, .fieldref 7 101), (0, .nameAndType 102 12), (0, u "YEAR_MONTH_DURATION"), (0, .fieldref 7 104), (0, .nameAndType 105 12), (0, u "DAY_TIME_DURATION"), (0, .methodref 7 107), (0, .nameAndType 108 109), (0, u "isCalendar"), (0, u "()Z"), (0, .class_ 111), (0, u "com/example/tessera/tessera/query/AtomicTypeIsCalendarPinLaw"), (2, u "law"), (0, u "(I)Z")] 5

def k1m0 : Method := { name := "<init>", desc := "()V", sig := { parameters := [], returnType := none }, accessFlags := 1, code := none }
def k1c1 : Code := { maxStack := 4, maxLocals := 5, code := code, exceptionTable := #[], attributes := #[] }
def k1m1 : Method := { name := "law", desc := "(I)Z", sig := { parameters := [.int], returnType := some .boolean }, accessFlags := 9, code := some k1c1 }
/-- com/example/tessera/tessera/query/AtomicTypeIsCalendarPinLaw -/
def k1 : Class := { plain "com/example/tessera/tessera/query/AtomicTypeIsCalendarPinLaw" (some 0) with
  accessFlags := 49
  interfaces := #[]
  cf := some (fileOf pool1 110 #[] #[{ accessFlags := 1, nameIndex := 5, descriptorIndex := 6, attributes := #[] }, { accessFlags := 9, nameIndex := 114, descriptorIndex := 115, attributes := #[] }] 49 2 #[] #[])
  fields := #[]
  methods := #[k1m0, k1m1]
  instanceTypes := #[]
  staticTypes := #[]
  resolved := Array.replicate 121 none
  statics := none }

def pool2 : Array CpInfo := pool [(1, .class_ 2), (0, u "java/lang/constant/Constable"), (0, .class_ 4), (0, u "java/lang/Object")] 6

/-- java/lang/constant/Constable -/
def k2 : Class := { plain "java/lang/constant/Constable" (some 0) with
  accessFlags := 1537
  interfaces := #[]
  cf := some (fileOf pool2 1 #[] #[] 1537 3 #[] #[])
  fields := #[]
  methods := #[]
  instanceTypes := #[]
  staticTypes := #[]
  resolved := Array.replicate 11 none
  statics := none }

def pool3 : Array CpInfo := pool [(1, .class_ 2), (0, u "java/lang/Comparable"), (0, .class_ 4), (0, u "java/lang/Object")] 7

/-- java/lang/Comparable -/
def k3 : Class := { plain "java/lang/Comparable" (some 0) with
  accessFlags := 1537
  interfaces := #[]
  cf := some (fileOf pool3 1 #[] #[] 1537 3 #[] #[])
  fields := #[]
  methods := #[]
  instanceTypes := #[]
  staticTypes := #[]
  resolved := Array.replicate 12 none
  statics := none }

def pool4 : Array CpInfo := pool [(1, .class_ 2), (0, u "java/io/Serializable"), (0, .class_ 4), (0, u "java/lang/Object")] 2

/-- java/io/Serializable -/
def k4 : Class := { plain "java/io/Serializable" (some 0) with
  accessFlags := 1537
  interfaces := #[]
  cf := some (fileOf pool4 1 #[] #[] 1537 3 #[] #[])
  fields := #[]
  methods := #[]
  instanceTypes := #[]
  staticTypes := #[]
  resolved := Array.replicate 7 none
  statics := none }

def pool5 : Array CpInfo := pool [(2, .class_ 4), (1, u "java/lang/Enum"), (0, u "name"), (0, u "Ljava/lang/String;"), (2, u "ordinal"), (0, u "I"), (1, .class_ 14), (1, u "java/lang/Object"), (4, u "hash"), (86, .class_ 108), (1, u "java/lang/Enum$EnumDesc"), (2, .class_ 112), (0, u "java/lang/constant/Constable"), (0, .class_ 114), (0, u "java/lang/Comparable"), (0, .class_ 116), (0, u "java/io/Serializable")] 87

/-- java/lang/Enum -/
def k5 : Class := { plain "java/lang/Enum" (some 0) with
  accessFlags := 1057
  interfaces := #[2, 3, 4]
  cf := some (fileOf pool5 2 #[.nestMembers #[106]] #[] 1057 12 #[111, 113, 115] #[{ accessFlags := 18, nameIndex := 5, descriptorIndex := 6, attributes := #[] }, { accessFlags := 18, nameIndex := 9, descriptorIndex := 10, attributes := #[] }, { accessFlags := 2, nameIndex := 19, descriptorIndex := 10, attributes := #[] }])
  fields := #[{ name := "name", type := (.object "java/lang/String"), accessFlags := 18, slot := 0, constantValue := 0 }, { name := "ordinal", type := .int, accessFlags := 18, slot := 1, constantValue := 0 }, { name := "hash", type := .int, accessFlags := 2, slot := 2, constantValue := 0 }]
  methods := #[]
  instanceTypes := #[(.object "java/lang/String"), .int, .int]
  staticTypes := #[]
  resolved := Array.replicate 204 none
  statics := none }

def pool6 : Array CpInfo := pool [(1, .class_ 2), (0, u "com/example/tessera/tessera/query/AtomicType"), (2, u "ANY_ATOMIC"), (0, u "Lcom/example/tessera/tessera/query/AtomicType;"), (2, u "UNTYPED_ATOMIC"), (2, u "STRING"), (2, u "ANY_URI"), (2, u "BOOLEAN"), (2, u "DECIMAL"), (2, u "INTEGER"), (2, u "NON_POSITIVE_INTEGER"), (2, u "NEGATIVE_INTEGER"), (2, u "LONG"), (2, u "INT"), (2, u "SHORT"), (2, u "BYTE"), (2, u "NON_NEGATIVE_INTEGER"), (2, u "UNSIGNED_LONG"), (2, u "UNSIGNED_INT"), (2, u "UNSIGNED_SHORT"), (2, u "UNSIGNED_BYTE"), (2, u "POSITIVE_INTEGER"), (2, u "FLOAT"), (2, u "DOUBLE"), (0, .fieldref 1 68), (0, .nameAndType 69 6), (0, u "DATE_TIME"), (0, .fieldref 1 71), (0, .nameAndType 72 6), (0, u "DATE"), (0, .fieldref 1 74), (0, .nameAndType 75 6), (0, u "TIME"), (0, .fieldref 1 77), (0, .nameAndType 78 6), (0, u "G_YEAR_MONTH"), (0, .fieldref 1 80), (0, .nameAndType 81 6), (0, u "G_YEAR"), (0, .fieldref 1 83), (0, .nameAndType 84 6), (0, u "G_MONTH_DAY"), (0, .fieldref 1 86), (0, .nameAndType 87 6), (0, u "G_DAY"), (0, .fieldref 1 89), (0, .nameAndType 90 6), (0, u "G_MONTH"), (2, u "DURATION"), (2, u "YEAR_MONTH_DURATION"), (2, u "DAY_TIME_DURATION"), (2, u "$VALUES"), (0, u "[Lcom/example/tessera/tessera/query/AtomicType;"), (6, .class_ 112), (1, u "java/lang/Enum"), (17, u "localName"), (0, u "Ljava/lang/String;"), (2, u "base"), (2, u "min"), (0, u "Ljava/math/BigInteger;"), (2, u "max"), (195, u "NAMESPACE"), (13, u "()Z"), (2, u "isCalendar")] 29

def k6c0 : Code := { maxStack := 2, maxLocals := 1, code := prog_127_method_13_code, exceptionTable := #[], attributes := #[] }
def k6m0 : Method := { name := "isCalendar", desc := "()Z", sig := { parameters := [], returnType := some .boolean }, accessFlags := 0, code := some k6c0 }
/-- com/example/tessera/tessera/query/AtomicType -/
def k6 : Class := { plain "com/example/tessera/tessera/query/AtomicType" (some 5) with
  accessFlags := 16433
  interfaces := #[]
  cf := some (fileOf pool6 1 #[] #[{ accessFlags := 0, nameIndex := 354, descriptorIndex := 351, attributes := #[] }] 16433 110 #[] #[{ accessFlags := 16409, nameIndex := 5, descriptorIndex := 6, attributes := #[] }, { accessFlags := 16409, nameIndex := 9, descriptorIndex := 6, attributes := #[] }, { accessFlags := 16409, nameIndex := 12, descriptorIndex := 6, attributes := #[] }, { accessFlags := 16409, nameIndex := 15, descriptorIndex := 6, attributes := #[] }, { accessFlags := 16409, nameIndex := 18, descriptorIndex := 6, attributes := #[] }, { accessFlags := 16409, nameIndex := 21, descriptorIndex := 6, attributes := #[] }, { accessFlags := 16409, nameIndex := 24, descriptorIndex := 6, attributes := #[] }, { accessFlags := 16409, nameIndex := 27, descriptorIndex := 6, attributes := #[] }, { accessFlags := 16409, nameIndex := 30, descriptorIndex := 6, attributes := #[] }, { accessFlags := 16409, nameIndex := 33, descriptorIndex := 6, attributes := #[] }, { accessFlags := 16409, nameIndex := 36, descriptorIndex := 6, attributes := #[] }, { accessFlags := 16409, nameIndex := 39, descriptorIndex := 6, attributes := #[] }, { accessFlags := 16409, nameIndex := 42, descriptorIndex := 6, attributes := #[] }, { accessFlags := 16409, nameIndex := 45, descriptorIndex := 6, attributes := #[] }, { accessFlags := 16409, nameIndex := 48, descriptorIndex := 6, attributes := #[] }, { accessFlags := 16409, nameIndex := 51, descriptorIndex := 6, attributes := #[] }, { accessFlags := 16409, nameIndex := 54, descriptorIndex := 6, attributes := #[] }, { accessFlags := 16409, nameIndex := 57, descriptorIndex := 6, attributes := #[] }, { accessFlags := 16409, nameIndex := 60, descriptorIndex := 6, attributes := #[] }, { accessFlags := 16409, nameIndex := 63, descriptorIndex := 6, attributes := #[] }, { accessFlags := 16409, nameIndex := 66, descriptorIndex := 6, attributes := #[] }, { accessFlags := 16409, nameIndex := 69, descriptorIndex := 6, attributes := #[] }, { accessFlags := 16409, nameIndex := 72, descriptorIndex := 6, attributes := #[] }, { accessFlags := 16409, nameIndex := 75, descriptorIndex := 6, attributes := #[] }, { accessFlags := 16409, nameIndex := 78, descriptorIndex := 6, attributes := #[] }, { accessFlags := 16409, nameIndex := 81, descriptorIndex := 6, attributes := #[] }, { accessFlags := 16409, nameIndex := 84, descriptorIndex := 6, attributes := #[] }, { accessFlags := 16409, nameIndex := 87, descriptorIndex := 6, attributes := #[] }, { accessFlags := 16409, nameIndex := 90, descriptorIndex := 6, attributes := #[] }, { accessFlags := 16409, nameIndex := 93, descriptorIndex := 6, attributes := #[] }, { accessFlags := 16409, nameIndex := 96, descriptorIndex := 6, attributes := #[] }, { accessFlags := 16409, nameIndex := 99, descriptorIndex := 6, attributes := #[] }, { accessFlags := 25, nameIndex := 337, descriptorIndex := 131, attributes := #[] }, { accessFlags := 18, nameIndex := 130, descriptorIndex := 131, attributes := #[] }, { accessFlags := 18, nameIndex := 134, descriptorIndex := 6, attributes := #[] }, { accessFlags := 18, nameIndex := 137, descriptorIndex := 138, attributes := #[] }, { accessFlags := 18, nameIndex := 141, descriptorIndex := 138, attributes := #[] }, { accessFlags := 4122, nameIndex := 102, descriptorIndex := 103, attributes := #[] }])
  fields := #[{ name := "ANY_ATOMIC", type := (.object "com/example/tessera/tessera/query/AtomicType"), accessFlags := 16409, slot := 0, constantValue := 0 }, { name := "UNTYPED_ATOMIC", type := (.object "com/example/tessera/tessera/query/AtomicType"), accessFlags := 16409, slot := 1, constantValue := 0 }, { name := "STRING", type := (.object "com/example/tessera/tessera/query/AtomicType"), accessFlags := 16409, slot := 2, constantValue := 0 }, { name := "ANY_URI", type := (.object "com/example/tessera/tessera/query/AtomicType"), accessFlags := 16409, slot := 3, constantValue := 0 }, { name := "BOOLEAN", type := (.object "com/example/tessera/tessera/query/AtomicType"), accessFlags := 16409, slot := 4, constantValue := 0 }, { name := "DECIMAL", type := (.object "com/example/tessera/tessera/query/AtomicType"), accessFlags := 16409, slot := 5, constantValue := 0 }, { name := "INTEGER", type := (.object "com/example/tessera/tessera/query/AtomicType"), accessFlags := 16409, slot := 6, constantValue := 0 }, { name := "NON_POSITIVE_INTEGER", type := (.object "com/example/tessera/tessera/query/AtomicType"), accessFlags := 16409, slot := 7, constantValue := 0 }, { name := "NEGATIVE_INTEGER", type := (.object "com/example/tessera/tessera/query/AtomicType"), accessFlags := 16409, slot := 8, constantValue := 0 }, { name := "LONG", type := (.object "com/example/tessera/tessera/query/AtomicType"), accessFlags := 16409, slot := 9, constantValue := 0 }, { name := "INT", type := (.object "com/example/tessera/tessera/query/AtomicType"), accessFlags := 16409, slot := 10, constantValue := 0 }, { name := "SHORT", type := (.object "com/example/tessera/tessera/query/AtomicType"), accessFlags := 16409, slot := 11, constantValue := 0 }, { name := "BYTE", type := (.object "com/example/tessera/tessera/query/AtomicType"), accessFlags := 16409, slot := 12, constantValue := 0 }, { name := "NON_NEGATIVE_INTEGER", type := (.object "com/example/tessera/tessera/query/AtomicType"), accessFlags := 16409, slot := 13, constantValue := 0 }, { name := "UNSIGNED_LONG", type := (.object "com/example/tessera/tessera/query/AtomicType"), accessFlags := 16409, slot := 14, constantValue := 0 }, { name := "UNSIGNED_INT", type := (.object "com/example/tessera/tessera/query/AtomicType"), accessFlags := 16409, slot := 15, constantValue := 0 }, { name := "UNSIGNED_SHORT", type := (.object "com/example/tessera/tessera/query/AtomicType"), accessFlags := 16409, slot := 16, constantValue := 0 }, { name := "UNSIGNED_BYTE", type := (.object "com/example/tessera/tessera/query/AtomicType"), accessFlags := 16409, slot := 17, constantValue := 0 }, { name := "POSITIVE_INTEGER", type := (.object "com/example/tessera/tessera/query/AtomicType"), accessFlags := 16409, slot := 18, constantValue := 0 }, { name := "FLOAT", type := (.object "com/example/tessera/tessera/query/AtomicType"), accessFlags := 16409, slot := 19, constantValue := 0 }, { name := "DOUBLE", type := (.object "com/example/tessera/tessera/query/AtomicType"), accessFlags := 16409, slot := 20, constantValue := 0 }, { name := "DATE_TIME", type := (.object "com/example/tessera/tessera/query/AtomicType"), accessFlags := 16409, slot := 21, constantValue := 0 }, { name := "DATE", type := (.object "com/example/tessera/tessera/query/AtomicType"), accessFlags := 16409, slot := 22, constantValue := 0 }, { name := "TIME", type := (.object "com/example/tessera/tessera/query/AtomicType"), accessFlags := 16409, slot := 23, constantValue := 0 }, { name := "G_YEAR_MONTH", type := (.object "com/example/tessera/tessera/query/AtomicType"), accessFlags := 16409, slot := 24, constantValue := 0 }, { name := "G_YEAR", type := (.object "com/example/tessera/tessera/query/AtomicType"), accessFlags := 16409, slot := 25, constantValue := 0 }, { name := "G_MONTH_DAY", type := (.object "com/example/tessera/tessera/query/AtomicType"), accessFlags := 16409, slot := 26, constantValue := 0 }, { name := "G_DAY", type := (.object "com/example/tessera/tessera/query/AtomicType"), accessFlags := 16409, slot := 27, constantValue := 0 }, { name := "G_MONTH", type := (.object "com/example/tessera/tessera/query/AtomicType"), accessFlags := 16409, slot := 28, constantValue := 0 }, { name := "DURATION", type := (.object "com/example/tessera/tessera/query/AtomicType"), accessFlags := 16409, slot := 29, constantValue := 0 }, { name := "YEAR_MONTH_DURATION", type := (.object "com/example/tessera/tessera/query/AtomicType"), accessFlags := 16409, slot := 30, constantValue := 0 }, { name := "DAY_TIME_DURATION", type := (.object "com/example/tessera/tessera/query/AtomicType"), accessFlags := 16409, slot := 31, constantValue := 0 }, { name := "NAMESPACE", type := (.object "java/lang/String"), accessFlags := 25, slot := 32, constantValue := 0 }, { name := "localName", type := (.object "java/lang/String"), accessFlags := 18, slot := 3, constantValue := 0 }, { name := "base", type := (.object "com/example/tessera/tessera/query/AtomicType"), accessFlags := 18, slot := 4, constantValue := 0 }, { name := "min", type := (.object "java/math/BigInteger"), accessFlags := 18, slot := 5, constantValue := 0 }, { name := "max", type := (.object "java/math/BigInteger"), accessFlags := 18, slot := 6, constantValue := 0 }, { name := "$VALUES", type := (.array (.object "com/example/tessera/tessera/query/AtomicType")), accessFlags := 4122, slot := 33, constantValue := 0 }]
  methods := #[k6m0]
  instanceTypes := #[(.object "java/lang/String"), .int, .int, (.object "java/lang/String"), (.object "com/example/tessera/tessera/query/AtomicType"), (.object "java/math/BigInteger"), (.object "java/math/BigInteger")]
  staticTypes := #[(.object "com/example/tessera/tessera/query/AtomicType"), (.object "com/example/tessera/tessera/query/AtomicType"), (.object "com/example/tessera/tessera/query/AtomicType"), (.object "com/example/tessera/tessera/query/AtomicType"), (.object "com/example/tessera/tessera/query/AtomicType"), (.object "com/example/tessera/tessera/query/AtomicType"), (.object "com/example/tessera/tessera/query/AtomicType"), (.object "com/example/tessera/tessera/query/AtomicType"), (.object "com/example/tessera/tessera/query/AtomicType"), (.object "com/example/tessera/tessera/query/AtomicType"), (.object "com/example/tessera/tessera/query/AtomicType"), (.object "com/example/tessera/tessera/query/AtomicType"), (.object "com/example/tessera/tessera/query/AtomicType"), (.object "com/example/tessera/tessera/query/AtomicType"), (.object "com/example/tessera/tessera/query/AtomicType"), (.object "com/example/tessera/tessera/query/AtomicType"), (.object "com/example/tessera/tessera/query/AtomicType"), (.object "com/example/tessera/tessera/query/AtomicType"), (.object "com/example/tessera/tessera/query/AtomicType"), (.object "com/example/tessera/tessera/query/AtomicType"), (.object "com/example/tessera/tessera/query/AtomicType"), (.object "com/example/tessera/tessera/query/AtomicType"), (.object "com/example/tessera/tessera/query/AtomicType"), (.object "com/example/tessera/tessera/query/AtomicType"), (.object "com/example/tessera/tessera/query/AtomicType"), (.object "com/example/tessera/tessera/query/AtomicType"), (.object "com/example/tessera/tessera/query/AtomicType"), (.object "com/example/tessera/tessera/query/AtomicType"), (.object "com/example/tessera/tessera/query/AtomicType"), (.object "com/example/tessera/tessera/query/AtomicType"), (.object "com/example/tessera/tessera/query/AtomicType"), (.object "com/example/tessera/tessera/query/AtomicType"), (.object "java/lang/String"), (.array (.object "com/example/tessera/tessera/query/AtomicType"))]
  resolved := Array.replicate 384 none
  statics := some 0 }

def pool7 : Array CpInfo := pool [(1, u "java/lang/Cloneable"), (0, .class_ 1), (0, u "java/lang/Object"), (0, .class_ 3)] 3

/-- java/lang/Cloneable -/
def k7 : Class := { plain "java/lang/Cloneable" (some 0) with
  accessFlags := 1537
  interfaces := #[]
  cf := some (fileOf pool7 2 #[] #[] 1537 4 #[] #[])
  fields := #[]
  methods := #[]
  instanceTypes := #[]
  staticTypes := #[]
  resolved := Array.replicate 8 none
  statics := none }

/-- the primitive byte -/
def k8 : Class := { plain "byte" none with kind := .primitive 'B', accessFlags := 0x411 }
/-- [B -/
def k9 : Class := { plain "[B" (some 0) with kind := .array 8 .byte, interfaces := #[7, 4], accessFlags := 1041 }

/-- the primitive int -/
def k10 : Class := { plain "int" none with kind := .primitive 'I', accessFlags := 0x411 }
/-- [I -/
def k11 : Class := { plain "[I" (some 0) with kind := .array 10 .int, interfaces := #[7, 4], accessFlags := 1041 }

/-- [Lcom/example/tessera/tessera/query/AtomicType; -/
def k12 : Class := { plain "[Lcom/example/tessera/tessera/query/AtomicType;" (some 0) with kind := .array 6 (.object "com/example/tessera/tessera/query/AtomicType"), interfaces := #[7, 4], accessFlags := 1041 }

def heap : Heap := #[{ cls := 6, slots := #[.ref 1, .ref 2, .ref 3, .ref 4, .ref 5, .ref 6, .ref 7, .ref 8, .ref 9, .ref 10, .ref 11, .ref 12, .ref 13, .ref 14, .ref 15, .ref 16, .ref 17, .ref 18, .ref 19, .ref 20, .ref 21, .ref 22, .ref 23, .ref 24, .ref 25, .ref 26, .ref 27, .ref 28, .ref 29, .ref 30, .ref 31, .ref 32, .null, .null], vm := .statics 6 },
  { cls := 6, slots := #[.null, .int 0, .int 0, .null, .null, .null, .null], vm := .none },
  { cls := 6, slots := #[.null, .int 1, .int 0, .null, .null, .null, .null], vm := .none },
  { cls := 6, slots := #[.null, .int 2, .int 0, .null, .null, .null, .null], vm := .none },
  { cls := 6, slots := #[.null, .int 3, .int 0, .null, .null, .null, .null], vm := .none },
  { cls := 6, slots := #[.null, .int 4, .int 0, .null, .null, .null, .null], vm := .none },
  { cls := 6, slots := #[.null, .int 5, .int 0, .null, .null, .null, .null], vm := .none },
  { cls := 6, slots := #[.null, .int 6, .int 0, .null, .null, .null, .null], vm := .none },
  { cls := 6, slots := #[.null, .int 7, .int 0, .null, .null, .null, .null], vm := .none },
  { cls := 6, slots := #[.null, .int 8, .int 0, .null, .null, .null, .null], vm := .none },
  { cls := 6, slots := #[.null, .int 9, .int 0, .null, .null, .null, .null], vm := .none },
  { cls := 6, slots := #[.null, .int 10, .int 0, .null, .null, .null, .null], vm := .none },
  { cls := 6, slots := #[.null, .int 11, .int 0, .null, .null, .null, .null], vm := .none },
  { cls := 6, slots := #[.null, .int 12, .int 0, .null, .null, .null, .null], vm := .none },
  { cls := 6, slots := #[.null, .int 13, .int 0, .null, .null, .null, .null], vm := .none },
  { cls := 6, slots := #[.null, .int 14, .int 0, .null, .null, .null, .null], vm := .none },
  { cls := 6, slots := #[.null, .int 15, .int 0, .null, .null, .null, .null], vm := .none },
  { cls := 6, slots := #[.null, .int 16, .int 0, .null, .null, .null, .null], vm := .none },
  { cls := 6, slots := #[.null, .int 17, .int 0, .null, .null, .null, .null], vm := .none },
  { cls := 6, slots := #[.null, .int 18, .int 0, .null, .null, .null, .null], vm := .none },
  { cls := 6, slots := #[.null, .int 19, .int 0, .null, .null, .null, .null], vm := .none },
  { cls := 6, slots := #[.null, .int 20, .int 0, .null, .null, .null, .null], vm := .none },
  { cls := 6, slots := #[.null, .int 21, .int 0, .null, .null, .null, .null], vm := .none },
  { cls := 6, slots := #[.null, .int 22, .int 0, .null, .null, .null, .null], vm := .none },
  { cls := 6, slots := #[.null, .int 23, .int 0, .null, .null, .null, .null], vm := .none },
  { cls := 6, slots := #[.null, .int 24, .int 0, .null, .null, .null, .null], vm := .none },
  { cls := 6, slots := #[.null, .int 25, .int 0, .null, .null, .null, .null], vm := .none },
  { cls := 6, slots := #[.null, .int 26, .int 0, .null, .null, .null, .null], vm := .none },
  { cls := 6, slots := #[.null, .int 27, .int 0, .null, .null, .null, .null], vm := .none },
  { cls := 6, slots := #[.null, .int 28, .int 0, .null, .null, .null, .null], vm := .none },
  { cls := 6, slots := #[.null, .int 29, .int 0, .null, .null, .null, .null], vm := .none },
  { cls := 6, slots := #[.null, .int 30, .int 0, .null, .null, .null, .null], vm := .none },
  { cls := 6, slots := #[.null, .int 31, .int 0, .null, .null, .null, .null], vm := .none }]
def classes : Array Class := #[k0, k1, k2, k3, k4, k5, k6, k7, k8, k9, k10, k11, k12]
def interned : List (Array UInt16 × Addr) := []
def slotsUsed : Nat := 258
def theMethod : MethodId := ⟨1, 1⟩
def args0 : Array Value := #[.int 5]
def aboutOver (below : List Frame) : State where
  vm := { classes := classes, interned := interned.toArray }
  heap := heap
  slotsUsed := slotsUsed
  threads := #[{ frames := .invoking theMethod args0 :: below }]
def below0 : List Frame := [.native { method := ⟨0, 0⟩, args := #[] }]
def about1 : State := aboutOver below0
def p0 : Program := .bare "" "" ""
def e0 : Env := launch0.env 0 0 0
theorem w_frames : about1.frames = Frame.invoking theMethod args0 :: below0 := rfl
set_option maxRecDepth 65536 in
theorem w_args : argsFit about1.vm theMethod args0 = true := by decide +kernel
set_option maxRecDepth 65536 in
theorem w_heap : heapFits about1 = true := by decide +kernel
set_option maxRecDepth 65536 in
theorem w_runnable : about1.curStatus? = some .runnable := by decide +kernel
set_option maxRecDepth 65536 in
theorem w_alone : about1.alone = true := by decide +kernel
set_option maxRecDepth 65536 in
theorem w_named : about1.methodNamed? x = some theMethod := by decide +kernel
set_option maxRecDepth 65536 in
theorem w_hears : about1.hears theMethod below0 = true := by decide +kernel
set_option maxRecDepth 65536 in
theorem w_ripe : about1.ripe theMethod args0 below0 = true := by decide +kernel
theorem w_running : about1.status = .running := rfl
set_option maxRecDepth 65536 in
theorem w_room : about1.hasRoom e0.platform room_1 = true :=
  launch0.hasRoom_least _ room_1 (by decide +kernel) (by decide +kernel) (by decide +kernel) (by decide +kernel) (by decide +kernel) (by decide +kernel)
theorem allAtoms_all (ts : List Jvm.Cond) (a : Array Jvm.Value) (st : Jvm.State) : (allAtoms ts).before a st = ts.all (fun c => c.before a st) := by
  induction ts with
  | nil => rfl
  | cons c t ih =>
    show (Jvm.Cond.and c (allAtoms t)).before a st = _
    rw [Jvm.Cond.before_and, ih, List.all_cons]
def words1 : List Jvm.Cond := Jvm.Cond.code x code maxLocals ret :: tables_1
/-- a 'code' word, met by the world's own term for the bytes: nothing is compared byte by byte -/
theorem code_word {y : MethodName} {bytes : ByteArray} {mx : Nat} {rt : Option FieldType} {a : Array Value} {s : State} {m : MethodId} {meth : Method} {c : Code} (h1 : s.methodNamed? y = some m) (h2 : s.vm.method? m = some meth) (h3 : meth.code = some c) (h4 : c.code = bytes)
    (h5 : (c.maxLocals == mx && c.exceptionTable.isEmpty && decide (c.maxStack ≤ mostOperands) && decide (meth.sig.returnType = rt) && !meth.locks && decide (parseMethodDescriptor y.desc = some meth.sig)) = true) : (Jvm.Cond.code y bytes mx rt).before a s = true := by
  simp only [Bool.and_eq_true, beq_iff_eq, Bool.not_eq_true', decide_eq_true_eq] at h5
  obtain ⟨⟨⟨⟨⟨g1, g2⟩, g3⟩, g4⟩, g5⟩, g6⟩ := h5
  simp [Cond.before, Cond.holds, Cond.value, h1, h2, h3, h4, g1, g2, g3, g4, g5, g6]
def isCode : Jvm.Cond → Bool
  | .code _ _ _ _ => true
  | _ => false
theorem all_split {L : List Jvm.Cond} {P : Jvm.Cond → Bool} (h1 : L.all (fun c => isCode c || P c) = true) (h2 : ∀ c ∈ L.filter isCode, P c = true) : L.all P = true := by
  refine List.all_eq_true.mpr fun c hc => ?_
  have h := List.all_eq_true.mp h1 c hc
  rcases Bool.eq_false_or_eq_true (isCode c) with hi | hi
  · exact h2 c (List.mem_filter.mpr ⟨hc, hi⟩)
  · simpa [hi] using h
set_option maxRecDepth 65536 in
theorem w_c0 : (Jvm.Cond.code x code maxLocals ret).before args0 about1 = true := code_word (m := ⟨1, 1⟩) (meth := k1m1) (c := k1c1) (by decide +kernel) rfl rfl rfl (by decide +kernel)
set_option maxRecDepth 65536 in
theorem w_c1 : (Jvm.Cond.code ({ cls := "com/example/tessera/tessera/query/AtomicType", name := "isCalendar", desc := "()Z" } : Jvm.MethodName) prog_127_method_13_code (1 : Nat) (Option.some Jvm.ClassFile.FieldType.boolean)).before args0 about1 = true := code_word (m := ⟨6, 0⟩) (meth := k6m0) (c := k6c0) (by decide +kernel) rfl rfl rfl (by decide +kernel)
def codes1 : List Jvm.Cond := [Jvm.Cond.code x code maxLocals ret, Jvm.Cond.code ({ cls := "com/example/tessera/tessera/query/AtomicType", name := "isCalendar", desc := "()Z" } : Jvm.MethodName) prog_127_method_13_code (1 : Nat) (Option.some Jvm.ClassFile.FieldType.boolean)]
set_option maxRecDepth 65536 in
theorem codes_eq : words1.filter isCode = codes1 := rfl
theorem w_codes : ∀ c ∈ words1.filter isCode, c.before args0 about1 = true := by
  rw [codes_eq]
  intro c hc
  simp only [codes1, List.mem_cons, List.not_mem_nil, or_false] at hc
  rcases hc with rfl | rfl
  · exact w_c0
  · exact w_c1
set_option maxRecDepth 65536 in
theorem w_t1 : (words1.take 24).all (fun c => isCode c || c.before args0 about1) = true := by decide +kernel
set_option maxRecDepth 65536 in
theorem w_t2 : ((words1.drop 24).take 24).all (fun c => isCode c || c.before args0 about1) = true := by decide +kernel
set_option maxRecDepth 65536 in
theorem w_t3 : (((words1.drop 24).drop 24).take 24).all (fun c => isCode c || c.before args0 about1) = true := by decide +kernel
set_option maxRecDepth 65536 in
theorem w_t4 : (((words1.drop 24).drop 24).drop 24).all (fun c => isCode c || c.before args0 about1) = true := by decide +kernel
theorem w_tables : (allAtoms (Jvm.Cond.code x code maxLocals ret :: tables_1)).before args0 about1 = true := by
  rw [allAtoms_all]
  show words1.all (fun c => c.before args0 about1) = true
  refine all_split ?_ w_codes
  rw [← List.take_append_drop 24 words1, List.all_append, w_t1, ← List.take_append_drop 24 (words1.drop 24), List.all_append, w_t2, ← List.take_append_drop 24 ((words1.drop 24).drop 24), List.all_append, w_t3, w_t4]
  rfl
set_option maxRecDepth 65536 in
theorem w_case : (Jvm.Cond.and given_1 narrow_1).before args0 about1 = true := by decide +kernel
theorem w_applies : (headSpec (Jvm.Cond.code x code maxLocals ret :: tables_1) room_1).applies x e0.platform about1 = true :=
  (Spec.applies_iff w_frames).mpr ⟨w_running, w_runnable, w_alone, w_named, w_hears, w_ripe, w_room, w_tables⟩
theorem atStart : AtStart classFile x code maxLocals ret World_1 tables_1 room_1 Calls_1 rest_1 Pre_1 launch0 p0 e0 about1 theMethod args0 below0 :=
  ⟨lists_1, trivial, launch0.admits_env _ _ _, launch0.least_env, fairChoices_fair.cas, fairChoices_fair.clock, w_frames, w_args, w_heap, w_applies, trivial, trivial, w_case⟩
end start1
theorem witness_1 : WitnessClaimed_1 := ⟨start1.p0, start1.e0, start1.about1, start1.theMethod, start1.args0, start1.below0, start1.atStart⟩
end Jvm.Pilot.@@N@@
