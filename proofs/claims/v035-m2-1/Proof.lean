import JvmDerived
import JvmDerived.Pilot.@@N@@Statement
import JvmDerived.Pilot.@@N@@Code
set_option linter.unusedVariables false
set_option linter.unusedSimpArgs false
namespace Jvm.RoadKit
open Sem ClassFile Op Lib Jvm.Stand Jvm.Free Jvm.LawKit
section New
variable {p : Program} {l : Launch} {e : Env} {R : Room} {s : State} {m : MethodId} {args : Array Value} {below : List Frame} {meth : Method} {c : Code} {T : State} {locs : List Loc} {cells slots : Nat}
theorem retI (X : Stand p l e R s m args below meth c T locs cells slots) (hx : p.tables.exec = Jvm.exec) {pc : Nat} {Ls : Array Slot} {z : Int32} {rest : List Value} (hret : meth.sig.returnType = some .int) (hd : decode c.code pc = .ok (.ireturn, 1)) {fs : List Frame}
    (hl : ∀ (f : JFrame) (acts : List Action), f.method = m → f.locked = none → f.entered = [] → (doReturn e (T.setTop f) acts (some (.int z))).1 = T.setFrames fs) : Steps p.tables e below (T.setTop (mkF m pc Ls (.int z :: rest))) (T.setFrames fs) := by
  have hm' : T.vm.method? m = some meth := X.method'
  have hn : narrow .int (.int z) = .int z := rfl
  show Steps p.tables e below (T.setTop { method := m, pc := pc, locals := Ls, stack := _ :: rest, locked := none }) _
  jvm_step X.here [X.here.top, hx, hd, hm', hret, hn]
  first | (intro acts; rw [hl _ acts rfl rfl rfl]) | rw [hl _ _ rfl rfl rfl]
  exact Steps.refl _
end New
end Jvm.RoadKit
namespace Jvm.Pilot.@@N@@
open Jvm Jvm.ClassFile Sem Op Lib Jvm.Free Jvm.Stand Jvm.LawKit Jvm.RoadKit Bundle Jvm.Pilot.@@N@@.Jvm.D
def Qr (r : Value) (h0 : Heap) (n0 : Nat) (v : Option Value) (h : Heap) (L : List Loc) : Prop := v = some r ∧ Fr n0 L ∧ h = h0
theorem own_ne {args : Array Value} {s : State} {t1 t2 : Term} {C n d : String} {a b : Addr} {i j : Int32} (h1 : t1.eval args s none [] s = some (.ref a)) (h2 : t2.eval args s none [] s = some (.ref b))
    (e1 : (Cond.eq (.field t1 C n d) (.int i)).value args s none s [] = some true) (e2 : (Cond.eq (.field t2 C n d) (.int j)).value args s none s [] = some true) (hij : i ≠ j) : ¬ (a = b) := by
  intro h; subst h
  cases hf : s.fieldOf? a C n d with
  | none => simp [Cond.value, Term.eval, h1, hf] at e1
  | some v =>
    cases v <;> simp [Cond.value, Term.eval, h1, h2, hf] at e1 e2
    exact hij (e1.symm.trans e2)
theorem d1_0 : decode prog_56_method_6_code 0 = .ok (.aload_n 0, 1) := by decide +kernel
theorem d1_1 : decode prog_56_method_6_code 1 = .ok (.getstatic 3, 3) := by decide +kernel
theorem d1_4 : decode prog_56_method_6_code 4 = .ok (.if_acmp .ne 9, 3) := by decide +kernel
theorem d1_7 : decode prog_56_method_6_code 7 = .ok (.getstatic 7, 3) := by decide +kernel
theorem d1_10 : decode prog_56_method_6_code 10 = .ok (.goto 6, 3) := by decide +kernel
theorem d1_16 : decode prog_56_method_6_code 16 = .ok (.areturn, 1) := by decide +kernel
theorem pn_1 : plainName "com/example/ringfence/ringfence/xacml/Effect" = true := by first | (simp [plainName, overriddenIn]; done) | decide +kernel
theorem ef_1 (m : MethodId) (x0 : Addr) : entryFrame m #[(.ref x0)] 1 = mkF m 0 #[.val (.ref x0)] [] := by first | (simp [entryFrame, mkF, argsToLocals, Value.category]; done) | rfl
set_option maxRecDepth 65536 in
set_option maxHeartbeats 40000000 in
theorem rm1f (l : Launch) (Z : State) (a0 : Array Value) (hw : ∀ d ∈ tables_1, d.before a0 Z = true) (ws : List Jvm.Cond) (a1 : Addr) (w2 : Addr) (w4 : Addr) (h0 : Heap) (n0 : Nat) (Z0 : n0 ≤ h0.size) (S_PERMIT : Sta Z h0 "com/example/ringfence/ringfence/xacml/Effect" "PERMIT" "Lcom/example/ringfence/ringfence/xacml/Effect;" (.ref w2)) (S_DENY : Sta Z h0 "com/example/ringfence/ringfence/xacml/Effect" "DENY" "Lcom/example/ringfence/ringfence/xacml/Effect;" (.ref w4)) (ha4 : a1 = w2) :
    MetFree l (⟨"com/example/ringfence/ringfence/xacml/Effect", "opposite", "()Lcom/example/ringfence/ringfence/xacml/Effect;"⟩ : MethodName) (head1 (Jvm.Cond.code (⟨"com/example/ringfence/ringfence/xacml/Effect", "opposite", "()Lcom/example/ringfence/ringfence/xacml/Effect;"⟩ : MethodName) prog_56_method_6_code 1 (some (.object "com/example/ringfence/ringfence/xacml/Effect")) :: ws) ({ frames := 0, cells := 0, slots := 0, locals := 0 } : Room)) (fun a U => a = #[(.ref a1)] ∧ Z.Warmed39 U.vm ∧ U.heap = h0) (fun _ _ _ _ _ => True) (fun _ U o U' => ∃ v L, o = .returned v ∧ Qr (.ref w4) h0 n0 v U'.heap L ∧ FrameEnd U o U' L ({ frames := 0, cells := 0, slots := 0, locals := 0 } : Room).cells ({ frames := 0, cells := 0, slots := 0, locals := 0 } : Room).slots) := by
  refine MetFree.of_bodySF (plainFor_of_name pn_1) hisR ?_
  intro p e s m args below meth c s₁ Bd hml0 hP hK
  obtain ⟨rfl, hZ, hh⟩ := hP
  have hx := Bd.exec
  have hby := Bd.bytes
  have hml : c.maxLocals = 1 := hml0
  have hown : s.vm.findClass "com/example/ringfence/ringfence/xacml/Effect" = some m.cls := findClass_of_methodNamed Bd.named
  have hnm := (name_of_methodNamed Bd.named Bd.method).1
  have X0 : Stand p l e ({ frames := 0, cells := 0, slots := 0, locals := 0 } : Room) s m #[(.ref a1)] below meth c s₁ [] 0 0 := Stand.of_body Bd
  have e0 : s₁.heap = h0 := by rw [← hh, Bd.state]; rfl
  have N0 := Fr.nil n0
  have pre0 : ∀ t, Steps p.tables e below (s₁.setTop (mkF m 0 #[.val (.ref a1)] [])) t → Steps p.tables e below (s₁.setTop (entryFrame m #[(.ref a1)] 1)) t := fun t k => castTop (ef_1 m a1) k
  obtain ⟨T3, X3, e3, st3⟩ := getS2 X0 hx hZ hown (host := "") (Or.inl (hw _ (List.mem_of_getElem? (i := 13) rfl))) Via.refl e0 S_PERMIT (g := (mkF m 1 #[.val (.ref a1)] [(.ref a1)])) rfl (hb hby d1_1)
  obtain ⟨T5, X5, e5, st5⟩ := getS2 X3 hx hZ hown (host := "") (Or.inl (hw _ (List.mem_of_getElem? (i := 14) rfl))) Via.refl e3 S_DENY (g := (mkF m 7 #[.val (.ref a1)] [])) rfl (hb hby d1_7)
  obtain ⟨fs, hr, hrun, hended, hW, hsame⟩ := X5.leave (v := some (.ref w4)) (fun h => by rw [Bd.returns] at h; cases h)
  refine ⟨_, _, pre0 _ ?_, hrun, hended, _, _, rfl, ?_, ⟨_, rfl⟩, hW, hsame.mono (by decide) (by decide)⟩
  · show Steps p.tables e below (s₁.setTop (mkF m 0 #[.val (.ref a1)] [])) _
    refine XS.aloadN X0.here hx rfl (hb hby d1_0) rfl rfl ?_
    show Steps p.tables e below (s₁.setTop (mkF m 1 #[.val (.ref a1)] [(.ref a1)])) _
    refine st3 _ ?_
    show Steps p.tables e below (T3.setTop (mkF m 4 #[.val (.ref a1)] [(.ref w2), (.ref a1)])) _
    refine Jvm.RoadKit.acmp (g := (mkF m 4 #[.val (.ref a1)] [(.ref w2), (.ref a1)])) X3 hx rfl rfl rfl (pc0 := 4) (pc' := 7) (same := true) rfl (hb hby d1_4) rfl (decide_eq_true (congrArg Value.ref ha4)) (by decide) (by decide) ?_
    show Steps p.tables e below (T3.setTop (mkF m 7 #[.val (.ref a1)] [])) _
    refine st5 _ ?_
    show Steps p.tables e below (T5.setTop (mkF m 10 #[.val (.ref a1)] [(.ref w4)])) _
    refine XS.goto X5.here hx rfl (pc0 := 10) (pc' := 16) rfl (hb hby d1_10) (by decide) (by decide) ?_
    show Steps p.tables e below (T5.setTop (mkF m 16 #[.val (.ref a1)] [(.ref w4)])) _
    jvm_step X5.here [X5.here.top, hx, (hb hby d1_16), X5.method', Bd.returns, Value.isRef, FieldType.isReference]
    first | (intro acts; rw [hr _ acts rfl rfl rfl]) | rw [hr _ _ rfl rfl rfl]
    exact Steps.refl _
  · show Qr (.ref w4) h0 n0 _ T5.heap _
    rw [e5]
    exact ⟨rfl, N0, rfl⟩
theorem d1_13 : decode prog_56_method_6_code 13 = .ok (.getstatic 3, 3) := by decide +kernel
set_option maxRecDepth 65536 in
set_option maxHeartbeats 40000000 in
theorem rm1t (l : Launch) (Z : State) (a0 : Array Value) (hw : ∀ d ∈ tables_1, d.before a0 Z = true) (ws : List Jvm.Cond) (a1 : Addr) (w2 : Addr) (h0 : Heap) (n0 : Nat) (Z0 : n0 ≤ h0.size) (S_PERMIT : Sta Z h0 "com/example/ringfence/ringfence/xacml/Effect" "PERMIT" "Lcom/example/ringfence/ringfence/xacml/Effect;" (.ref w2)) (ha4 : ¬ (a1 = w2)) :
    MetFree l (⟨"com/example/ringfence/ringfence/xacml/Effect", "opposite", "()Lcom/example/ringfence/ringfence/xacml/Effect;"⟩ : MethodName) (head1 (Jvm.Cond.code (⟨"com/example/ringfence/ringfence/xacml/Effect", "opposite", "()Lcom/example/ringfence/ringfence/xacml/Effect;"⟩ : MethodName) prog_56_method_6_code 1 (some (.object "com/example/ringfence/ringfence/xacml/Effect")) :: ws) ({ frames := 0, cells := 0, slots := 0, locals := 0 } : Room)) (fun a U => a = #[(.ref a1)] ∧ Z.Warmed39 U.vm ∧ U.heap = h0) (fun _ _ _ _ _ => True) (fun _ U o U' => ∃ v L, o = .returned v ∧ Qr (.ref w2) h0 n0 v U'.heap L ∧ FrameEnd U o U' L ({ frames := 0, cells := 0, slots := 0, locals := 0 } : Room).cells ({ frames := 0, cells := 0, slots := 0, locals := 0 } : Room).slots) := by
  refine MetFree.of_bodySF (plainFor_of_name pn_1) hisR ?_
  intro p e s m args below meth c s₁ Bd hml0 hP hK
  obtain ⟨rfl, hZ, hh⟩ := hP
  have hx := Bd.exec
  have hby := Bd.bytes
  have hml : c.maxLocals = 1 := hml0
  have hown : s.vm.findClass "com/example/ringfence/ringfence/xacml/Effect" = some m.cls := findClass_of_methodNamed Bd.named
  have hnm := (name_of_methodNamed Bd.named Bd.method).1
  have X0 : Stand p l e ({ frames := 0, cells := 0, slots := 0, locals := 0 } : Room) s m #[(.ref a1)] below meth c s₁ [] 0 0 := Stand.of_body Bd
  have e0 : s₁.heap = h0 := by rw [← hh, Bd.state]; rfl
  have N0 := Fr.nil n0
  have pre0 : ∀ t, Steps p.tables e below (s₁.setTop (mkF m 0 #[.val (.ref a1)] [])) t → Steps p.tables e below (s₁.setTop (entryFrame m #[(.ref a1)] 1)) t := fun t k => castTop (ef_1 m a1) k
  obtain ⟨T3, X3, e3, st3⟩ := getS2 X0 hx hZ hown (host := "") (Or.inl (hw _ (List.mem_of_getElem? (i := 13) rfl))) Via.refl e0 S_PERMIT (g := (mkF m 1 #[.val (.ref a1)] [(.ref a1)])) rfl (hb hby d1_1)
  obtain ⟨T4, X4, e4, st4⟩ := getS2 X3 hx hZ hown (host := "") (Or.inl (hw _ (List.mem_of_getElem? (i := 13) rfl))) Via.refl e3 S_PERMIT (g := (mkF m 13 #[.val (.ref a1)] [])) rfl (hb hby d1_13)
  obtain ⟨fs, hr, hrun, hended, hW, hsame⟩ := X4.leave (v := some (.ref w2)) (fun h => by rw [Bd.returns] at h; cases h)
  refine ⟨_, _, pre0 _ ?_, hrun, hended, _, _, rfl, ?_, ⟨_, rfl⟩, hW, hsame.mono (by decide) (by decide)⟩
  · show Steps p.tables e below (s₁.setTop (mkF m 0 #[.val (.ref a1)] [])) _
    refine XS.aloadN X0.here hx rfl (hb hby d1_0) rfl rfl ?_
    show Steps p.tables e below (s₁.setTop (mkF m 1 #[.val (.ref a1)] [(.ref a1)])) _
    refine st3 _ ?_
    show Steps p.tables e below (T3.setTop (mkF m 4 #[.val (.ref a1)] [(.ref w2), (.ref a1)])) _
    refine Jvm.RoadKit.acmp (g := (mkF m 4 #[.val (.ref a1)] [(.ref w2), (.ref a1)])) X3 hx rfl rfl rfl (pc0 := 4) (pc' := 13) (same := false) rfl (hb hby d1_4) rfl (decide_eq_false fun q => ha4 (Value.ref.inj q)) (by decide) (by decide) ?_
    show Steps p.tables e below (T3.setTop (mkF m 13 #[.val (.ref a1)] [])) _
    refine st4 _ ?_
    show Steps p.tables e below (T4.setTop (mkF m 16 #[.val (.ref a1)] [(.ref w2)])) _
    jvm_step X4.here [X4.here.top, hx, (hb hby d1_16), X4.method', Bd.returns, Value.isRef, FieldType.isReference]
    first | (intro acts; rw [hr _ acts rfl rfl rfl]) | rw [hr _ _ rfl rfl rfl]
    exact Steps.refl _
  · show Qr (.ref w2) h0 n0 _ T4.heap _
    rw [e4]
    exact ⟨rfl, N0, rfl⟩
theorem d2_0 : decode prog_56_method_4_code 0 = .ok (.aload_n 0, 1) := by decide +kernel
theorem d2_1 : decode prog_56_method_4_code 1 = .ok (.getfield 29, 3) := by decide +kernel
theorem d2_4 : decode prog_56_method_4_code 4 = .ok (.areturn, 1) := by decide +kernel
theorem pn_2 : plainName "com/example/ringfence/ringfence/xacml/Effect" = true := by first | (simp [plainName, overriddenIn]; done) | decide +kernel
theorem ef_2 (m : MethodId) (x0 : Addr) : entryFrame m #[(.ref x0)] 1 = mkF m 0 #[.val (.ref x0)] [] := by first | (simp [entryFrame, mkF, argsToLocals, Value.category]; done) | rfl
set_option maxRecDepth 65536 in
set_option maxHeartbeats 40000000 in
theorem rm2 (l : Launch) (Z : State) (a0 : Array Value) (hw : ∀ d ∈ tables_1, d.before a0 Z = true) (ws : List Jvm.Cond) (a1 : Addr) (w2 : Addr) (h0 : Heap) (n0 : Nat) (Z0 : n0 ≤ h0.size) (F_decision_a1 : Fld Z h0 a1 "com/example/ringfence/ringfence/xacml/Effect" "decision" "Lcom/example/ringfence/ringfence/xacml/Decision;" (.ref w2)) :
    MetFree l (⟨"com/example/ringfence/ringfence/xacml/Effect", "decision", "()Lcom/example/ringfence/ringfence/xacml/Decision;"⟩ : MethodName) (head1 (Jvm.Cond.code (⟨"com/example/ringfence/ringfence/xacml/Effect", "decision", "()Lcom/example/ringfence/ringfence/xacml/Decision;"⟩ : MethodName) prog_56_method_4_code 1 (some (.object "com/example/ringfence/ringfence/xacml/Decision")) :: ws) ({ frames := 0, cells := 0, slots := 0, locals := 0 } : Room)) (fun a U => a = #[(.ref a1)] ∧ Z.Warmed39 U.vm ∧ U.heap = h0) (fun _ _ _ _ _ => True) (fun _ U o U' => ∃ v L, o = .returned v ∧ Qr (.ref w2) h0 n0 v U'.heap L ∧ FrameEnd U o U' L ({ frames := 0, cells := 0, slots := 0, locals := 0 } : Room).cells ({ frames := 0, cells := 0, slots := 0, locals := 0 } : Room).slots) := by
  refine MetFree.of_bodySF (plainFor_of_name pn_2) hisR ?_
  intro p e s m args below meth c s₁ Bd hml0 hP hK
  obtain ⟨rfl, hZ, hh⟩ := hP
  have hx := Bd.exec
  have hby := Bd.bytes
  have hml : c.maxLocals = 1 := hml0
  have hown : s.vm.findClass "com/example/ringfence/ringfence/xacml/Effect" = some m.cls := findClass_of_methodNamed Bd.named
  have hnm := (name_of_methodNamed Bd.named Bd.method).1
  have X0 : Stand p l e ({ frames := 0, cells := 0, slots := 0, locals := 0 } : Room) s m #[(.ref a1)] below meth c s₁ [] 0 0 := Stand.of_body Bd
  have e0 : s₁.heap = h0 := by rw [← hh, Bd.state]; rfl
  have N0 := Fr.nil n0
  have pre0 : ∀ t, Steps p.tables e below (s₁.setTop (mkF m 0 #[.val (.ref a1)] [])) t → Steps p.tables e below (s₁.setTop (entryFrame m #[(.ref a1)] 1)) t := fun t k => castTop (ef_2 m a1) k
  obtain ⟨T3, X3, e3, st3⟩ := getF X0 hx hZ hown (host := "") (Or.inl (hw _ (List.mem_of_getElem? (i := 20) rfl))) Via.refl e0 F_decision_a1 (g := (mkF m 1 #[.val (.ref a1)] [(.ref a1)])) rfl rfl (hb hby d2_1)
  obtain ⟨fs, hr, hrun, hended, hW, hsame⟩ := X3.leave (v := some (.ref w2)) (fun h => by rw [Bd.returns] at h; cases h)
  refine ⟨_, _, pre0 _ ?_, hrun, hended, _, _, rfl, ?_, ⟨_, rfl⟩, hW, hsame.mono (by decide) (by decide)⟩
  · show Steps p.tables e below (s₁.setTop (mkF m 0 #[.val (.ref a1)] [])) _
    refine XS.aloadN X0.here hx rfl (hb hby d2_0) rfl rfl ?_
    show Steps p.tables e below (s₁.setTop (mkF m 1 #[.val (.ref a1)] [(.ref a1)])) _
    refine st3 _ ?_
    show Steps p.tables e below (T3.setTop (mkF m 4 #[.val (.ref a1)] [(.ref w2)])) _
    jvm_step X3.here [X3.here.top, hx, (hb hby d2_4), X3.method', Bd.returns, Value.isRef, FieldType.isReference]
    first | (intro acts; rw [hr _ acts rfl rfl rfl]) | rw [hr _ _ rfl rfl rfl]
    exact Steps.refl _
  · show Qr (.ref w2) h0 n0 _ T3.heap _
    rw [e3]
    exact ⟨rfl, N0, rfl⟩
theorem pn_0 : plainName "com/example/ringfence/ringfence/xacml/EffectOppositePinLaw" = true := by first | (simp [plainName, overriddenIn]; done) | decide +kernel
theorem pd_0_0 : parseMethodDescriptor "()Lcom/example/ringfence/ringfence/xacml/Effect;" = some ⟨[], some (.object "com/example/ringfence/ringfence/xacml/Effect")⟩ := by decide +kernel
theorem pd_0_1 : parseMethodDescriptor "()Lcom/example/ringfence/ringfence/xacml/Decision;" = some ⟨[], some (.object "com/example/ringfence/ringfence/xacml/Decision")⟩ := by decide +kernel
theorem ef_0 (m : MethodId) (x0 : Int32) : entryFrame m #[(.int x0)] maxLocals = mkF m 0 #[.val (.int x0), .unset, .unset, .unset, .unset, .unset] [] := by first | (simp [entryFrame, mkF, argsToLocals, Value.category, maxLocals]; done) | rfl
def Q0p (Z : State) (p1 : Int32) (w2 : Addr) (w4 : Addr) (w6 : Addr) (h0 : Heap) (n0 : Nat) (v : Option Value) (h : Heap) (L : List Loc) : Prop := v = some (.int (1 : Int32)) ∧ Fr n0 L
set_option maxRecDepth 65536 in
set_option maxHeartbeats 40000000 in
theorem rm0p (l : Launch) (Z : State) (a0 : Array Value) (hw : ∀ d ∈ tables_1, d.before a0 Z = true) (ws : List Jvm.Cond) (p1 : Int32) (w2 : Addr) (w4 : Addr) (w6 : Addr) (h0 : Heap) (n0 : Nat) (Z0 : n0 ≤ h0.size) (S_PERMIT : Sta Z h0 "com/example/ringfence/ringfence/xacml/Effect" "PERMIT" "Lcom/example/ringfence/ringfence/xacml/Effect;" (.ref w2)) (S_DENY : Sta Z h0 "com/example/ringfence/ringfence/xacml/Effect" "DENY" "Lcom/example/ringfence/ringfence/xacml/Effect;" (.ref w4)) (S_DENY2 : Sta Z h0 "com/example/ringfence/ringfence/xacml/Decision" "DENY" "Lcom/example/ringfence/ringfence/xacml/Decision;" (.ref w6)) (E_w2 : Exa Z h0 w2 "com/example/ringfence/ringfence/xacml/Effect") (E_w4 : Exa Z h0 w4 "com/example/ringfence/ringfence/xacml/Effect") (F_w4 : Fld Z h0 w4 "com/example/ringfence/ringfence/xacml/Effect" "decision" "Lcom/example/ringfence/ringfence/xacml/Decision;" (.ref w6)) (hc3 : (p1 &&& (1 : Int32)) = (0 : Int32)) (hc13 : ¬ ((1 : Int32) = (0 : Int32))) (hc27 : ¬ ((1 : Int32) = (0 : Int32))) (hc41 : ¬ ((1 : Int32) = (0 : Int32))) (ha64 : w4 = w4) (ha72 : ¬ (w4 = w2)) (ha83 : w2 = w2) (ha95 : w6 = w6) :
    MetFree l x (head1 (Jvm.Cond.code x code maxLocals ret :: ws) room_1) (fun a U => a = #[(.int p1)] ∧ Z.Warmed39 U.vm ∧ U.heap = h0) (fun _ _ _ _ _ => True) (fun _ U o U' => ∃ v L, o = .returned v ∧ Q0p Z p1 w2 w4 w6 h0 n0 v U'.heap L ∧ FrameEnd U o U' L room_1.cells room_1.slots) := by
  refine MetFree.of_bodySF (plainFor_of_name pn_0) hisR ?_
  intro p e s m args below meth c s₁ Bd hml0 hP hK
  obtain ⟨rfl, hZ, hh⟩ := hP
  have hx := Bd.exec
  have hby := Bd.bytes
  have hml : c.maxLocals = 6 := hml0
  have hown : s.vm.findClass "com/example/ringfence/ringfence/xacml/EffectOppositePinLaw" = some m.cls := findClass_of_methodNamed Bd.named
  have hnm := (name_of_methodNamed Bd.named Bd.method).1
  have X0 : Stand p l e room_1 s m #[(.int p1)] below meth c s₁ [] 0 0 := Stand.of_body Bd
  have e0 : s₁.heap = h0 := by rw [← hh, Bd.state]; rfl
  have N0 := Fr.nil n0
  have pre0 : ∀ t, Steps p.tables e below (s₁.setTop (mkF m 0 #[.val (.int p1), .unset, .unset, .unset, .unset, .unset] [])) t → Steps p.tables e below (s₁.setTop (entryFrame m #[(.int p1)] maxLocals)) t := fun t k => castTop (ef_0 m p1) k
  obtain ⟨T3, X3, e3, st3⟩ := getS2 X0 hx hZ hown (host := "") (Or.inl (hw _ (List.mem_of_getElem? (i := 0) rfl))) Via.refl e0 S_PERMIT (g := (mkF m 16 #[.val (.int p1), .val (.int (1 : Int32)), .unset, .unset, .unset, .unset] [])) rfl (hb hby at_16)
  obtain ⟨T5, X5, e5, st5⟩ := getS2 X3 hx hZ hown (host := "") (Or.inl (hw _ (List.mem_of_getElem? (i := 3) rfl))) Via.refl e3 S_DENY (g := (mkF m 30 #[.val (.int p1), .val (.int (1 : Int32)), .val (.ref w2), .unset, .unset, .unset] [])) rfl (hb hby at_30)
  obtain ⟨T7, X7, e7, st7⟩ := getS2 X5 hx hZ hown (host := "") (Or.inl (hw _ (List.mem_of_getElem? (i := 5) rfl))) Via.refl e5 S_DENY2 (g := (mkF m 44 #[.val (.int p1), .val (.int (1 : Int32)), .val (.ref w2), .val (.ref w4), .unset, .unset] [])) rfl (hb hby at_44)
  obtain ⟨cq8, kq8, q8a, q8b, q8c⟩ := isOf hZ e7 E_w2
  obtain ⟨_, _, ⟨T8, L8, k8, n8⟩, -, X8, ⟨Lc8, hQ8, l8, y8, z8⟩, st8⟩ := X7.virtualBack hx (y := (⟨"com/example/ringfence/ringfence/xacml/Effect", "opposite", "()Lcom/example/ringfence/ringfence/xacml/Effect;"⟩ : MethodName)) (z := (⟨"com/example/ringfence/ringfence/xacml/Effect", "opposite", "()Lcom/example/ringfence/ringfence/xacml/Effect;"⟩ : MethodName)) hown (mvT hZ (hw _ (List.mem_of_getElem? (i := 8) rfl))) (mvT hZ (hw _ (List.mem_of_getElem? (i := 9) rfl))) (notFace_of_selects (args := #[]) (mvT hZ (hw _ (List.mem_of_getElem? (i := 11) rfl)))) (mvT hZ (hw _ (List.mem_of_getElem? (i := 11) rfl))) (mvT hZ (hw _ (List.mem_of_getElem? (i := 10) rfl))) (by decide) (backOf (W := 0) (rm1f l Z a0 hw [] w2 w2 w4 h0 n0 Z0 S_PERMIT S_DENY rfl) hZ (hw _ (List.mem_of_getElem? (i := 12) rfl)) (hw _ (List.mem_of_getElem? (i := 1) rfl)) (by decide) (by decide)) q8a q8c (g := (mkF m 56 #[.val (.int p1), .val (.int (1 : Int32)), .val (.ref w2), .val (.ref w4), .val (.ref w6), .unset] [(.ref w2)])) rfl (by rw [hml]; rfl) (Steps.refl _) (argsL := []) (rest := []) (lenOf pd_0_0 rfl) rfl (by show 2 * 0 + _ ≤ _; exact Nat.le_of_eq rfl) (hb hby at_56) (fun _ _ => ⟨rfl, e7, (by decide : 0 + 0 ≤ _), (by decide : 0 + 0 ≤ _)⟩)
  dsimp only [Pt.U, Pt.locs, Pt.cells, Pt.slots] at X8 l8 y8 z8 st8 hQ8
  subst l8 y8 z8
  obtain ⟨rfl, N8q, e8⟩ := hQ8
  have N8 := Fr.app N0 N8q
  obtain ⟨cq9, kq9, q9a, q9b, q9c⟩ := isOf hZ e8 E_w4
  obtain ⟨_, _, ⟨T9, L9, k9, n9⟩, -, X9, ⟨Lc9, hQ9, l9, y9, z9⟩, st9⟩ := X8.virtualBack hx (y := (⟨"com/example/ringfence/ringfence/xacml/Effect", "opposite", "()Lcom/example/ringfence/ringfence/xacml/Effect;"⟩ : MethodName)) (z := (⟨"com/example/ringfence/ringfence/xacml/Effect", "opposite", "()Lcom/example/ringfence/ringfence/xacml/Effect;"⟩ : MethodName)) hown (mvT hZ (hw _ (List.mem_of_getElem? (i := 8) rfl))) (mvT hZ (hw _ (List.mem_of_getElem? (i := 9) rfl))) (notFace_of_selects (args := #[]) (mvT hZ (hw _ (List.mem_of_getElem? (i := 11) rfl)))) (mvT hZ (hw _ (List.mem_of_getElem? (i := 11) rfl))) (mvT hZ (hw _ (List.mem_of_getElem? (i := 10) rfl))) (by decide) (backOf (W := 0) (rm1t l Z a0 hw [] w4 w2 h0 n0 Z0 S_PERMIT ha72) hZ (hw _ (List.mem_of_getElem? (i := 12) rfl)) (hw _ (List.mem_of_getElem? (i := 1) rfl)) (by decide) (by decide)) q9a q9c (g := (mkF m 79 #[.val (.int p1), .val (.int (1 : Int32)), .val (.ref w2), .val (.ref w4), .val (.ref w6), .val (.ref w4)] [(.ref w4)])) rfl (by rw [hml]; rfl) (Steps.refl _) (argsL := []) (rest := []) (lenOf pd_0_0 rfl) rfl (by show 2 * 0 + _ ≤ _; exact Nat.le_of_eq rfl) (hb hby at_79) (fun _ _ => ⟨rfl, e8, (by decide : 0 + 0 ≤ _), (by decide : 0 + 0 ≤ _)⟩)
  dsimp only [Pt.U, Pt.locs, Pt.cells, Pt.slots] at X9 l9 y9 z9 st9 hQ9
  subst l9 y9 z9
  obtain ⟨rfl, N9q, e9⟩ := hQ9
  have N9 := Fr.app N8 N9q
  obtain ⟨cq10, kq10, q10a, q10b, q10c⟩ := isOf hZ e9 E_w4
  obtain ⟨_, _, ⟨T10, L10, k10, n10⟩, -, X10, ⟨Lc10, hQ10, l10, y10, z10⟩, st10⟩ := X9.virtualBack hx (y := (⟨"com/example/ringfence/ringfence/xacml/Effect", "decision", "()Lcom/example/ringfence/ringfence/xacml/Decision;"⟩ : MethodName)) (z := (⟨"com/example/ringfence/ringfence/xacml/Effect", "decision", "()Lcom/example/ringfence/ringfence/xacml/Decision;"⟩ : MethodName)) hown (mvT hZ (hw _ (List.mem_of_getElem? (i := 15) rfl))) (mvT hZ (hw _ (List.mem_of_getElem? (i := 16) rfl))) (notFace_of_selects (args := #[]) (mvT hZ (hw _ (List.mem_of_getElem? (i := 18) rfl)))) (mvT hZ (hw _ (List.mem_of_getElem? (i := 18) rfl))) (mvT hZ (hw _ (List.mem_of_getElem? (i := 17) rfl))) (by decide) (backOf (W := 0) (rm2 l Z a0 hw [] w4 w6 h0 n0 Z0 F_w4) hZ (hw _ (List.mem_of_getElem? (i := 19) rfl)) (hw _ (List.mem_of_getElem? (i := 1) rfl)) (by decide) (by decide)) q10a q10c (g := (mkF m 90 #[.val (.int p1), .val (.int (1 : Int32)), .val (.ref w2), .val (.ref w4), .val (.ref w6), .val (.ref w4)] [(.ref w4)])) rfl (by rw [hml]; rfl) (Steps.refl _) (argsL := []) (rest := []) (lenOf pd_0_1 rfl) rfl (by show 2 * 0 + _ ≤ _; exact Nat.le_of_eq rfl) (hb hby at_90) (fun _ _ => ⟨rfl, e9, (by decide : 0 + 0 ≤ _), (by decide : 0 + 0 ≤ _)⟩)
  dsimp only [Pt.U, Pt.locs, Pt.cells, Pt.slots] at X10 l10 y10 z10 st10 hQ10
  subst l10 y10 z10
  obtain ⟨rfl, N10q, e10⟩ := hQ10
  have N10 := Fr.app N9 N10q
  obtain ⟨fs, hr, hrun, hended, hW, hsame⟩ := X10.leave (v := some (.int (1 : Int32))) (fun h => by rw [Bd.returns] at h; cases h)
  refine ⟨_, _, pre0 _ ?_, hrun, hended, _, _, rfl, ?_, ⟨_, rfl⟩, hW, hsame.mono (by decide) (by decide)⟩
  · show Steps p.tables e below (s₁.setTop (mkF m 0 #[.val (.int p1), .unset, .unset, .unset, .unset, .unset] [])) _
    refine XS.iloadN X0.here hx rfl (hb hby at_0) rfl ?_
    show Steps p.tables e below (s₁.setTop (mkF m 1 #[.val (.int p1), .unset, .unset, .unset, .unset, .unset] [(.int p1)])) _
    refine XS.iconst X0.here hx rfl (hb hby at_1) ?_
    show Steps p.tables e below (s₁.setTop (mkF m 2 #[.val (.int p1), .unset, .unset, .unset, .unset, .unset] [(.int (1 : Int32)), (.int p1)])) _
    refine XS.iand X0.here hx rfl (hb hby at_2) rfl ?_
    show Steps p.tables e below (s₁.setTop (mkF m 3 #[.val (.int p1), .unset, .unset, .unset, .unset, .unset] [(.int (p1 &&& (1 : Int32)))])) _
    refine XS.ifNo X0.here hx rfl (hb hby at_3) rfl ((if0 _ _).trans (teq hc3).2) ?_
    show Steps p.tables e below (s₁.setTop (mkF m 6 #[.val (.int p1), .unset, .unset, .unset, .unset, .unset] [])) _
    refine XS.iconst X0.here hx rfl (hb hby at_6) ?_
    show Steps p.tables e below (s₁.setTop (mkF m 7 #[.val (.int p1), .unset, .unset, .unset, .unset, .unset] [(.int (1 : Int32))])) _
    refine XS.goto X0.here hx rfl (pc0 := 7) (pc' := 11) rfl (hb hby at_7) (by decide) (by decide) ?_
    show Steps p.tables e below (s₁.setTop (mkF m 11 #[.val (.int p1), .unset, .unset, .unset, .unset, .unset] [(.int (1 : Int32))])) _
    refine XS.istoreN X0.here hx rfl (hb hby at_11) rfl (l' := #[.val (.int p1), .val (.int (1 : Int32)), .unset, .unset, .unset, .unset]) rfl ?_
    show Steps p.tables e below (s₁.setTop (mkF m 12 #[.val (.int p1), .val (.int (1 : Int32)), .unset, .unset, .unset, .unset] [])) _
    refine XS.iloadN X0.here hx rfl (hb hby at_12) rfl ?_
    show Steps p.tables e below (s₁.setTop (mkF m 13 #[.val (.int p1), .val (.int (1 : Int32)), .unset, .unset, .unset, .unset] [(.int (1 : Int32))])) _
    refine XS.ifNo X0.here hx rfl (hb hby at_13) rfl ((if0 _ _).trans (feq hc13).1) ?_
    show Steps p.tables e below (s₁.setTop (mkF m 16 #[.val (.int p1), .val (.int (1 : Int32)), .unset, .unset, .unset, .unset] [])) _
    refine st3 _ ?_
    show Steps p.tables e below (T3.setTop (mkF m 19 #[.val (.int p1), .val (.int (1 : Int32)), .unset, .unset, .unset, .unset] [(.ref w2)])) _
    refine XS.goto X3.here hx rfl (pc0 := 19) (pc' := 25) rfl (hb hby at_19) (by decide) (by decide) ?_
    show Steps p.tables e below (T3.setTop (mkF m 25 #[.val (.int p1), .val (.int (1 : Int32)), .unset, .unset, .unset, .unset] [(.ref w2)])) _
    refine XS.astoreN X3.here hx rfl (hb hby at_25) rfl rfl (l' := #[.val (.int p1), .val (.int (1 : Int32)), .val (.ref w2), .unset, .unset, .unset]) rfl ?_
    show Steps p.tables e below (T3.setTop (mkF m 26 #[.val (.int p1), .val (.int (1 : Int32)), .val (.ref w2), .unset, .unset, .unset] [])) _
    refine XS.iloadN X3.here hx rfl (hb hby at_26) rfl ?_
    show Steps p.tables e below (T3.setTop (mkF m 27 #[.val (.int p1), .val (.int (1 : Int32)), .val (.ref w2), .unset, .unset, .unset] [(.int (1 : Int32))])) _
    refine XS.ifNo X3.here hx rfl (hb hby at_27) rfl ((if0 _ _).trans (feq hc27).1) ?_
    show Steps p.tables e below (T3.setTop (mkF m 30 #[.val (.int p1), .val (.int (1 : Int32)), .val (.ref w2), .unset, .unset, .unset] [])) _
    refine st5 _ ?_
    show Steps p.tables e below (T5.setTop (mkF m 33 #[.val (.int p1), .val (.int (1 : Int32)), .val (.ref w2), .unset, .unset, .unset] [(.ref w4)])) _
    refine XS.goto X5.here hx rfl (pc0 := 33) (pc' := 39) rfl (hb hby at_33) (by decide) (by decide) ?_
    show Steps p.tables e below (T5.setTop (mkF m 39 #[.val (.int p1), .val (.int (1 : Int32)), .val (.ref w2), .unset, .unset, .unset] [(.ref w4)])) _
    refine XS.astoreN X5.here hx rfl (hb hby at_39) rfl rfl (l' := #[.val (.int p1), .val (.int (1 : Int32)), .val (.ref w2), .val (.ref w4), .unset, .unset]) rfl ?_
    show Steps p.tables e below (T5.setTop (mkF m 40 #[.val (.int p1), .val (.int (1 : Int32)), .val (.ref w2), .val (.ref w4), .unset, .unset] [])) _
    refine XS.iloadN X5.here hx rfl (hb hby at_40) rfl ?_
    show Steps p.tables e below (T5.setTop (mkF m 41 #[.val (.int p1), .val (.int (1 : Int32)), .val (.ref w2), .val (.ref w4), .unset, .unset] [(.int (1 : Int32))])) _
    refine XS.ifNo X5.here hx rfl (hb hby at_41) rfl ((if0 _ _).trans (feq hc41).1) ?_
    show Steps p.tables e below (T5.setTop (mkF m 44 #[.val (.int p1), .val (.int (1 : Int32)), .val (.ref w2), .val (.ref w4), .unset, .unset] [])) _
    refine st7 _ ?_
    show Steps p.tables e below (T7.setTop (mkF m 47 #[.val (.int p1), .val (.int (1 : Int32)), .val (.ref w2), .val (.ref w4), .unset, .unset] [(.ref w6)])) _
    refine XS.goto X7.here hx rfl (pc0 := 47) (pc' := 53) rfl (hb hby at_47) (by decide) (by decide) ?_
    show Steps p.tables e below (T7.setTop (mkF m 53 #[.val (.int p1), .val (.int (1 : Int32)), .val (.ref w2), .val (.ref w4), .unset, .unset] [(.ref w6)])) _
    refine XS.astore X7.here hx rfl (hb hby at_53) rfl rfl (l' := #[.val (.int p1), .val (.int (1 : Int32)), .val (.ref w2), .val (.ref w4), .val (.ref w6), .unset]) rfl ?_
    show Steps p.tables e below (T7.setTop (mkF m 55 #[.val (.int p1), .val (.int (1 : Int32)), .val (.ref w2), .val (.ref w4), .val (.ref w6), .unset] [])) _
    refine XS.aloadN X7.here hx rfl (hb hby at_55) rfl rfl ?_
    show Steps p.tables e below (T7.setTop (mkF m 56 #[.val (.int p1), .val (.int (1 : Int32)), .val (.ref w2), .val (.ref w4), .val (.ref w6), .unset] [(.ref w2)])) _
    refine st8.trans ?_
    show Steps p.tables e below (T8.setTop (mkF m 59 #[.val (.int p1), .val (.int (1 : Int32)), .val (.ref w2), .val (.ref w4), .val (.ref w6), .unset] [(.ref w4)])) _
    refine XS.astore X8.here hx rfl (hb hby at_59) rfl rfl (l' := #[.val (.int p1), .val (.int (1 : Int32)), .val (.ref w2), .val (.ref w4), .val (.ref w6), .val (.ref w4)]) rfl ?_
    show Steps p.tables e below (T8.setTop (mkF m 61 #[.val (.int p1), .val (.int (1 : Int32)), .val (.ref w2), .val (.ref w4), .val (.ref w6), .val (.ref w4)] [])) _
    refine XS.aload X8.here hx rfl (hb hby at_61) rfl rfl ?_
    show Steps p.tables e below (T8.setTop (mkF m 63 #[.val (.int p1), .val (.int (1 : Int32)), .val (.ref w2), .val (.ref w4), .val (.ref w6), .val (.ref w4)] [(.ref w4)])) _
    refine XS.aloadN X8.here hx rfl (hb hby at_63) rfl rfl ?_
    show Steps p.tables e below (T8.setTop (mkF m 64 #[.val (.int p1), .val (.int (1 : Int32)), .val (.ref w2), .val (.ref w4), .val (.ref w6), .val (.ref w4)] [(.ref w4), (.ref w4)])) _
    refine Jvm.RoadKit.acmp (g := (mkF m 64 #[.val (.int p1), .val (.int (1 : Int32)), .val (.ref w2), .val (.ref w4), .val (.ref w6), .val (.ref w4)] [(.ref w4), (.ref w4)])) X8 hx rfl rfl rfl (pc0 := 64) (pc' := 69) (same := true) rfl (hb hby at_64) rfl (decide_eq_true (congrArg Value.ref ha64)) (by decide) (by decide) ?_
    show Steps p.tables e below (T8.setTop (mkF m 69 #[.val (.int p1), .val (.int (1 : Int32)), .val (.ref w2), .val (.ref w4), .val (.ref w6), .val (.ref w4)] [])) _
    refine XS.aload X8.here hx rfl (hb hby at_69) rfl rfl ?_
    show Steps p.tables e below (T8.setTop (mkF m 71 #[.val (.int p1), .val (.int (1 : Int32)), .val (.ref w2), .val (.ref w4), .val (.ref w6), .val (.ref w4)] [(.ref w4)])) _
    refine XS.aloadN X8.here hx rfl (hb hby at_71) rfl rfl ?_
    show Steps p.tables e below (T8.setTop (mkF m 72 #[.val (.int p1), .val (.int (1 : Int32)), .val (.ref w2), .val (.ref w4), .val (.ref w6), .val (.ref w4)] [(.ref w2), (.ref w4)])) _
    refine Jvm.RoadKit.acmp (g := (mkF m 72 #[.val (.int p1), .val (.int (1 : Int32)), .val (.ref w2), .val (.ref w4), .val (.ref w6), .val (.ref w4)] [(.ref w2), (.ref w4)])) X8 hx rfl rfl rfl (pc0 := 72) (pc' := 77) (same := false) rfl (hb hby at_72) rfl (decide_eq_false fun q => ha72 (Value.ref.inj q)) (by decide) (by decide) ?_
    show Steps p.tables e below (T8.setTop (mkF m 77 #[.val (.int p1), .val (.int (1 : Int32)), .val (.ref w2), .val (.ref w4), .val (.ref w6), .val (.ref w4)] [])) _
    refine XS.aload X8.here hx rfl (hb hby at_77) rfl rfl ?_
    show Steps p.tables e below (T8.setTop (mkF m 79 #[.val (.int p1), .val (.int (1 : Int32)), .val (.ref w2), .val (.ref w4), .val (.ref w6), .val (.ref w4)] [(.ref w4)])) _
    refine st9.trans ?_
    show Steps p.tables e below (T9.setTop (mkF m 82 #[.val (.int p1), .val (.int (1 : Int32)), .val (.ref w2), .val (.ref w4), .val (.ref w6), .val (.ref w4)] [(.ref w2)])) _
    refine XS.aloadN X9.here hx rfl (hb hby at_82) rfl rfl ?_
    show Steps p.tables e below (T9.setTop (mkF m 83 #[.val (.int p1), .val (.int (1 : Int32)), .val (.ref w2), .val (.ref w4), .val (.ref w6), .val (.ref w4)] [(.ref w2), (.ref w2)])) _
    refine Jvm.RoadKit.acmp (g := (mkF m 83 #[.val (.int p1), .val (.int (1 : Int32)), .val (.ref w2), .val (.ref w4), .val (.ref w6), .val (.ref w4)] [(.ref w2), (.ref w2)])) X9 hx rfl rfl rfl (pc0 := 83) (pc' := 88) (same := true) rfl (hb hby at_83) rfl (decide_eq_true (congrArg Value.ref ha83)) (by decide) (by decide) ?_
    show Steps p.tables e below (T9.setTop (mkF m 88 #[.val (.int p1), .val (.int (1 : Int32)), .val (.ref w2), .val (.ref w4), .val (.ref w6), .val (.ref w4)] [])) _
    refine XS.aload X9.here hx rfl (hb hby at_88) rfl rfl ?_
    show Steps p.tables e below (T9.setTop (mkF m 90 #[.val (.int p1), .val (.int (1 : Int32)), .val (.ref w2), .val (.ref w4), .val (.ref w6), .val (.ref w4)] [(.ref w4)])) _
    refine st10.trans ?_
    show Steps p.tables e below (T10.setTop (mkF m 93 #[.val (.int p1), .val (.int (1 : Int32)), .val (.ref w2), .val (.ref w4), .val (.ref w6), .val (.ref w4)] [(.ref w6)])) _
    refine XS.aload X10.here hx rfl (hb hby at_93) rfl rfl ?_
    show Steps p.tables e below (T10.setTop (mkF m 95 #[.val (.int p1), .val (.int (1 : Int32)), .val (.ref w2), .val (.ref w4), .val (.ref w6), .val (.ref w4)] [(.ref w6), (.ref w6)])) _
    refine Jvm.RoadKit.acmp (g := (mkF m 95 #[.val (.int p1), .val (.int (1 : Int32)), .val (.ref w2), .val (.ref w4), .val (.ref w6), .val (.ref w4)] [(.ref w6), (.ref w6)])) X10 hx rfl rfl rfl (pc0 := 95) (pc' := 98) (same := true) rfl (hb hby at_95) rfl (decide_eq_true (congrArg Value.ref ha95)) (by decide) (by decide) ?_
    show Steps p.tables e below (T10.setTop (mkF m 98 #[.val (.int p1), .val (.int (1 : Int32)), .val (.ref w2), .val (.ref w4), .val (.ref w6), .val (.ref w4)] [])) _
    refine XS.iconst X10.here hx rfl (hb hby at_98) ?_
    show Steps p.tables e below (T10.setTop (mkF m 99 #[.val (.int p1), .val (.int (1 : Int32)), .val (.ref w2), .val (.ref w4), .val (.ref w6), .val (.ref w4)] [(.int (1 : Int32))])) _
    refine XS.goto X10.here hx rfl (pc0 := 99) (pc' := 103) rfl (hb hby at_99) (by decide) (by decide) ?_
    show Steps p.tables e below (T10.setTop (mkF m 103 #[.val (.int p1), .val (.int (1 : Int32)), .val (.ref w2), .val (.ref w4), .val (.ref w6), .val (.ref w4)] [(.int (1 : Int32))])) _
    exact retN X10 hx (t := .boolean) Bd.returns (by simp) (hb hby at_103) hr
  · show Q0p Z p1 w2 w4 w6 h0 n0 _ T10.heap _
    exact ⟨rfl, N10⟩
def Q0d (Z : State) (p1 : Int32) (w2 : Addr) (w4 : Addr) (w6 : Addr) (h0 : Heap) (n0 : Nat) (v : Option Value) (h : Heap) (L : List Loc) : Prop := v = some (.int (1 : Int32)) ∧ Fr n0 L
set_option maxRecDepth 65536 in
set_option maxHeartbeats 40000000 in
theorem rm0d (l : Launch) (Z : State) (a0 : Array Value) (hw : ∀ d ∈ tables_1, d.before a0 Z = true) (ws : List Jvm.Cond) (p1 : Int32) (w2 : Addr) (w4 : Addr) (w6 : Addr) (h0 : Heap) (n0 : Nat) (Z0 : n0 ≤ h0.size) (S_DENY : Sta Z h0 "com/example/ringfence/ringfence/xacml/Effect" "DENY" "Lcom/example/ringfence/ringfence/xacml/Effect;" (.ref w2)) (S_PERMIT : Sta Z h0 "com/example/ringfence/ringfence/xacml/Effect" "PERMIT" "Lcom/example/ringfence/ringfence/xacml/Effect;" (.ref w4)) (S_PERMIT2 : Sta Z h0 "com/example/ringfence/ringfence/xacml/Decision" "PERMIT" "Lcom/example/ringfence/ringfence/xacml/Decision;" (.ref w6)) (E_w2 : Exa Z h0 w2 "com/example/ringfence/ringfence/xacml/Effect") (E_w4 : Exa Z h0 w4 "com/example/ringfence/ringfence/xacml/Effect") (F_w4 : Fld Z h0 w4 "com/example/ringfence/ringfence/xacml/Effect" "decision" "Lcom/example/ringfence/ringfence/xacml/Decision;" (.ref w6)) (hc3 : ¬ ((p1 &&& (1 : Int32)) = (0 : Int32))) (ha64 : w4 = w4) (ha72 : ¬ (w4 = w2)) (ha83 : w2 = w2) (ha95 : w6 = w6) :
    MetFree l x (head1 (Jvm.Cond.code x code maxLocals ret :: ws) room_1) (fun a U => a = #[(.int p1)] ∧ Z.Warmed39 U.vm ∧ U.heap = h0) (fun _ _ _ _ _ => True) (fun _ U o U' => ∃ v L, o = .returned v ∧ Q0d Z p1 w2 w4 w6 h0 n0 v U'.heap L ∧ FrameEnd U o U' L room_1.cells room_1.slots) := by
  refine MetFree.of_bodySF (plainFor_of_name pn_0) hisR ?_
  intro p e s m args below meth c s₁ Bd hml0 hP hK
  obtain ⟨rfl, hZ, hh⟩ := hP
  have hx := Bd.exec
  have hby := Bd.bytes
  have hml : c.maxLocals = 6 := hml0
  have hown : s.vm.findClass "com/example/ringfence/ringfence/xacml/EffectOppositePinLaw" = some m.cls := findClass_of_methodNamed Bd.named
  have hnm := (name_of_methodNamed Bd.named Bd.method).1
  have X0 : Stand p l e room_1 s m #[(.int p1)] below meth c s₁ [] 0 0 := Stand.of_body Bd
  have e0 : s₁.heap = h0 := by rw [← hh, Bd.state]; rfl
  have N0 := Fr.nil n0
  have pre0 : ∀ t, Steps p.tables e below (s₁.setTop (mkF m 0 #[.val (.int p1), .unset, .unset, .unset, .unset, .unset] [])) t → Steps p.tables e below (s₁.setTop (entryFrame m #[(.int p1)] maxLocals)) t := fun t k => castTop (ef_0 m p1) k
  obtain ⟨T3, X3, e3, st3⟩ := getS2 X0 hx hZ hown (host := "") (Or.inl (hw _ (List.mem_of_getElem? (i := 3) rfl))) Via.refl e0 S_DENY (g := (mkF m 22 #[.val (.int p1), .val (.int (0 : Int32)), .unset, .unset, .unset, .unset] [])) rfl (hb hby at_22)
  obtain ⟨T5, X5, e5, st5⟩ := getS2 X3 hx hZ hown (host := "") (Or.inl (hw _ (List.mem_of_getElem? (i := 0) rfl))) Via.refl e3 S_PERMIT (g := (mkF m 36 #[.val (.int p1), .val (.int (0 : Int32)), .val (.ref w2), .unset, .unset, .unset] [])) rfl (hb hby at_36)
  obtain ⟨T7, X7, e7, st7⟩ := getS2 X5 hx hZ hown (host := "") (Or.inl (hw _ (List.mem_of_getElem? (i := 22) rfl))) Via.refl e5 S_PERMIT2 (g := (mkF m 50 #[.val (.int p1), .val (.int (0 : Int32)), .val (.ref w2), .val (.ref w4), .unset, .unset] [])) rfl (hb hby at_50)
  obtain ⟨cq8, kq8, q8a, q8b, q8c⟩ := isOf hZ e7 E_w2
  obtain ⟨_, _, ⟨T8, L8, k8, n8⟩, -, X8, ⟨Lc8, hQ8, l8, y8, z8⟩, st8⟩ := X7.virtualBack hx (y := (⟨"com/example/ringfence/ringfence/xacml/Effect", "opposite", "()Lcom/example/ringfence/ringfence/xacml/Effect;"⟩ : MethodName)) (z := (⟨"com/example/ringfence/ringfence/xacml/Effect", "opposite", "()Lcom/example/ringfence/ringfence/xacml/Effect;"⟩ : MethodName)) hown (mvT hZ (hw _ (List.mem_of_getElem? (i := 8) rfl))) (mvT hZ (hw _ (List.mem_of_getElem? (i := 9) rfl))) (notFace_of_selects (args := #[]) (mvT hZ (hw _ (List.mem_of_getElem? (i := 11) rfl)))) (mvT hZ (hw _ (List.mem_of_getElem? (i := 11) rfl))) (mvT hZ (hw _ (List.mem_of_getElem? (i := 10) rfl))) (by decide) (backOf (W := 0) (rm1t l Z a0 hw [] w2 w4 h0 n0 Z0 S_PERMIT (fun q => ha72 q.symm)) hZ (hw _ (List.mem_of_getElem? (i := 12) rfl)) (hw _ (List.mem_of_getElem? (i := 1) rfl)) (by decide) (by decide)) q8a q8c (g := (mkF m 56 #[.val (.int p1), .val (.int (0 : Int32)), .val (.ref w2), .val (.ref w4), .val (.ref w6), .unset] [(.ref w2)])) rfl (by rw [hml]; rfl) (Steps.refl _) (argsL := []) (rest := []) (lenOf pd_0_0 rfl) rfl (by show 2 * 0 + _ ≤ _; exact Nat.le_of_eq rfl) (hb hby at_56) (fun _ _ => ⟨rfl, e7, (by decide : 0 + 0 ≤ _), (by decide : 0 + 0 ≤ _)⟩)
  dsimp only [Pt.U, Pt.locs, Pt.cells, Pt.slots] at X8 l8 y8 z8 st8 hQ8
  subst l8 y8 z8
  obtain ⟨rfl, N8q, e8⟩ := hQ8
  have N8 := Fr.app N0 N8q
  obtain ⟨cq9, kq9, q9a, q9b, q9c⟩ := isOf hZ e8 E_w4
  obtain ⟨_, _, ⟨T9, L9, k9, n9⟩, -, X9, ⟨Lc9, hQ9, l9, y9, z9⟩, st9⟩ := X8.virtualBack hx (y := (⟨"com/example/ringfence/ringfence/xacml/Effect", "opposite", "()Lcom/example/ringfence/ringfence/xacml/Effect;"⟩ : MethodName)) (z := (⟨"com/example/ringfence/ringfence/xacml/Effect", "opposite", "()Lcom/example/ringfence/ringfence/xacml/Effect;"⟩ : MethodName)) hown (mvT hZ (hw _ (List.mem_of_getElem? (i := 8) rfl))) (mvT hZ (hw _ (List.mem_of_getElem? (i := 9) rfl))) (notFace_of_selects (args := #[]) (mvT hZ (hw _ (List.mem_of_getElem? (i := 11) rfl)))) (mvT hZ (hw _ (List.mem_of_getElem? (i := 11) rfl))) (mvT hZ (hw _ (List.mem_of_getElem? (i := 10) rfl))) (by decide) (backOf (W := 0) (rm1f l Z a0 hw [] w4 w4 w2 h0 n0 Z0 S_PERMIT S_DENY rfl) hZ (hw _ (List.mem_of_getElem? (i := 12) rfl)) (hw _ (List.mem_of_getElem? (i := 1) rfl)) (by decide) (by decide)) q9a q9c (g := (mkF m 79 #[.val (.int p1), .val (.int (0 : Int32)), .val (.ref w2), .val (.ref w4), .val (.ref w6), .val (.ref w4)] [(.ref w4)])) rfl (by rw [hml]; rfl) (Steps.refl _) (argsL := []) (rest := []) (lenOf pd_0_0 rfl) rfl (by show 2 * 0 + _ ≤ _; exact Nat.le_of_eq rfl) (hb hby at_79) (fun _ _ => ⟨rfl, e8, (by decide : 0 + 0 ≤ _), (by decide : 0 + 0 ≤ _)⟩)
  dsimp only [Pt.U, Pt.locs, Pt.cells, Pt.slots] at X9 l9 y9 z9 st9 hQ9
  subst l9 y9 z9
  obtain ⟨rfl, N9q, e9⟩ := hQ9
  have N9 := Fr.app N8 N9q
  obtain ⟨cq10, kq10, q10a, q10b, q10c⟩ := isOf hZ e9 E_w4
  obtain ⟨_, _, ⟨T10, L10, k10, n10⟩, -, X10, ⟨Lc10, hQ10, l10, y10, z10⟩, st10⟩ := X9.virtualBack hx (y := (⟨"com/example/ringfence/ringfence/xacml/Effect", "decision", "()Lcom/example/ringfence/ringfence/xacml/Decision;"⟩ : MethodName)) (z := (⟨"com/example/ringfence/ringfence/xacml/Effect", "decision", "()Lcom/example/ringfence/ringfence/xacml/Decision;"⟩ : MethodName)) hown (mvT hZ (hw _ (List.mem_of_getElem? (i := 15) rfl))) (mvT hZ (hw _ (List.mem_of_getElem? (i := 16) rfl))) (notFace_of_selects (args := #[]) (mvT hZ (hw _ (List.mem_of_getElem? (i := 18) rfl)))) (mvT hZ (hw _ (List.mem_of_getElem? (i := 18) rfl))) (mvT hZ (hw _ (List.mem_of_getElem? (i := 17) rfl))) (by decide) (backOf (W := 0) (rm2 l Z a0 hw [] w4 w6 h0 n0 Z0 F_w4) hZ (hw _ (List.mem_of_getElem? (i := 19) rfl)) (hw _ (List.mem_of_getElem? (i := 1) rfl)) (by decide) (by decide)) q10a q10c (g := (mkF m 90 #[.val (.int p1), .val (.int (0 : Int32)), .val (.ref w2), .val (.ref w4), .val (.ref w6), .val (.ref w4)] [(.ref w4)])) rfl (by rw [hml]; rfl) (Steps.refl _) (argsL := []) (rest := []) (lenOf pd_0_1 rfl) rfl (by show 2 * 0 + _ ≤ _; exact Nat.le_of_eq rfl) (hb hby at_90) (fun _ _ => ⟨rfl, e9, (by decide : 0 + 0 ≤ _), (by decide : 0 + 0 ≤ _)⟩)
  dsimp only [Pt.U, Pt.locs, Pt.cells, Pt.slots] at X10 l10 y10 z10 st10 hQ10
  subst l10 y10 z10
  obtain ⟨rfl, N10q, e10⟩ := hQ10
  have N10 := Fr.app N9 N10q
  obtain ⟨fs, hr, hrun, hended, hW, hsame⟩ := X10.leave (v := some (.int (1 : Int32))) (fun h => by rw [Bd.returns] at h; cases h)
  refine ⟨_, _, pre0 _ ?_, hrun, hended, _, _, rfl, ?_, ⟨_, rfl⟩, hW, hsame.mono (by decide) (by decide)⟩
  · show Steps p.tables e below (s₁.setTop (mkF m 0 #[.val (.int p1), .unset, .unset, .unset, .unset, .unset] [])) _
    refine XS.iloadN X0.here hx rfl (hb hby at_0) rfl ?_
    show Steps p.tables e below (s₁.setTop (mkF m 1 #[.val (.int p1), .unset, .unset, .unset, .unset, .unset] [(.int p1)])) _
    refine XS.iconst X0.here hx rfl (hb hby at_1) ?_
    show Steps p.tables e below (s₁.setTop (mkF m 2 #[.val (.int p1), .unset, .unset, .unset, .unset, .unset] [(.int (1 : Int32)), (.int p1)])) _
    refine XS.iand X0.here hx rfl (hb hby at_2) rfl ?_
    show Steps p.tables e below (s₁.setTop (mkF m 3 #[.val (.int p1), .unset, .unset, .unset, .unset, .unset] [(.int (p1 &&& (1 : Int32)))])) _
    refine XS.ifYes X0.here hx rfl (pc0 := 3) (pc' := 10) rfl (hb hby at_3) rfl ((if0 _ _).trans (feq hc3).2) (by decide) (by decide) ?_
    show Steps p.tables e below (s₁.setTop (mkF m 10 #[.val (.int p1), .unset, .unset, .unset, .unset, .unset] [])) _
    refine XS.iconst X0.here hx rfl (hb hby at_10) ?_
    show Steps p.tables e below (s₁.setTop (mkF m 11 #[.val (.int p1), .unset, .unset, .unset, .unset, .unset] [(.int (0 : Int32))])) _
    refine XS.istoreN X0.here hx rfl (hb hby at_11) rfl (l' := #[.val (.int p1), .val (.int (0 : Int32)), .unset, .unset, .unset, .unset]) rfl ?_
    show Steps p.tables e below (s₁.setTop (mkF m 12 #[.val (.int p1), .val (.int (0 : Int32)), .unset, .unset, .unset, .unset] [])) _
    refine XS.iloadN X0.here hx rfl (hb hby at_12) rfl ?_
    show Steps p.tables e below (s₁.setTop (mkF m 13 #[.val (.int p1), .val (.int (0 : Int32)), .unset, .unset, .unset, .unset] [(.int (0 : Int32))])) _
    refine XS.ifYes X0.here hx rfl (pc0 := 13) (pc' := 22) rfl (hb hby at_13) rfl ((if0 _ _).trans (teq (rfl : (0 : Int32) = (0 : Int32))).1) (by decide) (by decide) ?_
    show Steps p.tables e below (s₁.setTop (mkF m 22 #[.val (.int p1), .val (.int (0 : Int32)), .unset, .unset, .unset, .unset] [])) _
    refine st3 _ ?_
    show Steps p.tables e below (T3.setTop (mkF m 25 #[.val (.int p1), .val (.int (0 : Int32)), .unset, .unset, .unset, .unset] [(.ref w2)])) _
    refine XS.astoreN X3.here hx rfl (hb hby at_25) rfl rfl (l' := #[.val (.int p1), .val (.int (0 : Int32)), .val (.ref w2), .unset, .unset, .unset]) rfl ?_
    show Steps p.tables e below (T3.setTop (mkF m 26 #[.val (.int p1), .val (.int (0 : Int32)), .val (.ref w2), .unset, .unset, .unset] [])) _
    refine XS.iloadN X3.here hx rfl (hb hby at_26) rfl ?_
    show Steps p.tables e below (T3.setTop (mkF m 27 #[.val (.int p1), .val (.int (0 : Int32)), .val (.ref w2), .unset, .unset, .unset] [(.int (0 : Int32))])) _
    refine XS.ifYes X3.here hx rfl (pc0 := 27) (pc' := 36) rfl (hb hby at_27) rfl ((if0 _ _).trans (teq (rfl : (0 : Int32) = (0 : Int32))).1) (by decide) (by decide) ?_
    show Steps p.tables e below (T3.setTop (mkF m 36 #[.val (.int p1), .val (.int (0 : Int32)), .val (.ref w2), .unset, .unset, .unset] [])) _
    refine st5 _ ?_
    show Steps p.tables e below (T5.setTop (mkF m 39 #[.val (.int p1), .val (.int (0 : Int32)), .val (.ref w2), .unset, .unset, .unset] [(.ref w4)])) _
    refine XS.astoreN X5.here hx rfl (hb hby at_39) rfl rfl (l' := #[.val (.int p1), .val (.int (0 : Int32)), .val (.ref w2), .val (.ref w4), .unset, .unset]) rfl ?_
    show Steps p.tables e below (T5.setTop (mkF m 40 #[.val (.int p1), .val (.int (0 : Int32)), .val (.ref w2), .val (.ref w4), .unset, .unset] [])) _
    refine XS.iloadN X5.here hx rfl (hb hby at_40) rfl ?_
    show Steps p.tables e below (T5.setTop (mkF m 41 #[.val (.int p1), .val (.int (0 : Int32)), .val (.ref w2), .val (.ref w4), .unset, .unset] [(.int (0 : Int32))])) _
    refine XS.ifYes X5.here hx rfl (pc0 := 41) (pc' := 50) rfl (hb hby at_41) rfl ((if0 _ _).trans (teq (rfl : (0 : Int32) = (0 : Int32))).1) (by decide) (by decide) ?_
    show Steps p.tables e below (T5.setTop (mkF m 50 #[.val (.int p1), .val (.int (0 : Int32)), .val (.ref w2), .val (.ref w4), .unset, .unset] [])) _
    refine st7 _ ?_
    show Steps p.tables e below (T7.setTop (mkF m 53 #[.val (.int p1), .val (.int (0 : Int32)), .val (.ref w2), .val (.ref w4), .unset, .unset] [(.ref w6)])) _
    refine XS.astore X7.here hx rfl (hb hby at_53) rfl rfl (l' := #[.val (.int p1), .val (.int (0 : Int32)), .val (.ref w2), .val (.ref w4), .val (.ref w6), .unset]) rfl ?_
    show Steps p.tables e below (T7.setTop (mkF m 55 #[.val (.int p1), .val (.int (0 : Int32)), .val (.ref w2), .val (.ref w4), .val (.ref w6), .unset] [])) _
    refine XS.aloadN X7.here hx rfl (hb hby at_55) rfl rfl ?_
    show Steps p.tables e below (T7.setTop (mkF m 56 #[.val (.int p1), .val (.int (0 : Int32)), .val (.ref w2), .val (.ref w4), .val (.ref w6), .unset] [(.ref w2)])) _
    refine st8.trans ?_
    show Steps p.tables e below (T8.setTop (mkF m 59 #[.val (.int p1), .val (.int (0 : Int32)), .val (.ref w2), .val (.ref w4), .val (.ref w6), .unset] [(.ref w4)])) _
    refine XS.astore X8.here hx rfl (hb hby at_59) rfl rfl (l' := #[.val (.int p1), .val (.int (0 : Int32)), .val (.ref w2), .val (.ref w4), .val (.ref w6), .val (.ref w4)]) rfl ?_
    show Steps p.tables e below (T8.setTop (mkF m 61 #[.val (.int p1), .val (.int (0 : Int32)), .val (.ref w2), .val (.ref w4), .val (.ref w6), .val (.ref w4)] [])) _
    refine XS.aload X8.here hx rfl (hb hby at_61) rfl rfl ?_
    show Steps p.tables e below (T8.setTop (mkF m 63 #[.val (.int p1), .val (.int (0 : Int32)), .val (.ref w2), .val (.ref w4), .val (.ref w6), .val (.ref w4)] [(.ref w4)])) _
    refine XS.aloadN X8.here hx rfl (hb hby at_63) rfl rfl ?_
    show Steps p.tables e below (T8.setTop (mkF m 64 #[.val (.int p1), .val (.int (0 : Int32)), .val (.ref w2), .val (.ref w4), .val (.ref w6), .val (.ref w4)] [(.ref w4), (.ref w4)])) _
    refine Jvm.RoadKit.acmp (g := (mkF m 64 #[.val (.int p1), .val (.int (0 : Int32)), .val (.ref w2), .val (.ref w4), .val (.ref w6), .val (.ref w4)] [(.ref w4), (.ref w4)])) X8 hx rfl rfl rfl (pc0 := 64) (pc' := 69) (same := true) rfl (hb hby at_64) rfl (decide_eq_true (congrArg Value.ref ha64)) (by decide) (by decide) ?_
    show Steps p.tables e below (T8.setTop (mkF m 69 #[.val (.int p1), .val (.int (0 : Int32)), .val (.ref w2), .val (.ref w4), .val (.ref w6), .val (.ref w4)] [])) _
    refine XS.aload X8.here hx rfl (hb hby at_69) rfl rfl ?_
    show Steps p.tables e below (T8.setTop (mkF m 71 #[.val (.int p1), .val (.int (0 : Int32)), .val (.ref w2), .val (.ref w4), .val (.ref w6), .val (.ref w4)] [(.ref w4)])) _
    refine XS.aloadN X8.here hx rfl (hb hby at_71) rfl rfl ?_
    show Steps p.tables e below (T8.setTop (mkF m 72 #[.val (.int p1), .val (.int (0 : Int32)), .val (.ref w2), .val (.ref w4), .val (.ref w6), .val (.ref w4)] [(.ref w2), (.ref w4)])) _
    refine Jvm.RoadKit.acmp (g := (mkF m 72 #[.val (.int p1), .val (.int (0 : Int32)), .val (.ref w2), .val (.ref w4), .val (.ref w6), .val (.ref w4)] [(.ref w2), (.ref w4)])) X8 hx rfl rfl rfl (pc0 := 72) (pc' := 77) (same := false) rfl (hb hby at_72) rfl (decide_eq_false fun q => ha72 (Value.ref.inj q)) (by decide) (by decide) ?_
    show Steps p.tables e below (T8.setTop (mkF m 77 #[.val (.int p1), .val (.int (0 : Int32)), .val (.ref w2), .val (.ref w4), .val (.ref w6), .val (.ref w4)] [])) _
    refine XS.aload X8.here hx rfl (hb hby at_77) rfl rfl ?_
    show Steps p.tables e below (T8.setTop (mkF m 79 #[.val (.int p1), .val (.int (0 : Int32)), .val (.ref w2), .val (.ref w4), .val (.ref w6), .val (.ref w4)] [(.ref w4)])) _
    refine st9.trans ?_
    show Steps p.tables e below (T9.setTop (mkF m 82 #[.val (.int p1), .val (.int (0 : Int32)), .val (.ref w2), .val (.ref w4), .val (.ref w6), .val (.ref w4)] [(.ref w2)])) _
    refine XS.aloadN X9.here hx rfl (hb hby at_82) rfl rfl ?_
    show Steps p.tables e below (T9.setTop (mkF m 83 #[.val (.int p1), .val (.int (0 : Int32)), .val (.ref w2), .val (.ref w4), .val (.ref w6), .val (.ref w4)] [(.ref w2), (.ref w2)])) _
    refine Jvm.RoadKit.acmp (g := (mkF m 83 #[.val (.int p1), .val (.int (0 : Int32)), .val (.ref w2), .val (.ref w4), .val (.ref w6), .val (.ref w4)] [(.ref w2), (.ref w2)])) X9 hx rfl rfl rfl (pc0 := 83) (pc' := 88) (same := true) rfl (hb hby at_83) rfl (decide_eq_true (congrArg Value.ref ha83)) (by decide) (by decide) ?_
    show Steps p.tables e below (T9.setTop (mkF m 88 #[.val (.int p1), .val (.int (0 : Int32)), .val (.ref w2), .val (.ref w4), .val (.ref w6), .val (.ref w4)] [])) _
    refine XS.aload X9.here hx rfl (hb hby at_88) rfl rfl ?_
    show Steps p.tables e below (T9.setTop (mkF m 90 #[.val (.int p1), .val (.int (0 : Int32)), .val (.ref w2), .val (.ref w4), .val (.ref w6), .val (.ref w4)] [(.ref w4)])) _
    refine st10.trans ?_
    show Steps p.tables e below (T10.setTop (mkF m 93 #[.val (.int p1), .val (.int (0 : Int32)), .val (.ref w2), .val (.ref w4), .val (.ref w6), .val (.ref w4)] [(.ref w6)])) _
    refine XS.aload X10.here hx rfl (hb hby at_93) rfl rfl ?_
    show Steps p.tables e below (T10.setTop (mkF m 95 #[.val (.int p1), .val (.int (0 : Int32)), .val (.ref w2), .val (.ref w4), .val (.ref w6), .val (.ref w4)] [(.ref w6), (.ref w6)])) _
    refine Jvm.RoadKit.acmp (g := (mkF m 95 #[.val (.int p1), .val (.int (0 : Int32)), .val (.ref w2), .val (.ref w4), .val (.ref w6), .val (.ref w4)] [(.ref w6), (.ref w6)])) X10 hx rfl rfl rfl (pc0 := 95) (pc' := 98) (same := true) rfl (hb hby at_95) rfl (decide_eq_true (congrArg Value.ref ha95)) (by decide) (by decide) ?_
    show Steps p.tables e below (T10.setTop (mkF m 98 #[.val (.int p1), .val (.int (0 : Int32)), .val (.ref w2), .val (.ref w4), .val (.ref w6), .val (.ref w4)] [])) _
    refine XS.iconst X10.here hx rfl (hb hby at_98) ?_
    show Steps p.tables e below (T10.setTop (mkF m 99 #[.val (.int p1), .val (.int (0 : Int32)), .val (.ref w2), .val (.ref w4), .val (.ref w6), .val (.ref w4)] [(.int (1 : Int32))])) _
    refine XS.goto X10.here hx rfl (pc0 := 99) (pc' := 103) rfl (hb hby at_99) (by decide) (by decide) ?_
    show Steps p.tables e below (T10.setTop (mkF m 103 #[.val (.int p1), .val (.int (0 : Int32)), .val (.ref w2), .val (.ref w4), .val (.ref w6), .val (.ref w4)] [(.int (1 : Int32))])) _
    exact retN X10 hx (t := .boolean) Bd.returns (by simp) (hb hby at_103) hr
  · show Q0d Z p1 w2 w4 w6 h0 n0 _ T10.heap _
    exact ⟨rfl, N10⟩
theorem own_fr {args : Array Value} {s : State} {t1 t2 : Term} {C n d : String} {a b : Addr} (h1 : t1.eval args s none [] s = some (.ref a)) (h2 : t2.eval args s none [] s = some (.ref b))
    (e1 : (Cond.eq (.field t1 C n d) t2).value args s none s [] = some true) : s.fieldOf? a C n d = some (.ref b) := by
  cases hf : s.fieldOf? a C n d with
  | none => simp [Cond.value, Term.eval, h1, h2, hf] at e1
  | some v =>
    cases v <;> simp [Cond.value, Term.eval, h1, h2, hf] at e1
    rw [e1]
set_option maxRecDepth 65536 in
set_option maxHeartbeats 40000000 in
theorem comes_1 {Post : Tables → Env → Array Value → State → Outcome → State → Prop} (hpost : ∀ tb e args s v u, (limb_1_1.after args s (.returned v) u = true ∧ limb_1_2.after args s (.returned v) u = true ∧ True) → FrameEnd s (.returned v) u (Jvm.fieldLocs frame_1_writes args s ++ Jvm.arrayLocs frame_1_arrays args s ++ Jvm.staticLocs frame_1_statics s) 0 0 → Post tb e args s (.returned v) u) :
    ArmFor flags0 classFile x code maxLocals ret World_1 tables_1 room_1 Calls_1 rest_1 Pre_1 Post := by
  intro l hfl _ _ p e ha hc hk s m args below hf hA hF happ hP
  obtain ⟨hcalls, hrest, hpre⟩ := hP
  obtain ⟨-, -, -, hnamed, -, -, -, hat⟩ := (Spec.applies_iff hf).mp happ
  obtain ⟨hg, hn⟩ := and_e (Cond.before_iff.mp (show (Jvm.Cond.and given_1 narrow_1).before args s = true from hpre))
  obtain ⟨g0, hg⟩ := and_e hg
  obtain ⟨w0, rfl⟩ : ∃ w0 : Value, args = #[w0] := by
    have hs : args.size = 1 := by simpa [Cond.value, given_1] using g0
    obtain ⟨L⟩ := args
    match L, hs with
    | [w0], _ => exact ⟨w0, rfl⟩
  have hw := fun d (hd : d ∈ tables_1) => atoms_spec (ws := Jvm.Cond.code x code maxLocals ret :: tables_1) hat d (List.mem_cons_of_mem _ hd)
  have ga0 := hg
  obtain ⟨i0, ei0⟩ := is_v ga0
  obtain rfl : w0 = (.int i0) := Option.some.inj ei0
  obtain ⟨k1, hn⟩ := and_e hn
  obtain ⟨k2, hn⟩ := and_e hn
  obtain ⟨k3, hn⟩ := and_e hn
  obtain ⟨k4, hn⟩ := and_e hn
  obtain ⟨k5, hn⟩ := and_e hn
  obtain ⟨k6, hn⟩ := and_e hn
  obtain ⟨k7, hn⟩ := and_e hn
  have k8 := hn
  obtain ⟨ep, tep⟩ := exa_v k1
  obtain ⟨ed, ted⟩ := exa_v k2
  obtain ⟨dd, tdd⟩ := exa_v k3
  obtain ⟨dp, tdp⟩ := exa_v k7
  have Sep := Sta.start tep (Or.inr ⟨(hw _ (List.mem_of_getElem? (i := 1) rfl)), (hw _ (List.mem_of_getElem? (i := 2) rfl))⟩)
  have Sed := Sta.start ted (Or.inr ⟨(hw _ (List.mem_of_getElem? (i := 1) rfl)), (hw _ (List.mem_of_getElem? (i := 4) rfl))⟩)
  have Sdd := Sta.start tdd (Or.inr ⟨(hw _ (List.mem_of_getElem? (i := 6) rfl)), (hw _ (List.mem_of_getElem? (i := 7) rfl))⟩)
  have Sdp := Sta.start tdp (Or.inr ⟨(hw _ (List.mem_of_getElem? (i := 6) rfl)), (hw _ (List.mem_of_getElem? (i := 23) rfl))⟩)
  have Eep := Exa.start tep k1
  have Eed := Exa.start ted k2
  have Fd := Fld.start (own_fr ted tdd k6)
  have Fp := Fld.start (own_fr tep tdp k8)
  have ne : ¬ (ed = ep) := own_ne ted tep k4 k5 (by decide)
  by_cases hcc : (i0 &&& (1 : Int32)) = 0
  · skip
    obtain ⟨n, o, h1, h2, h3, _, L, rfl, ⟨rfl, N⟩, hq⟩ := rm0p l s _ hw tables_1 i0 ep ed dd s.heap s.heap.size (Nat.le_refl _) Sep Sed Sdd Eep Eed Fd hcc (by decide) (by decide) (by decide) rfl ne rfl rfl p e ha hc hk s m _ below hf ((Spec.applies_iff_loose hf).mp happ).1 ⟨rfl, State.Warmed39.refl s, rfl⟩ trivial
    refine ⟨n, _, h1, h2, h3, hpost _ _ _ _ _ _ ⟨Cond.after_iff.mpr rfl, Cond.after_iff.mpr (eq_i res_at (Term.int_eval (1)) rfl), trivial⟩ ⟨hq.1, hq.2.1, (hq.2.2.sift fun y hy => Or.inr (N y hy)).mono (by decide) (by decide)⟩⟩
  · skip
    obtain ⟨n, o, h1, h2, h3, _, L, rfl, ⟨rfl, N⟩, hq⟩ := rm0d l s _ hw tables_1 i0 ed ep dp s.heap s.heap.size (Nat.le_refl _) Sed Sep Sdp Eed Eep Fp hcc rfl (fun q => ne q.symm) rfl rfl p e ha hc hk s m _ below hf ((Spec.applies_iff_loose hf).mp happ).1 ⟨rfl, State.Warmed39.refl s, rfl⟩ trivial
    refine ⟨n, _, h1, h2, h3, hpost _ _ _ _ _ _ ⟨Cond.after_iff.mpr rfl, Cond.after_iff.mpr (eq_i res_at (Term.int_eval (1)) rfl), trivial⟩ ⟨hq.1, hq.2.1, (hq.2.2.sift fun y hy => Or.inr (N y hy)).mono (by decide) (by decide)⟩⟩
theorem main_1_1 : Claimed_1_1 := comes_1 fun _ _ _ _ _ _ h hF => ⟨h.1, hF⟩
theorem main_1_2 : Claimed_1_2 := comes_1 fun _ _ _ _ _ _ h hF => ⟨h.2.1, hF⟩
end Jvm.Pilot.@@N@@
namespace Jvm.Pilot.@@N@@
open Jvm Jvm.ClassFile Sem Op Lib Jvm.Free Jvm.Stand Jvm.Pilot.@@N@@.Jvm.D
/-! MADE BY PROGRAM (witnessworld.py) out of the Statement's table words and the real class files: 11 classes; the members and pool entries that the words name. The judged class is class 1, her method 1. -/
namespace start1
open Jvm.ClassFile
def u (s : String) : CpInfo := .utf8 (stringToUtf16 s)
/-- a pool by its gaps: so many unusable entries, then the entry; so many at the end -/
def gap : Nat → List CpInfo → List CpInfo
  | 0, r => r
  | n + 1, r => .unusable :: gap n r
def poolList (es : List (Nat × CpInfo)) (last : Nat) : List CpInfo := es.foldr (fun e r => gap e.1 (e.2 :: r)) (gap last [])
def pool (es : List (Nat × CpInfo)) (last : Nat) : Array CpInfo := ⟨poolList es last⟩
def fileOf (pool : Array CpInfo) (this : Nat) (attrs : Array Attribute := #[]) (ms : Array MethodInfo := #[]) (fl : Nat := 33) (sup : Nat := 0) (ifs : Array Nat := #[]) (fds : Array FieldInfo := #[]) : ClassFile where
  minorVersion := 0
  majorVersion := 65
  constantPool := pool
  accessFlags := fl
  thisClass := this
  superClass := sup
  interfaces := ifs
  fields := fds
  methods := ms
  attributes := attrs
def plain (name : String) (sup : Option ClassId) : Class where
  name := name
  kind := .ordinary
  loader := none
  accessFlags := 33
  super := sup
  interfaces := #[]
  cf := none
  fields := #[]
  methods := #[]
  instanceTypes := #[]
  staticTypes := #[]
  resolved := #[]
  callSites := []
  init := .initialized
  statics := none
  mirror := none

def pool0 : Array CpInfo := pool [(5, u "<init>"), (0, u "()V"), (1, .class_ 10), (1, u "java/lang/Object")] 113

def k0m0 : Method := { name := "<init>", desc := "()V", sig := { parameters := [], returnType := none }, accessFlags := 1, code := none }
/-- java/lang/Object -/
def k0 : Class := { plain "java/lang/Object" none with
  accessFlags := 33
  interfaces := #[]
  cf := some (fileOf pool0 8 #[] #[{ accessFlags := 1, nameIndex := 5, descriptorIndex := 6, attributes := #[] }] 33 0 #[] #[])
  fields := #[]
  methods := #[k0m0]
  instanceTypes := #[]
  staticTypes := #[]
  resolved := Array.replicate 124 none
  statics := none }

def pool1 : Array CpInfo := pool [(2, .class_ 4), (1, u "java/lang/Object"), (0, u "<init>"), (0, u "()V"), (0, .fieldref 8 9), (0, .class_ 10), (0, .nameAndType 11 12), (0, u "com/example/ringfence/ringfence/xacml/Effect"), (0, u "PERMIT"), (0, u "Lcom/example/ringfence/ringfence/xacml/Effect;"), (0, .fieldref 8 14), (0, .nameAndType 15 12), (0, u "DENY"), (0, .fieldref 17 18), (0, .class_ 19), (0, .nameAndType 15 20), (0, u "com/example/ringfence/ringfence/xacml/Decision"), (0, u "Lcom/example/ringfence/ringfence/xacml/Decision;"), (0, .fieldref 17 22), (0, .nameAndType 11 20), (0, .methodref 8 24), (0, .nameAndType 25 26), (0, u "opposite"), (0, u "()Lcom/example/ringfence/ringfence/xacml/Effect;"), (0, .methodref 8 28), (0, .nameAndType 29 30), (0, u "decision"), (0, u "()Lcom/example/ringfence/ringfence/xacml/Decision;"), (0, .class_ 32), (0, u "com/example/ringfence/ringfence/xacml/EffectOppositePinLaw"), (2, u "law"), (0, u "(I)Z")] 3

def k1m0 : Method := { name := "<init>", desc := "()V", sig := { parameters := [], returnType := none }, accessFlags := 2, code := none }
def k1c1 : Code := { maxStack := 2, maxLocals := 6, code := code, exceptionTable := #[], attributes := #[] }
def k1m1 : Method := { name := "law", desc := "(I)Z", sig := { parameters := [.int], returnType := some .boolean }, accessFlags := 9, code := some k1c1 }
/-- com/example/ringfence/ringfence/xacml/EffectOppositePinLaw -/
def k1 : Class := { plain "com/example/ringfence/ringfence/xacml/EffectOppositePinLaw" (some 0) with
  accessFlags := 49
  interfaces := #[]
  cf := some (fileOf pool1 31 #[] #[{ accessFlags := 2, nameIndex := 5, descriptorIndex := 6, attributes := #[] }, { accessFlags := 9, nameIndex := 35, descriptorIndex := 36, attributes := #[] }] 49 2 #[] #[])
  fields := #[]
  methods := #[k1m0, k1m1]
  instanceTypes := #[]
  staticTypes := #[]
  resolved := Array.replicate 40 none
  statics := none }

def pool2 : Array CpInfo := pool [(1, .class_ 2), (0, u "java/lang/constant/Constable"), (0, .class_ 4), (0, u "java/lang/Object")] 6

/-- java/lang/constant/Constable -/
def k2 : Class := { plain "java/lang/constant/Constable" (some 0) with
  accessFlags := 1537
  interfaces := #[]
  cf := some (fileOf pool2 1 #[] #[] 1537 3 #[] #[])
  fields := #[]
  methods := #[]
  instanceTypes := #[]
  staticTypes := #[]
  resolved := Array.replicate 11 none
  statics := none }

def pool3 : Array CpInfo := pool [(1, .class_ 2), (0, u "java/lang/Comparable"), (0, .class_ 4), (0, u "java/lang/Object")] 7

/-- java/lang/Comparable -/
def k3 : Class := { plain "java/lang/Comparable" (some 0) with
  accessFlags := 1537
  interfaces := #[]
  cf := some (fileOf pool3 1 #[] #[] 1537 3 #[] #[])
  fields := #[]
  methods := #[]
  instanceTypes := #[]
  staticTypes := #[]
  resolved := Array.replicate 12 none
  statics := none }

def pool4 : Array CpInfo := pool [(1, .class_ 2), (0, u "java/io/Serializable"), (0, .class_ 4), (0, u "java/lang/Object")] 2

/-- java/io/Serializable -/
def k4 : Class := { plain "java/io/Serializable" (some 0) with
  accessFlags := 1537
  interfaces := #[]
  cf := some (fileOf pool4 1 #[] #[] 1537 3 #[] #[])
  fields := #[]
  methods := #[]
  instanceTypes := #[]
  staticTypes := #[]
  resolved := Array.replicate 7 none
  statics := none }

def pool5 : Array CpInfo := pool [(2, .class_ 4), (1, u "java/lang/Enum"), (0, u "name"), (0, u "Ljava/lang/String;"), (2, u "ordinal"), (0, u "I"), (1, .class_ 14), (1, u "java/lang/Object"), (4, u "hash"), (86, .class_ 108), (1, u "java/lang/Enum$EnumDesc"), (2, .class_ 112), (0, u "java/lang/constant/Constable"), (0, .class_ 114), (0, u "java/lang/Comparable"), (0, .class_ 116), (0, u "java/io/Serializable")] 87

/-- java/lang/Enum -/
def k5 : Class := { plain "java/lang/Enum" (some 0) with
  accessFlags := 1057
  interfaces := #[2, 3, 4]
  cf := some (fileOf pool5 2 #[.nestMembers #[106]] #[] 1057 12 #[111, 113, 115] #[{ accessFlags := 18, nameIndex := 5, descriptorIndex := 6, attributes := #[] }, { accessFlags := 18, nameIndex := 9, descriptorIndex := 10, attributes := #[] }, { accessFlags := 2, nameIndex := 19, descriptorIndex := 10, attributes := #[] }])
  fields := #[{ name := "name", type := (.object "java/lang/String"), accessFlags := 18, slot := 0, constantValue := 0 }, { name := "ordinal", type := .int, accessFlags := 18, slot := 1, constantValue := 0 }, { name := "hash", type := .int, accessFlags := 2, slot := 2, constantValue := 0 }]
  methods := #[]
  instanceTypes := #[(.object "java/lang/String"), .int, .int]
  staticTypes := #[]
  resolved := Array.replicate 204 none
  statics := none }

def pool6 : Array CpInfo := pool [(1, .class_ 2), (0, u "com/example/ringfence/ringfence/xacml/Effect"), (0, .fieldref 1 4), (0, .nameAndType 5 6), (0, u "PERMIT"), (0, u "Lcom/example/ringfence/ringfence/xacml/Effect;"), (0, .fieldref 1 8), (0, .nameAndType 9 6), (0, u "DENY"), (2, u "$VALUES"), (0, u "[Lcom/example/ringfence/ringfence/xacml/Effect;"), (6, .class_ 22), (1, u "java/lang/Enum"), (6, .fieldref 1 30), (0, .nameAndType 31 32), (0, u "decision"), (0, u "Lcom/example/ringfence/ringfence/xacml/Decision;"), (2, u "indeterminate"), (50, u "()Lcom/example/ringfence/ringfence/xacml/Decision;"), (0, u "opposite"), (0, u "()Lcom/example/ringfence/ringfence/xacml/Effect;")] 9

def k6c0 : Code := { maxStack := 1, maxLocals := 1, code := prog_56_method_4_code, exceptionTable := #[], attributes := #[] }
def k6m0 : Method := { name := "decision", desc := "()Lcom/example/ringfence/ringfence/xacml/Decision;", sig := { parameters := [], returnType := some (.object "com/example/ringfence/ringfence/xacml/Decision") }, accessFlags := 1, code := some k6c0 }
def k6c1 : Code := { maxStack := 2, maxLocals := 1, code := prog_56_method_6_code, exceptionTable := #[], attributes := #[] }
def k6m1 : Method := { name := "opposite", desc := "()Lcom/example/ringfence/ringfence/xacml/Effect;", sig := { parameters := [], returnType := some (.object "com/example/ringfence/ringfence/xacml/Effect") }, accessFlags := 1, code := some k6c1 }
/-- com/example/ringfence/ringfence/xacml/Effect -/
def k6 : Class := { plain "com/example/ringfence/ringfence/xacml/Effect" (some 5) with
  accessFlags := 16433
  interfaces := #[]
  cf := some (fileOf pool6 1 #[] #[{ accessFlags := 1, nameIndex := 31, descriptorIndex := 86, attributes := #[] }, { accessFlags := 1, nameIndex := 87, descriptorIndex := 88, attributes := #[] }] 16433 20 #[] #[{ accessFlags := 16409, nameIndex := 5, descriptorIndex := 6, attributes := #[] }, { accessFlags := 16409, nameIndex := 9, descriptorIndex := 6, attributes := #[] }, { accessFlags := 18, nameIndex := 31, descriptorIndex := 32, attributes := #[] }, { accessFlags := 18, nameIndex := 35, descriptorIndex := 32, attributes := #[] }, { accessFlags := 4122, nameIndex := 12, descriptorIndex := 13, attributes := #[] }])
  fields := #[{ name := "PERMIT", type := (.object "com/example/ringfence/ringfence/xacml/Effect"), accessFlags := 16409, slot := 0, constantValue := 0 }, { name := "DENY", type := (.object "com/example/ringfence/ringfence/xacml/Effect"), accessFlags := 16409, slot := 1, constantValue := 0 }, { name := "decision", type := (.object "com/example/ringfence/ringfence/xacml/Decision"), accessFlags := 18, slot := 3, constantValue := 0 }, { name := "indeterminate", type := (.object "com/example/ringfence/ringfence/xacml/Decision"), accessFlags := 18, slot := 4, constantValue := 0 }, { name := "$VALUES", type := (.array (.object "com/example/ringfence/ringfence/xacml/Effect")), accessFlags := 4122, slot := 2, constantValue := 0 }]
  methods := #[k6m0, k6m1]
  instanceTypes := #[(.object "java/lang/String"), .int, .int, (.object "com/example/ringfence/ringfence/xacml/Decision"), (.object "com/example/ringfence/ringfence/xacml/Decision")]
  staticTypes := #[(.object "com/example/ringfence/ringfence/xacml/Effect"), (.object "com/example/ringfence/ringfence/xacml/Effect"), (.array (.object "com/example/ringfence/ringfence/xacml/Effect"))]
  resolved := Array.replicate 98 none
  statics := some 0 }

def pool7 : Array CpInfo := pool [(1, .class_ 2), (0, u "com/example/ringfence/ringfence/xacml/Decision"), (2, u "PERMIT"), (0, u "Lcom/example/ringfence/ringfence/xacml/Decision;"), (2, u "DENY"), (2, u "NOT_APPLICABLE"), (2, u "INDETERMINATE_D"), (2, u "INDETERMINATE_P"), (2, u "INDETERMINATE_DP"), (2, u "$VALUES"), (0, u "[Lcom/example/ringfence/ringfence/xacml/Decision;"), (6, .class_ 34), (1, u "java/lang/Enum"), (8, u "xmlName"), (0, u "Ljava/lang/String;")] 37

/-- com/example/ringfence/ringfence/xacml/Decision -/
def k7 : Class := { plain "com/example/ringfence/ringfence/xacml/Decision" (some 5) with
  accessFlags := 16433
  interfaces := #[]
  cf := some (fileOf pool7 1 #[] #[] 16433 32 #[] #[{ accessFlags := 16409, nameIndex := 5, descriptorIndex := 6, attributes := #[] }, { accessFlags := 16409, nameIndex := 9, descriptorIndex := 6, attributes := #[] }, { accessFlags := 16409, nameIndex := 12, descriptorIndex := 6, attributes := #[] }, { accessFlags := 16409, nameIndex := 15, descriptorIndex := 6, attributes := #[] }, { accessFlags := 16409, nameIndex := 18, descriptorIndex := 6, attributes := #[] }, { accessFlags := 16409, nameIndex := 21, descriptorIndex := 6, attributes := #[] }, { accessFlags := 18, nameIndex := 43, descriptorIndex := 44, attributes := #[] }, { accessFlags := 4122, nameIndex := 24, descriptorIndex := 25, attributes := #[] }])
  fields := #[{ name := "PERMIT", type := (.object "com/example/ringfence/ringfence/xacml/Decision"), accessFlags := 16409, slot := 0, constantValue := 0 }, { name := "DENY", type := (.object "com/example/ringfence/ringfence/xacml/Decision"), accessFlags := 16409, slot := 1, constantValue := 0 }, { name := "NOT_APPLICABLE", type := (.object "com/example/ringfence/ringfence/xacml/Decision"), accessFlags := 16409, slot := 2, constantValue := 0 }, { name := "INDETERMINATE_D", type := (.object "com/example/ringfence/ringfence/xacml/Decision"), accessFlags := 16409, slot := 3, constantValue := 0 }, { name := "INDETERMINATE_P", type := (.object "com/example/ringfence/ringfence/xacml/Decision"), accessFlags := 16409, slot := 4, constantValue := 0 }, { name := "INDETERMINATE_DP", type := (.object "com/example/ringfence/ringfence/xacml/Decision"), accessFlags := 16409, slot := 5, constantValue := 0 }, { name := "xmlName", type := (.object "java/lang/String"), accessFlags := 18, slot := 3, constantValue := 0 }, { name := "$VALUES", type := (.array (.object "com/example/ringfence/ringfence/xacml/Decision")), accessFlags := 4122, slot := 6, constantValue := 0 }]
  methods := #[]
  instanceTypes := #[(.object "java/lang/String"), .int, .int, (.object "java/lang/String")]
  staticTypes := #[(.object "com/example/ringfence/ringfence/xacml/Decision"), (.object "com/example/ringfence/ringfence/xacml/Decision"), (.object "com/example/ringfence/ringfence/xacml/Decision"), (.object "com/example/ringfence/ringfence/xacml/Decision"), (.object "com/example/ringfence/ringfence/xacml/Decision"), (.object "com/example/ringfence/ringfence/xacml/Decision"), (.array (.object "com/example/ringfence/ringfence/xacml/Decision"))]
  resolved := Array.replicate 82 none
  statics := some 1 }

def pool8 : Array CpInfo := pool [(1, u "java/lang/Cloneable"), (0, .class_ 1), (0, u "java/lang/Object"), (0, .class_ 3)] 3

/-- java/lang/Cloneable -/
def k8 : Class := { plain "java/lang/Cloneable" (some 0) with
  accessFlags := 1537
  interfaces := #[]
  cf := some (fileOf pool8 2 #[] #[] 1537 4 #[] #[])
  fields := #[]
  methods := #[]
  instanceTypes := #[]
  staticTypes := #[]
  resolved := Array.replicate 8 none
  statics := none }

/-- the primitive byte -/
def k9 : Class := { plain "byte" none with kind := .primitive 'B', accessFlags := 0x411 }
/-- [B -/
def k10 : Class := { plain "[B" (some 0) with kind := .array 9 .byte, interfaces := #[8, 4], accessFlags := 1041 }

def heap : Heap := #[{ cls := 6, slots := #[.ref 2, .ref 3, .null], vm := .statics 6 },
  { cls := 7, slots := #[.ref 4, .ref 5, .null, .null, .null, .null, .null], vm := .statics 7 },
  { cls := 6, slots := #[.null, .int 0, .int 0, .ref 4, .null], vm := .none },
  { cls := 6, slots := #[.null, .int 1, .int 0, .ref 5, .null], vm := .none },
  { cls := 7, slots := #[.null, .int 0, .int 0, .null], vm := .none },
  { cls := 7, slots := #[.null, .int 1, .int 0, .null], vm := .none }]
def classes : Array Class := #[k0, k1, k2, k3, k4, k5, k6, k7, k8, k9, k10]
def interned : List (Array UInt16 × Addr) := []
def slotsUsed : Nat := 28
def theMethod : MethodId := ⟨1, 1⟩
def args0 : Array Value := #[.int 5]
def aboutOver (below : List Frame) : State where
  vm := { classes := classes, interned := interned.toArray }
  heap := heap
  slotsUsed := slotsUsed
  threads := #[{ frames := .invoking theMethod args0 :: below }]
def below0 : List Frame := [.native { method := ⟨0, 0⟩, args := #[] }]
def about1 : State := aboutOver below0
def p0 : Program := .bare "" "" ""
def e0 : Env := launch0.env 0 0 0
theorem w_frames : about1.frames = Frame.invoking theMethod args0 :: below0 := rfl
set_option maxRecDepth 65536 in
theorem w_args : argsFit about1.vm theMethod args0 = true := by decide +kernel
set_option maxRecDepth 65536 in
theorem w_heap : heapFits about1 = true := by decide +kernel
set_option maxRecDepth 65536 in
theorem w_runnable : about1.curStatus? = some .runnable := by decide +kernel
set_option maxRecDepth 65536 in
theorem w_alone : about1.alone = true := by decide +kernel
set_option maxRecDepth 65536 in
theorem w_named : about1.methodNamed? x = some theMethod := by decide +kernel
set_option maxRecDepth 65536 in
theorem w_hears : about1.hears theMethod below0 = true := by decide +kernel
set_option maxRecDepth 65536 in
theorem w_ripe : about1.ripe theMethod args0 below0 = true := by decide +kernel
theorem w_running : about1.status = .running := rfl
set_option maxRecDepth 65536 in
theorem w_room : about1.hasRoom e0.platform room_1 = true :=
  launch0.hasRoom_least _ room_1 (by decide +kernel) (by decide +kernel) (by decide +kernel) (by decide +kernel) (by decide +kernel) (by decide +kernel)
theorem allAtoms_all (ts : List Jvm.Cond) (a : Array Jvm.Value) (st : Jvm.State) : (allAtoms ts).before a st = ts.all (fun c => c.before a st) := by
  induction ts with
  | nil => rfl
  | cons c t ih =>
    show (Jvm.Cond.and c (allAtoms t)).before a st = _
    rw [Jvm.Cond.before_and, ih, List.all_cons]
def words1 : List Jvm.Cond := Jvm.Cond.code x code maxLocals ret :: tables_1
/-- a 'code' word, met by the world's own term for the bytes: nothing is compared byte by byte -/
theorem code_word {y : MethodName} {bytes : ByteArray} {mx : Nat} {rt : Option FieldType} {a : Array Value} {s : State} {m : MethodId} {meth : Method} {c : Code} (h1 : s.methodNamed? y = some m) (h2 : s.vm.method? m = some meth) (h3 : meth.code = some c) (h4 : c.code = bytes)
    (h5 : (c.maxLocals == mx && c.exceptionTable.isEmpty && decide (c.maxStack ≤ mostOperands) && decide (meth.sig.returnType = rt) && !meth.locks && decide (parseMethodDescriptor y.desc = some meth.sig)) = true) : (Jvm.Cond.code y bytes mx rt).before a s = true := by
  simp only [Bool.and_eq_true, beq_iff_eq, Bool.not_eq_true', decide_eq_true_eq] at h5
  obtain ⟨⟨⟨⟨⟨g1, g2⟩, g3⟩, g4⟩, g5⟩, g6⟩ := h5
  simp [Cond.before, Cond.holds, Cond.value, h1, h2, h3, h4, g1, g2, g3, g4, g5, g6]
def isCode : Jvm.Cond → Bool
  | .code _ _ _ _ => true
  | _ => false
theorem all_split {L : List Jvm.Cond} {P : Jvm.Cond → Bool} (h1 : L.all (fun c => isCode c || P c) = true) (h2 : ∀ c ∈ L.filter isCode, P c = true) : L.all P = true := by
  refine List.all_eq_true.mpr fun c hc => ?_
  have h := List.all_eq_true.mp h1 c hc
  rcases Bool.eq_false_or_eq_true (isCode c) with hi | hi
  · exact h2 c (List.mem_filter.mpr ⟨hc, hi⟩)
  · simpa [hi] using h
set_option maxRecDepth 65536 in
theorem w_c0 : (Jvm.Cond.code x code maxLocals ret).before args0 about1 = true := code_word (m := ⟨1, 1⟩) (meth := k1m1) (c := k1c1) (by decide +kernel) rfl rfl rfl (by decide +kernel)
set_option maxRecDepth 65536 in
theorem w_c1 : (Jvm.Cond.code ({ cls := "com/example/ringfence/ringfence/xacml/Effect", name := "opposite", desc := "()Lcom/example/ringfence/ringfence/xacml/Effect;" } : Jvm.MethodName) prog_56_method_6_code (1 : Nat) (Option.some (Jvm.ClassFile.FieldType.object "com/example/ringfence/ringfence/xacml/Effect"))).before args0 about1 = true := code_word (m := ⟨6, 1⟩) (meth := k6m1) (c := k6c1) (by decide +kernel) rfl rfl rfl (by decide +kernel)
set_option maxRecDepth 65536 in
theorem w_c2 : (Jvm.Cond.code ({ cls := "com/example/ringfence/ringfence/xacml/Effect", name := "decision", desc := "()Lcom/example/ringfence/ringfence/xacml/Decision;" } : Jvm.MethodName) prog_56_method_4_code (1 : Nat) (Option.some (Jvm.ClassFile.FieldType.object "com/example/ringfence/ringfence/xacml/Decision"))).before args0 about1 = true := code_word (m := ⟨6, 0⟩) (meth := k6m0) (c := k6c0) (by decide +kernel) rfl rfl rfl (by decide +kernel)
def codes1 : List Jvm.Cond := [Jvm.Cond.code x code maxLocals ret, Jvm.Cond.code ({ cls := "com/example/ringfence/ringfence/xacml/Effect", name := "opposite", desc := "()Lcom/example/ringfence/ringfence/xacml/Effect;" } : Jvm.MethodName) prog_56_method_6_code (1 : Nat) (Option.some (Jvm.ClassFile.FieldType.object "com/example/ringfence/ringfence/xacml/Effect")), Jvm.Cond.code ({ cls := "com/example/ringfence/ringfence/xacml/Effect", name := "decision", desc := "()Lcom/example/ringfence/ringfence/xacml/Decision;" } : Jvm.MethodName) prog_56_method_4_code (1 : Nat) (Option.some (Jvm.ClassFile.FieldType.object "com/example/ringfence/ringfence/xacml/Decision"))]
set_option maxRecDepth 65536 in
theorem codes_eq : words1.filter isCode = codes1 := rfl
theorem w_codes : ∀ c ∈ words1.filter isCode, c.before args0 about1 = true := by
  rw [codes_eq]
  intro c hc
  simp only [codes1, List.mem_cons, List.not_mem_nil, or_false] at hc
  rcases hc with rfl | rfl | rfl
  · exact w_c0
  · exact w_c1
  · exact w_c2
set_option maxRecDepth 65536 in
theorem w_t1 : (words1.take 24).all (fun c => isCode c || c.before args0 about1) = true := by decide +kernel
set_option maxRecDepth 65536 in
theorem w_t2 : (words1.drop 24).all (fun c => isCode c || c.before args0 about1) = true := by decide +kernel
theorem w_tables : (allAtoms (Jvm.Cond.code x code maxLocals ret :: tables_1)).before args0 about1 = true := by
  rw [allAtoms_all]
  show words1.all (fun c => c.before args0 about1) = true
  refine all_split ?_ w_codes
  rw [← List.take_append_drop 24 words1, List.all_append, w_t1, w_t2]
  rfl
set_option maxRecDepth 65536 in
theorem w_case : (Jvm.Cond.and given_1 narrow_1).before args0 about1 = true := by decide +kernel
theorem w_applies : (headSpec (Jvm.Cond.code x code maxLocals ret :: tables_1) room_1).applies x e0.platform about1 = true :=
  (Spec.applies_iff w_frames).mpr ⟨w_running, w_runnable, w_alone, w_named, w_hears, w_ripe, w_room, w_tables⟩
theorem atStart : AtStart classFile x code maxLocals ret World_1 tables_1 room_1 Calls_1 rest_1 Pre_1 launch0 p0 e0 about1 theMethod args0 below0 :=
  ⟨lists_1, trivial, launch0.admits_env _ _ _, launch0.least_env, fairChoices_fair.cas, fairChoices_fair.clock, w_frames, w_args, w_heap, w_applies, trivial, trivial, w_case⟩
end start1
theorem witness_1 : WitnessClaimed_1 := ⟨start1.p0, start1.e0, start1.about1, start1.theMethod, start1.args0, start1.below0, start1.atStart⟩
end Jvm.Pilot.@@N@@
