import JvmDerived
import JvmDerived.Pilot.@@N@@Statement
import JvmDerived.Pilot.@@N@@Code
set_option linter.unusedVariables false
set_option linter.unusedSimpArgs false
namespace Jvm.RoadKit
open Sem ClassFile Op Lib Jvm.Stand Jvm.Free Jvm.LawKit
section New
variable {p : Program} {l : Launch} {e : Env} {R : Room} {s : State} {m : MethodId} {args : Array Value} {below : List Frame} {meth : Method} {c : Code} {T : State} {locs : List Loc} {cells slots : Nat}
theorem retI (X : Stand p l e R s m args below meth c T locs cells slots) (hx : p.tables.exec = Jvm.exec) {pc : Nat} {Ls : Array Slot} {z : Int32} {rest : List Value} (hret : meth.sig.returnType = some .int) (hd : decode c.code pc = .ok (.ireturn, 1)) {fs : List Frame}
    (hl : ∀ (f : JFrame) (acts : List Action), f.method = m → f.locked = none → f.entered = [] → (doReturn e (T.setTop f) acts (some (.int z))).1 = T.setFrames fs) : Steps p.tables e below (T.setTop (mkF m pc Ls (.int z :: rest))) (T.setFrames fs) := by
  have hm' : T.vm.method? m = some meth := X.method'
  have hn : narrow .int (.int z) = .int z := rfl
  show Steps p.tables e below (T.setTop { method := m, pc := pc, locals := Ls, stack := _ :: rest, locked := none }) _
  jvm_step X.here [X.here.top, hx, hd, hm', hret, hn]
  first | (intro acts; rw [hl _ acts rfl rfl rfl]) | rw [hl _ _ rfl rfl rfl]
  exact Steps.refl _
end New
end Jvm.RoadKit
namespace Jvm.Pilot.@@N@@
open Jvm Jvm.ClassFile Sem Op Lib Jvm.Free Jvm.Stand Jvm.LawKit Jvm.RoadKit Bundle Jvm.Pilot.@@N@@.Jvm.D
def Qr (r : Value) (h0 : Heap) (n0 : Nat) (v : Option Value) (h : Heap) (L : List Loc) : Prop := v = some r ∧ Fr n0 L ∧ h = h0
theorem own_ne {args : Array Value} {s : State} {t1 t2 : Term} {C n d : String} {a b : Addr} {i j : Int32} (h1 : t1.eval args s none [] s = some (.ref a)) (h2 : t2.eval args s none [] s = some (.ref b))
    (e1 : (Cond.eq (.field t1 C n d) (.int i)).value args s none s [] = some true) (e2 : (Cond.eq (.field t2 C n d) (.int j)).value args s none s [] = some true) (hij : i ≠ j) : ¬ (a = b) := by
  intro h; subst h
  cases hf : s.fieldOf? a C n d with
  | none => simp [Cond.value, Term.eval, h1, hf] at e1
  | some v =>
    cases v <;> simp [Cond.value, Term.eval, h1, h2, hf] at e1 e2
    exact hij (e1.symm.trans e2)
theorem own_fo {args : Array Value} {s : State} {t1 : Term} {C n d : String} {a : Addr} {i : Int32} (h1 : t1.eval args s none [] s = some (.ref a))
    (e1 : (Cond.eq (.field t1 C n d) (.int i)).value args s none s [] = some true) : s.fieldOf? a C n d = some (.int i) := by
  cases hf : s.fieldOf? a C n d with
  | none => simp [Cond.value, Term.eval, h1, hf] at e1
  | some v =>
    cases v <;> simp [Cond.value, Term.eval, h1, hf] at e1
    rw [e1]
theorem d2_0 : decode prog_25_method_6_code 0 = .ok (.aload_n 0, 1) := by decide +kernel
theorem d2_1 : decode prog_25_method_6_code 1 = .ok (.getstatic 19, 3) := by decide +kernel
theorem d2_4 : decode prog_25_method_6_code 4 = .ok (.if_acmp .ne 21, 3) := by decide +kernel
theorem d2_25 : decode prog_25_method_6_code 25 = .ok (.lload_n 1, 1) := by decide +kernel
theorem d2_26 : decode prog_25_method_6_code 26 = .ok (.lreturn, 1) := by decide +kernel
theorem pn_2 : plainName "com/example/solotick/solotick/schedule/CronField" = true := by first | (simp [plainName, overriddenIn]; done) | decide +kernel
theorem ef_2 (m : MethodId) (x0 : Addr) (x1 : Int64) : entryFrame m #[(.ref x0), (.long x1)] 3 = mkF m 0 #[.val (.ref x0), .val (.long x1), .second] [] := by first | (simp [entryFrame, mkF, argsToLocals, Value.category]; done) | rfl
set_option maxRecDepth 65536 in
set_option maxHeartbeats 40000000 in
theorem rm2t (l : Launch) (Z : State) (a0 : Array Value) (hw : ∀ d ∈ tables_1, d.before a0 Z = true) (ws : List Jvm.Cond) (a1 : Addr) (q2 : Int64) (w3 : Addr) (h0 : Heap) (n0 : Nat) (Z0 : n0 ≤ h0.size) (S_DAY_OF_WEEK : Sta Z h0 "com/example/solotick/solotick/schedule/CronField" "DAY_OF_WEEK" "Lcom/example/solotick/solotick/schedule/CronField;" (.ref w3)) (ha4 : ¬ (a1 = w3)) :
    MetFree l (⟨"com/example/solotick/solotick/schedule/CronField", "fold", "(J)J"⟩ : MethodName) (head1 (Jvm.Cond.code (⟨"com/example/solotick/solotick/schedule/CronField", "fold", "(J)J"⟩ : MethodName) prog_25_method_6_code 3 (some .long) :: ws) ({ frames := 0, cells := 0, slots := 0, locals := 0 } : Room)) (fun a U => a = #[(.ref a1), (.long q2)] ∧ Z.Warmed39 U.vm ∧ U.heap = h0) (fun _ _ _ _ _ => True) (fun _ U o U' => ∃ v L, o = .returned v ∧ Qr (.long q2) h0 n0 v U'.heap L ∧ FrameEnd U o U' L ({ frames := 0, cells := 0, slots := 0, locals := 0 } : Room).cells ({ frames := 0, cells := 0, slots := 0, locals := 0 } : Room).slots) := by
  refine MetFree.of_bodySF (plainFor_of_name pn_2) hisR ?_
  intro p e s m args below meth c s₁ Bd hml0 hP hK
  obtain ⟨rfl, hZ, hh⟩ := hP
  have hx := Bd.exec
  have hby := Bd.bytes
  have hml : c.maxLocals = 3 := hml0
  have hown : s.vm.findClass "com/example/solotick/solotick/schedule/CronField" = some m.cls := findClass_of_methodNamed Bd.named
  have hnm := (name_of_methodNamed Bd.named Bd.method).1
  have X0 : Stand p l e ({ frames := 0, cells := 0, slots := 0, locals := 0 } : Room) s m #[(.ref a1), (.long q2)] below meth c s₁ [] 0 0 := Stand.of_body Bd
  have e0 : s₁.heap = h0 := by rw [← hh, Bd.state]; rfl
  have N0 := Fr.nil n0
  have pre0 : ∀ t, Steps p.tables e below (s₁.setTop (mkF m 0 #[.val (.ref a1), .val (.long q2), .second] [])) t → Steps p.tables e below (s₁.setTop (entryFrame m #[(.ref a1), (.long q2)] 3)) t := fun t k => castTop (ef_2 m a1 q2) k
  obtain ⟨T4, X4, e4, st4⟩ := getS2 X0 hx hZ hown (host := "") (Or.inl (hw _ (List.mem_of_getElem? (i := 19) rfl))) Via.refl e0 S_DAY_OF_WEEK (g := (mkF m 1 #[.val (.ref a1), .val (.long q2), .second] [(.ref a1)])) rfl (hb hby d2_1)
  obtain ⟨fs, hr, hrun, hended, hW, hsame⟩ := X4.leave (v := some (.long q2)) (fun h => by rw [Bd.returns] at h; cases h)
  refine ⟨_, _, pre0 _ ?_, hrun, hended, _, _, rfl, ?_, ⟨_, rfl⟩, hW, hsame.mono (by decide) (by decide)⟩
  · show Steps p.tables e below (s₁.setTop (mkF m 0 #[.val (.ref a1), .val (.long q2), .second] [])) _
    refine XS.aloadN X0.here hx rfl (hb hby d2_0) rfl rfl ?_
    show Steps p.tables e below (s₁.setTop (mkF m 1 #[.val (.ref a1), .val (.long q2), .second] [(.ref a1)])) _
    refine st4 _ ?_
    show Steps p.tables e below (T4.setTop (mkF m 4 #[.val (.ref a1), .val (.long q2), .second] [(.ref w3), (.ref a1)])) _
    refine Jvm.RoadKit.acmp (g := (mkF m 4 #[.val (.ref a1), .val (.long q2), .second] [(.ref w3), (.ref a1)])) X4 hx rfl rfl rfl (pc0 := 4) (pc' := 25) (same := false) rfl (hb hby d2_4) rfl (decide_eq_false fun q => ha4 (Value.ref.inj q)) (by decide) (by decide) ?_
    show Steps p.tables e below (T4.setTop (mkF m 25 #[.val (.ref a1), .val (.long q2), .second] [])) _
    refine XS.lloadN X4.here hx rfl (hb hby d2_25) rfl ?_
    show Steps p.tables e below (T4.setTop (mkF m 26 #[.val (.ref a1), .val (.long q2), .second] [(.long q2)])) _
    jvm_step X4.here [X4.here.top, hx, (hb hby d2_26), X4.method', Bd.returns, narrow]
    first | (intro acts; rw [hr _ acts rfl rfl rfl]) | rw [hr _ _ rfl rfl rfl]
    exact Steps.refl _
  · show Qr (.long q2) h0 n0 _ T4.heap _
    rw [e4]
    exact ⟨rfl, N0, rfl⟩
theorem d2_7 : decode prog_25_method_6_code 7 = .ok (.lload_n 1, 1) := by decide +kernel
theorem d2_8 : decode prog_25_method_6_code 8 = .ok (.ldc2_w 114, 3) := by decide +kernel
theorem d2_11 : decode prog_25_method_6_code 11 = .ok (.land, 1) := by decide +kernel
theorem d2_12 : decode prog_25_method_6_code 12 = .ok (.lconst 0, 1) := by decide +kernel
theorem d2_13 : decode prog_25_method_6_code 13 = .ok (.lcmp, 1) := by decide +kernel
theorem d2_14 : decode prog_25_method_6_code 14 = .ok (.ifCond .eq 11, 3) := by decide +kernel
theorem d2_17 : decode prog_25_method_6_code 17 = .ok (.lload_n 1, 1) := by decide +kernel
theorem d2_18 : decode prog_25_method_6_code 18 = .ok (.ldc2_w 116, 3) := by decide +kernel
theorem d2_21 : decode prog_25_method_6_code 21 = .ok (.land, 1) := by decide +kernel
theorem d2_22 : decode prog_25_method_6_code 22 = .ok (.lconst 1, 1) := by decide +kernel
theorem d2_23 : decode prog_25_method_6_code 23 = .ok (.lor, 1) := by decide +kernel
theorem d2_24 : decode prog_25_method_6_code 24 = .ok (.lreturn, 1) := by decide +kernel
set_option maxRecDepth 65536 in
set_option maxHeartbeats 40000000 in
theorem rm2d (l : Launch) (Z : State) (a0 : Array Value) (hw : ∀ d ∈ tables_1, d.before a0 Z = true) (ws : List Jvm.Cond) (a1 : Addr) (q2 : Int64) (w3 : Addr) (h0 : Heap) (n0 : Nat) (Z0 : n0 ≤ h0.size) (S_DAY_OF_WEEK : Sta Z h0 "com/example/solotick/solotick/schedule/CronField" "DAY_OF_WEEK" "Lcom/example/solotick/solotick/schedule/CronField;" (.ref w3)) (ha4 : a1 = w3) (hc14 : ¬ ((lcmpW (q2 &&& (128 : Int64)) (0 : Int64)) = (0 : Int32))) :
    MetFree l (⟨"com/example/solotick/solotick/schedule/CronField", "fold", "(J)J"⟩ : MethodName) (head1 (Jvm.Cond.code (⟨"com/example/solotick/solotick/schedule/CronField", "fold", "(J)J"⟩ : MethodName) prog_25_method_6_code 3 (some .long) :: ws) ({ frames := 0, cells := 0, slots := 0, locals := 0 } : Room)) (fun a U => a = #[(.ref a1), (.long q2)] ∧ Z.Warmed39 U.vm ∧ U.heap = h0) (fun _ _ _ _ _ => True) (fun _ U o U' => ∃ v L, o = .returned v ∧ Qr (.long ((q2 &&& (-129 : Int64)) ||| (1 : Int64))) h0 n0 v U'.heap L ∧ FrameEnd U o U' L ({ frames := 0, cells := 0, slots := 0, locals := 0 } : Room).cells ({ frames := 0, cells := 0, slots := 0, locals := 0 } : Room).slots) := by
  refine MetFree.of_bodySF (plainFor_of_name pn_2) hisR ?_
  intro p e s m args below meth c s₁ Bd hml0 hP hK
  obtain ⟨rfl, hZ, hh⟩ := hP
  have hx := Bd.exec
  have hby := Bd.bytes
  have hml : c.maxLocals = 3 := hml0
  have hown : s.vm.findClass "com/example/solotick/solotick/schedule/CronField" = some m.cls := findClass_of_methodNamed Bd.named
  have hnm := (name_of_methodNamed Bd.named Bd.method).1
  have X0 : Stand p l e ({ frames := 0, cells := 0, slots := 0, locals := 0 } : Room) s m #[(.ref a1), (.long q2)] below meth c s₁ [] 0 0 := Stand.of_body Bd
  have e0 : s₁.heap = h0 := by rw [← hh, Bd.state]; rfl
  have N0 := Fr.nil n0
  have pre0 : ∀ t, Steps p.tables e below (s₁.setTop (mkF m 0 #[.val (.ref a1), .val (.long q2), .second] [])) t → Steps p.tables e below (s₁.setTop (entryFrame m #[(.ref a1), (.long q2)] 3)) t := fun t k => castTop (ef_2 m a1 q2) k
  obtain ⟨T4, X4, e4, st4⟩ := getS2 X0 hx hZ hown (host := "") (Or.inl (hw _ (List.mem_of_getElem? (i := 19) rfl))) Via.refl e0 S_DAY_OF_WEEK (g := (mkF m 1 #[.val (.ref a1), .val (.long q2), .second] [(.ref a1)])) rfl (hb hby d2_1)
  obtain ⟨fs, hr, hrun, hended, hW, hsame⟩ := X4.leave (v := some (.long ((q2 &&& (-129 : Int64)) ||| (1 : Int64)))) (fun h => by rw [Bd.returns] at h; cases h)
  refine ⟨_, _, pre0 _ ?_, hrun, hended, _, _, rfl, ?_, ⟨_, rfl⟩, hW, hsame.mono (by decide) (by decide)⟩
  · show Steps p.tables e below (s₁.setTop (mkF m 0 #[.val (.ref a1), .val (.long q2), .second] [])) _
    refine XS.aloadN X0.here hx rfl (hb hby d2_0) rfl rfl ?_
    show Steps p.tables e below (s₁.setTop (mkF m 1 #[.val (.ref a1), .val (.long q2), .second] [(.ref a1)])) _
    refine st4 _ ?_
    show Steps p.tables e below (T4.setTop (mkF m 4 #[.val (.ref a1), .val (.long q2), .second] [(.ref w3), (.ref a1)])) _
    refine Jvm.RoadKit.acmp (g := (mkF m 4 #[.val (.ref a1), .val (.long q2), .second] [(.ref w3), (.ref a1)])) X4 hx rfl rfl rfl (pc0 := 4) (pc' := 7) (same := true) rfl (hb hby d2_4) rfl (decide_eq_true (congrArg Value.ref ha4)) (by decide) (by decide) ?_
    show Steps p.tables e below (T4.setTop (mkF m 7 #[.val (.ref a1), .val (.long q2), .second] [])) _
    refine XS.lloadN X4.here hx rfl (hb hby d2_7) rfl ?_
    show Steps p.tables e below (T4.setTop (mkF m 8 #[.val (.ref a1), .val (.long q2), .second] [(.long q2)])) _
    refine X4.ldc2Long hx hown (mvT hZ (hw _ (List.mem_of_getElem? (i := 31) rfl))) (g := (mkF m 8 #[.val (.ref a1), .val (.long q2), .second] [(.long q2)])) rfl (hb hby d2_8) _ ?_
    show Steps p.tables e below (T4.setTop (mkF m 11 #[.val (.ref a1), .val (.long q2), .second] [(.long (128 : Int64)), (.long q2)])) _
    refine XS.land X4.here hx rfl (hb hby d2_11) rfl ?_
    show Steps p.tables e below (T4.setTop (mkF m 12 #[.val (.ref a1), .val (.long q2), .second] [(.long (q2 &&& (128 : Int64)))])) _
    refine XS.lconst X4.here hx rfl (hb hby d2_12) ?_
    show Steps p.tables e below (T4.setTop (mkF m 13 #[.val (.ref a1), .val (.long q2), .second] [(.long (0 : Int64)), (.long (q2 &&& (128 : Int64)))])) _
    refine XS.lcmp X4.here hx rfl (hb hby d2_13) rfl ?_
    show Steps p.tables e below (T4.setTop (mkF m 14 #[.val (.ref a1), .val (.long q2), .second] [(.int (lcmpW (q2 &&& (128 : Int64)) (0 : Int64)))])) _
    refine XS.ifNo X4.here hx rfl (hb hby d2_14) rfl ((if0 _ _).trans (feq hc14).1) ?_
    show Steps p.tables e below (T4.setTop (mkF m 17 #[.val (.ref a1), .val (.long q2), .second] [])) _
    refine XS.lloadN X4.here hx rfl (hb hby d2_17) rfl ?_
    show Steps p.tables e below (T4.setTop (mkF m 18 #[.val (.ref a1), .val (.long q2), .second] [(.long q2)])) _
    refine X4.ldc2Long hx hown (mvT hZ (hw _ (List.mem_of_getElem? (i := 32) rfl))) (g := (mkF m 18 #[.val (.ref a1), .val (.long q2), .second] [(.long q2)])) rfl (hb hby d2_18) _ ?_
    show Steps p.tables e below (T4.setTop (mkF m 21 #[.val (.ref a1), .val (.long q2), .second] [(.long (-129 : Int64)), (.long q2)])) _
    refine XS.land X4.here hx rfl (hb hby d2_21) rfl ?_
    show Steps p.tables e below (T4.setTop (mkF m 22 #[.val (.ref a1), .val (.long q2), .second] [(.long (q2 &&& (-129 : Int64)))])) _
    refine XS.lconst X4.here hx rfl (hb hby d2_22) ?_
    show Steps p.tables e below (T4.setTop (mkF m 23 #[.val (.ref a1), .val (.long q2), .second] [(.long (1 : Int64)), (.long (q2 &&& (-129 : Int64)))])) _
    refine XS.lor X4.here hx rfl (hb hby d2_23) rfl ?_
    show Steps p.tables e below (T4.setTop (mkF m 24 #[.val (.ref a1), .val (.long q2), .second] [(.long ((q2 &&& (-129 : Int64)) ||| (1 : Int64)))])) _
    jvm_step X4.here [X4.here.top, hx, (hb hby d2_24), X4.method', Bd.returns, narrow]
    first | (intro acts; rw [hr _ acts rfl rfl rfl]) | rw [hr _ _ rfl rfl rfl]
    exact Steps.refl _
  · show Qr (.long ((q2 &&& (-129 : Int64)) ||| (1 : Int64))) h0 n0 _ T4.heap _
    rw [e4]
    exact ⟨rfl, N0, rfl⟩
def own_m (w2 w4 : Int32) : Int64 := ((((-1 : Int64).toUInt64 >>> (((63 : Int32) - w2) &&& 0x3f).toInt64.toUInt64).toInt64) &&& ((-1 : Int64) <<< (w4 &&& 0x3f).toInt64))
theorem own_selp {s : State} {args : Array Value} (h8 : (Cond.selects "com/example/solotick/solotick/schedule/CronField" (⟨"com/example/solotick/solotick/schedule/CronField", "all", "()J"⟩ : MethodName) (⟨"com/example/solotick/solotick/schedule/CronField", "all", "()J"⟩ : MethodName)).before args s = true) (hpriv : s.PrivateAt (⟨"com/example/solotick/solotick/schedule/CronField", "fold", "(J)J"⟩ : MethodName)) (hinst : (Cond.instanceMethod (⟨"com/example/solotick/solotick/schedule/CronField", "fold", "(J)J"⟩ : MethodName)).before args s = true) :
    (Cond.selects "com/example/solotick/solotick/schedule/CronField" (⟨"com/example/solotick/solotick/schedule/CronField", "fold", "(J)J"⟩ : MethodName) (⟨"com/example/solotick/solotick/schedule/CronField", "fold", "(J)J"⟩ : MethodName)).before args s = true := by
  obtain ⟨c2, r2, m2, -, -, q3, -, kP, hkP, hkPi⟩ := Cond.selects_spec h8
  have hc : s.vm.findClass "com/example/solotick/solotick/schedule/CronField" = some m2.cls := findClass_of_methodNamed q3
  exact selects_self_of_private (y := (⟨"com/example/solotick/solotick/schedule/CronField", "fold", "(J)J"⟩ : MethodName)) (c := m2.cls) hc hkP hkPi hpriv hinst (by decide)
theorem d1_0 : decode prog_25_method_4_code 0 = .ok (.aload_n 0, 1) := by decide +kernel
theorem d1_1 : decode prog_25_method_4_code 1 = .ok (.ldc2_w 62, 3) := by decide +kernel
theorem d1_4 : decode prog_25_method_4_code 4 = .ok (.bipush 63, 2) := by decide +kernel
theorem d1_6 : decode prog_25_method_4_code 6 = .ok (.aload_n 0, 1) := by decide +kernel
theorem d1_7 : decode prog_25_method_4_code 7 = .ok (.getfield 49, 3) := by decide +kernel
theorem d1_10 : decode prog_25_method_4_code 10 = .ok (.isub, 1) := by decide +kernel
theorem d1_11 : decode prog_25_method_4_code 11 = .ok (.lushr, 1) := by decide +kernel
theorem d1_12 : decode prog_25_method_4_code 12 = .ok (.ldc2_w 62, 3) := by decide +kernel
theorem d1_15 : decode prog_25_method_4_code 15 = .ok (.aload_n 0, 1) := by decide +kernel
theorem d1_16 : decode prog_25_method_4_code 16 = .ok (.getfield 45, 3) := by decide +kernel
theorem d1_19 : decode prog_25_method_4_code 19 = .ok (.lshl, 1) := by decide +kernel
theorem d1_20 : decode prog_25_method_4_code 20 = .ok (.land, 1) := by decide +kernel
theorem d1_21 : decode prog_25_method_4_code 21 = .ok (.invokevirtual 64, 3) := by decide +kernel
theorem d1_24 : decode prog_25_method_4_code 24 = .ok (.lreturn, 1) := by decide +kernel
theorem pn_1 : plainName "com/example/solotick/solotick/schedule/CronField" = true := by first | (simp [plainName, overriddenIn]; done) | decide +kernel
theorem pd_1_1 : parseMethodDescriptor "(J)J" = some ⟨[.long], some .long⟩ := by decide +kernel
theorem ef_1 (m : MethodId) (x0 : Addr) : entryFrame m #[(.ref x0)] 1 = mkF m 0 #[.val (.ref x0)] [] := by first | (simp [entryFrame, mkF, argsToLocals, Value.category]; done) | rfl
set_option maxRecDepth 65536 in
set_option maxHeartbeats 40000000 in
theorem rm1n (l : Launch) (Z : State) (a0 : Array Value) (hw : ∀ d ∈ tables_1, d.before a0 Z = true) (ws : List Jvm.Cond) (a1 : Addr) (w2 : Int32) (w4 : Int32) (h0 : Heap) (n0 : Nat) (Z0 : n0 ≤ h0.size) (F_max_a1 : Fld Z h0 a1 "com/example/solotick/solotick/schedule/CronField" "max" "I" (.int w2)) (F_min_a1 : Fld Z h0 a1 "com/example/solotick/solotick/schedule/CronField" "min" "I" (.int w4)) (E_a1 : Exa Z h0 a1 "com/example/solotick/solotick/schedule/CronField") (w9 : Addr) (S9 : Sta Z h0 "com/example/solotick/solotick/schedule/CronField" "DAY_OF_WEEK" "Lcom/example/solotick/solotick/schedule/CronField;" (.ref w9)) (ne9 : ¬ (a1 = w9)) :
    MetFree l (⟨"com/example/solotick/solotick/schedule/CronField", "all", "()J"⟩ : MethodName) (head1 (Jvm.Cond.code (⟨"com/example/solotick/solotick/schedule/CronField", "all", "()J"⟩ : MethodName) prog_25_method_4_code 1 (some .long) :: ws) ({ frames := 1, cells := 0, slots := 0, locals := 14 } : Room)) (fun a U => a = #[(.ref a1)] ∧ Z.Warmed39 U.vm ∧ U.heap = h0) (fun _ _ _ _ _ => True) (fun _ U o U' => ∃ v L, o = .returned v ∧ Qr (.long (own_m w2 w4)) h0 n0 v U'.heap L ∧ FrameEnd U o U' L ({ frames := 1, cells := 0, slots := 0, locals := 14 } : Room).cells ({ frames := 1, cells := 0, slots := 0, locals := 14 } : Room).slots) := by
  refine MetFree.of_bodySF (plainFor_of_name pn_1) hisR ?_
  intro p e s m args below meth c s₁ Bd hml0 hP hK
  obtain ⟨rfl, hZ, hh⟩ := hP
  have hx := Bd.exec
  have hby := Bd.bytes
  have hml : c.maxLocals = 1 := hml0
  have hown : s.vm.findClass "com/example/solotick/solotick/schedule/CronField" = some m.cls := findClass_of_methodNamed Bd.named
  have hnm := (name_of_methodNamed Bd.named Bd.method).1
  have X0 : Stand p l e ({ frames := 1, cells := 0, slots := 0, locals := 14 } : Room) s m #[(.ref a1)] below meth c s₁ [] 0 0 := Stand.of_body Bd
  have e0 : s₁.heap = h0 := by rw [← hh, Bd.state]; rfl
  have N0 := Fr.nil n0
  have pre0 : ∀ t, Steps p.tables e below (s₁.setTop (mkF m 0 #[.val (.ref a1)] [])) t → Steps p.tables e below (s₁.setTop (entryFrame m #[(.ref a1)] 1)) t := fun t k => castTop (ef_1 m a1) k
  obtain ⟨T3, X3, e3, st3⟩ := getF X0 hx hZ hown (host := "") (Or.inl (hw _ (List.mem_of_getElem? (i := 11) rfl))) Via.refl e0 F_max_a1 (g := (mkF m 7 #[.val (.ref a1)] [(.ref a1), (.int (63 : Int32)), (.long (-1 : Int64)), (.ref a1)])) rfl rfl (hb hby d1_7)
  obtain ⟨T5, X5, e5, st5⟩ := getF X3 hx hZ hown (host := "") (Or.inl (hw _ (List.mem_of_getElem? (i := 13) rfl))) Via.refl e3 F_min_a1 (g := (mkF m 16 #[.val (.ref a1)] [(.ref a1), (.long (-1 : Int64)), (.long (((-1 : Int64).toUInt64 >>> (((63 : Int32) - w2) &&& 0x3f).toInt64.toUInt64).toInt64)), (.ref a1)])) rfl rfl (hb hby d1_16)
  obtain ⟨cq6, q6, q6'⟩ := E_a1.cell
  obtain ⟨_, _, ⟨T6, L6, k6, n6⟩, -, X6, ⟨Lc6, hQ6, l6, y6, z6⟩, st6⟩ := X5.privateBack hx (y := (⟨"com/example/solotick/solotick/schedule/CronField", "fold", "(J)J"⟩ : MethodName)) hown (mvT hZ (hw _ (List.mem_of_getElem? (i := 15) rfl))) (mvT hZ (hw _ (List.mem_of_getElem? (i := 16) rfl))) (own_selp (mvT hZ (hw _ (List.mem_of_getElem? (i := 8) rfl))) (Cond.privateMethod_at (mvP hZ (hw _ (List.mem_of_getElem? (i := 17) rfl)) (args := #[]))) (mvT hZ (hw _ (List.mem_of_getElem? (i := 16) rfl)))) (Cond.privateMethod_at (mvP hZ (hw _ (List.mem_of_getElem? (i := 17) rfl)) (args := #[]))) (mvT hZ (hw _ (List.mem_of_getElem? (i := 18) rfl))) (by decide) (backOf (W := 0) (rm2t l Z a0 hw [] a1 ((((-1 : Int64).toUInt64 >>> (((63 : Int32) - w2) &&& 0x3f).toInt64.toUInt64).toInt64) &&& ((-1 : Int64) <<< (w4 &&& 0x3f).toInt64)) w9 h0 n0 Z0 S9 ne9) hZ (hw _ (List.mem_of_getElem? (i := 18) rfl)) (hw _ (List.mem_of_getElem? (i := 2) rfl)) (by decide) (by decide)) (g := (mkF m 21 #[.val (.ref a1)] [(.long ((((-1 : Int64).toUInt64 >>> (((63 : Int32) - w2) &&& 0x3f).toInt64.toUInt64).toInt64) &&& ((-1 : Int64) <<< (w4 &&& 0x3f).toInt64))), (.ref a1)])) rfl (by rw [hml]; rfl) (Steps.refl _) (a := a1) (by rw [e5]; exact q6) q6' (argsL := [(.long ((((-1 : Int64).toUInt64 >>> (((63 : Int32) - w2) &&& 0x3f).toInt64.toUInt64).toInt64) &&& ((-1 : Int64) <<< (w4 &&& 0x3f).toInt64)))]) (rest := []) (lenOf pd_1_1 rfl) rfl (by show 2 * 0 + _ ≤ _; exact Nat.le_of_eq rfl) (hb hby d1_21) (fun _ _ => ⟨rfl, e5, (by decide : 0 + 0 ≤ _), (by decide : 0 + 0 ≤ _)⟩)
  dsimp only [Pt.U, Pt.locs, Pt.cells, Pt.slots] at X6 l6 y6 z6 st6 hQ6
  subst l6 y6 z6
  obtain ⟨rfl, N6q, e6⟩ := hQ6
  have N6 := Fr.app N0 N6q
  obtain ⟨fs, hr, hrun, hended, hW, hsame⟩ := X6.leave (v := some (.long (own_m w2 w4))) (fun h => by rw [Bd.returns] at h; cases h)
  refine ⟨_, _, pre0 _ ?_, hrun, hended, _, _, rfl, ?_, ⟨_, rfl⟩, hW, hsame.mono (by decide) (by decide)⟩
  · show Steps p.tables e below (s₁.setTop (mkF m 0 #[.val (.ref a1)] [])) _
    refine XS.aloadN X0.here hx rfl (hb hby d1_0) rfl rfl ?_
    show Steps p.tables e below (s₁.setTop (mkF m 1 #[.val (.ref a1)] [(.ref a1)])) _
    refine X0.ldc2Long hx hown (mvT hZ (hw _ (List.mem_of_getElem? (i := 10) rfl))) (g := (mkF m 1 #[.val (.ref a1)] [(.ref a1)])) rfl (hb hby d1_1) _ ?_
    show Steps p.tables e below (s₁.setTop (mkF m 4 #[.val (.ref a1)] [(.long (-1 : Int64)), (.ref a1)])) _
    refine XS.bipush X0.here hx rfl (hb hby d1_4) ?_
    show Steps p.tables e below (s₁.setTop (mkF m 6 #[.val (.ref a1)] [(.int (63 : Int32)), (.long (-1 : Int64)), (.ref a1)])) _
    refine XS.aloadN X0.here hx rfl (hb hby d1_6) rfl rfl ?_
    show Steps p.tables e below (s₁.setTop (mkF m 7 #[.val (.ref a1)] [(.ref a1), (.int (63 : Int32)), (.long (-1 : Int64)), (.ref a1)])) _
    refine st3 _ ?_
    show Steps p.tables e below (T3.setTop (mkF m 10 #[.val (.ref a1)] [(.int w2), (.int (63 : Int32)), (.long (-1 : Int64)), (.ref a1)])) _
    refine XS.isub X3.here hx rfl (hb hby d1_10) rfl ?_
    show Steps p.tables e below (T3.setTop (mkF m 11 #[.val (.ref a1)] [(.int ((63 : Int32) - w2)), (.long (-1 : Int64)), (.ref a1)])) _
    refine XS.lushr X3.here hx rfl (hb hby d1_11) rfl ?_
    show Steps p.tables e below (T3.setTop (mkF m 12 #[.val (.ref a1)] [(.long (((-1 : Int64).toUInt64 >>> (((63 : Int32) - w2) &&& 0x3f).toInt64.toUInt64).toInt64)), (.ref a1)])) _
    refine X3.ldc2Long hx hown (mvT hZ (hw _ (List.mem_of_getElem? (i := 10) rfl))) (g := (mkF m 12 #[.val (.ref a1)] [(.long (((-1 : Int64).toUInt64 >>> (((63 : Int32) - w2) &&& 0x3f).toInt64.toUInt64).toInt64)), (.ref a1)])) rfl (hb hby d1_12) _ ?_
    show Steps p.tables e below (T3.setTop (mkF m 15 #[.val (.ref a1)] [(.long (-1 : Int64)), (.long (((-1 : Int64).toUInt64 >>> (((63 : Int32) - w2) &&& 0x3f).toInt64.toUInt64).toInt64)), (.ref a1)])) _
    refine XS.aloadN X3.here hx rfl (hb hby d1_15) rfl rfl ?_
    show Steps p.tables e below (T3.setTop (mkF m 16 #[.val (.ref a1)] [(.ref a1), (.long (-1 : Int64)), (.long (((-1 : Int64).toUInt64 >>> (((63 : Int32) - w2) &&& 0x3f).toInt64.toUInt64).toInt64)), (.ref a1)])) _
    refine st5 _ ?_
    show Steps p.tables e below (T5.setTop (mkF m 19 #[.val (.ref a1)] [(.int w4), (.long (-1 : Int64)), (.long (((-1 : Int64).toUInt64 >>> (((63 : Int32) - w2) &&& 0x3f).toInt64.toUInt64).toInt64)), (.ref a1)])) _
    refine XS.lshl X5.here hx rfl (hb hby d1_19) rfl ?_
    show Steps p.tables e below (T5.setTop (mkF m 20 #[.val (.ref a1)] [(.long ((-1 : Int64) <<< (w4 &&& 0x3f).toInt64)), (.long (((-1 : Int64).toUInt64 >>> (((63 : Int32) - w2) &&& 0x3f).toInt64.toUInt64).toInt64)), (.ref a1)])) _
    refine XS.land X5.here hx rfl (hb hby d1_20) rfl ?_
    show Steps p.tables e below (T5.setTop (mkF m 21 #[.val (.ref a1)] [(.long ((((-1 : Int64).toUInt64 >>> (((63 : Int32) - w2) &&& 0x3f).toInt64.toUInt64).toInt64) &&& ((-1 : Int64) <<< (w4 &&& 0x3f).toInt64))), (.ref a1)])) _
    refine st6.trans ?_
    show Steps p.tables e below (T6.setTop (mkF m 24 #[.val (.ref a1)] [(.long (own_m w2 w4))])) _
    jvm_step X6.here [X6.here.top, hx, (hb hby d1_24), X6.method', Bd.returns, narrow]
    first | (intro acts; rw [hr _ acts rfl rfl rfl]) | rw [hr _ _ rfl rfl rfl]
    exact Steps.refl _
  · show Qr (.long (own_m w2 w4)) h0 n0 _ T6.heap _
    exact ⟨rfl, N6, e6⟩
set_option maxRecDepth 65536 in
set_option maxHeartbeats 40000000 in
theorem rm1d (l : Launch) (Z : State) (a0 : Array Value) (hw : ∀ d ∈ tables_1, d.before a0 Z = true) (ws : List Jvm.Cond) (a1 : Addr) (w2 : Int32) (w4 : Int32) (h0 : Heap) (n0 : Nat) (Z0 : n0 ≤ h0.size) (F_max_a1 : Fld Z h0 a1 "com/example/solotick/solotick/schedule/CronField" "max" "I" (.int w2)) (F_min_a1 : Fld Z h0 a1 "com/example/solotick/solotick/schedule/CronField" "min" "I" (.int w4)) (E_a1 : Exa Z h0 a1 "com/example/solotick/solotick/schedule/CronField") (S9 : Sta Z h0 "com/example/solotick/solotick/schedule/CronField" "DAY_OF_WEEK" "Lcom/example/solotick/solotick/schedule/CronField;" (.ref a1)) (hc9 : ¬ ((lcmpW ((own_m w2 w4) &&& (128 : Int64)) (0 : Int64)) = (0 : Int32))) :
    MetFree l (⟨"com/example/solotick/solotick/schedule/CronField", "all", "()J"⟩ : MethodName) (head1 (Jvm.Cond.code (⟨"com/example/solotick/solotick/schedule/CronField", "all", "()J"⟩ : MethodName) prog_25_method_4_code 1 (some .long) :: ws) ({ frames := 1, cells := 0, slots := 0, locals := 14 } : Room)) (fun a U => a = #[(.ref a1)] ∧ Z.Warmed39 U.vm ∧ U.heap = h0) (fun _ _ _ _ _ => True) (fun _ U o U' => ∃ v L, o = .returned v ∧ Qr (.long (((own_m w2 w4) &&& (-129 : Int64)) ||| (1 : Int64))) h0 n0 v U'.heap L ∧ FrameEnd U o U' L ({ frames := 1, cells := 0, slots := 0, locals := 14 } : Room).cells ({ frames := 1, cells := 0, slots := 0, locals := 14 } : Room).slots) := by
  refine MetFree.of_bodySF (plainFor_of_name pn_1) hisR ?_
  intro p e s m args below meth c s₁ Bd hml0 hP hK
  obtain ⟨rfl, hZ, hh⟩ := hP
  have hx := Bd.exec
  have hby := Bd.bytes
  have hml : c.maxLocals = 1 := hml0
  have hown : s.vm.findClass "com/example/solotick/solotick/schedule/CronField" = some m.cls := findClass_of_methodNamed Bd.named
  have hnm := (name_of_methodNamed Bd.named Bd.method).1
  have X0 : Stand p l e ({ frames := 1, cells := 0, slots := 0, locals := 14 } : Room) s m #[(.ref a1)] below meth c s₁ [] 0 0 := Stand.of_body Bd
  have e0 : s₁.heap = h0 := by rw [← hh, Bd.state]; rfl
  have N0 := Fr.nil n0
  have pre0 : ∀ t, Steps p.tables e below (s₁.setTop (mkF m 0 #[.val (.ref a1)] [])) t → Steps p.tables e below (s₁.setTop (entryFrame m #[(.ref a1)] 1)) t := fun t k => castTop (ef_1 m a1) k
  obtain ⟨T3, X3, e3, st3⟩ := getF X0 hx hZ hown (host := "") (Or.inl (hw _ (List.mem_of_getElem? (i := 11) rfl))) Via.refl e0 F_max_a1 (g := (mkF m 7 #[.val (.ref a1)] [(.ref a1), (.int (63 : Int32)), (.long (-1 : Int64)), (.ref a1)])) rfl rfl (hb hby d1_7)
  obtain ⟨T5, X5, e5, st5⟩ := getF X3 hx hZ hown (host := "") (Or.inl (hw _ (List.mem_of_getElem? (i := 13) rfl))) Via.refl e3 F_min_a1 (g := (mkF m 16 #[.val (.ref a1)] [(.ref a1), (.long (-1 : Int64)), (.long (((-1 : Int64).toUInt64 >>> (((63 : Int32) - w2) &&& 0x3f).toInt64.toUInt64).toInt64)), (.ref a1)])) rfl rfl (hb hby d1_16)
  obtain ⟨cq6, q6, q6'⟩ := E_a1.cell
  obtain ⟨_, _, ⟨T6, L6, k6, n6⟩, -, X6, ⟨Lc6, hQ6, l6, y6, z6⟩, st6⟩ := X5.privateBack hx (y := (⟨"com/example/solotick/solotick/schedule/CronField", "fold", "(J)J"⟩ : MethodName)) hown (mvT hZ (hw _ (List.mem_of_getElem? (i := 15) rfl))) (mvT hZ (hw _ (List.mem_of_getElem? (i := 16) rfl))) (own_selp (mvT hZ (hw _ (List.mem_of_getElem? (i := 8) rfl))) (Cond.privateMethod_at (mvP hZ (hw _ (List.mem_of_getElem? (i := 17) rfl)) (args := #[]))) (mvT hZ (hw _ (List.mem_of_getElem? (i := 16) rfl)))) (Cond.privateMethod_at (mvP hZ (hw _ (List.mem_of_getElem? (i := 17) rfl)) (args := #[]))) (mvT hZ (hw _ (List.mem_of_getElem? (i := 18) rfl))) (by decide) (backOf (W := 0) (rm2d l Z a0 hw [] a1 ((((-1 : Int64).toUInt64 >>> (((63 : Int32) - w2) &&& 0x3f).toInt64.toUInt64).toInt64) &&& ((-1 : Int64) <<< (w4 &&& 0x3f).toInt64)) a1 h0 n0 Z0 S9 rfl hc9) hZ (hw _ (List.mem_of_getElem? (i := 18) rfl)) (hw _ (List.mem_of_getElem? (i := 2) rfl)) (by decide) (by decide)) (g := (mkF m 21 #[.val (.ref a1)] [(.long ((((-1 : Int64).toUInt64 >>> (((63 : Int32) - w2) &&& 0x3f).toInt64.toUInt64).toInt64) &&& ((-1 : Int64) <<< (w4 &&& 0x3f).toInt64))), (.ref a1)])) rfl (by rw [hml]; rfl) (Steps.refl _) (a := a1) (by rw [e5]; exact q6) q6' (argsL := [(.long ((((-1 : Int64).toUInt64 >>> (((63 : Int32) - w2) &&& 0x3f).toInt64.toUInt64).toInt64) &&& ((-1 : Int64) <<< (w4 &&& 0x3f).toInt64)))]) (rest := []) (lenOf pd_1_1 rfl) rfl (by show 2 * 0 + _ ≤ _; exact Nat.le_of_eq rfl) (hb hby d1_21) (fun _ _ => ⟨rfl, e5, (by decide : 0 + 0 ≤ _), (by decide : 0 + 0 ≤ _)⟩)
  dsimp only [Pt.U, Pt.locs, Pt.cells, Pt.slots] at X6 l6 y6 z6 st6 hQ6
  subst l6 y6 z6
  obtain ⟨rfl, N6q, e6⟩ := hQ6
  have N6 := Fr.app N0 N6q
  obtain ⟨fs, hr, hrun, hended, hW, hsame⟩ := X6.leave (v := some (.long (((own_m w2 w4) &&& (-129 : Int64)) ||| (1 : Int64)))) (fun h => by rw [Bd.returns] at h; cases h)
  refine ⟨_, _, pre0 _ ?_, hrun, hended, _, _, rfl, ?_, ⟨_, rfl⟩, hW, hsame.mono (by decide) (by decide)⟩
  · show Steps p.tables e below (s₁.setTop (mkF m 0 #[.val (.ref a1)] [])) _
    refine XS.aloadN X0.here hx rfl (hb hby d1_0) rfl rfl ?_
    show Steps p.tables e below (s₁.setTop (mkF m 1 #[.val (.ref a1)] [(.ref a1)])) _
    refine X0.ldc2Long hx hown (mvT hZ (hw _ (List.mem_of_getElem? (i := 10) rfl))) (g := (mkF m 1 #[.val (.ref a1)] [(.ref a1)])) rfl (hb hby d1_1) _ ?_
    show Steps p.tables e below (s₁.setTop (mkF m 4 #[.val (.ref a1)] [(.long (-1 : Int64)), (.ref a1)])) _
    refine XS.bipush X0.here hx rfl (hb hby d1_4) ?_
    show Steps p.tables e below (s₁.setTop (mkF m 6 #[.val (.ref a1)] [(.int (63 : Int32)), (.long (-1 : Int64)), (.ref a1)])) _
    refine XS.aloadN X0.here hx rfl (hb hby d1_6) rfl rfl ?_
    show Steps p.tables e below (s₁.setTop (mkF m 7 #[.val (.ref a1)] [(.ref a1), (.int (63 : Int32)), (.long (-1 : Int64)), (.ref a1)])) _
    refine st3 _ ?_
    show Steps p.tables e below (T3.setTop (mkF m 10 #[.val (.ref a1)] [(.int w2), (.int (63 : Int32)), (.long (-1 : Int64)), (.ref a1)])) _
    refine XS.isub X3.here hx rfl (hb hby d1_10) rfl ?_
    show Steps p.tables e below (T3.setTop (mkF m 11 #[.val (.ref a1)] [(.int ((63 : Int32) - w2)), (.long (-1 : Int64)), (.ref a1)])) _
    refine XS.lushr X3.here hx rfl (hb hby d1_11) rfl ?_
    show Steps p.tables e below (T3.setTop (mkF m 12 #[.val (.ref a1)] [(.long (((-1 : Int64).toUInt64 >>> (((63 : Int32) - w2) &&& 0x3f).toInt64.toUInt64).toInt64)), (.ref a1)])) _
    refine X3.ldc2Long hx hown (mvT hZ (hw _ (List.mem_of_getElem? (i := 10) rfl))) (g := (mkF m 12 #[.val (.ref a1)] [(.long (((-1 : Int64).toUInt64 >>> (((63 : Int32) - w2) &&& 0x3f).toInt64.toUInt64).toInt64)), (.ref a1)])) rfl (hb hby d1_12) _ ?_
    show Steps p.tables e below (T3.setTop (mkF m 15 #[.val (.ref a1)] [(.long (-1 : Int64)), (.long (((-1 : Int64).toUInt64 >>> (((63 : Int32) - w2) &&& 0x3f).toInt64.toUInt64).toInt64)), (.ref a1)])) _
    refine XS.aloadN X3.here hx rfl (hb hby d1_15) rfl rfl ?_
    show Steps p.tables e below (T3.setTop (mkF m 16 #[.val (.ref a1)] [(.ref a1), (.long (-1 : Int64)), (.long (((-1 : Int64).toUInt64 >>> (((63 : Int32) - w2) &&& 0x3f).toInt64.toUInt64).toInt64)), (.ref a1)])) _
    refine st5 _ ?_
    show Steps p.tables e below (T5.setTop (mkF m 19 #[.val (.ref a1)] [(.int w4), (.long (-1 : Int64)), (.long (((-1 : Int64).toUInt64 >>> (((63 : Int32) - w2) &&& 0x3f).toInt64.toUInt64).toInt64)), (.ref a1)])) _
    refine XS.lshl X5.here hx rfl (hb hby d1_19) rfl ?_
    show Steps p.tables e below (T5.setTop (mkF m 20 #[.val (.ref a1)] [(.long ((-1 : Int64) <<< (w4 &&& 0x3f).toInt64)), (.long (((-1 : Int64).toUInt64 >>> (((63 : Int32) - w2) &&& 0x3f).toInt64.toUInt64).toInt64)), (.ref a1)])) _
    refine XS.land X5.here hx rfl (hb hby d1_20) rfl ?_
    show Steps p.tables e below (T5.setTop (mkF m 21 #[.val (.ref a1)] [(.long ((((-1 : Int64).toUInt64 >>> (((63 : Int32) - w2) &&& 0x3f).toInt64.toUInt64).toInt64) &&& ((-1 : Int64) <<< (w4 &&& 0x3f).toInt64))), (.ref a1)])) _
    refine st6.trans ?_
    show Steps p.tables e below (T6.setTop (mkF m 24 #[.val (.ref a1)] [(.long (((own_m w2 w4) &&& (-129 : Int64)) ||| (1 : Int64)))])) _
    jvm_step X6.here [X6.here.top, hx, (hb hby d1_24), X6.method', Bd.returns, narrow]
    first | (intro acts; rw [hr _ acts rfl rfl rfl]) | rw [hr _ _ rfl rfl rfl]
    exact Steps.refl _
  · show Qr (.long (((own_m w2 w4) &&& (-129 : Int64)) ||| (1 : Int64))) h0 n0 _ T6.heap _
    exact ⟨rfl, N6, e6⟩
theorem pn_0 : plainName "com/example/solotick/solotick/schedule/CronFieldAllPinLaw" = true := by first | (simp [plainName, overriddenIn]; done) | decide +kernel
theorem pd_0_0 : parseMethodDescriptor "()J" = some ⟨[], some .long⟩ := by decide +kernel
theorem ef_0 (m : MethodId) (x0 : Int32) : entryFrame m #[(.int x0)] maxLocals = mkF m 0 #[.val (.int x0), .unset, .unset, .unset, .unset] [] := by first | (simp [entryFrame, mkF, argsToLocals, Value.category, maxLocals]; done) | rfl
def Q00 (Z : State) (p1 : Int32) (w2 : Addr) (h0 : Heap) (n0 : Nat) (v : Option Value) (h : Heap) (L : List Loc) : Prop := v = some (.int (1 : Int32)) ∧ Fr n0 L
set_option maxRecDepth 65536 in
set_option maxHeartbeats 40000000 in
theorem rm00 (l : Launch) (Z : State) (a0 : Array Value) (hw : ∀ d ∈ tables_1, d.before a0 Z = true) (ws : List Jvm.Cond) (p1 : Int32) (w2 : Addr) (h0 : Heap) (n0 : Nat) (Z0 : n0 ≤ h0.size) (S_SECOND : Sta Z h0 "com/example/solotick/solotick/schedule/CronField" "SECOND" "Lcom/example/solotick/solotick/schedule/CronField;" (.ref w2)) (E_w2 : Exa Z h0 w2 "com/example/solotick/solotick/schedule/CronField") (F_max : Fld Z h0 w2 "com/example/solotick/solotick/schedule/CronField" "max" "I" (.int (59 : Int32))) (F_min : Fld Z h0 w2 "com/example/solotick/solotick/schedule/CronField" "min" "I" (.int (0 : Int32))) (w9 : Addr) (S9 : Sta Z h0 "com/example/solotick/solotick/schedule/CronField" "DAY_OF_WEEK" "Lcom/example/solotick/solotick/schedule/CronField;" (.ref w9)) (ne9 : ¬ (w2 = w9)) (hc9 : ((p1 &&& (2147483647 : Int32)) % (6 : Int32)) = (0 : Int32)) :
    MetFree l x (head1 (Jvm.Cond.code x code maxLocals ret :: ws) room_1) (fun a U => a = #[(.int p1)] ∧ Z.Warmed39 U.vm ∧ U.heap = h0) (fun _ _ _ _ _ => True) (fun _ U o U' => ∃ v L, o = .returned v ∧ Q00 Z p1 w2 h0 n0 v U'.heap L ∧ FrameEnd U o U' L room_1.cells room_1.slots) := by
  refine MetFree.of_bodySF (plainFor_of_name pn_0) hisR ?_
  intro p e s m args below meth c s₁ Bd hml0 hP hK
  obtain ⟨rfl, hZ, hh⟩ := hP
  have hx := Bd.exec
  have hby := Bd.bytes
  have hml : c.maxLocals = 5 := hml0
  have hown : s.vm.findClass "com/example/solotick/solotick/schedule/CronFieldAllPinLaw" = some m.cls := findClass_of_methodNamed Bd.named
  have hnm := (name_of_methodNamed Bd.named Bd.method).1
  have X0 : Stand p l e room_1 s m #[(.int p1)] below meth c s₁ [] 0 0 := Stand.of_body Bd
  have e0 : s₁.heap = h0 := by rw [← hh, Bd.state]; rfl
  have N0 := Fr.nil n0
  have pre0 : ∀ t, Steps p.tables e below (s₁.setTop (mkF m 0 #[.val (.int p1), .unset, .unset, .unset, .unset] [])) t → Steps p.tables e below (s₁.setTop (entryFrame m #[(.int p1)] maxLocals)) t := fun t k => castTop (ef_0 m p1) k
  obtain ⟨T3, X3, e3, st3⟩ := getS2 X0 hx hZ hown (host := "") (Or.inl (hw _ (List.mem_of_getElem? (i := 1) rfl))) Via.refl e0 S_SECOND (g := (mkF m 12 #[.val (.int p1), .val (.int ((p1 &&& (2147483647 : Int32)) % (6 : Int32))), .unset, .unset, .unset] [])) rfl (hb hby at_12)
  obtain ⟨cq4, kq4, q4a, q4b, q4c⟩ := isOf hZ e3 E_w2
  obtain ⟨_, _, ⟨T4, L4, k4, n4⟩, -, X4, ⟨Lc4, hQ4, l4, y4, z4⟩, st4⟩ := X3.virtualBack hx (y := (⟨"com/example/solotick/solotick/schedule/CronField", "all", "()J"⟩ : MethodName)) (z := (⟨"com/example/solotick/solotick/schedule/CronField", "all", "()J"⟩ : MethodName)) hown (mvT hZ (hw _ (List.mem_of_getElem? (i := 5) rfl))) (mvT hZ (hw _ (List.mem_of_getElem? (i := 6) rfl))) (notFace_of_selects (args := #[]) (mvT hZ (hw _ (List.mem_of_getElem? (i := 8) rfl)))) (mvT hZ (hw _ (List.mem_of_getElem? (i := 8) rfl))) (mvT hZ (hw _ (List.mem_of_getElem? (i := 7) rfl))) (by decide) (backOf (W := 0) (rm1n l Z a0 hw [] w2 59 0 h0 n0 Z0 F_max F_min E_w2 w9 S9 ne9) hZ (hw _ (List.mem_of_getElem? (i := 9) rfl)) (hw _ (List.mem_of_getElem? (i := 2) rfl)) (by decide) (by decide)) q4a q4c (g := (mkF m 96 #[.val (.int p1), .val (.int ((p1 &&& (2147483647 : Int32)) % (6 : Int32))), .val (.ref w2), .val (.long (1152921504606846975 : Int64)), .second] [(.ref w2)])) rfl (by rw [hml]; rfl) (Steps.refl _) (argsL := []) (rest := []) (lenOf pd_0_0 rfl) rfl (by show 2 * 0 + _ ≤ _; exact Nat.le_of_eq rfl) (hb hby at_96) (fun _ _ => ⟨rfl, e3, (by decide : 0 + 0 ≤ _), (by decide : 0 + 0 ≤ _)⟩)
  dsimp only [Pt.U, Pt.locs, Pt.cells, Pt.slots] at X4 l4 y4 z4 st4 hQ4
  subst l4 y4 z4
  obtain ⟨rfl, N4q, e4⟩ := hQ4
  have N4 := Fr.app N0 N4q
  obtain ⟨fs, hr, hrun, hended, hW, hsame⟩ := X4.leave (v := some (.int (1 : Int32))) (fun h => by rw [Bd.returns] at h; cases h)
  refine ⟨_, _, pre0 _ ?_, hrun, hended, _, _, rfl, ?_, ⟨_, rfl⟩, hW, hsame.mono (by decide) (by decide)⟩
  · show Steps p.tables e below (s₁.setTop (mkF m 0 #[.val (.int p1), .unset, .unset, .unset, .unset] [])) _
    refine XS.iloadN X0.here hx rfl (hb hby at_0) rfl ?_
    show Steps p.tables e below (s₁.setTop (mkF m 1 #[.val (.int p1), .unset, .unset, .unset, .unset] [(.int p1)])) _
    refine X0.ldcInt hx hown (mvT hZ (hw _ (List.mem_of_getElem? (i := 0) rfl))) (g := (mkF m 1 #[.val (.int p1), .unset, .unset, .unset, .unset] [(.int p1)])) rfl (hb hby at_1) _ ?_
    show Steps p.tables e below (s₁.setTop (mkF m 3 #[.val (.int p1), .unset, .unset, .unset, .unset] [(.int (2147483647 : Int32)), (.int p1)])) _
    refine XS.iand X0.here hx rfl (hb hby at_3) rfl ?_
    show Steps p.tables e below (s₁.setTop (mkF m 4 #[.val (.int p1), .unset, .unset, .unset, .unset] [(.int (p1 &&& (2147483647 : Int32)))])) _
    refine XS.bipush X0.here hx rfl (hb hby at_4) ?_
    show Steps p.tables e below (s₁.setTop (mkF m 6 #[.val (.int p1), .unset, .unset, .unset, .unset] [(.int (6 : Int32)), (.int (p1 &&& (2147483647 : Int32)))])) _
    refine iremM X0 hx rfl (hb hby at_6) rfl (by decide) ?_
    show Steps p.tables e below (s₁.setTop (mkF m 7 #[.val (.int p1), .unset, .unset, .unset, .unset] [(.int ((p1 &&& (2147483647 : Int32)) % (6 : Int32)))])) _
    refine XS.istoreN X0.here hx rfl (hb hby at_7) rfl (l' := #[.val (.int p1), .val (.int ((p1 &&& (2147483647 : Int32)) % (6 : Int32))), .unset, .unset, .unset]) rfl ?_
    show Steps p.tables e below (s₁.setTop (mkF m 8 #[.val (.int p1), .val (.int ((p1 &&& (2147483647 : Int32)) % (6 : Int32))), .unset, .unset, .unset] [])) _
    refine XS.iloadN X0.here hx rfl (hb hby at_8) rfl ?_
    show Steps p.tables e below (s₁.setTop (mkF m 9 #[.val (.int p1), .val (.int ((p1 &&& (2147483647 : Int32)) % (6 : Int32))), .unset, .unset, .unset] [(.int ((p1 &&& (2147483647 : Int32)) % (6 : Int32)))])) _
    refine XS.ifNo X0.here hx rfl (hb hby at_9) rfl ((if0 _ _).trans (teq hc9).2) ?_
    show Steps p.tables e below (s₁.setTop (mkF m 12 #[.val (.int p1), .val (.int ((p1 &&& (2147483647 : Int32)) % (6 : Int32))), .unset, .unset, .unset] [])) _
    refine st3 _ ?_
    show Steps p.tables e below (T3.setTop (mkF m 15 #[.val (.int p1), .val (.int ((p1 &&& (2147483647 : Int32)) % (6 : Int32))), .unset, .unset, .unset] [(.ref w2)])) _
    refine XS.astoreN X3.here hx rfl (hb hby at_15) rfl rfl (l' := #[.val (.int p1), .val (.int ((p1 &&& (2147483647 : Int32)) % (6 : Int32))), .val (.ref w2), .unset, .unset]) rfl ?_
    show Steps p.tables e below (T3.setTop (mkF m 16 #[.val (.int p1), .val (.int ((p1 &&& (2147483647 : Int32)) % (6 : Int32))), .val (.ref w2), .unset, .unset] [])) _
    refine X3.ldc2Long hx hown (mvT hZ (hw _ (List.mem_of_getElem? (i := 4) rfl))) (g := (mkF m 16 #[.val (.int p1), .val (.int ((p1 &&& (2147483647 : Int32)) % (6 : Int32))), .val (.ref w2), .unset, .unset] [])) rfl (hb hby at_16) _ ?_
    show Steps p.tables e below (T3.setTop (mkF m 19 #[.val (.int p1), .val (.int ((p1 &&& (2147483647 : Int32)) % (6 : Int32))), .val (.ref w2), .unset, .unset] [(.long (1152921504606846975 : Int64))])) _
    refine XS.lstoreN X3.here hx rfl (hb hby at_19) rfl (l' := #[.val (.int p1), .val (.int ((p1 &&& (2147483647 : Int32)) % (6 : Int32))), .val (.ref w2), .val (.long (1152921504606846975 : Int64)), .second]) rfl ?_
    show Steps p.tables e below (T3.setTop (mkF m 20 #[.val (.int p1), .val (.int ((p1 &&& (2147483647 : Int32)) % (6 : Int32))), .val (.ref w2), .val (.long (1152921504606846975 : Int64)), .second] [])) _
    refine XS.goto X3.here hx rfl (pc0 := 20) (pc' := 95) rfl (hb hby at_20) (by decide) (by decide) ?_
    show Steps p.tables e below (T3.setTop (mkF m 95 #[.val (.int p1), .val (.int ((p1 &&& (2147483647 : Int32)) % (6 : Int32))), .val (.ref w2), .val (.long (1152921504606846975 : Int64)), .second] [])) _
    refine XS.aloadN X3.here hx rfl (hb hby at_95) rfl rfl ?_
    show Steps p.tables e below (T3.setTop (mkF m 96 #[.val (.int p1), .val (.int ((p1 &&& (2147483647 : Int32)) % (6 : Int32))), .val (.ref w2), .val (.long (1152921504606846975 : Int64)), .second] [(.ref w2)])) _
    refine st4.trans ?_
    show Steps p.tables e below (T4.setTop (mkF m 99 #[.val (.int p1), .val (.int ((p1 &&& (2147483647 : Int32)) % (6 : Int32))), .val (.ref w2), .val (.long (1152921504606846975 : Int64)), .second] [(.long (own_m (59 : Int32) (0 : Int32)))])) _
    refine XS.lloadN X4.here hx rfl (hb hby at_99) rfl ?_
    show Steps p.tables e below (T4.setTop (mkF m 100 #[.val (.int p1), .val (.int ((p1 &&& (2147483647 : Int32)) % (6 : Int32))), .val (.ref w2), .val (.long (1152921504606846975 : Int64)), .second] [(.long (1152921504606846975 : Int64)), (.long (own_m (59 : Int32) (0 : Int32)))])) _
    refine XS.lcmp X4.here hx rfl (hb hby at_100) rfl ?_
    show Steps p.tables e below (T4.setTop (mkF m 101 #[.val (.int p1), .val (.int ((p1 &&& (2147483647 : Int32)) % (6 : Int32))), .val (.ref w2), .val (.long (1152921504606846975 : Int64)), .second] [(.int (lcmpW (own_m (59 : Int32) (0 : Int32)) (1152921504606846975 : Int64)))])) _
    refine XS.ifNo X4.here hx rfl (hb hby at_101) rfl ((if0 _ _).trans (teq (by decide +kernel : (lcmpW (own_m (59 : Int32) (0 : Int32)) (1152921504606846975 : Int64)) = (0 : Int32))).2) ?_
    show Steps p.tables e below (T4.setTop (mkF m 104 #[.val (.int p1), .val (.int ((p1 &&& (2147483647 : Int32)) % (6 : Int32))), .val (.ref w2), .val (.long (1152921504606846975 : Int64)), .second] [])) _
    refine XS.iconst X4.here hx rfl (hb hby at_104) ?_
    show Steps p.tables e below (T4.setTop (mkF m 105 #[.val (.int p1), .val (.int ((p1 &&& (2147483647 : Int32)) % (6 : Int32))), .val (.ref w2), .val (.long (1152921504606846975 : Int64)), .second] [(.int (1 : Int32))])) _
    refine XS.goto X4.here hx rfl (pc0 := 105) (pc' := 109) rfl (hb hby at_105) (by decide) (by decide) ?_
    show Steps p.tables e below (T4.setTop (mkF m 109 #[.val (.int p1), .val (.int ((p1 &&& (2147483647 : Int32)) % (6 : Int32))), .val (.ref w2), .val (.long (1152921504606846975 : Int64)), .second] [(.int (1 : Int32))])) _
    exact retN X4 hx (t := .boolean) Bd.returns (by simp) (hb hby at_109) hr
  · show Q00 Z p1 w2 h0 n0 _ T4.heap _
    exact ⟨rfl, N4⟩
def Q01 (Z : State) (p1 : Int32) (w2 : Addr) (h0 : Heap) (n0 : Nat) (v : Option Value) (h : Heap) (L : List Loc) : Prop := v = some (.int (1 : Int32)) ∧ Fr n0 L
set_option maxRecDepth 65536 in
set_option maxHeartbeats 40000000 in
theorem rm01 (l : Launch) (Z : State) (a0 : Array Value) (hw : ∀ d ∈ tables_1, d.before a0 Z = true) (ws : List Jvm.Cond) (p1 : Int32) (w2 : Addr) (h0 : Heap) (n0 : Nat) (Z0 : n0 ≤ h0.size) (S_MINUTE : Sta Z h0 "com/example/solotick/solotick/schedule/CronField" "MINUTE" "Lcom/example/solotick/solotick/schedule/CronField;" (.ref w2)) (E_w2 : Exa Z h0 w2 "com/example/solotick/solotick/schedule/CronField") (F_max : Fld Z h0 w2 "com/example/solotick/solotick/schedule/CronField" "max" "I" (.int (59 : Int32))) (F_min : Fld Z h0 w2 "com/example/solotick/solotick/schedule/CronField" "min" "I" (.int (0 : Int32))) (w9 : Addr) (S9 : Sta Z h0 "com/example/solotick/solotick/schedule/CronField" "DAY_OF_WEEK" "Lcom/example/solotick/solotick/schedule/CronField;" (.ref w9)) (ne9 : ¬ (w2 = w9)) (hc9 : ¬ (((p1 &&& (2147483647 : Int32)) % (6 : Int32)) = (0 : Int32))) (hc25 : ((p1 &&& (2147483647 : Int32)) % (6 : Int32)) = (1 : Int32)) :
    MetFree l x (head1 (Jvm.Cond.code x code maxLocals ret :: ws) room_1) (fun a U => a = #[(.int p1)] ∧ Z.Warmed39 U.vm ∧ U.heap = h0) (fun _ _ _ _ _ => True) (fun _ U o U' => ∃ v L, o = .returned v ∧ Q01 Z p1 w2 h0 n0 v U'.heap L ∧ FrameEnd U o U' L room_1.cells room_1.slots) := by
  refine MetFree.of_bodySF (plainFor_of_name pn_0) hisR ?_
  intro p e s m args below meth c s₁ Bd hml0 hP hK
  obtain ⟨rfl, hZ, hh⟩ := hP
  have hx := Bd.exec
  have hby := Bd.bytes
  have hml : c.maxLocals = 5 := hml0
  have hown : s.vm.findClass "com/example/solotick/solotick/schedule/CronFieldAllPinLaw" = some m.cls := findClass_of_methodNamed Bd.named
  have hnm := (name_of_methodNamed Bd.named Bd.method).1
  have X0 : Stand p l e room_1 s m #[(.int p1)] below meth c s₁ [] 0 0 := Stand.of_body Bd
  have e0 : s₁.heap = h0 := by rw [← hh, Bd.state]; rfl
  have N0 := Fr.nil n0
  have pre0 : ∀ t, Steps p.tables e below (s₁.setTop (mkF m 0 #[.val (.int p1), .unset, .unset, .unset, .unset] [])) t → Steps p.tables e below (s₁.setTop (entryFrame m #[(.int p1)] maxLocals)) t := fun t k => castTop (ef_0 m p1) k
  obtain ⟨T3, X3, e3, st3⟩ := getS2 X0 hx hZ hown (host := "") (Or.inl (hw _ (List.mem_of_getElem? (i := 27) rfl))) Via.refl e0 S_MINUTE (g := (mkF m 28 #[.val (.int p1), .val (.int ((p1 &&& (2147483647 : Int32)) % (6 : Int32))), .unset, .unset, .unset] [])) rfl (hb hby at_28)
  obtain ⟨cq4, kq4, q4a, q4b, q4c⟩ := isOf hZ e3 E_w2
  obtain ⟨_, _, ⟨T4, L4, k4, n4⟩, -, X4, ⟨Lc4, hQ4, l4, y4, z4⟩, st4⟩ := X3.virtualBack hx (y := (⟨"com/example/solotick/solotick/schedule/CronField", "all", "()J"⟩ : MethodName)) (z := (⟨"com/example/solotick/solotick/schedule/CronField", "all", "()J"⟩ : MethodName)) hown (mvT hZ (hw _ (List.mem_of_getElem? (i := 5) rfl))) (mvT hZ (hw _ (List.mem_of_getElem? (i := 6) rfl))) (notFace_of_selects (args := #[]) (mvT hZ (hw _ (List.mem_of_getElem? (i := 8) rfl)))) (mvT hZ (hw _ (List.mem_of_getElem? (i := 8) rfl))) (mvT hZ (hw _ (List.mem_of_getElem? (i := 7) rfl))) (by decide) (backOf (W := 0) (rm1n l Z a0 hw [] w2 59 0 h0 n0 Z0 F_max F_min E_w2 w9 S9 ne9) hZ (hw _ (List.mem_of_getElem? (i := 9) rfl)) (hw _ (List.mem_of_getElem? (i := 2) rfl)) (by decide) (by decide)) q4a q4c (g := (mkF m 96 #[.val (.int p1), .val (.int ((p1 &&& (2147483647 : Int32)) % (6 : Int32))), .val (.ref w2), .val (.long (1152921504606846975 : Int64)), .second] [(.ref w2)])) rfl (by rw [hml]; rfl) (Steps.refl _) (argsL := []) (rest := []) (lenOf pd_0_0 rfl) rfl (by show 2 * 0 + _ ≤ _; exact Nat.le_of_eq rfl) (hb hby at_96) (fun _ _ => ⟨rfl, e3, (by decide : 0 + 0 ≤ _), (by decide : 0 + 0 ≤ _)⟩)
  dsimp only [Pt.U, Pt.locs, Pt.cells, Pt.slots] at X4 l4 y4 z4 st4 hQ4
  subst l4 y4 z4
  obtain ⟨rfl, N4q, e4⟩ := hQ4
  have N4 := Fr.app N0 N4q
  obtain ⟨fs, hr, hrun, hended, hW, hsame⟩ := X4.leave (v := some (.int (1 : Int32))) (fun h => by rw [Bd.returns] at h; cases h)
  refine ⟨_, _, pre0 _ ?_, hrun, hended, _, _, rfl, ?_, ⟨_, rfl⟩, hW, hsame.mono (by decide) (by decide)⟩
  · show Steps p.tables e below (s₁.setTop (mkF m 0 #[.val (.int p1), .unset, .unset, .unset, .unset] [])) _
    refine XS.iloadN X0.here hx rfl (hb hby at_0) rfl ?_
    show Steps p.tables e below (s₁.setTop (mkF m 1 #[.val (.int p1), .unset, .unset, .unset, .unset] [(.int p1)])) _
    refine X0.ldcInt hx hown (mvT hZ (hw _ (List.mem_of_getElem? (i := 0) rfl))) (g := (mkF m 1 #[.val (.int p1), .unset, .unset, .unset, .unset] [(.int p1)])) rfl (hb hby at_1) _ ?_
    show Steps p.tables e below (s₁.setTop (mkF m 3 #[.val (.int p1), .unset, .unset, .unset, .unset] [(.int (2147483647 : Int32)), (.int p1)])) _
    refine XS.iand X0.here hx rfl (hb hby at_3) rfl ?_
    show Steps p.tables e below (s₁.setTop (mkF m 4 #[.val (.int p1), .unset, .unset, .unset, .unset] [(.int (p1 &&& (2147483647 : Int32)))])) _
    refine XS.bipush X0.here hx rfl (hb hby at_4) ?_
    show Steps p.tables e below (s₁.setTop (mkF m 6 #[.val (.int p1), .unset, .unset, .unset, .unset] [(.int (6 : Int32)), (.int (p1 &&& (2147483647 : Int32)))])) _
    refine iremM X0 hx rfl (hb hby at_6) rfl (by decide) ?_
    show Steps p.tables e below (s₁.setTop (mkF m 7 #[.val (.int p1), .unset, .unset, .unset, .unset] [(.int ((p1 &&& (2147483647 : Int32)) % (6 : Int32)))])) _
    refine XS.istoreN X0.here hx rfl (hb hby at_7) rfl (l' := #[.val (.int p1), .val (.int ((p1 &&& (2147483647 : Int32)) % (6 : Int32))), .unset, .unset, .unset]) rfl ?_
    show Steps p.tables e below (s₁.setTop (mkF m 8 #[.val (.int p1), .val (.int ((p1 &&& (2147483647 : Int32)) % (6 : Int32))), .unset, .unset, .unset] [])) _
    refine XS.iloadN X0.here hx rfl (hb hby at_8) rfl ?_
    show Steps p.tables e below (s₁.setTop (mkF m 9 #[.val (.int p1), .val (.int ((p1 &&& (2147483647 : Int32)) % (6 : Int32))), .unset, .unset, .unset] [(.int ((p1 &&& (2147483647 : Int32)) % (6 : Int32)))])) _
    refine XS.ifYes X0.here hx rfl (pc0 := 9) (pc' := 23) rfl (hb hby at_9) rfl ((if0 _ _).trans (feq hc9).2) (by decide) (by decide) ?_
    show Steps p.tables e below (s₁.setTop (mkF m 23 #[.val (.int p1), .val (.int ((p1 &&& (2147483647 : Int32)) % (6 : Int32))), .unset, .unset, .unset] [])) _
    refine XS.iloadN X0.here hx rfl (hb hby at_23) rfl ?_
    show Steps p.tables e below (s₁.setTop (mkF m 24 #[.val (.int p1), .val (.int ((p1 &&& (2147483647 : Int32)) % (6 : Int32))), .unset, .unset, .unset] [(.int ((p1 &&& (2147483647 : Int32)) % (6 : Int32)))])) _
    refine XS.iconst X0.here hx rfl (hb hby at_24) ?_
    show Steps p.tables e below (s₁.setTop (mkF m 25 #[.val (.int p1), .val (.int ((p1 &&& (2147483647 : Int32)) % (6 : Int32))), .unset, .unset, .unset] [(.int (1 : Int32)), (.int ((p1 &&& (2147483647 : Int32)) % (6 : Int32)))])) _
    refine XS.icmpNo X0.here hx rfl (hb hby at_25) rfl (teq hc25).2 ?_
    show Steps p.tables e below (s₁.setTop (mkF m 28 #[.val (.int p1), .val (.int ((p1 &&& (2147483647 : Int32)) % (6 : Int32))), .unset, .unset, .unset] [])) _
    refine st3 _ ?_
    show Steps p.tables e below (T3.setTop (mkF m 31 #[.val (.int p1), .val (.int ((p1 &&& (2147483647 : Int32)) % (6 : Int32))), .unset, .unset, .unset] [(.ref w2)])) _
    refine XS.astoreN X3.here hx rfl (hb hby at_31) rfl rfl (l' := #[.val (.int p1), .val (.int ((p1 &&& (2147483647 : Int32)) % (6 : Int32))), .val (.ref w2), .unset, .unset]) rfl ?_
    show Steps p.tables e below (T3.setTop (mkF m 32 #[.val (.int p1), .val (.int ((p1 &&& (2147483647 : Int32)) % (6 : Int32))), .val (.ref w2), .unset, .unset] [])) _
    refine X3.ldc2Long hx hown (mvT hZ (hw _ (List.mem_of_getElem? (i := 4) rfl))) (g := (mkF m 32 #[.val (.int p1), .val (.int ((p1 &&& (2147483647 : Int32)) % (6 : Int32))), .val (.ref w2), .unset, .unset] [])) rfl (hb hby at_32) _ ?_
    show Steps p.tables e below (T3.setTop (mkF m 35 #[.val (.int p1), .val (.int ((p1 &&& (2147483647 : Int32)) % (6 : Int32))), .val (.ref w2), .unset, .unset] [(.long (1152921504606846975 : Int64))])) _
    refine XS.lstoreN X3.here hx rfl (hb hby at_35) rfl (l' := #[.val (.int p1), .val (.int ((p1 &&& (2147483647 : Int32)) % (6 : Int32))), .val (.ref w2), .val (.long (1152921504606846975 : Int64)), .second]) rfl ?_
    show Steps p.tables e below (T3.setTop (mkF m 36 #[.val (.int p1), .val (.int ((p1 &&& (2147483647 : Int32)) % (6 : Int32))), .val (.ref w2), .val (.long (1152921504606846975 : Int64)), .second] [])) _
    refine XS.goto X3.here hx rfl (pc0 := 36) (pc' := 95) rfl (hb hby at_36) (by decide) (by decide) ?_
    show Steps p.tables e below (T3.setTop (mkF m 95 #[.val (.int p1), .val (.int ((p1 &&& (2147483647 : Int32)) % (6 : Int32))), .val (.ref w2), .val (.long (1152921504606846975 : Int64)), .second] [])) _
    refine XS.aloadN X3.here hx rfl (hb hby at_95) rfl rfl ?_
    show Steps p.tables e below (T3.setTop (mkF m 96 #[.val (.int p1), .val (.int ((p1 &&& (2147483647 : Int32)) % (6 : Int32))), .val (.ref w2), .val (.long (1152921504606846975 : Int64)), .second] [(.ref w2)])) _
    refine st4.trans ?_
    show Steps p.tables e below (T4.setTop (mkF m 99 #[.val (.int p1), .val (.int ((p1 &&& (2147483647 : Int32)) % (6 : Int32))), .val (.ref w2), .val (.long (1152921504606846975 : Int64)), .second] [(.long (own_m (59 : Int32) (0 : Int32)))])) _
    refine XS.lloadN X4.here hx rfl (hb hby at_99) rfl ?_
    show Steps p.tables e below (T4.setTop (mkF m 100 #[.val (.int p1), .val (.int ((p1 &&& (2147483647 : Int32)) % (6 : Int32))), .val (.ref w2), .val (.long (1152921504606846975 : Int64)), .second] [(.long (1152921504606846975 : Int64)), (.long (own_m (59 : Int32) (0 : Int32)))])) _
    refine XS.lcmp X4.here hx rfl (hb hby at_100) rfl ?_
    show Steps p.tables e below (T4.setTop (mkF m 101 #[.val (.int p1), .val (.int ((p1 &&& (2147483647 : Int32)) % (6 : Int32))), .val (.ref w2), .val (.long (1152921504606846975 : Int64)), .second] [(.int (lcmpW (own_m (59 : Int32) (0 : Int32)) (1152921504606846975 : Int64)))])) _
    refine XS.ifNo X4.here hx rfl (hb hby at_101) rfl ((if0 _ _).trans (teq (by decide +kernel : (lcmpW (own_m (59 : Int32) (0 : Int32)) (1152921504606846975 : Int64)) = (0 : Int32))).2) ?_
    show Steps p.tables e below (T4.setTop (mkF m 104 #[.val (.int p1), .val (.int ((p1 &&& (2147483647 : Int32)) % (6 : Int32))), .val (.ref w2), .val (.long (1152921504606846975 : Int64)), .second] [])) _
    refine XS.iconst X4.here hx rfl (hb hby at_104) ?_
    show Steps p.tables e below (T4.setTop (mkF m 105 #[.val (.int p1), .val (.int ((p1 &&& (2147483647 : Int32)) % (6 : Int32))), .val (.ref w2), .val (.long (1152921504606846975 : Int64)), .second] [(.int (1 : Int32))])) _
    refine XS.goto X4.here hx rfl (pc0 := 105) (pc' := 109) rfl (hb hby at_105) (by decide) (by decide) ?_
    show Steps p.tables e below (T4.setTop (mkF m 109 #[.val (.int p1), .val (.int ((p1 &&& (2147483647 : Int32)) % (6 : Int32))), .val (.ref w2), .val (.long (1152921504606846975 : Int64)), .second] [(.int (1 : Int32))])) _
    exact retN X4 hx (t := .boolean) Bd.returns (by simp) (hb hby at_109) hr
  · show Q01 Z p1 w2 h0 n0 _ T4.heap _
    exact ⟨rfl, N4⟩
def Q02 (Z : State) (p1 : Int32) (w2 : Addr) (h0 : Heap) (n0 : Nat) (v : Option Value) (h : Heap) (L : List Loc) : Prop := v = some (.int (1 : Int32)) ∧ Fr n0 L
set_option maxRecDepth 65536 in
set_option maxHeartbeats 40000000 in
theorem rm02 (l : Launch) (Z : State) (a0 : Array Value) (hw : ∀ d ∈ tables_1, d.before a0 Z = true) (ws : List Jvm.Cond) (p1 : Int32) (w2 : Addr) (h0 : Heap) (n0 : Nat) (Z0 : n0 ≤ h0.size) (S_HOUR : Sta Z h0 "com/example/solotick/solotick/schedule/CronField" "HOUR" "Lcom/example/solotick/solotick/schedule/CronField;" (.ref w2)) (E_w2 : Exa Z h0 w2 "com/example/solotick/solotick/schedule/CronField") (F_max : Fld Z h0 w2 "com/example/solotick/solotick/schedule/CronField" "max" "I" (.int (23 : Int32))) (F_min : Fld Z h0 w2 "com/example/solotick/solotick/schedule/CronField" "min" "I" (.int (0 : Int32))) (w9 : Addr) (S9 : Sta Z h0 "com/example/solotick/solotick/schedule/CronField" "DAY_OF_WEEK" "Lcom/example/solotick/solotick/schedule/CronField;" (.ref w9)) (ne9 : ¬ (w2 = w9)) (hc9 : ¬ (((p1 &&& (2147483647 : Int32)) % (6 : Int32)) = (0 : Int32))) (hc25 : ¬ (((p1 &&& (2147483647 : Int32)) % (6 : Int32)) = (1 : Int32))) (hc41 : ((p1 &&& (2147483647 : Int32)) % (6 : Int32)) = (2 : Int32)) :
    MetFree l x (head1 (Jvm.Cond.code x code maxLocals ret :: ws) room_1) (fun a U => a = #[(.int p1)] ∧ Z.Warmed39 U.vm ∧ U.heap = h0) (fun _ _ _ _ _ => True) (fun _ U o U' => ∃ v L, o = .returned v ∧ Q02 Z p1 w2 h0 n0 v U'.heap L ∧ FrameEnd U o U' L room_1.cells room_1.slots) := by
  refine MetFree.of_bodySF (plainFor_of_name pn_0) hisR ?_
  intro p e s m args below meth c s₁ Bd hml0 hP hK
  obtain ⟨rfl, hZ, hh⟩ := hP
  have hx := Bd.exec
  have hby := Bd.bytes
  have hml : c.maxLocals = 5 := hml0
  have hown : s.vm.findClass "com/example/solotick/solotick/schedule/CronFieldAllPinLaw" = some m.cls := findClass_of_methodNamed Bd.named
  have hnm := (name_of_methodNamed Bd.named Bd.method).1
  have X0 : Stand p l e room_1 s m #[(.int p1)] below meth c s₁ [] 0 0 := Stand.of_body Bd
  have e0 : s₁.heap = h0 := by rw [← hh, Bd.state]; rfl
  have N0 := Fr.nil n0
  have pre0 : ∀ t, Steps p.tables e below (s₁.setTop (mkF m 0 #[.val (.int p1), .unset, .unset, .unset, .unset] [])) t → Steps p.tables e below (s₁.setTop (entryFrame m #[(.int p1)] maxLocals)) t := fun t k => castTop (ef_0 m p1) k
  obtain ⟨T3, X3, e3, st3⟩ := getS2 X0 hx hZ hown (host := "") (Or.inl (hw _ (List.mem_of_getElem? (i := 24) rfl))) Via.refl e0 S_HOUR (g := (mkF m 44 #[.val (.int p1), .val (.int ((p1 &&& (2147483647 : Int32)) % (6 : Int32))), .unset, .unset, .unset] [])) rfl (hb hby at_44)
  obtain ⟨cq4, kq4, q4a, q4b, q4c⟩ := isOf hZ e3 E_w2
  obtain ⟨_, _, ⟨T4, L4, k4, n4⟩, -, X4, ⟨Lc4, hQ4, l4, y4, z4⟩, st4⟩ := X3.virtualBack hx (y := (⟨"com/example/solotick/solotick/schedule/CronField", "all", "()J"⟩ : MethodName)) (z := (⟨"com/example/solotick/solotick/schedule/CronField", "all", "()J"⟩ : MethodName)) hown (mvT hZ (hw _ (List.mem_of_getElem? (i := 5) rfl))) (mvT hZ (hw _ (List.mem_of_getElem? (i := 6) rfl))) (notFace_of_selects (args := #[]) (mvT hZ (hw _ (List.mem_of_getElem? (i := 8) rfl)))) (mvT hZ (hw _ (List.mem_of_getElem? (i := 8) rfl))) (mvT hZ (hw _ (List.mem_of_getElem? (i := 7) rfl))) (by decide) (backOf (W := 0) (rm1n l Z a0 hw [] w2 23 0 h0 n0 Z0 F_max F_min E_w2 w9 S9 ne9) hZ (hw _ (List.mem_of_getElem? (i := 9) rfl)) (hw _ (List.mem_of_getElem? (i := 2) rfl)) (by decide) (by decide)) q4a q4c (g := (mkF m 96 #[.val (.int p1), .val (.int ((p1 &&& (2147483647 : Int32)) % (6 : Int32))), .val (.ref w2), .val (.long (16777215 : Int64)), .second] [(.ref w2)])) rfl (by rw [hml]; rfl) (Steps.refl _) (argsL := []) (rest := []) (lenOf pd_0_0 rfl) rfl (by show 2 * 0 + _ ≤ _; exact Nat.le_of_eq rfl) (hb hby at_96) (fun _ _ => ⟨rfl, e3, (by decide : 0 + 0 ≤ _), (by decide : 0 + 0 ≤ _)⟩)
  dsimp only [Pt.U, Pt.locs, Pt.cells, Pt.slots] at X4 l4 y4 z4 st4 hQ4
  subst l4 y4 z4
  obtain ⟨rfl, N4q, e4⟩ := hQ4
  have N4 := Fr.app N0 N4q
  obtain ⟨fs, hr, hrun, hended, hW, hsame⟩ := X4.leave (v := some (.int (1 : Int32))) (fun h => by rw [Bd.returns] at h; cases h)
  refine ⟨_, _, pre0 _ ?_, hrun, hended, _, _, rfl, ?_, ⟨_, rfl⟩, hW, hsame.mono (by decide) (by decide)⟩
  · show Steps p.tables e below (s₁.setTop (mkF m 0 #[.val (.int p1), .unset, .unset, .unset, .unset] [])) _
    refine XS.iloadN X0.here hx rfl (hb hby at_0) rfl ?_
    show Steps p.tables e below (s₁.setTop (mkF m 1 #[.val (.int p1), .unset, .unset, .unset, .unset] [(.int p1)])) _
    refine X0.ldcInt hx hown (mvT hZ (hw _ (List.mem_of_getElem? (i := 0) rfl))) (g := (mkF m 1 #[.val (.int p1), .unset, .unset, .unset, .unset] [(.int p1)])) rfl (hb hby at_1) _ ?_
    show Steps p.tables e below (s₁.setTop (mkF m 3 #[.val (.int p1), .unset, .unset, .unset, .unset] [(.int (2147483647 : Int32)), (.int p1)])) _
    refine XS.iand X0.here hx rfl (hb hby at_3) rfl ?_
    show Steps p.tables e below (s₁.setTop (mkF m 4 #[.val (.int p1), .unset, .unset, .unset, .unset] [(.int (p1 &&& (2147483647 : Int32)))])) _
    refine XS.bipush X0.here hx rfl (hb hby at_4) ?_
    show Steps p.tables e below (s₁.setTop (mkF m 6 #[.val (.int p1), .unset, .unset, .unset, .unset] [(.int (6 : Int32)), (.int (p1 &&& (2147483647 : Int32)))])) _
    refine iremM X0 hx rfl (hb hby at_6) rfl (by decide) ?_
    show Steps p.tables e below (s₁.setTop (mkF m 7 #[.val (.int p1), .unset, .unset, .unset, .unset] [(.int ((p1 &&& (2147483647 : Int32)) % (6 : Int32)))])) _
    refine XS.istoreN X0.here hx rfl (hb hby at_7) rfl (l' := #[.val (.int p1), .val (.int ((p1 &&& (2147483647 : Int32)) % (6 : Int32))), .unset, .unset, .unset]) rfl ?_
    show Steps p.tables e below (s₁.setTop (mkF m 8 #[.val (.int p1), .val (.int ((p1 &&& (2147483647 : Int32)) % (6 : Int32))), .unset, .unset, .unset] [])) _
    refine XS.iloadN X0.here hx rfl (hb hby at_8) rfl ?_
    show Steps p.tables e below (s₁.setTop (mkF m 9 #[.val (.int p1), .val (.int ((p1 &&& (2147483647 : Int32)) % (6 : Int32))), .unset, .unset, .unset] [(.int ((p1 &&& (2147483647 : Int32)) % (6 : Int32)))])) _
    refine XS.ifYes X0.here hx rfl (pc0 := 9) (pc' := 23) rfl (hb hby at_9) rfl ((if0 _ _).trans (feq hc9).2) (by decide) (by decide) ?_
    show Steps p.tables e below (s₁.setTop (mkF m 23 #[.val (.int p1), .val (.int ((p1 &&& (2147483647 : Int32)) % (6 : Int32))), .unset, .unset, .unset] [])) _
    refine XS.iloadN X0.here hx rfl (hb hby at_23) rfl ?_
    show Steps p.tables e below (s₁.setTop (mkF m 24 #[.val (.int p1), .val (.int ((p1 &&& (2147483647 : Int32)) % (6 : Int32))), .unset, .unset, .unset] [(.int ((p1 &&& (2147483647 : Int32)) % (6 : Int32)))])) _
    refine XS.iconst X0.here hx rfl (hb hby at_24) ?_
    show Steps p.tables e below (s₁.setTop (mkF m 25 #[.val (.int p1), .val (.int ((p1 &&& (2147483647 : Int32)) % (6 : Int32))), .unset, .unset, .unset] [(.int (1 : Int32)), (.int ((p1 &&& (2147483647 : Int32)) % (6 : Int32)))])) _
    refine XS.icmpYes X0.here hx rfl (pc0 := 25) (pc' := 39) rfl (hb hby at_25) rfl (feq hc25).2 (by decide) (by decide) ?_
    show Steps p.tables e below (s₁.setTop (mkF m 39 #[.val (.int p1), .val (.int ((p1 &&& (2147483647 : Int32)) % (6 : Int32))), .unset, .unset, .unset] [])) _
    refine XS.iloadN X0.here hx rfl (hb hby at_39) rfl ?_
    show Steps p.tables e below (s₁.setTop (mkF m 40 #[.val (.int p1), .val (.int ((p1 &&& (2147483647 : Int32)) % (6 : Int32))), .unset, .unset, .unset] [(.int ((p1 &&& (2147483647 : Int32)) % (6 : Int32)))])) _
    refine XS.iconst X0.here hx rfl (hb hby at_40) ?_
    show Steps p.tables e below (s₁.setTop (mkF m 41 #[.val (.int p1), .val (.int ((p1 &&& (2147483647 : Int32)) % (6 : Int32))), .unset, .unset, .unset] [(.int (2 : Int32)), (.int ((p1 &&& (2147483647 : Int32)) % (6 : Int32)))])) _
    refine XS.icmpNo X0.here hx rfl (hb hby at_41) rfl (teq hc41).2 ?_
    show Steps p.tables e below (s₁.setTop (mkF m 44 #[.val (.int p1), .val (.int ((p1 &&& (2147483647 : Int32)) % (6 : Int32))), .unset, .unset, .unset] [])) _
    refine st3 _ ?_
    show Steps p.tables e below (T3.setTop (mkF m 47 #[.val (.int p1), .val (.int ((p1 &&& (2147483647 : Int32)) % (6 : Int32))), .unset, .unset, .unset] [(.ref w2)])) _
    refine XS.astoreN X3.here hx rfl (hb hby at_47) rfl rfl (l' := #[.val (.int p1), .val (.int ((p1 &&& (2147483647 : Int32)) % (6 : Int32))), .val (.ref w2), .unset, .unset]) rfl ?_
    show Steps p.tables e below (T3.setTop (mkF m 48 #[.val (.int p1), .val (.int ((p1 &&& (2147483647 : Int32)) % (6 : Int32))), .val (.ref w2), .unset, .unset] [])) _
    refine X3.ldc2Long hx hown (mvT hZ (hw _ (List.mem_of_getElem? (i := 26) rfl))) (g := (mkF m 48 #[.val (.int p1), .val (.int ((p1 &&& (2147483647 : Int32)) % (6 : Int32))), .val (.ref w2), .unset, .unset] [])) rfl (hb hby at_48) _ ?_
    show Steps p.tables e below (T3.setTop (mkF m 51 #[.val (.int p1), .val (.int ((p1 &&& (2147483647 : Int32)) % (6 : Int32))), .val (.ref w2), .unset, .unset] [(.long (16777215 : Int64))])) _
    refine XS.lstoreN X3.here hx rfl (hb hby at_51) rfl (l' := #[.val (.int p1), .val (.int ((p1 &&& (2147483647 : Int32)) % (6 : Int32))), .val (.ref w2), .val (.long (16777215 : Int64)), .second]) rfl ?_
    show Steps p.tables e below (T3.setTop (mkF m 52 #[.val (.int p1), .val (.int ((p1 &&& (2147483647 : Int32)) % (6 : Int32))), .val (.ref w2), .val (.long (16777215 : Int64)), .second] [])) _
    refine XS.goto X3.here hx rfl (pc0 := 52) (pc' := 95) rfl (hb hby at_52) (by decide) (by decide) ?_
    show Steps p.tables e below (T3.setTop (mkF m 95 #[.val (.int p1), .val (.int ((p1 &&& (2147483647 : Int32)) % (6 : Int32))), .val (.ref w2), .val (.long (16777215 : Int64)), .second] [])) _
    refine XS.aloadN X3.here hx rfl (hb hby at_95) rfl rfl ?_
    show Steps p.tables e below (T3.setTop (mkF m 96 #[.val (.int p1), .val (.int ((p1 &&& (2147483647 : Int32)) % (6 : Int32))), .val (.ref w2), .val (.long (16777215 : Int64)), .second] [(.ref w2)])) _
    refine st4.trans ?_
    show Steps p.tables e below (T4.setTop (mkF m 99 #[.val (.int p1), .val (.int ((p1 &&& (2147483647 : Int32)) % (6 : Int32))), .val (.ref w2), .val (.long (16777215 : Int64)), .second] [(.long (own_m (23 : Int32) (0 : Int32)))])) _
    refine XS.lloadN X4.here hx rfl (hb hby at_99) rfl ?_
    show Steps p.tables e below (T4.setTop (mkF m 100 #[.val (.int p1), .val (.int ((p1 &&& (2147483647 : Int32)) % (6 : Int32))), .val (.ref w2), .val (.long (16777215 : Int64)), .second] [(.long (16777215 : Int64)), (.long (own_m (23 : Int32) (0 : Int32)))])) _
    refine XS.lcmp X4.here hx rfl (hb hby at_100) rfl ?_
    show Steps p.tables e below (T4.setTop (mkF m 101 #[.val (.int p1), .val (.int ((p1 &&& (2147483647 : Int32)) % (6 : Int32))), .val (.ref w2), .val (.long (16777215 : Int64)), .second] [(.int (lcmpW (own_m (23 : Int32) (0 : Int32)) (16777215 : Int64)))])) _
    refine XS.ifNo X4.here hx rfl (hb hby at_101) rfl ((if0 _ _).trans (teq (by decide +kernel : (lcmpW (own_m (23 : Int32) (0 : Int32)) (16777215 : Int64)) = (0 : Int32))).2) ?_
    show Steps p.tables e below (T4.setTop (mkF m 104 #[.val (.int p1), .val (.int ((p1 &&& (2147483647 : Int32)) % (6 : Int32))), .val (.ref w2), .val (.long (16777215 : Int64)), .second] [])) _
    refine XS.iconst X4.here hx rfl (hb hby at_104) ?_
    show Steps p.tables e below (T4.setTop (mkF m 105 #[.val (.int p1), .val (.int ((p1 &&& (2147483647 : Int32)) % (6 : Int32))), .val (.ref w2), .val (.long (16777215 : Int64)), .second] [(.int (1 : Int32))])) _
    refine XS.goto X4.here hx rfl (pc0 := 105) (pc' := 109) rfl (hb hby at_105) (by decide) (by decide) ?_
    show Steps p.tables e below (T4.setTop (mkF m 109 #[.val (.int p1), .val (.int ((p1 &&& (2147483647 : Int32)) % (6 : Int32))), .val (.ref w2), .val (.long (16777215 : Int64)), .second] [(.int (1 : Int32))])) _
    exact retN X4 hx (t := .boolean) Bd.returns (by simp) (hb hby at_109) hr
  · show Q02 Z p1 w2 h0 n0 _ T4.heap _
    exact ⟨rfl, N4⟩
def Q03 (Z : State) (p1 : Int32) (w2 : Addr) (h0 : Heap) (n0 : Nat) (v : Option Value) (h : Heap) (L : List Loc) : Prop := v = some (.int (1 : Int32)) ∧ Fr n0 L
set_option maxRecDepth 65536 in
set_option maxHeartbeats 40000000 in
theorem rm03 (l : Launch) (Z : State) (a0 : Array Value) (hw : ∀ d ∈ tables_1, d.before a0 Z = true) (ws : List Jvm.Cond) (p1 : Int32) (w2 : Addr) (h0 : Heap) (n0 : Nat) (Z0 : n0 ≤ h0.size) (S_DAY_OF_MONTH : Sta Z h0 "com/example/solotick/solotick/schedule/CronField" "DAY_OF_MONTH" "Lcom/example/solotick/solotick/schedule/CronField;" (.ref w2)) (E_w2 : Exa Z h0 w2 "com/example/solotick/solotick/schedule/CronField") (F_max : Fld Z h0 w2 "com/example/solotick/solotick/schedule/CronField" "max" "I" (.int (31 : Int32))) (F_min : Fld Z h0 w2 "com/example/solotick/solotick/schedule/CronField" "min" "I" (.int (1 : Int32))) (w9 : Addr) (S9 : Sta Z h0 "com/example/solotick/solotick/schedule/CronField" "DAY_OF_WEEK" "Lcom/example/solotick/solotick/schedule/CronField;" (.ref w9)) (ne9 : ¬ (w2 = w9)) (hc9 : ¬ (((p1 &&& (2147483647 : Int32)) % (6 : Int32)) = (0 : Int32))) (hc25 : ¬ (((p1 &&& (2147483647 : Int32)) % (6 : Int32)) = (1 : Int32))) (hc41 : ¬ (((p1 &&& (2147483647 : Int32)) % (6 : Int32)) = (2 : Int32))) (hc57 : ((p1 &&& (2147483647 : Int32)) % (6 : Int32)) = (3 : Int32)) :
    MetFree l x (head1 (Jvm.Cond.code x code maxLocals ret :: ws) room_1) (fun a U => a = #[(.int p1)] ∧ Z.Warmed39 U.vm ∧ U.heap = h0) (fun _ _ _ _ _ => True) (fun _ U o U' => ∃ v L, o = .returned v ∧ Q03 Z p1 w2 h0 n0 v U'.heap L ∧ FrameEnd U o U' L room_1.cells room_1.slots) := by
  refine MetFree.of_bodySF (plainFor_of_name pn_0) hisR ?_
  intro p e s m args below meth c s₁ Bd hml0 hP hK
  obtain ⟨rfl, hZ, hh⟩ := hP
  have hx := Bd.exec
  have hby := Bd.bytes
  have hml : c.maxLocals = 5 := hml0
  have hown : s.vm.findClass "com/example/solotick/solotick/schedule/CronFieldAllPinLaw" = some m.cls := findClass_of_methodNamed Bd.named
  have hnm := (name_of_methodNamed Bd.named Bd.method).1
  have X0 : Stand p l e room_1 s m #[(.int p1)] below meth c s₁ [] 0 0 := Stand.of_body Bd
  have e0 : s₁.heap = h0 := by rw [← hh, Bd.state]; rfl
  have N0 := Fr.nil n0
  have pre0 : ∀ t, Steps p.tables e below (s₁.setTop (mkF m 0 #[.val (.int p1), .unset, .unset, .unset, .unset] [])) t → Steps p.tables e below (s₁.setTop (entryFrame m #[(.int p1)] maxLocals)) t := fun t k => castTop (ef_0 m p1) k
  obtain ⟨T3, X3, e3, st3⟩ := getS2 X0 hx hZ hown (host := "") (Or.inl (hw _ (List.mem_of_getElem? (i := 21) rfl))) Via.refl e0 S_DAY_OF_MONTH (g := (mkF m 60 #[.val (.int p1), .val (.int ((p1 &&& (2147483647 : Int32)) % (6 : Int32))), .unset, .unset, .unset] [])) rfl (hb hby at_60)
  obtain ⟨cq4, kq4, q4a, q4b, q4c⟩ := isOf hZ e3 E_w2
  obtain ⟨_, _, ⟨T4, L4, k4, n4⟩, -, X4, ⟨Lc4, hQ4, l4, y4, z4⟩, st4⟩ := X3.virtualBack hx (y := (⟨"com/example/solotick/solotick/schedule/CronField", "all", "()J"⟩ : MethodName)) (z := (⟨"com/example/solotick/solotick/schedule/CronField", "all", "()J"⟩ : MethodName)) hown (mvT hZ (hw _ (List.mem_of_getElem? (i := 5) rfl))) (mvT hZ (hw _ (List.mem_of_getElem? (i := 6) rfl))) (notFace_of_selects (args := #[]) (mvT hZ (hw _ (List.mem_of_getElem? (i := 8) rfl)))) (mvT hZ (hw _ (List.mem_of_getElem? (i := 8) rfl))) (mvT hZ (hw _ (List.mem_of_getElem? (i := 7) rfl))) (by decide) (backOf (W := 0) (rm1n l Z a0 hw [] w2 31 1 h0 n0 Z0 F_max F_min E_w2 w9 S9 ne9) hZ (hw _ (List.mem_of_getElem? (i := 9) rfl)) (hw _ (List.mem_of_getElem? (i := 2) rfl)) (by decide) (by decide)) q4a q4c (g := (mkF m 96 #[.val (.int p1), .val (.int ((p1 &&& (2147483647 : Int32)) % (6 : Int32))), .val (.ref w2), .val (.long (4294967294 : Int64)), .second] [(.ref w2)])) rfl (by rw [hml]; rfl) (Steps.refl _) (argsL := []) (rest := []) (lenOf pd_0_0 rfl) rfl (by show 2 * 0 + _ ≤ _; exact Nat.le_of_eq rfl) (hb hby at_96) (fun _ _ => ⟨rfl, e3, (by decide : 0 + 0 ≤ _), (by decide : 0 + 0 ≤ _)⟩)
  dsimp only [Pt.U, Pt.locs, Pt.cells, Pt.slots] at X4 l4 y4 z4 st4 hQ4
  subst l4 y4 z4
  obtain ⟨rfl, N4q, e4⟩ := hQ4
  have N4 := Fr.app N0 N4q
  obtain ⟨fs, hr, hrun, hended, hW, hsame⟩ := X4.leave (v := some (.int (1 : Int32))) (fun h => by rw [Bd.returns] at h; cases h)
  refine ⟨_, _, pre0 _ ?_, hrun, hended, _, _, rfl, ?_, ⟨_, rfl⟩, hW, hsame.mono (by decide) (by decide)⟩
  · show Steps p.tables e below (s₁.setTop (mkF m 0 #[.val (.int p1), .unset, .unset, .unset, .unset] [])) _
    refine XS.iloadN X0.here hx rfl (hb hby at_0) rfl ?_
    show Steps p.tables e below (s₁.setTop (mkF m 1 #[.val (.int p1), .unset, .unset, .unset, .unset] [(.int p1)])) _
    refine X0.ldcInt hx hown (mvT hZ (hw _ (List.mem_of_getElem? (i := 0) rfl))) (g := (mkF m 1 #[.val (.int p1), .unset, .unset, .unset, .unset] [(.int p1)])) rfl (hb hby at_1) _ ?_
    show Steps p.tables e below (s₁.setTop (mkF m 3 #[.val (.int p1), .unset, .unset, .unset, .unset] [(.int (2147483647 : Int32)), (.int p1)])) _
    refine XS.iand X0.here hx rfl (hb hby at_3) rfl ?_
    show Steps p.tables e below (s₁.setTop (mkF m 4 #[.val (.int p1), .unset, .unset, .unset, .unset] [(.int (p1 &&& (2147483647 : Int32)))])) _
    refine XS.bipush X0.here hx rfl (hb hby at_4) ?_
    show Steps p.tables e below (s₁.setTop (mkF m 6 #[.val (.int p1), .unset, .unset, .unset, .unset] [(.int (6 : Int32)), (.int (p1 &&& (2147483647 : Int32)))])) _
    refine iremM X0 hx rfl (hb hby at_6) rfl (by decide) ?_
    show Steps p.tables e below (s₁.setTop (mkF m 7 #[.val (.int p1), .unset, .unset, .unset, .unset] [(.int ((p1 &&& (2147483647 : Int32)) % (6 : Int32)))])) _
    refine XS.istoreN X0.here hx rfl (hb hby at_7) rfl (l' := #[.val (.int p1), .val (.int ((p1 &&& (2147483647 : Int32)) % (6 : Int32))), .unset, .unset, .unset]) rfl ?_
    show Steps p.tables e below (s₁.setTop (mkF m 8 #[.val (.int p1), .val (.int ((p1 &&& (2147483647 : Int32)) % (6 : Int32))), .unset, .unset, .unset] [])) _
    refine XS.iloadN X0.here hx rfl (hb hby at_8) rfl ?_
    show Steps p.tables e below (s₁.setTop (mkF m 9 #[.val (.int p1), .val (.int ((p1 &&& (2147483647 : Int32)) % (6 : Int32))), .unset, .unset, .unset] [(.int ((p1 &&& (2147483647 : Int32)) % (6 : Int32)))])) _
    refine XS.ifYes X0.here hx rfl (pc0 := 9) (pc' := 23) rfl (hb hby at_9) rfl ((if0 _ _).trans (feq hc9).2) (by decide) (by decide) ?_
    show Steps p.tables e below (s₁.setTop (mkF m 23 #[.val (.int p1), .val (.int ((p1 &&& (2147483647 : Int32)) % (6 : Int32))), .unset, .unset, .unset] [])) _
    refine XS.iloadN X0.here hx rfl (hb hby at_23) rfl ?_
    show Steps p.tables e below (s₁.setTop (mkF m 24 #[.val (.int p1), .val (.int ((p1 &&& (2147483647 : Int32)) % (6 : Int32))), .unset, .unset, .unset] [(.int ((p1 &&& (2147483647 : Int32)) % (6 : Int32)))])) _
    refine XS.iconst X0.here hx rfl (hb hby at_24) ?_
    show Steps p.tables e below (s₁.setTop (mkF m 25 #[.val (.int p1), .val (.int ((p1 &&& (2147483647 : Int32)) % (6 : Int32))), .unset, .unset, .unset] [(.int (1 : Int32)), (.int ((p1 &&& (2147483647 : Int32)) % (6 : Int32)))])) _
    refine XS.icmpYes X0.here hx rfl (pc0 := 25) (pc' := 39) rfl (hb hby at_25) rfl (feq hc25).2 (by decide) (by decide) ?_
    show Steps p.tables e below (s₁.setTop (mkF m 39 #[.val (.int p1), .val (.int ((p1 &&& (2147483647 : Int32)) % (6 : Int32))), .unset, .unset, .unset] [])) _
    refine XS.iloadN X0.here hx rfl (hb hby at_39) rfl ?_
    show Steps p.tables e below (s₁.setTop (mkF m 40 #[.val (.int p1), .val (.int ((p1 &&& (2147483647 : Int32)) % (6 : Int32))), .unset, .unset, .unset] [(.int ((p1 &&& (2147483647 : Int32)) % (6 : Int32)))])) _
    refine XS.iconst X0.here hx rfl (hb hby at_40) ?_
    show Steps p.tables e below (s₁.setTop (mkF m 41 #[.val (.int p1), .val (.int ((p1 &&& (2147483647 : Int32)) % (6 : Int32))), .unset, .unset, .unset] [(.int (2 : Int32)), (.int ((p1 &&& (2147483647 : Int32)) % (6 : Int32)))])) _
    refine XS.icmpYes X0.here hx rfl (pc0 := 41) (pc' := 55) rfl (hb hby at_41) rfl (feq hc41).2 (by decide) (by decide) ?_
    show Steps p.tables e below (s₁.setTop (mkF m 55 #[.val (.int p1), .val (.int ((p1 &&& (2147483647 : Int32)) % (6 : Int32))), .unset, .unset, .unset] [])) _
    refine XS.iloadN X0.here hx rfl (hb hby at_55) rfl ?_
    show Steps p.tables e below (s₁.setTop (mkF m 56 #[.val (.int p1), .val (.int ((p1 &&& (2147483647 : Int32)) % (6 : Int32))), .unset, .unset, .unset] [(.int ((p1 &&& (2147483647 : Int32)) % (6 : Int32)))])) _
    refine XS.iconst X0.here hx rfl (hb hby at_56) ?_
    show Steps p.tables e below (s₁.setTop (mkF m 57 #[.val (.int p1), .val (.int ((p1 &&& (2147483647 : Int32)) % (6 : Int32))), .unset, .unset, .unset] [(.int (3 : Int32)), (.int ((p1 &&& (2147483647 : Int32)) % (6 : Int32)))])) _
    refine XS.icmpNo X0.here hx rfl (hb hby at_57) rfl (teq hc57).2 ?_
    show Steps p.tables e below (s₁.setTop (mkF m 60 #[.val (.int p1), .val (.int ((p1 &&& (2147483647 : Int32)) % (6 : Int32))), .unset, .unset, .unset] [])) _
    refine st3 _ ?_
    show Steps p.tables e below (T3.setTop (mkF m 63 #[.val (.int p1), .val (.int ((p1 &&& (2147483647 : Int32)) % (6 : Int32))), .unset, .unset, .unset] [(.ref w2)])) _
    refine XS.astoreN X3.here hx rfl (hb hby at_63) rfl rfl (l' := #[.val (.int p1), .val (.int ((p1 &&& (2147483647 : Int32)) % (6 : Int32))), .val (.ref w2), .unset, .unset]) rfl ?_
    show Steps p.tables e below (T3.setTop (mkF m 64 #[.val (.int p1), .val (.int ((p1 &&& (2147483647 : Int32)) % (6 : Int32))), .val (.ref w2), .unset, .unset] [])) _
    refine X3.ldc2Long hx hown (mvT hZ (hw _ (List.mem_of_getElem? (i := 23) rfl))) (g := (mkF m 64 #[.val (.int p1), .val (.int ((p1 &&& (2147483647 : Int32)) % (6 : Int32))), .val (.ref w2), .unset, .unset] [])) rfl (hb hby at_64) _ ?_
    show Steps p.tables e below (T3.setTop (mkF m 67 #[.val (.int p1), .val (.int ((p1 &&& (2147483647 : Int32)) % (6 : Int32))), .val (.ref w2), .unset, .unset] [(.long (4294967294 : Int64))])) _
    refine XS.lstoreN X3.here hx rfl (hb hby at_67) rfl (l' := #[.val (.int p1), .val (.int ((p1 &&& (2147483647 : Int32)) % (6 : Int32))), .val (.ref w2), .val (.long (4294967294 : Int64)), .second]) rfl ?_
    show Steps p.tables e below (T3.setTop (mkF m 68 #[.val (.int p1), .val (.int ((p1 &&& (2147483647 : Int32)) % (6 : Int32))), .val (.ref w2), .val (.long (4294967294 : Int64)), .second] [])) _
    refine XS.goto X3.here hx rfl (pc0 := 68) (pc' := 95) rfl (hb hby at_68) (by decide) (by decide) ?_
    show Steps p.tables e below (T3.setTop (mkF m 95 #[.val (.int p1), .val (.int ((p1 &&& (2147483647 : Int32)) % (6 : Int32))), .val (.ref w2), .val (.long (4294967294 : Int64)), .second] [])) _
    refine XS.aloadN X3.here hx rfl (hb hby at_95) rfl rfl ?_
    show Steps p.tables e below (T3.setTop (mkF m 96 #[.val (.int p1), .val (.int ((p1 &&& (2147483647 : Int32)) % (6 : Int32))), .val (.ref w2), .val (.long (4294967294 : Int64)), .second] [(.ref w2)])) _
    refine st4.trans ?_
    show Steps p.tables e below (T4.setTop (mkF m 99 #[.val (.int p1), .val (.int ((p1 &&& (2147483647 : Int32)) % (6 : Int32))), .val (.ref w2), .val (.long (4294967294 : Int64)), .second] [(.long (own_m (31 : Int32) (1 : Int32)))])) _
    refine XS.lloadN X4.here hx rfl (hb hby at_99) rfl ?_
    show Steps p.tables e below (T4.setTop (mkF m 100 #[.val (.int p1), .val (.int ((p1 &&& (2147483647 : Int32)) % (6 : Int32))), .val (.ref w2), .val (.long (4294967294 : Int64)), .second] [(.long (4294967294 : Int64)), (.long (own_m (31 : Int32) (1 : Int32)))])) _
    refine XS.lcmp X4.here hx rfl (hb hby at_100) rfl ?_
    show Steps p.tables e below (T4.setTop (mkF m 101 #[.val (.int p1), .val (.int ((p1 &&& (2147483647 : Int32)) % (6 : Int32))), .val (.ref w2), .val (.long (4294967294 : Int64)), .second] [(.int (lcmpW (own_m (31 : Int32) (1 : Int32)) (4294967294 : Int64)))])) _
    refine XS.ifNo X4.here hx rfl (hb hby at_101) rfl ((if0 _ _).trans (teq (by decide +kernel : (lcmpW (own_m (31 : Int32) (1 : Int32)) (4294967294 : Int64)) = (0 : Int32))).2) ?_
    show Steps p.tables e below (T4.setTop (mkF m 104 #[.val (.int p1), .val (.int ((p1 &&& (2147483647 : Int32)) % (6 : Int32))), .val (.ref w2), .val (.long (4294967294 : Int64)), .second] [])) _
    refine XS.iconst X4.here hx rfl (hb hby at_104) ?_
    show Steps p.tables e below (T4.setTop (mkF m 105 #[.val (.int p1), .val (.int ((p1 &&& (2147483647 : Int32)) % (6 : Int32))), .val (.ref w2), .val (.long (4294967294 : Int64)), .second] [(.int (1 : Int32))])) _
    refine XS.goto X4.here hx rfl (pc0 := 105) (pc' := 109) rfl (hb hby at_105) (by decide) (by decide) ?_
    show Steps p.tables e below (T4.setTop (mkF m 109 #[.val (.int p1), .val (.int ((p1 &&& (2147483647 : Int32)) % (6 : Int32))), .val (.ref w2), .val (.long (4294967294 : Int64)), .second] [(.int (1 : Int32))])) _
    exact retN X4 hx (t := .boolean) Bd.returns (by simp) (hb hby at_109) hr
  · show Q03 Z p1 w2 h0 n0 _ T4.heap _
    exact ⟨rfl, N4⟩
def Q04 (Z : State) (p1 : Int32) (w2 : Addr) (h0 : Heap) (n0 : Nat) (v : Option Value) (h : Heap) (L : List Loc) : Prop := v = some (.int (1 : Int32)) ∧ Fr n0 L
set_option maxRecDepth 65536 in
set_option maxHeartbeats 40000000 in
theorem rm04 (l : Launch) (Z : State) (a0 : Array Value) (hw : ∀ d ∈ tables_1, d.before a0 Z = true) (ws : List Jvm.Cond) (p1 : Int32) (w2 : Addr) (h0 : Heap) (n0 : Nat) (Z0 : n0 ≤ h0.size) (S_MONTH : Sta Z h0 "com/example/solotick/solotick/schedule/CronField" "MONTH" "Lcom/example/solotick/solotick/schedule/CronField;" (.ref w2)) (E_w2 : Exa Z h0 w2 "com/example/solotick/solotick/schedule/CronField") (F_max : Fld Z h0 w2 "com/example/solotick/solotick/schedule/CronField" "max" "I" (.int (12 : Int32))) (F_min : Fld Z h0 w2 "com/example/solotick/solotick/schedule/CronField" "min" "I" (.int (1 : Int32))) (w9 : Addr) (S9 : Sta Z h0 "com/example/solotick/solotick/schedule/CronField" "DAY_OF_WEEK" "Lcom/example/solotick/solotick/schedule/CronField;" (.ref w9)) (ne9 : ¬ (w2 = w9)) (hc9 : ¬ (((p1 &&& (2147483647 : Int32)) % (6 : Int32)) = (0 : Int32))) (hc25 : ¬ (((p1 &&& (2147483647 : Int32)) % (6 : Int32)) = (1 : Int32))) (hc41 : ¬ (((p1 &&& (2147483647 : Int32)) % (6 : Int32)) = (2 : Int32))) (hc57 : ¬ (((p1 &&& (2147483647 : Int32)) % (6 : Int32)) = (3 : Int32))) (hc73 : ((p1 &&& (2147483647 : Int32)) % (6 : Int32)) = (4 : Int32)) :
    MetFree l x (head1 (Jvm.Cond.code x code maxLocals ret :: ws) room_1) (fun a U => a = #[(.int p1)] ∧ Z.Warmed39 U.vm ∧ U.heap = h0) (fun _ _ _ _ _ => True) (fun _ U o U' => ∃ v L, o = .returned v ∧ Q04 Z p1 w2 h0 n0 v U'.heap L ∧ FrameEnd U o U' L room_1.cells room_1.slots) := by
  refine MetFree.of_bodySF (plainFor_of_name pn_0) hisR ?_
  intro p e s m args below meth c s₁ Bd hml0 hP hK
  obtain ⟨rfl, hZ, hh⟩ := hP
  have hx := Bd.exec
  have hby := Bd.bytes
  have hml : c.maxLocals = 5 := hml0
  have hown : s.vm.findClass "com/example/solotick/solotick/schedule/CronFieldAllPinLaw" = some m.cls := findClass_of_methodNamed Bd.named
  have hnm := (name_of_methodNamed Bd.named Bd.method).1
  have X0 : Stand p l e room_1 s m #[(.int p1)] below meth c s₁ [] 0 0 := Stand.of_body Bd
  have e0 : s₁.heap = h0 := by rw [← hh, Bd.state]; rfl
  have N0 := Fr.nil n0
  have pre0 : ∀ t, Steps p.tables e below (s₁.setTop (mkF m 0 #[.val (.int p1), .unset, .unset, .unset, .unset] [])) t → Steps p.tables e below (s₁.setTop (entryFrame m #[(.int p1)] maxLocals)) t := fun t k => castTop (ef_0 m p1) k
  obtain ⟨T3, X3, e3, st3⟩ := getS2 X0 hx hZ hown (host := "") (Or.inl (hw _ (List.mem_of_getElem? (i := 33) rfl))) Via.refl e0 S_MONTH (g := (mkF m 76 #[.val (.int p1), .val (.int ((p1 &&& (2147483647 : Int32)) % (6 : Int32))), .unset, .unset, .unset] [])) rfl (hb hby at_76)
  obtain ⟨cq4, kq4, q4a, q4b, q4c⟩ := isOf hZ e3 E_w2
  obtain ⟨_, _, ⟨T4, L4, k4, n4⟩, -, X4, ⟨Lc4, hQ4, l4, y4, z4⟩, st4⟩ := X3.virtualBack hx (y := (⟨"com/example/solotick/solotick/schedule/CronField", "all", "()J"⟩ : MethodName)) (z := (⟨"com/example/solotick/solotick/schedule/CronField", "all", "()J"⟩ : MethodName)) hown (mvT hZ (hw _ (List.mem_of_getElem? (i := 5) rfl))) (mvT hZ (hw _ (List.mem_of_getElem? (i := 6) rfl))) (notFace_of_selects (args := #[]) (mvT hZ (hw _ (List.mem_of_getElem? (i := 8) rfl)))) (mvT hZ (hw _ (List.mem_of_getElem? (i := 8) rfl))) (mvT hZ (hw _ (List.mem_of_getElem? (i := 7) rfl))) (by decide) (backOf (W := 0) (rm1n l Z a0 hw [] w2 12 1 h0 n0 Z0 F_max F_min E_w2 w9 S9 ne9) hZ (hw _ (List.mem_of_getElem? (i := 9) rfl)) (hw _ (List.mem_of_getElem? (i := 2) rfl)) (by decide) (by decide)) q4a q4c (g := (mkF m 96 #[.val (.int p1), .val (.int ((p1 &&& (2147483647 : Int32)) % (6 : Int32))), .val (.ref w2), .val (.long (8190 : Int64)), .second] [(.ref w2)])) rfl (by rw [hml]; rfl) (Steps.refl _) (argsL := []) (rest := []) (lenOf pd_0_0 rfl) rfl (by show 2 * 0 + _ ≤ _; exact Nat.le_of_eq rfl) (hb hby at_96) (fun _ _ => ⟨rfl, e3, (by decide : 0 + 0 ≤ _), (by decide : 0 + 0 ≤ _)⟩)
  dsimp only [Pt.U, Pt.locs, Pt.cells, Pt.slots] at X4 l4 y4 z4 st4 hQ4
  subst l4 y4 z4
  obtain ⟨rfl, N4q, e4⟩ := hQ4
  have N4 := Fr.app N0 N4q
  obtain ⟨fs, hr, hrun, hended, hW, hsame⟩ := X4.leave (v := some (.int (1 : Int32))) (fun h => by rw [Bd.returns] at h; cases h)
  refine ⟨_, _, pre0 _ ?_, hrun, hended, _, _, rfl, ?_, ⟨_, rfl⟩, hW, hsame.mono (by decide) (by decide)⟩
  · show Steps p.tables e below (s₁.setTop (mkF m 0 #[.val (.int p1), .unset, .unset, .unset, .unset] [])) _
    refine XS.iloadN X0.here hx rfl (hb hby at_0) rfl ?_
    show Steps p.tables e below (s₁.setTop (mkF m 1 #[.val (.int p1), .unset, .unset, .unset, .unset] [(.int p1)])) _
    refine X0.ldcInt hx hown (mvT hZ (hw _ (List.mem_of_getElem? (i := 0) rfl))) (g := (mkF m 1 #[.val (.int p1), .unset, .unset, .unset, .unset] [(.int p1)])) rfl (hb hby at_1) _ ?_
    show Steps p.tables e below (s₁.setTop (mkF m 3 #[.val (.int p1), .unset, .unset, .unset, .unset] [(.int (2147483647 : Int32)), (.int p1)])) _
    refine XS.iand X0.here hx rfl (hb hby at_3) rfl ?_
    show Steps p.tables e below (s₁.setTop (mkF m 4 #[.val (.int p1), .unset, .unset, .unset, .unset] [(.int (p1 &&& (2147483647 : Int32)))])) _
    refine XS.bipush X0.here hx rfl (hb hby at_4) ?_
    show Steps p.tables e below (s₁.setTop (mkF m 6 #[.val (.int p1), .unset, .unset, .unset, .unset] [(.int (6 : Int32)), (.int (p1 &&& (2147483647 : Int32)))])) _
    refine iremM X0 hx rfl (hb hby at_6) rfl (by decide) ?_
    show Steps p.tables e below (s₁.setTop (mkF m 7 #[.val (.int p1), .unset, .unset, .unset, .unset] [(.int ((p1 &&& (2147483647 : Int32)) % (6 : Int32)))])) _
    refine XS.istoreN X0.here hx rfl (hb hby at_7) rfl (l' := #[.val (.int p1), .val (.int ((p1 &&& (2147483647 : Int32)) % (6 : Int32))), .unset, .unset, .unset]) rfl ?_
    show Steps p.tables e below (s₁.setTop (mkF m 8 #[.val (.int p1), .val (.int ((p1 &&& (2147483647 : Int32)) % (6 : Int32))), .unset, .unset, .unset] [])) _
    refine XS.iloadN X0.here hx rfl (hb hby at_8) rfl ?_
    show Steps p.tables e below (s₁.setTop (mkF m 9 #[.val (.int p1), .val (.int ((p1 &&& (2147483647 : Int32)) % (6 : Int32))), .unset, .unset, .unset] [(.int ((p1 &&& (2147483647 : Int32)) % (6 : Int32)))])) _
    refine XS.ifYes X0.here hx rfl (pc0 := 9) (pc' := 23) rfl (hb hby at_9) rfl ((if0 _ _).trans (feq hc9).2) (by decide) (by decide) ?_
    show Steps p.tables e below (s₁.setTop (mkF m 23 #[.val (.int p1), .val (.int ((p1 &&& (2147483647 : Int32)) % (6 : Int32))), .unset, .unset, .unset] [])) _
    refine XS.iloadN X0.here hx rfl (hb hby at_23) rfl ?_
    show Steps p.tables e below (s₁.setTop (mkF m 24 #[.val (.int p1), .val (.int ((p1 &&& (2147483647 : Int32)) % (6 : Int32))), .unset, .unset, .unset] [(.int ((p1 &&& (2147483647 : Int32)) % (6 : Int32)))])) _
    refine XS.iconst X0.here hx rfl (hb hby at_24) ?_
    show Steps p.tables e below (s₁.setTop (mkF m 25 #[.val (.int p1), .val (.int ((p1 &&& (2147483647 : Int32)) % (6 : Int32))), .unset, .unset, .unset] [(.int (1 : Int32)), (.int ((p1 &&& (2147483647 : Int32)) % (6 : Int32)))])) _
    refine XS.icmpYes X0.here hx rfl (pc0 := 25) (pc' := 39) rfl (hb hby at_25) rfl (feq hc25).2 (by decide) (by decide) ?_
    show Steps p.tables e below (s₁.setTop (mkF m 39 #[.val (.int p1), .val (.int ((p1 &&& (2147483647 : Int32)) % (6 : Int32))), .unset, .unset, .unset] [])) _
    refine XS.iloadN X0.here hx rfl (hb hby at_39) rfl ?_
    show Steps p.tables e below (s₁.setTop (mkF m 40 #[.val (.int p1), .val (.int ((p1 &&& (2147483647 : Int32)) % (6 : Int32))), .unset, .unset, .unset] [(.int ((p1 &&& (2147483647 : Int32)) % (6 : Int32)))])) _
    refine XS.iconst X0.here hx rfl (hb hby at_40) ?_
    show Steps p.tables e below (s₁.setTop (mkF m 41 #[.val (.int p1), .val (.int ((p1 &&& (2147483647 : Int32)) % (6 : Int32))), .unset, .unset, .unset] [(.int (2 : Int32)), (.int ((p1 &&& (2147483647 : Int32)) % (6 : Int32)))])) _
    refine XS.icmpYes X0.here hx rfl (pc0 := 41) (pc' := 55) rfl (hb hby at_41) rfl (feq hc41).2 (by decide) (by decide) ?_
    show Steps p.tables e below (s₁.setTop (mkF m 55 #[.val (.int p1), .val (.int ((p1 &&& (2147483647 : Int32)) % (6 : Int32))), .unset, .unset, .unset] [])) _
    refine XS.iloadN X0.here hx rfl (hb hby at_55) rfl ?_
    show Steps p.tables e below (s₁.setTop (mkF m 56 #[.val (.int p1), .val (.int ((p1 &&& (2147483647 : Int32)) % (6 : Int32))), .unset, .unset, .unset] [(.int ((p1 &&& (2147483647 : Int32)) % (6 : Int32)))])) _
    refine XS.iconst X0.here hx rfl (hb hby at_56) ?_
    show Steps p.tables e below (s₁.setTop (mkF m 57 #[.val (.int p1), .val (.int ((p1 &&& (2147483647 : Int32)) % (6 : Int32))), .unset, .unset, .unset] [(.int (3 : Int32)), (.int ((p1 &&& (2147483647 : Int32)) % (6 : Int32)))])) _
    refine XS.icmpYes X0.here hx rfl (pc0 := 57) (pc' := 71) rfl (hb hby at_57) rfl (feq hc57).2 (by decide) (by decide) ?_
    show Steps p.tables e below (s₁.setTop (mkF m 71 #[.val (.int p1), .val (.int ((p1 &&& (2147483647 : Int32)) % (6 : Int32))), .unset, .unset, .unset] [])) _
    refine XS.iloadN X0.here hx rfl (hb hby at_71) rfl ?_
    show Steps p.tables e below (s₁.setTop (mkF m 72 #[.val (.int p1), .val (.int ((p1 &&& (2147483647 : Int32)) % (6 : Int32))), .unset, .unset, .unset] [(.int ((p1 &&& (2147483647 : Int32)) % (6 : Int32)))])) _
    refine XS.iconst X0.here hx rfl (hb hby at_72) ?_
    show Steps p.tables e below (s₁.setTop (mkF m 73 #[.val (.int p1), .val (.int ((p1 &&& (2147483647 : Int32)) % (6 : Int32))), .unset, .unset, .unset] [(.int (4 : Int32)), (.int ((p1 &&& (2147483647 : Int32)) % (6 : Int32)))])) _
    refine XS.icmpNo X0.here hx rfl (hb hby at_73) rfl (teq hc73).2 ?_
    show Steps p.tables e below (s₁.setTop (mkF m 76 #[.val (.int p1), .val (.int ((p1 &&& (2147483647 : Int32)) % (6 : Int32))), .unset, .unset, .unset] [])) _
    refine st3 _ ?_
    show Steps p.tables e below (T3.setTop (mkF m 79 #[.val (.int p1), .val (.int ((p1 &&& (2147483647 : Int32)) % (6 : Int32))), .unset, .unset, .unset] [(.ref w2)])) _
    refine XS.astoreN X3.here hx rfl (hb hby at_79) rfl rfl (l' := #[.val (.int p1), .val (.int ((p1 &&& (2147483647 : Int32)) % (6 : Int32))), .val (.ref w2), .unset, .unset]) rfl ?_
    show Steps p.tables e below (T3.setTop (mkF m 80 #[.val (.int p1), .val (.int ((p1 &&& (2147483647 : Int32)) % (6 : Int32))), .val (.ref w2), .unset, .unset] [])) _
    refine X3.ldc2Long hx hown (mvT hZ (hw _ (List.mem_of_getElem? (i := 35) rfl))) (g := (mkF m 80 #[.val (.int p1), .val (.int ((p1 &&& (2147483647 : Int32)) % (6 : Int32))), .val (.ref w2), .unset, .unset] [])) rfl (hb hby at_80) _ ?_
    show Steps p.tables e below (T3.setTop (mkF m 83 #[.val (.int p1), .val (.int ((p1 &&& (2147483647 : Int32)) % (6 : Int32))), .val (.ref w2), .unset, .unset] [(.long (8190 : Int64))])) _
    refine XS.lstoreN X3.here hx rfl (hb hby at_83) rfl (l' := #[.val (.int p1), .val (.int ((p1 &&& (2147483647 : Int32)) % (6 : Int32))), .val (.ref w2), .val (.long (8190 : Int64)), .second]) rfl ?_
    show Steps p.tables e below (T3.setTop (mkF m 84 #[.val (.int p1), .val (.int ((p1 &&& (2147483647 : Int32)) % (6 : Int32))), .val (.ref w2), .val (.long (8190 : Int64)), .second] [])) _
    refine XS.goto X3.here hx rfl (pc0 := 84) (pc' := 95) rfl (hb hby at_84) (by decide) (by decide) ?_
    show Steps p.tables e below (T3.setTop (mkF m 95 #[.val (.int p1), .val (.int ((p1 &&& (2147483647 : Int32)) % (6 : Int32))), .val (.ref w2), .val (.long (8190 : Int64)), .second] [])) _
    refine XS.aloadN X3.here hx rfl (hb hby at_95) rfl rfl ?_
    show Steps p.tables e below (T3.setTop (mkF m 96 #[.val (.int p1), .val (.int ((p1 &&& (2147483647 : Int32)) % (6 : Int32))), .val (.ref w2), .val (.long (8190 : Int64)), .second] [(.ref w2)])) _
    refine st4.trans ?_
    show Steps p.tables e below (T4.setTop (mkF m 99 #[.val (.int p1), .val (.int ((p1 &&& (2147483647 : Int32)) % (6 : Int32))), .val (.ref w2), .val (.long (8190 : Int64)), .second] [(.long (own_m (12 : Int32) (1 : Int32)))])) _
    refine XS.lloadN X4.here hx rfl (hb hby at_99) rfl ?_
    show Steps p.tables e below (T4.setTop (mkF m 100 #[.val (.int p1), .val (.int ((p1 &&& (2147483647 : Int32)) % (6 : Int32))), .val (.ref w2), .val (.long (8190 : Int64)), .second] [(.long (8190 : Int64)), (.long (own_m (12 : Int32) (1 : Int32)))])) _
    refine XS.lcmp X4.here hx rfl (hb hby at_100) rfl ?_
    show Steps p.tables e below (T4.setTop (mkF m 101 #[.val (.int p1), .val (.int ((p1 &&& (2147483647 : Int32)) % (6 : Int32))), .val (.ref w2), .val (.long (8190 : Int64)), .second] [(.int (lcmpW (own_m (12 : Int32) (1 : Int32)) (8190 : Int64)))])) _
    refine XS.ifNo X4.here hx rfl (hb hby at_101) rfl ((if0 _ _).trans (teq (by decide +kernel : (lcmpW (own_m (12 : Int32) (1 : Int32)) (8190 : Int64)) = (0 : Int32))).2) ?_
    show Steps p.tables e below (T4.setTop (mkF m 104 #[.val (.int p1), .val (.int ((p1 &&& (2147483647 : Int32)) % (6 : Int32))), .val (.ref w2), .val (.long (8190 : Int64)), .second] [])) _
    refine XS.iconst X4.here hx rfl (hb hby at_104) ?_
    show Steps p.tables e below (T4.setTop (mkF m 105 #[.val (.int p1), .val (.int ((p1 &&& (2147483647 : Int32)) % (6 : Int32))), .val (.ref w2), .val (.long (8190 : Int64)), .second] [(.int (1 : Int32))])) _
    refine XS.goto X4.here hx rfl (pc0 := 105) (pc' := 109) rfl (hb hby at_105) (by decide) (by decide) ?_
    show Steps p.tables e below (T4.setTop (mkF m 109 #[.val (.int p1), .val (.int ((p1 &&& (2147483647 : Int32)) % (6 : Int32))), .val (.ref w2), .val (.long (8190 : Int64)), .second] [(.int (1 : Int32))])) _
    exact retN X4 hx (t := .boolean) Bd.returns (by simp) (hb hby at_109) hr
  · show Q04 Z p1 w2 h0 n0 _ T4.heap _
    exact ⟨rfl, N4⟩
def Q05 (Z : State) (p1 : Int32) (w2 : Addr) (h0 : Heap) (n0 : Nat) (v : Option Value) (h : Heap) (L : List Loc) : Prop := v = some (.int (1 : Int32)) ∧ Fr n0 L
set_option maxRecDepth 65536 in
set_option maxHeartbeats 40000000 in
theorem rm05 (l : Launch) (Z : State) (a0 : Array Value) (hw : ∀ d ∈ tables_1, d.before a0 Z = true) (ws : List Jvm.Cond) (p1 : Int32) (w2 : Addr) (h0 : Heap) (n0 : Nat) (Z0 : n0 ≤ h0.size) (S_DAY_OF_WEEK : Sta Z h0 "com/example/solotick/solotick/schedule/CronField" "DAY_OF_WEEK" "Lcom/example/solotick/solotick/schedule/CronField;" (.ref w2)) (E_w2 : Exa Z h0 w2 "com/example/solotick/solotick/schedule/CronField") (F_max : Fld Z h0 w2 "com/example/solotick/solotick/schedule/CronField" "max" "I" (.int (7 : Int32))) (F_min : Fld Z h0 w2 "com/example/solotick/solotick/schedule/CronField" "min" "I" (.int (0 : Int32))) (hc9 : ¬ (((p1 &&& (2147483647 : Int32)) % (6 : Int32)) = (0 : Int32))) (hc25 : ¬ (((p1 &&& (2147483647 : Int32)) % (6 : Int32)) = (1 : Int32))) (hc41 : ¬ (((p1 &&& (2147483647 : Int32)) % (6 : Int32)) = (2 : Int32))) (hc57 : ¬ (((p1 &&& (2147483647 : Int32)) % (6 : Int32)) = (3 : Int32))) (hc73 : ¬ (((p1 &&& (2147483647 : Int32)) % (6 : Int32)) = (4 : Int32))) :
    MetFree l x (head1 (Jvm.Cond.code x code maxLocals ret :: ws) room_1) (fun a U => a = #[(.int p1)] ∧ Z.Warmed39 U.vm ∧ U.heap = h0) (fun _ _ _ _ _ => True) (fun _ U o U' => ∃ v L, o = .returned v ∧ Q05 Z p1 w2 h0 n0 v U'.heap L ∧ FrameEnd U o U' L room_1.cells room_1.slots) := by
  refine MetFree.of_bodySF (plainFor_of_name pn_0) hisR ?_
  intro p e s m args below meth c s₁ Bd hml0 hP hK
  obtain ⟨rfl, hZ, hh⟩ := hP
  have hx := Bd.exec
  have hby := Bd.bytes
  have hml : c.maxLocals = 5 := hml0
  have hown : s.vm.findClass "com/example/solotick/solotick/schedule/CronFieldAllPinLaw" = some m.cls := findClass_of_methodNamed Bd.named
  have hnm := (name_of_methodNamed Bd.named Bd.method).1
  have X0 : Stand p l e room_1 s m #[(.int p1)] below meth c s₁ [] 0 0 := Stand.of_body Bd
  have e0 : s₁.heap = h0 := by rw [← hh, Bd.state]; rfl
  have N0 := Fr.nil n0
  have pre0 : ∀ t, Steps p.tables e below (s₁.setTop (mkF m 0 #[.val (.int p1), .unset, .unset, .unset, .unset] [])) t → Steps p.tables e below (s₁.setTop (entryFrame m #[(.int p1)] maxLocals)) t := fun t k => castTop (ef_0 m p1) k
  obtain ⟨T3, X3, e3, st3⟩ := getS2 X0 hx hZ hown (host := "") (Or.inl (hw _ (List.mem_of_getElem? (i := 29) rfl))) Via.refl e0 S_DAY_OF_WEEK (g := (mkF m 87 #[.val (.int p1), .val (.int ((p1 &&& (2147483647 : Int32)) % (6 : Int32))), .unset, .unset, .unset] [])) rfl (hb hby at_87)
  obtain ⟨cq4, kq4, q4a, q4b, q4c⟩ := isOf hZ e3 E_w2
  obtain ⟨_, _, ⟨T4, L4, k4, n4⟩, -, X4, ⟨Lc4, hQ4, l4, y4, z4⟩, st4⟩ := X3.virtualBack hx (y := (⟨"com/example/solotick/solotick/schedule/CronField", "all", "()J"⟩ : MethodName)) (z := (⟨"com/example/solotick/solotick/schedule/CronField", "all", "()J"⟩ : MethodName)) hown (mvT hZ (hw _ (List.mem_of_getElem? (i := 5) rfl))) (mvT hZ (hw _ (List.mem_of_getElem? (i := 6) rfl))) (notFace_of_selects (args := #[]) (mvT hZ (hw _ (List.mem_of_getElem? (i := 8) rfl)))) (mvT hZ (hw _ (List.mem_of_getElem? (i := 8) rfl))) (mvT hZ (hw _ (List.mem_of_getElem? (i := 7) rfl))) (by decide) (backOf (W := 0) (rm1d l Z a0 hw [] w2 7 0 h0 n0 Z0 F_max F_min E_w2 S_DAY_OF_WEEK (by decide +kernel)) hZ (hw _ (List.mem_of_getElem? (i := 9) rfl)) (hw _ (List.mem_of_getElem? (i := 2) rfl)) (by decide) (by decide)) q4a q4c (g := (mkF m 96 #[.val (.int p1), .val (.int ((p1 &&& (2147483647 : Int32)) % (6 : Int32))), .val (.ref w2), .val (.long (127 : Int64)), .second] [(.ref w2)])) rfl (by rw [hml]; rfl) (Steps.refl _) (argsL := []) (rest := []) (lenOf pd_0_0 rfl) rfl (by show 2 * 0 + _ ≤ _; exact Nat.le_of_eq rfl) (hb hby at_96) (fun _ _ => ⟨rfl, e3, (by decide : 0 + 0 ≤ _), (by decide : 0 + 0 ≤ _)⟩)
  dsimp only [Pt.U, Pt.locs, Pt.cells, Pt.slots] at X4 l4 y4 z4 st4 hQ4
  subst l4 y4 z4
  obtain ⟨rfl, N4q, e4⟩ := hQ4
  have N4 := Fr.app N0 N4q
  obtain ⟨fs, hr, hrun, hended, hW, hsame⟩ := X4.leave (v := some (.int (1 : Int32))) (fun h => by rw [Bd.returns] at h; cases h)
  refine ⟨_, _, pre0 _ ?_, hrun, hended, _, _, rfl, ?_, ⟨_, rfl⟩, hW, hsame.mono (by decide) (by decide)⟩
  · show Steps p.tables e below (s₁.setTop (mkF m 0 #[.val (.int p1), .unset, .unset, .unset, .unset] [])) _
    refine XS.iloadN X0.here hx rfl (hb hby at_0) rfl ?_
    show Steps p.tables e below (s₁.setTop (mkF m 1 #[.val (.int p1), .unset, .unset, .unset, .unset] [(.int p1)])) _
    refine X0.ldcInt hx hown (mvT hZ (hw _ (List.mem_of_getElem? (i := 0) rfl))) (g := (mkF m 1 #[.val (.int p1), .unset, .unset, .unset, .unset] [(.int p1)])) rfl (hb hby at_1) _ ?_
    show Steps p.tables e below (s₁.setTop (mkF m 3 #[.val (.int p1), .unset, .unset, .unset, .unset] [(.int (2147483647 : Int32)), (.int p1)])) _
    refine XS.iand X0.here hx rfl (hb hby at_3) rfl ?_
    show Steps p.tables e below (s₁.setTop (mkF m 4 #[.val (.int p1), .unset, .unset, .unset, .unset] [(.int (p1 &&& (2147483647 : Int32)))])) _
    refine XS.bipush X0.here hx rfl (hb hby at_4) ?_
    show Steps p.tables e below (s₁.setTop (mkF m 6 #[.val (.int p1), .unset, .unset, .unset, .unset] [(.int (6 : Int32)), (.int (p1 &&& (2147483647 : Int32)))])) _
    refine iremM X0 hx rfl (hb hby at_6) rfl (by decide) ?_
    show Steps p.tables e below (s₁.setTop (mkF m 7 #[.val (.int p1), .unset, .unset, .unset, .unset] [(.int ((p1 &&& (2147483647 : Int32)) % (6 : Int32)))])) _
    refine XS.istoreN X0.here hx rfl (hb hby at_7) rfl (l' := #[.val (.int p1), .val (.int ((p1 &&& (2147483647 : Int32)) % (6 : Int32))), .unset, .unset, .unset]) rfl ?_
    show Steps p.tables e below (s₁.setTop (mkF m 8 #[.val (.int p1), .val (.int ((p1 &&& (2147483647 : Int32)) % (6 : Int32))), .unset, .unset, .unset] [])) _
    refine XS.iloadN X0.here hx rfl (hb hby at_8) rfl ?_
    show Steps p.tables e below (s₁.setTop (mkF m 9 #[.val (.int p1), .val (.int ((p1 &&& (2147483647 : Int32)) % (6 : Int32))), .unset, .unset, .unset] [(.int ((p1 &&& (2147483647 : Int32)) % (6 : Int32)))])) _
    refine XS.ifYes X0.here hx rfl (pc0 := 9) (pc' := 23) rfl (hb hby at_9) rfl ((if0 _ _).trans (feq hc9).2) (by decide) (by decide) ?_
    show Steps p.tables e below (s₁.setTop (mkF m 23 #[.val (.int p1), .val (.int ((p1 &&& (2147483647 : Int32)) % (6 : Int32))), .unset, .unset, .unset] [])) _
    refine XS.iloadN X0.here hx rfl (hb hby at_23) rfl ?_
    show Steps p.tables e below (s₁.setTop (mkF m 24 #[.val (.int p1), .val (.int ((p1 &&& (2147483647 : Int32)) % (6 : Int32))), .unset, .unset, .unset] [(.int ((p1 &&& (2147483647 : Int32)) % (6 : Int32)))])) _
    refine XS.iconst X0.here hx rfl (hb hby at_24) ?_
    show Steps p.tables e below (s₁.setTop (mkF m 25 #[.val (.int p1), .val (.int ((p1 &&& (2147483647 : Int32)) % (6 : Int32))), .unset, .unset, .unset] [(.int (1 : Int32)), (.int ((p1 &&& (2147483647 : Int32)) % (6 : Int32)))])) _
    refine XS.icmpYes X0.here hx rfl (pc0 := 25) (pc' := 39) rfl (hb hby at_25) rfl (feq hc25).2 (by decide) (by decide) ?_
    show Steps p.tables e below (s₁.setTop (mkF m 39 #[.val (.int p1), .val (.int ((p1 &&& (2147483647 : Int32)) % (6 : Int32))), .unset, .unset, .unset] [])) _
    refine XS.iloadN X0.here hx rfl (hb hby at_39) rfl ?_
    show Steps p.tables e below (s₁.setTop (mkF m 40 #[.val (.int p1), .val (.int ((p1 &&& (2147483647 : Int32)) % (6 : Int32))), .unset, .unset, .unset] [(.int ((p1 &&& (2147483647 : Int32)) % (6 : Int32)))])) _
    refine XS.iconst X0.here hx rfl (hb hby at_40) ?_
    show Steps p.tables e below (s₁.setTop (mkF m 41 #[.val (.int p1), .val (.int ((p1 &&& (2147483647 : Int32)) % (6 : Int32))), .unset, .unset, .unset] [(.int (2 : Int32)), (.int ((p1 &&& (2147483647 : Int32)) % (6 : Int32)))])) _
    refine XS.icmpYes X0.here hx rfl (pc0 := 41) (pc' := 55) rfl (hb hby at_41) rfl (feq hc41).2 (by decide) (by decide) ?_
    show Steps p.tables e below (s₁.setTop (mkF m 55 #[.val (.int p1), .val (.int ((p1 &&& (2147483647 : Int32)) % (6 : Int32))), .unset, .unset, .unset] [])) _
    refine XS.iloadN X0.here hx rfl (hb hby at_55) rfl ?_
    show Steps p.tables e below (s₁.setTop (mkF m 56 #[.val (.int p1), .val (.int ((p1 &&& (2147483647 : Int32)) % (6 : Int32))), .unset, .unset, .unset] [(.int ((p1 &&& (2147483647 : Int32)) % (6 : Int32)))])) _
    refine XS.iconst X0.here hx rfl (hb hby at_56) ?_
    show Steps p.tables e below (s₁.setTop (mkF m 57 #[.val (.int p1), .val (.int ((p1 &&& (2147483647 : Int32)) % (6 : Int32))), .unset, .unset, .unset] [(.int (3 : Int32)), (.int ((p1 &&& (2147483647 : Int32)) % (6 : Int32)))])) _
    refine XS.icmpYes X0.here hx rfl (pc0 := 57) (pc' := 71) rfl (hb hby at_57) rfl (feq hc57).2 (by decide) (by decide) ?_
    show Steps p.tables e below (s₁.setTop (mkF m 71 #[.val (.int p1), .val (.int ((p1 &&& (2147483647 : Int32)) % (6 : Int32))), .unset, .unset, .unset] [])) _
    refine XS.iloadN X0.here hx rfl (hb hby at_71) rfl ?_
    show Steps p.tables e below (s₁.setTop (mkF m 72 #[.val (.int p1), .val (.int ((p1 &&& (2147483647 : Int32)) % (6 : Int32))), .unset, .unset, .unset] [(.int ((p1 &&& (2147483647 : Int32)) % (6 : Int32)))])) _
    refine XS.iconst X0.here hx rfl (hb hby at_72) ?_
    show Steps p.tables e below (s₁.setTop (mkF m 73 #[.val (.int p1), .val (.int ((p1 &&& (2147483647 : Int32)) % (6 : Int32))), .unset, .unset, .unset] [(.int (4 : Int32)), (.int ((p1 &&& (2147483647 : Int32)) % (6 : Int32)))])) _
    refine XS.icmpYes X0.here hx rfl (pc0 := 73) (pc' := 87) rfl (hb hby at_73) rfl (feq hc73).2 (by decide) (by decide) ?_
    show Steps p.tables e below (s₁.setTop (mkF m 87 #[.val (.int p1), .val (.int ((p1 &&& (2147483647 : Int32)) % (6 : Int32))), .unset, .unset, .unset] [])) _
    refine st3 _ ?_
    show Steps p.tables e below (T3.setTop (mkF m 90 #[.val (.int p1), .val (.int ((p1 &&& (2147483647 : Int32)) % (6 : Int32))), .unset, .unset, .unset] [(.ref w2)])) _
    refine XS.astoreN X3.here hx rfl (hb hby at_90) rfl rfl (l' := #[.val (.int p1), .val (.int ((p1 &&& (2147483647 : Int32)) % (6 : Int32))), .val (.ref w2), .unset, .unset]) rfl ?_
    show Steps p.tables e below (T3.setTop (mkF m 91 #[.val (.int p1), .val (.int ((p1 &&& (2147483647 : Int32)) % (6 : Int32))), .val (.ref w2), .unset, .unset] [])) _
    refine X3.ldc2Long hx hown (mvT hZ (hw _ (List.mem_of_getElem? (i := 30) rfl))) (g := (mkF m 91 #[.val (.int p1), .val (.int ((p1 &&& (2147483647 : Int32)) % (6 : Int32))), .val (.ref w2), .unset, .unset] [])) rfl (hb hby at_91) _ ?_
    show Steps p.tables e below (T3.setTop (mkF m 94 #[.val (.int p1), .val (.int ((p1 &&& (2147483647 : Int32)) % (6 : Int32))), .val (.ref w2), .unset, .unset] [(.long (127 : Int64))])) _
    refine XS.lstoreN X3.here hx rfl (hb hby at_94) rfl (l' := #[.val (.int p1), .val (.int ((p1 &&& (2147483647 : Int32)) % (6 : Int32))), .val (.ref w2), .val (.long (127 : Int64)), .second]) rfl ?_
    show Steps p.tables e below (T3.setTop (mkF m 95 #[.val (.int p1), .val (.int ((p1 &&& (2147483647 : Int32)) % (6 : Int32))), .val (.ref w2), .val (.long (127 : Int64)), .second] [])) _
    refine XS.aloadN X3.here hx rfl (hb hby at_95) rfl rfl ?_
    show Steps p.tables e below (T3.setTop (mkF m 96 #[.val (.int p1), .val (.int ((p1 &&& (2147483647 : Int32)) % (6 : Int32))), .val (.ref w2), .val (.long (127 : Int64)), .second] [(.ref w2)])) _
    refine st4.trans ?_
    show Steps p.tables e below (T4.setTop (mkF m 99 #[.val (.int p1), .val (.int ((p1 &&& (2147483647 : Int32)) % (6 : Int32))), .val (.ref w2), .val (.long (127 : Int64)), .second] [(.long (((own_m (7 : Int32) (0 : Int32)) &&& (-129 : Int64)) ||| (1 : Int64)))])) _
    refine XS.lloadN X4.here hx rfl (hb hby at_99) rfl ?_
    show Steps p.tables e below (T4.setTop (mkF m 100 #[.val (.int p1), .val (.int ((p1 &&& (2147483647 : Int32)) % (6 : Int32))), .val (.ref w2), .val (.long (127 : Int64)), .second] [(.long (127 : Int64)), (.long (((own_m (7 : Int32) (0 : Int32)) &&& (-129 : Int64)) ||| (1 : Int64)))])) _
    refine XS.lcmp X4.here hx rfl (hb hby at_100) rfl ?_
    show Steps p.tables e below (T4.setTop (mkF m 101 #[.val (.int p1), .val (.int ((p1 &&& (2147483647 : Int32)) % (6 : Int32))), .val (.ref w2), .val (.long (127 : Int64)), .second] [(.int (lcmpW (((own_m (7 : Int32) (0 : Int32)) &&& (-129 : Int64)) ||| (1 : Int64)) (127 : Int64)))])) _
    refine XS.ifNo X4.here hx rfl (hb hby at_101) rfl ((if0 _ _).trans (teq (by decide +kernel : (lcmpW (((own_m (7 : Int32) (0 : Int32)) &&& (-129 : Int64)) ||| (1 : Int64)) (127 : Int64)) = (0 : Int32))).2) ?_
    show Steps p.tables e below (T4.setTop (mkF m 104 #[.val (.int p1), .val (.int ((p1 &&& (2147483647 : Int32)) % (6 : Int32))), .val (.ref w2), .val (.long (127 : Int64)), .second] [])) _
    refine XS.iconst X4.here hx rfl (hb hby at_104) ?_
    show Steps p.tables e below (T4.setTop (mkF m 105 #[.val (.int p1), .val (.int ((p1 &&& (2147483647 : Int32)) % (6 : Int32))), .val (.ref w2), .val (.long (127 : Int64)), .second] [(.int (1 : Int32))])) _
    refine XS.goto X4.here hx rfl (pc0 := 105) (pc' := 109) rfl (hb hby at_105) (by decide) (by decide) ?_
    show Steps p.tables e below (T4.setTop (mkF m 109 #[.val (.int p1), .val (.int ((p1 &&& (2147483647 : Int32)) % (6 : Int32))), .val (.ref w2), .val (.long (127 : Int64)), .second] [(.int (1 : Int32))])) _
    exact retN X4 hx (t := .boolean) Bd.returns (by simp) (hb hby at_109) hr
  · show Q05 Z p1 w2 h0 n0 _ T4.heap _
    exact ⟨rfl, N4⟩
set_option maxRecDepth 65536 in
set_option maxHeartbeats 40000000 in
theorem comes_1 {Post : Tables → Env → Array Value → State → Outcome → State → Prop} (hpost : ∀ tb e args s v u, (limb_1_1.after args s (.returned v) u = true ∧ limb_1_2.after args s (.returned v) u = true ∧ True) → FrameEnd s (.returned v) u (Jvm.fieldLocs frame_1_writes args s ++ Jvm.arrayLocs frame_1_arrays args s ++ Jvm.staticLocs frame_1_statics s) 0 0 → Post tb e args s (.returned v) u) :
    ArmFor flags0 classFile x code maxLocals ret World_1 tables_1 room_1 Calls_1 rest_1 Pre_1 Post := by
  intro l hfl _ _ p e ha hc hk s m args below hf hA hF happ hP
  obtain ⟨hcalls, hrest, hpre⟩ := hP
  obtain ⟨-, -, -, hnamed, -, -, -, hat⟩ := (Spec.applies_iff hf).mp happ
  obtain ⟨hg, hn⟩ := and_e (Cond.before_iff.mp (show (Jvm.Cond.and given_1 narrow_1).before args s = true from hpre))
  obtain ⟨g0, hg⟩ := and_e hg
  obtain ⟨w0, rfl⟩ : ∃ w0 : Value, args = #[w0] := by
    have hs : args.size = 1 := by simpa [Cond.value, given_1] using g0
    obtain ⟨L⟩ := args
    match L, hs with
    | [w0], _ => exact ⟨w0, rfl⟩
  have hw := fun d (hd : d ∈ tables_1) => atoms_spec (ws := Jvm.Cond.code x code maxLocals ret :: tables_1) hat d (List.mem_cons_of_mem _ hd)
  have ga0 := hg
  obtain ⟨i0, ei0⟩ := is_v ga0
  obtain rfl : w0 = (.int i0) := Option.some.inj ei0
  obtain ⟨k1, hn⟩ := and_e hn
  obtain ⟨k2, hn⟩ := and_e hn
  obtain ⟨k3, hn⟩ := and_e hn
  obtain ⟨k4, hn⟩ := and_e hn
  obtain ⟨k5, hn⟩ := and_e hn
  obtain ⟨k6, hn⟩ := and_e hn
  obtain ⟨k7, hn⟩ := and_e hn
  obtain ⟨k8, hn⟩ := and_e hn
  obtain ⟨k9, hn⟩ := and_e hn
  obtain ⟨k10, hn⟩ := and_e hn
  obtain ⟨k11, hn⟩ := and_e hn
  obtain ⟨k12, hn⟩ := and_e hn
  obtain ⟨k13, hn⟩ := and_e hn
  obtain ⟨k14, hn⟩ := and_e hn
  obtain ⟨k15, hn⟩ := and_e hn
  obtain ⟨k16, hn⟩ := and_e hn
  obtain ⟨k17, hn⟩ := and_e hn
  obtain ⟨k18, hn⟩ := and_e hn
  obtain ⟨k19, hn⟩ := and_e hn
  obtain ⟨k20, hn⟩ := and_e hn
  obtain ⟨k21, hn⟩ := and_e hn
  obtain ⟨k22, hn⟩ := and_e hn
  obtain ⟨k23, hn⟩ := and_e hn
  have k24 := hn
  obtain ⟨b0, t0⟩ := exa_v k1
  have S0 := Sta.start t0 (Or.inr ⟨(hw _ (List.mem_of_getElem? (i := 2) rfl)), (hw _ (List.mem_of_getElem? (i := 3) rfl))⟩)
  have E0 := Exa.start t0 k1
  have X0 := Fld.start (own_fo t0 k2)
  have N0 := Fld.start (own_fo t0 k3)
  obtain ⟨b1, t1⟩ := exa_v k15
  have S1 := Sta.start t1 (Or.inr ⟨(hw _ (List.mem_of_getElem? (i := 2) rfl)), (hw _ (List.mem_of_getElem? (i := 28) rfl))⟩)
  have E1 := Exa.start t1 k15
  have X1 := Fld.start (own_fo t1 k16)
  have N1 := Fld.start (own_fo t1 k17)
  obtain ⟨b2, t2⟩ := exa_v k11
  have S2 := Sta.start t2 (Or.inr ⟨(hw _ (List.mem_of_getElem? (i := 2) rfl)), (hw _ (List.mem_of_getElem? (i := 25) rfl))⟩)
  have E2 := Exa.start t2 k11
  have X2 := Fld.start (own_fo t2 k12)
  have N2 := Fld.start (own_fo t2 k13)
  obtain ⟨b3, t3⟩ := exa_v k7
  have S3 := Sta.start t3 (Or.inr ⟨(hw _ (List.mem_of_getElem? (i := 2) rfl)), (hw _ (List.mem_of_getElem? (i := 22) rfl))⟩)
  have E3 := Exa.start t3 k7
  have X3 := Fld.start (own_fo t3 k8)
  have N3 := Fld.start (own_fo t3 k9)
  obtain ⟨b4, t4⟩ := exa_v k21
  have S4 := Sta.start t4 (Or.inr ⟨(hw _ (List.mem_of_getElem? (i := 2) rfl)), (hw _ (List.mem_of_getElem? (i := 34) rfl))⟩)
  have E4 := Exa.start t4 k21
  have X4 := Fld.start (own_fo t4 k22)
  have N4 := Fld.start (own_fo t4 k23)
  obtain ⟨b5, t5⟩ := exa_v k4
  have S5 := Sta.start t5 (Or.inr ⟨(hw _ (List.mem_of_getElem? (i := 2) rfl)), (hw _ (List.mem_of_getElem? (i := 20) rfl))⟩)
  have E5 := Exa.start t5 k4
  have X5 := Fld.start (own_fo t5 k19)
  have N5 := Fld.start (own_fo t5 k20)
  by_cases q0 : ((i0 &&& (2147483647 : Int32)) % (6 : Int32)) = (0 : Int32)
  · skip
    obtain ⟨n, o, h1, h2, h3, _, L, rfl, ⟨rfl, N⟩, hq⟩ := rm00 l s _ hw tables_1 i0 b0 s.heap s.heap.size (Nat.le_refl _) S0 E0 X0 N0 b5 S5 (own_ne t0 t5 k5 k6 (by decide))  q0 p e ha hc hk s m _ below hf ((Spec.applies_iff_loose hf).mp happ).1 ⟨rfl, State.Warmed39.refl s, rfl⟩ trivial
    refine ⟨n, _, h1, h2, h3, hpost _ _ _ _ _ _ ⟨Cond.after_iff.mpr rfl, Cond.after_iff.mpr (eq_i res_at (Term.int_eval (1)) rfl), trivial⟩ ⟨hq.1, hq.2.1, (hq.2.2.sift fun y hy => Or.inr (N y hy)).mono (by decide) (by decide)⟩⟩
  by_cases q1 : ((i0 &&& (2147483647 : Int32)) % (6 : Int32)) = (1 : Int32)
  · skip
    obtain ⟨n, o, h1, h2, h3, _, L, rfl, ⟨rfl, N⟩, hq⟩ := rm01 l s _ hw tables_1 i0 b1 s.heap s.heap.size (Nat.le_refl _) S1 E1 X1 N1 b5 S5 (own_ne t1 t5 k18 k6 (by decide)) q0 q1 p e ha hc hk s m _ below hf ((Spec.applies_iff_loose hf).mp happ).1 ⟨rfl, State.Warmed39.refl s, rfl⟩ trivial
    refine ⟨n, _, h1, h2, h3, hpost _ _ _ _ _ _ ⟨Cond.after_iff.mpr rfl, Cond.after_iff.mpr (eq_i res_at (Term.int_eval (1)) rfl), trivial⟩ ⟨hq.1, hq.2.1, (hq.2.2.sift fun y hy => Or.inr (N y hy)).mono (by decide) (by decide)⟩⟩
  by_cases q2 : ((i0 &&& (2147483647 : Int32)) % (6 : Int32)) = (2 : Int32)
  · skip
    obtain ⟨n, o, h1, h2, h3, _, L, rfl, ⟨rfl, N⟩, hq⟩ := rm02 l s _ hw tables_1 i0 b2 s.heap s.heap.size (Nat.le_refl _) S2 E2 X2 N2 b5 S5 (own_ne t2 t5 k14 k6 (by decide)) q0 q1 q2 p e ha hc hk s m _ below hf ((Spec.applies_iff_loose hf).mp happ).1 ⟨rfl, State.Warmed39.refl s, rfl⟩ trivial
    refine ⟨n, _, h1, h2, h3, hpost _ _ _ _ _ _ ⟨Cond.after_iff.mpr rfl, Cond.after_iff.mpr (eq_i res_at (Term.int_eval (1)) rfl), trivial⟩ ⟨hq.1, hq.2.1, (hq.2.2.sift fun y hy => Or.inr (N y hy)).mono (by decide) (by decide)⟩⟩
  by_cases q3 : ((i0 &&& (2147483647 : Int32)) % (6 : Int32)) = (3 : Int32)
  · skip
    obtain ⟨n, o, h1, h2, h3, _, L, rfl, ⟨rfl, N⟩, hq⟩ := rm03 l s _ hw tables_1 i0 b3 s.heap s.heap.size (Nat.le_refl _) S3 E3 X3 N3 b5 S5 (own_ne t3 t5 k10 k6 (by decide)) q0 q1 q2 q3 p e ha hc hk s m _ below hf ((Spec.applies_iff_loose hf).mp happ).1 ⟨rfl, State.Warmed39.refl s, rfl⟩ trivial
    refine ⟨n, _, h1, h2, h3, hpost _ _ _ _ _ _ ⟨Cond.after_iff.mpr rfl, Cond.after_iff.mpr (eq_i res_at (Term.int_eval (1)) rfl), trivial⟩ ⟨hq.1, hq.2.1, (hq.2.2.sift fun y hy => Or.inr (N y hy)).mono (by decide) (by decide)⟩⟩
  by_cases q4 : ((i0 &&& (2147483647 : Int32)) % (6 : Int32)) = (4 : Int32)
  · skip
    obtain ⟨n, o, h1, h2, h3, _, L, rfl, ⟨rfl, N⟩, hq⟩ := rm04 l s _ hw tables_1 i0 b4 s.heap s.heap.size (Nat.le_refl _) S4 E4 X4 N4 b5 S5 (own_ne t4 t5 k24 k6 (by decide)) q0 q1 q2 q3 q4 p e ha hc hk s m _ below hf ((Spec.applies_iff_loose hf).mp happ).1 ⟨rfl, State.Warmed39.refl s, rfl⟩ trivial
    refine ⟨n, _, h1, h2, h3, hpost _ _ _ _ _ _ ⟨Cond.after_iff.mpr rfl, Cond.after_iff.mpr (eq_i res_at (Term.int_eval (1)) rfl), trivial⟩ ⟨hq.1, hq.2.1, (hq.2.2.sift fun y hy => Or.inr (N y hy)).mono (by decide) (by decide)⟩⟩
  obtain ⟨n, o, h1, h2, h3, _, L, rfl, ⟨rfl, N⟩, hq⟩ := rm05 l s _ hw tables_1 i0 b5 s.heap s.heap.size (Nat.le_refl _) S5 E5 X5 N5 q0 q1 q2 q3 q4 p e ha hc hk s m _ below hf ((Spec.applies_iff_loose hf).mp happ).1 ⟨rfl, State.Warmed39.refl s, rfl⟩ trivial
  refine ⟨n, _, h1, h2, h3, hpost _ _ _ _ _ _ ⟨Cond.after_iff.mpr rfl, Cond.after_iff.mpr (eq_i res_at (Term.int_eval (1)) rfl), trivial⟩ ⟨hq.1, hq.2.1, (hq.2.2.sift fun y hy => Or.inr (N y hy)).mono (by decide) (by decide)⟩⟩
theorem main_1_1 : Claimed_1_1 := comes_1 fun _ _ _ _ _ _ h hF => ⟨h.1, hF⟩
theorem main_1_2 : Claimed_1_2 := comes_1 fun _ _ _ _ _ _ h hF => ⟨h.2.1, hF⟩
end Jvm.Pilot.@@N@@
namespace Jvm.Pilot.@@N@@
open Jvm Jvm.ClassFile Sem Op Lib Jvm.Free Jvm.Stand Jvm.Pilot.@@N@@.Jvm.D
/-! MADE BY PROGRAM (witnessworld.py) out of the Statement's table words and the real class files: 12 classes; the members and pool entries that the words name. The judged class is class 1, her method 1. -/
namespace start1
open Jvm.ClassFile
def u (s : String) : CpInfo := .utf8 (stringToUtf16 s)
/-- a pool by its gaps: so many unusable entries, then the entry; so many at the end -/
def gap : Nat → List CpInfo → List CpInfo
  | 0, r => r
  | n + 1, r => .unusable :: gap n r
def poolList (es : List (Nat × CpInfo)) (last : Nat) : List CpInfo := es.foldr (fun e r => gap e.1 (e.2 :: r)) (gap last [])
def pool (es : List (Nat × CpInfo)) (last : Nat) : Array CpInfo := ⟨poolList es last⟩
def fileOf (pool : Array CpInfo) (this : Nat) (attrs : Array Attribute := #[]) (ms : Array MethodInfo := #[]) (fl : Nat := 33) (sup : Nat := 0) (ifs : Array Nat := #[]) (fds : Array FieldInfo := #[]) : ClassFile where
  minorVersion := 0
  majorVersion := 65
  constantPool := pool
  accessFlags := fl
  thisClass := this
  superClass := sup
  interfaces := ifs
  fields := fds
  methods := ms
  attributes := attrs
def plain (name : String) (sup : Option ClassId) : Class where
  name := name
  kind := .ordinary
  loader := none
  accessFlags := 33
  super := sup
  interfaces := #[]
  cf := none
  fields := #[]
  methods := #[]
  instanceTypes := #[]
  staticTypes := #[]
  resolved := #[]
  callSites := []
  init := .initialized
  statics := none
  mirror := none

def pool0 : Array CpInfo := pool [(5, u "<init>"), (0, u "()V"), (1, .class_ 10), (1, u "java/lang/Object")] 113

def k0m0 : Method := { name := "<init>", desc := "()V", sig := { parameters := [], returnType := none }, accessFlags := 1, code := none }
/-- java/lang/Object -/
def k0 : Class := { plain "java/lang/Object" none with
  accessFlags := 33
  interfaces := #[]
  cf := some (fileOf pool0 8 #[] #[{ accessFlags := 1, nameIndex := 5, descriptorIndex := 6, attributes := #[] }] 33 0 #[] #[])
  fields := #[]
  methods := #[k0m0]
  instanceTypes := #[]
  staticTypes := #[]
  resolved := Array.replicate 124 none
  statics := none }

def pool1 : Array CpInfo := pool [(2, .class_ 4), (1, u "java/lang/Object"), (0, u "<init>"), (0, u "()V"), (0, .integer 2147483647), (0, .fieldref 9 10), (0, .class_ 11), (0, .nameAndType 12 13), (0, u "com/example/solotick/solotick/schedule/CronField"), (0, u "SECOND"), (0, u "Lcom/example/solotick/solotick/schedule/CronField;"), (0, .long 1152921504606846975), (1, .fieldref 9 17), (0, .nameAndType 18 13), (0, u "MINUTE"), (0, .fieldref 9 20), (0, .nameAndType 21 13), (0, u "HOUR"), (0, .long 16777215), (1, .fieldref 9 25), (0, .nameAndType 26 13), (0, u "DAY_OF_MONTH"), (0, .long 4294967294), (1, .fieldref 9 30), (0, .nameAndType 31 13), (0, u "MONTH"), (0, .long 8190), (1, .fieldref 9 35), (0, .nameAndType 36 13), (0, u "DAY_OF_WEEK"), (0, .long 127), (1, .methodref 9 40), (0, .nameAndType 41 42), (0, u "all"), (0, u "()J"), (0, .class_ 44), (0, u "com/example/solotick/solotick/schedule/CronFieldAllPinLaw"), (2, u "law"), (0, u "(I)Z")] 3

def k1m0 : Method := { name := "<init>", desc := "()V", sig := { parameters := [], returnType := none }, accessFlags := 1, code := none }
def k1c1 : Code := { maxStack := 4, maxLocals := 5, code := code, exceptionTable := #[], attributes := #[] }
def k1m1 : Method := { name := "law", desc := "(I)Z", sig := { parameters := [.int], returnType := some .boolean }, accessFlags := 9, code := some k1c1 }
/-- com/example/solotick/solotick/schedule/CronFieldAllPinLaw -/
def k1 : Class := { plain "com/example/solotick/solotick/schedule/CronFieldAllPinLaw" (some 0) with
  accessFlags := 49
  interfaces := #[]
  cf := some (fileOf pool1 43 #[] #[{ accessFlags := 1, nameIndex := 5, descriptorIndex := 6, attributes := #[] }, { accessFlags := 9, nameIndex := 47, descriptorIndex := 48, attributes := #[] }] 49 2 #[] #[])
  fields := #[]
  methods := #[k1m0, k1m1]
  instanceTypes := #[]
  staticTypes := #[]
  resolved := Array.replicate 52 none
  statics := none }

def pool2 : Array CpInfo := pool [(1, .class_ 2), (0, u "java/lang/constant/Constable"), (0, .class_ 4), (0, u "java/lang/Object")] 6

/-- java/lang/constant/Constable -/
def k2 : Class := { plain "java/lang/constant/Constable" (some 0) with
  accessFlags := 1537
  interfaces := #[]
  cf := some (fileOf pool2 1 #[] #[] 1537 3 #[] #[])
  fields := #[]
  methods := #[]
  instanceTypes := #[]
  staticTypes := #[]
  resolved := Array.replicate 11 none
  statics := none }

def pool3 : Array CpInfo := pool [(1, .class_ 2), (0, u "java/lang/Comparable"), (0, .class_ 4), (0, u "java/lang/Object")] 7

/-- java/lang/Comparable -/
def k3 : Class := { plain "java/lang/Comparable" (some 0) with
  accessFlags := 1537
  interfaces := #[]
  cf := some (fileOf pool3 1 #[] #[] 1537 3 #[] #[])
  fields := #[]
  methods := #[]
  instanceTypes := #[]
  staticTypes := #[]
  resolved := Array.replicate 12 none
  statics := none }

def pool4 : Array CpInfo := pool [(1, .class_ 2), (0, u "java/io/Serializable"), (0, .class_ 4), (0, u "java/lang/Object")] 2

/-- java/io/Serializable -/
def k4 : Class := { plain "java/io/Serializable" (some 0) with
  accessFlags := 1537
  interfaces := #[]
  cf := some (fileOf pool4 1 #[] #[] 1537 3 #[] #[])
  fields := #[]
  methods := #[]
  instanceTypes := #[]
  staticTypes := #[]
  resolved := Array.replicate 7 none
  statics := none }

def pool5 : Array CpInfo := pool [(2, .class_ 4), (1, u "java/lang/Enum"), (0, u "name"), (0, u "Ljava/lang/String;"), (2, u "ordinal"), (0, u "I"), (1, .class_ 14), (1, u "java/lang/Object"), (4, u "hash"), (86, .class_ 108), (1, u "java/lang/Enum$EnumDesc"), (2, .class_ 112), (0, u "java/lang/constant/Constable"), (0, .class_ 114), (0, u "java/lang/Comparable"), (0, .class_ 116), (0, u "java/io/Serializable")] 87

/-- java/lang/Enum -/
def k5 : Class := { plain "java/lang/Enum" (some 0) with
  accessFlags := 1057
  interfaces := #[2, 3, 4]
  cf := some (fileOf pool5 2 #[.nestMembers #[106]] #[] 1057 12 #[111, 113, 115] #[{ accessFlags := 18, nameIndex := 5, descriptorIndex := 6, attributes := #[] }, { accessFlags := 18, nameIndex := 9, descriptorIndex := 10, attributes := #[] }, { accessFlags := 2, nameIndex := 19, descriptorIndex := 10, attributes := #[] }])
  fields := #[{ name := "name", type := (.object "java/lang/String"), accessFlags := 18, slot := 0, constantValue := 0 }, { name := "ordinal", type := .int, accessFlags := 18, slot := 1, constantValue := 0 }, { name := "hash", type := .int, accessFlags := 2, slot := 2, constantValue := 0 }]
  methods := #[]
  instanceTypes := #[(.object "java/lang/String"), .int, .int]
  staticTypes := #[]
  resolved := Array.replicate 204 none
  statics := none }

def pool6 : Array CpInfo := pool [(1, .class_ 2), (0, u "com/example/solotick/solotick/schedule/CronField"), (2, u "SECOND"), (0, u "Lcom/example/solotick/solotick/schedule/CronField;"), (2, u "MINUTE"), (2, u "HOUR"), (2, u "DAY_OF_MONTH"), (2, u "MONTH"), (0, .fieldref 1 20), (0, .nameAndType 21 6), (0, u "DAY_OF_WEEK"), (2, u "$VALUES"), (0, u "[Lcom/example/solotick/solotick/schedule/CronField;"), (6, .class_ 34), (1, u "java/lang/Enum"), (8, u "label"), (0, u "Ljava/lang/String;"), (0, .fieldref 1 46), (0, .nameAndType 47 48), (0, u "min"), (0, u "I"), (0, .fieldref 1 50), (0, .nameAndType 51 48), (0, u "max"), (8, u "names"), (0, u "Ljava/util/List;"), (0, .long 18446744073709551615), (1, .methodref 1 65), (0, .nameAndType 66 67), (0, u "fold"), (0, u "(J)J"), (46, .long 128), (1, .long 18446744073709551487), (140, u "all"), (0, u "()J")] 52

def k6c0 : Code := { maxStack := 6, maxLocals := 1, code := prog_25_method_4_code, exceptionTable := #[], attributes := #[] }
def k6m0 : Method := { name := "all", desc := "()J", sig := { parameters := [], returnType := some .long }, accessFlags := 0, code := some k6c0 }
def k6c1 : Code := { maxStack := 4, maxLocals := 3, code := prog_25_method_6_code, exceptionTable := #[], attributes := #[] }
def k6m1 : Method := { name := "fold", desc := "(J)J", sig := { parameters := [.long], returnType := some .long }, accessFlags := 2, code := some k6c1 }
/-- com/example/solotick/solotick/schedule/CronField -/
def k6 : Class := { plain "com/example/solotick/solotick/schedule/CronField" (some 5) with
  accessFlags := 16432
  interfaces := #[]
  cf := some (fileOf pool6 1 #[] #[{ accessFlags := 0, nameIndex := 257, descriptorIndex := 258, attributes := #[] }, { accessFlags := 2, nameIndex := 66, descriptorIndex := 67, attributes := #[] }] 16432 32 #[] #[{ accessFlags := 16409, nameIndex := 5, descriptorIndex := 6, attributes := #[] }, { accessFlags := 16409, nameIndex := 9, descriptorIndex := 6, attributes := #[] }, { accessFlags := 16409, nameIndex := 12, descriptorIndex := 6, attributes := #[] }, { accessFlags := 16409, nameIndex := 15, descriptorIndex := 6, attributes := #[] }, { accessFlags := 16409, nameIndex := 18, descriptorIndex := 6, attributes := #[] }, { accessFlags := 16409, nameIndex := 21, descriptorIndex := 6, attributes := #[] }, { accessFlags := 18, nameIndex := 43, descriptorIndex := 44, attributes := #[] }, { accessFlags := 18, nameIndex := 47, descriptorIndex := 48, attributes := #[] }, { accessFlags := 18, nameIndex := 51, descriptorIndex := 48, attributes := #[] }, { accessFlags := 18, nameIndex := 60, descriptorIndex := 61, attributes := #[] }, { accessFlags := 4122, nameIndex := 24, descriptorIndex := 25, attributes := #[] }])
  fields := #[{ name := "SECOND", type := (.object "com/example/solotick/solotick/schedule/CronField"), accessFlags := 16409, slot := 0, constantValue := 0 }, { name := "MINUTE", type := (.object "com/example/solotick/solotick/schedule/CronField"), accessFlags := 16409, slot := 1, constantValue := 0 }, { name := "HOUR", type := (.object "com/example/solotick/solotick/schedule/CronField"), accessFlags := 16409, slot := 2, constantValue := 0 }, { name := "DAY_OF_MONTH", type := (.object "com/example/solotick/solotick/schedule/CronField"), accessFlags := 16409, slot := 3, constantValue := 0 }, { name := "MONTH", type := (.object "com/example/solotick/solotick/schedule/CronField"), accessFlags := 16409, slot := 4, constantValue := 0 }, { name := "DAY_OF_WEEK", type := (.object "com/example/solotick/solotick/schedule/CronField"), accessFlags := 16409, slot := 5, constantValue := 0 }, { name := "label", type := (.object "java/lang/String"), accessFlags := 18, slot := 3, constantValue := 0 }, { name := "min", type := .int, accessFlags := 18, slot := 4, constantValue := 0 }, { name := "max", type := .int, accessFlags := 18, slot := 5, constantValue := 0 }, { name := "names", type := (.object "java/util/List"), accessFlags := 18, slot := 6, constantValue := 0 }, { name := "$VALUES", type := (.array (.object "com/example/solotick/solotick/schedule/CronField")), accessFlags := 4122, slot := 6, constantValue := 0 }]
  methods := #[k6m0, k6m1]
  instanceTypes := #[(.object "java/lang/String"), .int, .int, (.object "java/lang/String"), .int, .int, (.object "java/util/List")]
  staticTypes := #[(.object "com/example/solotick/solotick/schedule/CronField"), (.object "com/example/solotick/solotick/schedule/CronField"), (.object "com/example/solotick/solotick/schedule/CronField"), (.object "com/example/solotick/solotick/schedule/CronField"), (.object "com/example/solotick/solotick/schedule/CronField"), (.object "com/example/solotick/solotick/schedule/CronField"), (.array (.object "com/example/solotick/solotick/schedule/CronField"))]
  resolved := Array.replicate 311 none
  statics := some 0 }

def pool7 : Array CpInfo := pool [(1, u "java/lang/Cloneable"), (0, .class_ 1), (0, u "java/lang/Object"), (0, .class_ 3)] 3

/-- java/lang/Cloneable -/
def k7 : Class := { plain "java/lang/Cloneable" (some 0) with
  accessFlags := 1537
  interfaces := #[]
  cf := some (fileOf pool7 2 #[] #[] 1537 4 #[] #[])
  fields := #[]
  methods := #[]
  instanceTypes := #[]
  staticTypes := #[]
  resolved := Array.replicate 8 none
  statics := none }

/-- the primitive byte -/
def k8 : Class := { plain "byte" none with kind := .primitive 'B', accessFlags := 0x411 }
/-- [B -/
def k9 : Class := { plain "[B" (some 0) with kind := .array 8 .byte, interfaces := #[7, 4], accessFlags := 1041 }

/-- the primitive int -/
def k10 : Class := { plain "int" none with kind := .primitive 'I', accessFlags := 0x411 }
/-- [I -/
def k11 : Class := { plain "[I" (some 0) with kind := .array 10 .int, interfaces := #[7, 4], accessFlags := 1041 }

def heap : Heap := #[{ cls := 6, slots := #[.ref 1, .ref 2, .ref 3, .ref 4, .ref 5, .ref 6, .null], vm := .statics 6 },
  { cls := 6, slots := #[.null, .int 0, .int 0, .null, .int 0, .int 59, .null], vm := .none },
  { cls := 6, slots := #[.null, .int 1, .int 0, .null, .int 0, .int 59, .null], vm := .none },
  { cls := 6, slots := #[.null, .int 2, .int 0, .null, .int 0, .int 23, .null], vm := .none },
  { cls := 6, slots := #[.null, .int 3, .int 0, .null, .int 1, .int 31, .null], vm := .none },
  { cls := 6, slots := #[.null, .int 4, .int 0, .null, .int 1, .int 12, .null], vm := .none },
  { cls := 6, slots := #[.null, .int 5, .int 0, .null, .int 0, .int 7, .null], vm := .none }]
def classes : Array Class := #[k0, k1, k2, k3, k4, k5, k6, k7, k8, k9, k10, k11]
def interned : List (Array UInt16 × Addr) := []
def slotsUsed : Nat := 49
def theMethod : MethodId := ⟨1, 1⟩
def args0 : Array Value := #[.int 5]
def aboutOver (below : List Frame) : State where
  vm := { classes := classes, interned := interned.toArray }
  heap := heap
  slotsUsed := slotsUsed
  threads := #[{ frames := .invoking theMethod args0 :: below }]
def below0 : List Frame := [.native { method := ⟨0, 0⟩, args := #[] }]
def about1 : State := aboutOver below0
def p0 : Program := .bare "" "" ""
def e0 : Env := launch0.env 0 0 0
theorem w_frames : about1.frames = Frame.invoking theMethod args0 :: below0 := rfl
set_option maxRecDepth 65536 in
theorem w_args : argsFit about1.vm theMethod args0 = true := by decide +kernel
set_option maxRecDepth 65536 in
theorem w_heap : heapFits about1 = true := by decide +kernel
set_option maxRecDepth 65536 in
theorem w_runnable : about1.curStatus? = some .runnable := by decide +kernel
set_option maxRecDepth 65536 in
theorem w_alone : about1.alone = true := by decide +kernel
set_option maxRecDepth 65536 in
theorem w_named : about1.methodNamed? x = some theMethod := by decide +kernel
set_option maxRecDepth 65536 in
theorem w_hears : about1.hears theMethod below0 = true := by decide +kernel
set_option maxRecDepth 65536 in
theorem w_ripe : about1.ripe theMethod args0 below0 = true := by decide +kernel
theorem w_running : about1.status = .running := rfl
set_option maxRecDepth 65536 in
theorem w_room : about1.hasRoom e0.platform room_1 = true :=
  launch0.hasRoom_least _ room_1 (by decide +kernel) (by decide +kernel) (by decide +kernel) (by decide +kernel) (by decide +kernel) (by decide +kernel)
theorem allAtoms_all (ts : List Jvm.Cond) (a : Array Jvm.Value) (st : Jvm.State) : (allAtoms ts).before a st = ts.all (fun c => c.before a st) := by
  induction ts with
  | nil => rfl
  | cons c t ih =>
    show (Jvm.Cond.and c (allAtoms t)).before a st = _
    rw [Jvm.Cond.before_and, ih, List.all_cons]
def words1 : List Jvm.Cond := Jvm.Cond.code x code maxLocals ret :: tables_1
/-- a 'code' word, met by the world's own term for the bytes: nothing is compared byte by byte -/
theorem code_word {y : MethodName} {bytes : ByteArray} {mx : Nat} {rt : Option FieldType} {a : Array Value} {s : State} {m : MethodId} {meth : Method} {c : Code} (h1 : s.methodNamed? y = some m) (h2 : s.vm.method? m = some meth) (h3 : meth.code = some c) (h4 : c.code = bytes)
    (h5 : (c.maxLocals == mx && c.exceptionTable.isEmpty && decide (c.maxStack ≤ mostOperands) && decide (meth.sig.returnType = rt) && !meth.locks && decide (parseMethodDescriptor y.desc = some meth.sig)) = true) : (Jvm.Cond.code y bytes mx rt).before a s = true := by
  simp only [Bool.and_eq_true, beq_iff_eq, Bool.not_eq_true', decide_eq_true_eq] at h5
  obtain ⟨⟨⟨⟨⟨g1, g2⟩, g3⟩, g4⟩, g5⟩, g6⟩ := h5
  simp [Cond.before, Cond.holds, Cond.value, h1, h2, h3, h4, g1, g2, g3, g4, g5, g6]
def isCode : Jvm.Cond → Bool
  | .code _ _ _ _ => true
  | _ => false
theorem all_split {L : List Jvm.Cond} {P : Jvm.Cond → Bool} (h1 : L.all (fun c => isCode c || P c) = true) (h2 : ∀ c ∈ L.filter isCode, P c = true) : L.all P = true := by
  refine List.all_eq_true.mpr fun c hc => ?_
  have h := List.all_eq_true.mp h1 c hc
  rcases Bool.eq_false_or_eq_true (isCode c) with hi | hi
  · exact h2 c (List.mem_filter.mpr ⟨hc, hi⟩)
  · simpa [hi] using h
set_option maxRecDepth 65536 in
theorem w_c0 : (Jvm.Cond.code x code maxLocals ret).before args0 about1 = true := code_word (m := ⟨1, 1⟩) (meth := k1m1) (c := k1c1) (by decide +kernel) rfl rfl rfl (by decide +kernel)
set_option maxRecDepth 65536 in
theorem w_c1 : (Jvm.Cond.code ({ cls := "com/example/solotick/solotick/schedule/CronField", name := "all", desc := "()J" } : Jvm.MethodName) prog_25_method_4_code (1 : Nat) (Option.some Jvm.ClassFile.FieldType.long)).before args0 about1 = true := code_word (m := ⟨6, 0⟩) (meth := k6m0) (c := k6c0) (by decide +kernel) rfl rfl rfl (by decide +kernel)
set_option maxRecDepth 65536 in
theorem w_c2 : (Jvm.Cond.code ({ cls := "com/example/solotick/solotick/schedule/CronField", name := "fold", desc := "(J)J" } : Jvm.MethodName) prog_25_method_6_code (3 : Nat) (Option.some Jvm.ClassFile.FieldType.long)).before args0 about1 = true := code_word (m := ⟨6, 1⟩) (meth := k6m1) (c := k6c1) (by decide +kernel) rfl rfl rfl (by decide +kernel)
def codes1 : List Jvm.Cond := [Jvm.Cond.code x code maxLocals ret, Jvm.Cond.code ({ cls := "com/example/solotick/solotick/schedule/CronField", name := "all", desc := "()J" } : Jvm.MethodName) prog_25_method_4_code (1 : Nat) (Option.some Jvm.ClassFile.FieldType.long), Jvm.Cond.code ({ cls := "com/example/solotick/solotick/schedule/CronField", name := "fold", desc := "(J)J" } : Jvm.MethodName) prog_25_method_6_code (3 : Nat) (Option.some Jvm.ClassFile.FieldType.long)]
set_option maxRecDepth 65536 in
theorem codes_eq : words1.filter isCode = codes1 := rfl
theorem w_codes : ∀ c ∈ words1.filter isCode, c.before args0 about1 = true := by
  rw [codes_eq]
  intro c hc
  simp only [codes1, List.mem_cons, List.not_mem_nil, or_false] at hc
  rcases hc with rfl | rfl | rfl
  · exact w_c0
  · exact w_c1
  · exact w_c2
set_option maxRecDepth 65536 in
theorem w_t1 : (words1.take 24).all (fun c => isCode c || c.before args0 about1) = true := by decide +kernel
set_option maxRecDepth 65536 in
theorem w_t2 : (words1.drop 24).all (fun c => isCode c || c.before args0 about1) = true := by decide +kernel
theorem w_tables : (allAtoms (Jvm.Cond.code x code maxLocals ret :: tables_1)).before args0 about1 = true := by
  rw [allAtoms_all]
  show words1.all (fun c => c.before args0 about1) = true
  refine all_split ?_ w_codes
  rw [← List.take_append_drop 24 words1, List.all_append, w_t1, w_t2]
  rfl
set_option maxRecDepth 65536 in
theorem w_case : (Jvm.Cond.and given_1 narrow_1).before args0 about1 = true := by decide +kernel
theorem w_applies : (headSpec (Jvm.Cond.code x code maxLocals ret :: tables_1) room_1).applies x e0.platform about1 = true :=
  (Spec.applies_iff w_frames).mpr ⟨w_running, w_runnable, w_alone, w_named, w_hears, w_ripe, w_room, w_tables⟩
theorem atStart : AtStart classFile x code maxLocals ret World_1 tables_1 room_1 Calls_1 rest_1 Pre_1 launch0 p0 e0 about1 theMethod args0 below0 :=
  ⟨lists_1, trivial, launch0.admits_env _ _ _, launch0.least_env, fairChoices_fair.cas, fairChoices_fair.clock, w_frames, w_args, w_heap, w_applies, trivial, trivial, w_case⟩
end start1
theorem witness_1 : WitnessClaimed_1 := ⟨start1.p0, start1.e0, start1.about1, start1.theMethod, start1.args0, start1.below0, start1.atStart⟩
end Jvm.Pilot.@@N@@
