import JvmDerived
import JvmDerived.Pilot.@@N@@Statement
import JvmDerived.Pilot.@@N@@Code
set_option linter.unusedVariables false
set_option linter.unusedSimpArgs false
namespace Jvm.RoadKit
open Sem ClassFile Op Lib Jvm.Stand Jvm.Free Jvm.LawKit
section New
variable {p : Program} {l : Launch} {e : Env} {R : Room} {s : State} {m : MethodId} {args : Array Value} {below : List Frame} {meth : Method} {c : Code} {T : State} {locs : List Loc} {cells slots : Nat}
theorem retI (X : Stand p l e R s m args below meth c T locs cells slots) (hx : p.tables.exec = Jvm.exec) {pc : Nat} {Ls : Array Slot} {z : Int32} {rest : List Value} (hret : meth.sig.returnType = some .int) (hd : decode c.code pc = .ok (.ireturn, 1)) {fs : List Frame}
    (hl : ∀ (f : JFrame) (acts : List Action), f.method = m → f.locked = none → f.entered = [] → (doReturn e (T.setTop f) acts (some (.int z))).1 = T.setFrames fs) : Steps p.tables e below (T.setTop (mkF m pc Ls (.int z :: rest))) (T.setFrames fs) := by
  have hm' : T.vm.method? m = some meth := X.method'
  have hn : narrow .int (.int z) = .int z := rfl
  show Steps p.tables e below (T.setTop { method := m, pc := pc, locals := Ls, stack := _ :: rest, locked := none }) _
  jvm_step X.here [X.here.top, hx, hd, hm', hret, hn]
  first | (intro acts; rw [hl _ acts rfl rfl rfl]) | rw [hl _ _ rfl rfl rfl]
  exact Steps.refl _
end New
end Jvm.RoadKit
namespace Jvm.Pilot.@@N@@
open Jvm Jvm.ClassFile Sem Op Lib Jvm.Free Jvm.Stand Jvm.LawKit Jvm.RoadKit Bundle Jvm.Pilot.@@N@@.Jvm.D
def Qr (r : Value) (h0 : Heap) (n0 : Nat) (v : Option Value) (h : Heap) (L : List Loc) : Prop := v = some r ∧ Fr n0 L ∧ h = h0
theorem own_ne {args : Array Value} {s : State} {t1 t2 : Term} {C n d : String} {a b : Addr} {i j : Int32} (h1 : t1.eval args s none [] s = some (.ref a)) (h2 : t2.eval args s none [] s = some (.ref b))
    (e1 : (Cond.eq (.field t1 C n d) (.int i)).value args s none s [] = some true) (e2 : (Cond.eq (.field t2 C n d) (.int j)).value args s none s [] = some true) (hij : i ≠ j) : ¬ (a = b) := by
  intro h; subst h
  cases hf : s.fieldOf? a C n d with
  | none => simp [Cond.value, Term.eval, h1, hf] at e1
  | some v =>
    cases v <;> simp [Cond.value, Term.eval, h1, h2, hf] at e1 e2
    exact hij (e1.symm.trans e2)
def Qlaw (n0 : Nat) (v : Option Value) (L : List Loc) : Prop := v = some (.int (1 : Int32)) ∧ Fr n0 L
def In7 (i : Int32) : Prop := i = 0 ∨ i = 1 ∨ i = 2 ∨ i = 3 ∨ i = 4 ∨ i = 5 ∨ i = 6
def Known (Z : State) (h : Heap) (P : Int32 → Addr) : Prop := (Sta Z h "com/example/numerand/numerand/engine/Precision" "YEAR" "Lcom/example/numerand/numerand/engine/Precision;" (.ref (P 0))) ∧ (Sta Z h "com/example/numerand/numerand/engine/Precision" "MONTH" "Lcom/example/numerand/numerand/engine/Precision;" (.ref (P 1))) ∧ (Sta Z h "com/example/numerand/numerand/engine/Precision" "DAY" "Lcom/example/numerand/numerand/engine/Precision;" (.ref (P 2))) ∧ (Sta Z h "com/example/numerand/numerand/engine/Precision" "HOUR" "Lcom/example/numerand/numerand/engine/Precision;" (.ref (P 3))) ∧ (Sta Z h "com/example/numerand/numerand/engine/Precision" "MINUTE" "Lcom/example/numerand/numerand/engine/Precision;" (.ref (P 4))) ∧ (Sta Z h "com/example/numerand/numerand/engine/Precision" "SECOND" "Lcom/example/numerand/numerand/engine/Precision;" (.ref (P 5))) ∧ (Sta Z h "com/example/numerand/numerand/engine/Precision" "MILLISECOND" "Lcom/example/numerand/numerand/engine/Precision;" (.ref (P 6))) ∧ ∀ i j, In7 i → In7 j → P i = P j → i = j
theorem own_inj {Z : State} {h : Heap} {P : Int32 → Addr} (K : Known Z h P) : ∀ i j, In7 i → In7 j → P i = P j → i = j := K.2.2.2.2.2.2.2
theorem own_in7 (x : Int32) : In7 ((x &&& 2147483647) % 7) := by
  have h0 := c_mask x 2147483647 31 (by decide) (by decide)
  have h1 := (c_irem (x &&& 2147483647) 7 7 (by decide)).1 (by omega)
  generalize (x &&& 2147483647) % 7 = z at *
  have b : z.toInt = 0 ∨ z.toInt = 1 ∨ z.toInt = 2 ∨ z.toInt = 3 ∨ z.toInt = 4 ∨ z.toInt = 5 ∨ z.toInt = 6 := by omega
  rcases b with b | b | b | b | b | b | b
  · exact Or.inl (Int32.toInt_inj.mp (b.trans (by decide)))
  · exact Or.inr (Or.inl (Int32.toInt_inj.mp (b.trans (by decide))))
  · exact Or.inr (Or.inr (Or.inl (Int32.toInt_inj.mp (b.trans (by decide)))))
  · exact Or.inr (Or.inr (Or.inr (Or.inl (Int32.toInt_inj.mp (b.trans (by decide))))))
  · exact Or.inr (Or.inr (Or.inr (Or.inr (Or.inl (Int32.toInt_inj.mp (b.trans (by decide)))))))
  · exact Or.inr (Or.inr (Or.inr (Or.inr (Or.inr (Or.inl (Int32.toInt_inj.mp (b.trans (by decide))))))))
  · exact Or.inr (Or.inr (Or.inr (Or.inr (Or.inr (Or.inr (Int32.toInt_inj.mp (b.trans (by decide))))))))
def own_s (i : Int32) : Int32 := if i = 6 then 5 else i
theorem own_s7 {i : Int32} (hi : In7 i) : In7 (own_s i) := by
  unfold In7 at *
  rcases hi with rfl | rfl | rfl | rfl | rfl | rfl | rfl <;> decide
theorem own_ss {i : Int32} (hi : In7 i) : own_s (own_s i) = own_s i := by rcases hi with rfl | rfl | rfl | rfl | rfl | rfl | rfl <;> decide
theorem own_sn {i : Int32} (h : ¬ (i = 6)) : own_s i = i := if_neg h
theorem own_s6 {i : Int32} (hi : In7 i) : ¬ (own_s i = 6) := by rcases hi with rfl | rfl | rfl | rfl | rfl | rfl | rfl <;> decide
theorem own_mono {i j : Int32} (hi : In7 i) (hj : In7 j) (h : ¬ (j < i)) : ¬ (own_s j < own_s i) := by
  rcases hi with rfl | rfl | rfl | rfl | rfl | rfl | rfl <;> rcases hj with rfl | rfl | rfl | rfl | rfl | rfl | rfl <;> revert h <;> decide
theorem own_66 {i j : Int32} (hi : In7 i) (hj : In7 j) (h : i = 6) : (j < i ∨ j = 6) ∧ ¬ (i < j) := by
  subst h
  rcases hj with rfl | rfl | rfl | rfl | rfl | rfl | rfl <;> decide
theorem own_6 : In7 6 := Or.inr (Or.inr (Or.inr (Or.inr (Or.inr (Or.inr rfl)))))
theorem own_5 : In7 5 := Or.inr (Or.inr (Or.inr (Or.inr (Or.inr (Or.inl rfl)))))
theorem d1_0 : decode method_2_code 0 = .ok (.iload_n 0, 1) := by decide +kernel
theorem d1_1 : decode method_2_code 1 = .ok (.ifCond .ne 7, 3) := by decide +kernel
theorem d1_4 : decode method_2_code 4 = .ok (.getstatic 7, 3) := by decide +kernel
theorem d1_7 : decode method_2_code 7 = .ok (.areturn, 1) := by decide +kernel
theorem pn_1 : plainName "com/example/numerand/numerand/engine/PrecisionSecondsPinLaw" = true := by first | (simp [plainName, overriddenIn]; done) | decide +kernel
theorem ef_1 (m : MethodId) (x0 : Int32) : entryFrame m #[(.int x0)] 1 = mkF m 0 #[.val (.int x0)] [] := by first | (simp [entryFrame, mkF, argsToLocals, Value.category]; done) | rfl
set_option maxRecDepth 65536 in
set_option maxHeartbeats 40000000 in
theorem rm1_0 (l : Launch) (Z : State) (a0 : Array Value) (hw : ∀ d ∈ tables_1, d.before a0 Z = true) (ws : List Jvm.Cond) (p1 : Int32) (w2 : Addr) (h0 : Heap) (n0 : Nat) (Z0 : n0 ≤ h0.size) (S_YEAR : Sta Z h0 "com/example/numerand/numerand/engine/Precision" "YEAR" "Lcom/example/numerand/numerand/engine/Precision;" (.ref w2)) (hc1 : p1 = (0 : Int32)) :
    MetFree l (⟨"com/example/numerand/numerand/engine/PrecisionSecondsPinLaw", "pick", "(I)Lcom/example/numerand/numerand/engine/Precision;"⟩ : MethodName) (head1 (Jvm.Cond.code (⟨"com/example/numerand/numerand/engine/PrecisionSecondsPinLaw", "pick", "(I)Lcom/example/numerand/numerand/engine/Precision;"⟩ : MethodName) method_2_code 1 (some (.object "com/example/numerand/numerand/engine/Precision")) :: ws) ({ frames := 0, cells := 0, slots := 0, locals := 0 } : Room)) (fun a U => a = #[(.int p1)] ∧ Z.Warmed39 U.vm ∧ U.heap = h0) (fun _ _ _ _ _ => True) (fun _ U o U' => ∃ v L, o = .returned v ∧ Qr (.ref w2) h0 n0 v U'.heap L ∧ FrameEnd U o U' L ({ frames := 0, cells := 0, slots := 0, locals := 0 } : Room).cells ({ frames := 0, cells := 0, slots := 0, locals := 0 } : Room).slots) := by
  refine MetFree.of_bodySF (plainFor_of_name pn_1) hisR ?_
  intro p e s m args below meth c s₁ Bd hml0 hP hK
  obtain ⟨rfl, hZ, hh⟩ := hP
  have hx := Bd.exec
  have hby := Bd.bytes
  have hml : c.maxLocals = 1 := hml0
  have hown : s.vm.findClass "com/example/numerand/numerand/engine/PrecisionSecondsPinLaw" = some m.cls := findClass_of_methodNamed Bd.named
  have hnm := (name_of_methodNamed Bd.named Bd.method).1
  have X0 : Stand p l e ({ frames := 0, cells := 0, slots := 0, locals := 0 } : Room) s m #[(.int p1)] below meth c s₁ [] 0 0 := Stand.of_body Bd
  have e0 : s₁.heap = h0 := by rw [← hh, Bd.state]; rfl
  have N0 := Fr.nil n0
  have pre0 : ∀ t, Steps p.tables e below (s₁.setTop (mkF m 0 #[.val (.int p1)] [])) t → Steps p.tables e below (s₁.setTop (entryFrame m #[(.int p1)] 1)) t := fun t k => castTop (ef_1 m p1) k
  obtain ⟨T3, X3, e3, st3⟩ := getS2 X0 hx hZ hown (host := "") (Or.inl (hw _ (List.mem_of_getElem? (i := 5) rfl))) Via.refl e0 S_YEAR (g := (mkF m 4 #[.val (.int p1)] [])) rfl (hb hby d1_4)
  obtain ⟨fs, hr, hrun, hended, hW, hsame⟩ := X3.leave (v := some (.ref w2)) (fun h => by rw [Bd.returns] at h; cases h)
  refine ⟨_, _, pre0 _ ?_, hrun, hended, _, _, rfl, ?_, ⟨_, rfl⟩, hW, hsame.mono (by decide) (by decide)⟩
  · show Steps p.tables e below (s₁.setTop (mkF m 0 #[.val (.int p1)] [])) _
    refine XS.iloadN X0.here hx rfl (hb hby d1_0) rfl ?_
    show Steps p.tables e below (s₁.setTop (mkF m 1 #[.val (.int p1)] [(.int p1)])) _
    refine XS.ifNo X0.here hx rfl (hb hby d1_1) rfl ((if0 _ _).trans (teq hc1).2) ?_
    show Steps p.tables e below (s₁.setTop (mkF m 4 #[.val (.int p1)] [])) _
    refine st3 _ ?_
    show Steps p.tables e below (T3.setTop (mkF m 7 #[.val (.int p1)] [(.ref w2)])) _
    jvm_step X3.here [X3.here.top, hx, (hb hby d1_7), X3.method', Bd.returns, Value.isRef, FieldType.isReference]
    first | (intro acts; rw [hr _ acts rfl rfl rfl]) | rw [hr _ _ rfl rfl rfl]
    exact Steps.refl _
  · show Qr (.ref w2) h0 n0 _ T3.heap _
    rw [e3]
    exact ⟨rfl, N0, rfl⟩
theorem d1_8 : decode method_2_code 8 = .ok (.iload_n 0, 1) := by decide +kernel
theorem d1_9 : decode method_2_code 9 = .ok (.iconst 1, 1) := by decide +kernel
theorem d1_10 : decode method_2_code 10 = .ok (.if_icmp .ne 7, 3) := by decide +kernel
theorem d1_13 : decode method_2_code 13 = .ok (.getstatic 13, 3) := by decide +kernel
theorem d1_16 : decode method_2_code 16 = .ok (.areturn, 1) := by decide +kernel
set_option maxRecDepth 65536 in
set_option maxHeartbeats 40000000 in
theorem rm1_1 (l : Launch) (Z : State) (a0 : Array Value) (hw : ∀ d ∈ tables_1, d.before a0 Z = true) (ws : List Jvm.Cond) (p1 : Int32) (w2 : Addr) (h0 : Heap) (n0 : Nat) (Z0 : n0 ≤ h0.size) (S_MONTH : Sta Z h0 "com/example/numerand/numerand/engine/Precision" "MONTH" "Lcom/example/numerand/numerand/engine/Precision;" (.ref w2)) (hc1 : ¬ (p1 = (0 : Int32))) (hc10 : p1 = (1 : Int32)) :
    MetFree l (⟨"com/example/numerand/numerand/engine/PrecisionSecondsPinLaw", "pick", "(I)Lcom/example/numerand/numerand/engine/Precision;"⟩ : MethodName) (head1 (Jvm.Cond.code (⟨"com/example/numerand/numerand/engine/PrecisionSecondsPinLaw", "pick", "(I)Lcom/example/numerand/numerand/engine/Precision;"⟩ : MethodName) method_2_code 1 (some (.object "com/example/numerand/numerand/engine/Precision")) :: ws) ({ frames := 0, cells := 0, slots := 0, locals := 0 } : Room)) (fun a U => a = #[(.int p1)] ∧ Z.Warmed39 U.vm ∧ U.heap = h0) (fun _ _ _ _ _ => True) (fun _ U o U' => ∃ v L, o = .returned v ∧ Qr (.ref w2) h0 n0 v U'.heap L ∧ FrameEnd U o U' L ({ frames := 0, cells := 0, slots := 0, locals := 0 } : Room).cells ({ frames := 0, cells := 0, slots := 0, locals := 0 } : Room).slots) := by
  refine MetFree.of_bodySF (plainFor_of_name pn_1) hisR ?_
  intro p e s m args below meth c s₁ Bd hml0 hP hK
  obtain ⟨rfl, hZ, hh⟩ := hP
  have hx := Bd.exec
  have hby := Bd.bytes
  have hml : c.maxLocals = 1 := hml0
  have hown : s.vm.findClass "com/example/numerand/numerand/engine/PrecisionSecondsPinLaw" = some m.cls := findClass_of_methodNamed Bd.named
  have hnm := (name_of_methodNamed Bd.named Bd.method).1
  have X0 : Stand p l e ({ frames := 0, cells := 0, slots := 0, locals := 0 } : Room) s m #[(.int p1)] below meth c s₁ [] 0 0 := Stand.of_body Bd
  have e0 : s₁.heap = h0 := by rw [← hh, Bd.state]; rfl
  have N0 := Fr.nil n0
  have pre0 : ∀ t, Steps p.tables e below (s₁.setTop (mkF m 0 #[.val (.int p1)] [])) t → Steps p.tables e below (s₁.setTop (entryFrame m #[(.int p1)] 1)) t := fun t k => castTop (ef_1 m p1) k
  obtain ⟨T3, X3, e3, st3⟩ := getS2 X0 hx hZ hown (host := "") (Or.inl (hw _ (List.mem_of_getElem? (i := 19) rfl))) Via.refl e0 S_MONTH (g := (mkF m 13 #[.val (.int p1)] [])) rfl (hb hby d1_13)
  obtain ⟨fs, hr, hrun, hended, hW, hsame⟩ := X3.leave (v := some (.ref w2)) (fun h => by rw [Bd.returns] at h; cases h)
  refine ⟨_, _, pre0 _ ?_, hrun, hended, _, _, rfl, ?_, ⟨_, rfl⟩, hW, hsame.mono (by decide) (by decide)⟩
  · show Steps p.tables e below (s₁.setTop (mkF m 0 #[.val (.int p1)] [])) _
    refine XS.iloadN X0.here hx rfl (hb hby d1_0) rfl ?_
    show Steps p.tables e below (s₁.setTop (mkF m 1 #[.val (.int p1)] [(.int p1)])) _
    refine XS.ifYes X0.here hx rfl (pc0 := 1) (pc' := 8) rfl (hb hby d1_1) rfl ((if0 _ _).trans (feq hc1).2) (by decide) (by decide) ?_
    show Steps p.tables e below (s₁.setTop (mkF m 8 #[.val (.int p1)] [])) _
    refine XS.iloadN X0.here hx rfl (hb hby d1_8) rfl ?_
    show Steps p.tables e below (s₁.setTop (mkF m 9 #[.val (.int p1)] [(.int p1)])) _
    refine XS.iconst X0.here hx rfl (hb hby d1_9) ?_
    show Steps p.tables e below (s₁.setTop (mkF m 10 #[.val (.int p1)] [(.int (1 : Int32)), (.int p1)])) _
    refine XS.icmpNo X0.here hx rfl (hb hby d1_10) rfl (teq hc10).2 ?_
    show Steps p.tables e below (s₁.setTop (mkF m 13 #[.val (.int p1)] [])) _
    refine st3 _ ?_
    show Steps p.tables e below (T3.setTop (mkF m 16 #[.val (.int p1)] [(.ref w2)])) _
    jvm_step X3.here [X3.here.top, hx, (hb hby d1_16), X3.method', Bd.returns, Value.isRef, FieldType.isReference]
    first | (intro acts; rw [hr _ acts rfl rfl rfl]) | rw [hr _ _ rfl rfl rfl]
    exact Steps.refl _
  · show Qr (.ref w2) h0 n0 _ T3.heap _
    rw [e3]
    exact ⟨rfl, N0, rfl⟩
theorem d1_17 : decode method_2_code 17 = .ok (.iload_n 0, 1) := by decide +kernel
theorem d1_18 : decode method_2_code 18 = .ok (.iconst 2, 1) := by decide +kernel
theorem d1_19 : decode method_2_code 19 = .ok (.if_icmp .ne 7, 3) := by decide +kernel
theorem d1_22 : decode method_2_code 22 = .ok (.getstatic 16, 3) := by decide +kernel
theorem d1_25 : decode method_2_code 25 = .ok (.areturn, 1) := by decide +kernel
set_option maxRecDepth 65536 in
set_option maxHeartbeats 40000000 in
theorem rm1_2 (l : Launch) (Z : State) (a0 : Array Value) (hw : ∀ d ∈ tables_1, d.before a0 Z = true) (ws : List Jvm.Cond) (p1 : Int32) (w2 : Addr) (h0 : Heap) (n0 : Nat) (Z0 : n0 ≤ h0.size) (S_DAY : Sta Z h0 "com/example/numerand/numerand/engine/Precision" "DAY" "Lcom/example/numerand/numerand/engine/Precision;" (.ref w2)) (hc1 : ¬ (p1 = (0 : Int32))) (hc10 : ¬ (p1 = (1 : Int32))) (hc19 : p1 = (2 : Int32)) :
    MetFree l (⟨"com/example/numerand/numerand/engine/PrecisionSecondsPinLaw", "pick", "(I)Lcom/example/numerand/numerand/engine/Precision;"⟩ : MethodName) (head1 (Jvm.Cond.code (⟨"com/example/numerand/numerand/engine/PrecisionSecondsPinLaw", "pick", "(I)Lcom/example/numerand/numerand/engine/Precision;"⟩ : MethodName) method_2_code 1 (some (.object "com/example/numerand/numerand/engine/Precision")) :: ws) ({ frames := 0, cells := 0, slots := 0, locals := 0 } : Room)) (fun a U => a = #[(.int p1)] ∧ Z.Warmed39 U.vm ∧ U.heap = h0) (fun _ _ _ _ _ => True) (fun _ U o U' => ∃ v L, o = .returned v ∧ Qr (.ref w2) h0 n0 v U'.heap L ∧ FrameEnd U o U' L ({ frames := 0, cells := 0, slots := 0, locals := 0 } : Room).cells ({ frames := 0, cells := 0, slots := 0, locals := 0 } : Room).slots) := by
  refine MetFree.of_bodySF (plainFor_of_name pn_1) hisR ?_
  intro p e s m args below meth c s₁ Bd hml0 hP hK
  obtain ⟨rfl, hZ, hh⟩ := hP
  have hx := Bd.exec
  have hby := Bd.bytes
  have hml : c.maxLocals = 1 := hml0
  have hown : s.vm.findClass "com/example/numerand/numerand/engine/PrecisionSecondsPinLaw" = some m.cls := findClass_of_methodNamed Bd.named
  have hnm := (name_of_methodNamed Bd.named Bd.method).1
  have X0 : Stand p l e ({ frames := 0, cells := 0, slots := 0, locals := 0 } : Room) s m #[(.int p1)] below meth c s₁ [] 0 0 := Stand.of_body Bd
  have e0 : s₁.heap = h0 := by rw [← hh, Bd.state]; rfl
  have N0 := Fr.nil n0
  have pre0 : ∀ t, Steps p.tables e below (s₁.setTop (mkF m 0 #[.val (.int p1)] [])) t → Steps p.tables e below (s₁.setTop (entryFrame m #[(.int p1)] 1)) t := fun t k => castTop (ef_1 m p1) k
  obtain ⟨T3, X3, e3, st3⟩ := getS2 X0 hx hZ hown (host := "") (Or.inl (hw _ (List.mem_of_getElem? (i := 21) rfl))) Via.refl e0 S_DAY (g := (mkF m 22 #[.val (.int p1)] [])) rfl (hb hby d1_22)
  obtain ⟨fs, hr, hrun, hended, hW, hsame⟩ := X3.leave (v := some (.ref w2)) (fun h => by rw [Bd.returns] at h; cases h)
  refine ⟨_, _, pre0 _ ?_, hrun, hended, _, _, rfl, ?_, ⟨_, rfl⟩, hW, hsame.mono (by decide) (by decide)⟩
  · show Steps p.tables e below (s₁.setTop (mkF m 0 #[.val (.int p1)] [])) _
    refine XS.iloadN X0.here hx rfl (hb hby d1_0) rfl ?_
    show Steps p.tables e below (s₁.setTop (mkF m 1 #[.val (.int p1)] [(.int p1)])) _
    refine XS.ifYes X0.here hx rfl (pc0 := 1) (pc' := 8) rfl (hb hby d1_1) rfl ((if0 _ _).trans (feq hc1).2) (by decide) (by decide) ?_
    show Steps p.tables e below (s₁.setTop (mkF m 8 #[.val (.int p1)] [])) _
    refine XS.iloadN X0.here hx rfl (hb hby d1_8) rfl ?_
    show Steps p.tables e below (s₁.setTop (mkF m 9 #[.val (.int p1)] [(.int p1)])) _
    refine XS.iconst X0.here hx rfl (hb hby d1_9) ?_
    show Steps p.tables e below (s₁.setTop (mkF m 10 #[.val (.int p1)] [(.int (1 : Int32)), (.int p1)])) _
    refine XS.icmpYes X0.here hx rfl (pc0 := 10) (pc' := 17) rfl (hb hby d1_10) rfl (feq hc10).2 (by decide) (by decide) ?_
    show Steps p.tables e below (s₁.setTop (mkF m 17 #[.val (.int p1)] [])) _
    refine XS.iloadN X0.here hx rfl (hb hby d1_17) rfl ?_
    show Steps p.tables e below (s₁.setTop (mkF m 18 #[.val (.int p1)] [(.int p1)])) _
    refine XS.iconst X0.here hx rfl (hb hby d1_18) ?_
    show Steps p.tables e below (s₁.setTop (mkF m 19 #[.val (.int p1)] [(.int (2 : Int32)), (.int p1)])) _
    refine XS.icmpNo X0.here hx rfl (hb hby d1_19) rfl (teq hc19).2 ?_
    show Steps p.tables e below (s₁.setTop (mkF m 22 #[.val (.int p1)] [])) _
    refine st3 _ ?_
    show Steps p.tables e below (T3.setTop (mkF m 25 #[.val (.int p1)] [(.ref w2)])) _
    jvm_step X3.here [X3.here.top, hx, (hb hby d1_25), X3.method', Bd.returns, Value.isRef, FieldType.isReference]
    first | (intro acts; rw [hr _ acts rfl rfl rfl]) | rw [hr _ _ rfl rfl rfl]
    exact Steps.refl _
  · show Qr (.ref w2) h0 n0 _ T3.heap _
    rw [e3]
    exact ⟨rfl, N0, rfl⟩
theorem d1_26 : decode method_2_code 26 = .ok (.iload_n 0, 1) := by decide +kernel
theorem d1_27 : decode method_2_code 27 = .ok (.iconst 3, 1) := by decide +kernel
theorem d1_28 : decode method_2_code 28 = .ok (.if_icmp .ne 7, 3) := by decide +kernel
theorem d1_31 : decode method_2_code 31 = .ok (.getstatic 19, 3) := by decide +kernel
theorem d1_34 : decode method_2_code 34 = .ok (.areturn, 1) := by decide +kernel
set_option maxRecDepth 65536 in
set_option maxHeartbeats 40000000 in
theorem rm1_3 (l : Launch) (Z : State) (a0 : Array Value) (hw : ∀ d ∈ tables_1, d.before a0 Z = true) (ws : List Jvm.Cond) (p1 : Int32) (w2 : Addr) (h0 : Heap) (n0 : Nat) (Z0 : n0 ≤ h0.size) (S_HOUR : Sta Z h0 "com/example/numerand/numerand/engine/Precision" "HOUR" "Lcom/example/numerand/numerand/engine/Precision;" (.ref w2)) (hc1 : ¬ (p1 = (0 : Int32))) (hc10 : ¬ (p1 = (1 : Int32))) (hc19 : ¬ (p1 = (2 : Int32))) (hc28 : p1 = (3 : Int32)) :
    MetFree l (⟨"com/example/numerand/numerand/engine/PrecisionSecondsPinLaw", "pick", "(I)Lcom/example/numerand/numerand/engine/Precision;"⟩ : MethodName) (head1 (Jvm.Cond.code (⟨"com/example/numerand/numerand/engine/PrecisionSecondsPinLaw", "pick", "(I)Lcom/example/numerand/numerand/engine/Precision;"⟩ : MethodName) method_2_code 1 (some (.object "com/example/numerand/numerand/engine/Precision")) :: ws) ({ frames := 0, cells := 0, slots := 0, locals := 0 } : Room)) (fun a U => a = #[(.int p1)] ∧ Z.Warmed39 U.vm ∧ U.heap = h0) (fun _ _ _ _ _ => True) (fun _ U o U' => ∃ v L, o = .returned v ∧ Qr (.ref w2) h0 n0 v U'.heap L ∧ FrameEnd U o U' L ({ frames := 0, cells := 0, slots := 0, locals := 0 } : Room).cells ({ frames := 0, cells := 0, slots := 0, locals := 0 } : Room).slots) := by
  refine MetFree.of_bodySF (plainFor_of_name pn_1) hisR ?_
  intro p e s m args below meth c s₁ Bd hml0 hP hK
  obtain ⟨rfl, hZ, hh⟩ := hP
  have hx := Bd.exec
  have hby := Bd.bytes
  have hml : c.maxLocals = 1 := hml0
  have hown : s.vm.findClass "com/example/numerand/numerand/engine/PrecisionSecondsPinLaw" = some m.cls := findClass_of_methodNamed Bd.named
  have hnm := (name_of_methodNamed Bd.named Bd.method).1
  have X0 : Stand p l e ({ frames := 0, cells := 0, slots := 0, locals := 0 } : Room) s m #[(.int p1)] below meth c s₁ [] 0 0 := Stand.of_body Bd
  have e0 : s₁.heap = h0 := by rw [← hh, Bd.state]; rfl
  have N0 := Fr.nil n0
  have pre0 : ∀ t, Steps p.tables e below (s₁.setTop (mkF m 0 #[.val (.int p1)] [])) t → Steps p.tables e below (s₁.setTop (entryFrame m #[(.int p1)] 1)) t := fun t k => castTop (ef_1 m p1) k
  obtain ⟨T3, X3, e3, st3⟩ := getS2 X0 hx hZ hown (host := "") (Or.inl (hw _ (List.mem_of_getElem? (i := 8) rfl))) Via.refl e0 S_HOUR (g := (mkF m 31 #[.val (.int p1)] [])) rfl (hb hby d1_31)
  obtain ⟨fs, hr, hrun, hended, hW, hsame⟩ := X3.leave (v := some (.ref w2)) (fun h => by rw [Bd.returns] at h; cases h)
  refine ⟨_, _, pre0 _ ?_, hrun, hended, _, _, rfl, ?_, ⟨_, rfl⟩, hW, hsame.mono (by decide) (by decide)⟩
  · show Steps p.tables e below (s₁.setTop (mkF m 0 #[.val (.int p1)] [])) _
    refine XS.iloadN X0.here hx rfl (hb hby d1_0) rfl ?_
    show Steps p.tables e below (s₁.setTop (mkF m 1 #[.val (.int p1)] [(.int p1)])) _
    refine XS.ifYes X0.here hx rfl (pc0 := 1) (pc' := 8) rfl (hb hby d1_1) rfl ((if0 _ _).trans (feq hc1).2) (by decide) (by decide) ?_
    show Steps p.tables e below (s₁.setTop (mkF m 8 #[.val (.int p1)] [])) _
    refine XS.iloadN X0.here hx rfl (hb hby d1_8) rfl ?_
    show Steps p.tables e below (s₁.setTop (mkF m 9 #[.val (.int p1)] [(.int p1)])) _
    refine XS.iconst X0.here hx rfl (hb hby d1_9) ?_
    show Steps p.tables e below (s₁.setTop (mkF m 10 #[.val (.int p1)] [(.int (1 : Int32)), (.int p1)])) _
    refine XS.icmpYes X0.here hx rfl (pc0 := 10) (pc' := 17) rfl (hb hby d1_10) rfl (feq hc10).2 (by decide) (by decide) ?_
    show Steps p.tables e below (s₁.setTop (mkF m 17 #[.val (.int p1)] [])) _
    refine XS.iloadN X0.here hx rfl (hb hby d1_17) rfl ?_
    show Steps p.tables e below (s₁.setTop (mkF m 18 #[.val (.int p1)] [(.int p1)])) _
    refine XS.iconst X0.here hx rfl (hb hby d1_18) ?_
    show Steps p.tables e below (s₁.setTop (mkF m 19 #[.val (.int p1)] [(.int (2 : Int32)), (.int p1)])) _
    refine XS.icmpYes X0.here hx rfl (pc0 := 19) (pc' := 26) rfl (hb hby d1_19) rfl (feq hc19).2 (by decide) (by decide) ?_
    show Steps p.tables e below (s₁.setTop (mkF m 26 #[.val (.int p1)] [])) _
    refine XS.iloadN X0.here hx rfl (hb hby d1_26) rfl ?_
    show Steps p.tables e below (s₁.setTop (mkF m 27 #[.val (.int p1)] [(.int p1)])) _
    refine XS.iconst X0.here hx rfl (hb hby d1_27) ?_
    show Steps p.tables e below (s₁.setTop (mkF m 28 #[.val (.int p1)] [(.int (3 : Int32)), (.int p1)])) _
    refine XS.icmpNo X0.here hx rfl (hb hby d1_28) rfl (teq hc28).2 ?_
    show Steps p.tables e below (s₁.setTop (mkF m 31 #[.val (.int p1)] [])) _
    refine st3 _ ?_
    show Steps p.tables e below (T3.setTop (mkF m 34 #[.val (.int p1)] [(.ref w2)])) _
    jvm_step X3.here [X3.here.top, hx, (hb hby d1_34), X3.method', Bd.returns, Value.isRef, FieldType.isReference]
    first | (intro acts; rw [hr _ acts rfl rfl rfl]) | rw [hr _ _ rfl rfl rfl]
    exact Steps.refl _
  · show Qr (.ref w2) h0 n0 _ T3.heap _
    rw [e3]
    exact ⟨rfl, N0, rfl⟩
theorem d1_35 : decode method_2_code 35 = .ok (.iload_n 0, 1) := by decide +kernel
theorem d1_36 : decode method_2_code 36 = .ok (.iconst 4, 1) := by decide +kernel
theorem d1_37 : decode method_2_code 37 = .ok (.if_icmp .ne 7, 3) := by decide +kernel
theorem d1_40 : decode method_2_code 40 = .ok (.getstatic 22, 3) := by decide +kernel
theorem d1_43 : decode method_2_code 43 = .ok (.areturn, 1) := by decide +kernel
set_option maxRecDepth 65536 in
set_option maxHeartbeats 40000000 in
theorem rm1_4 (l : Launch) (Z : State) (a0 : Array Value) (hw : ∀ d ∈ tables_1, d.before a0 Z = true) (ws : List Jvm.Cond) (p1 : Int32) (w2 : Addr) (h0 : Heap) (n0 : Nat) (Z0 : n0 ≤ h0.size) (S_MINUTE : Sta Z h0 "com/example/numerand/numerand/engine/Precision" "MINUTE" "Lcom/example/numerand/numerand/engine/Precision;" (.ref w2)) (hc1 : ¬ (p1 = (0 : Int32))) (hc10 : ¬ (p1 = (1 : Int32))) (hc19 : ¬ (p1 = (2 : Int32))) (hc28 : ¬ (p1 = (3 : Int32))) (hc37 : p1 = (4 : Int32)) :
    MetFree l (⟨"com/example/numerand/numerand/engine/PrecisionSecondsPinLaw", "pick", "(I)Lcom/example/numerand/numerand/engine/Precision;"⟩ : MethodName) (head1 (Jvm.Cond.code (⟨"com/example/numerand/numerand/engine/PrecisionSecondsPinLaw", "pick", "(I)Lcom/example/numerand/numerand/engine/Precision;"⟩ : MethodName) method_2_code 1 (some (.object "com/example/numerand/numerand/engine/Precision")) :: ws) ({ frames := 0, cells := 0, slots := 0, locals := 0 } : Room)) (fun a U => a = #[(.int p1)] ∧ Z.Warmed39 U.vm ∧ U.heap = h0) (fun _ _ _ _ _ => True) (fun _ U o U' => ∃ v L, o = .returned v ∧ Qr (.ref w2) h0 n0 v U'.heap L ∧ FrameEnd U o U' L ({ frames := 0, cells := 0, slots := 0, locals := 0 } : Room).cells ({ frames := 0, cells := 0, slots := 0, locals := 0 } : Room).slots) := by
  refine MetFree.of_bodySF (plainFor_of_name pn_1) hisR ?_
  intro p e s m args below meth c s₁ Bd hml0 hP hK
  obtain ⟨rfl, hZ, hh⟩ := hP
  have hx := Bd.exec
  have hby := Bd.bytes
  have hml : c.maxLocals = 1 := hml0
  have hown : s.vm.findClass "com/example/numerand/numerand/engine/PrecisionSecondsPinLaw" = some m.cls := findClass_of_methodNamed Bd.named
  have hnm := (name_of_methodNamed Bd.named Bd.method).1
  have X0 : Stand p l e ({ frames := 0, cells := 0, slots := 0, locals := 0 } : Room) s m #[(.int p1)] below meth c s₁ [] 0 0 := Stand.of_body Bd
  have e0 : s₁.heap = h0 := by rw [← hh, Bd.state]; rfl
  have N0 := Fr.nil n0
  have pre0 : ∀ t, Steps p.tables e below (s₁.setTop (mkF m 0 #[.val (.int p1)] [])) t → Steps p.tables e below (s₁.setTop (entryFrame m #[(.int p1)] 1)) t := fun t k => castTop (ef_1 m p1) k
  obtain ⟨T3, X3, e3, st3⟩ := getS2 X0 hx hZ hown (host := "") (Or.inl (hw _ (List.mem_of_getElem? (i := 25) rfl))) Via.refl e0 S_MINUTE (g := (mkF m 40 #[.val (.int p1)] [])) rfl (hb hby d1_40)
  obtain ⟨fs, hr, hrun, hended, hW, hsame⟩ := X3.leave (v := some (.ref w2)) (fun h => by rw [Bd.returns] at h; cases h)
  refine ⟨_, _, pre0 _ ?_, hrun, hended, _, _, rfl, ?_, ⟨_, rfl⟩, hW, hsame.mono (by decide) (by decide)⟩
  · show Steps p.tables e below (s₁.setTop (mkF m 0 #[.val (.int p1)] [])) _
    refine XS.iloadN X0.here hx rfl (hb hby d1_0) rfl ?_
    show Steps p.tables e below (s₁.setTop (mkF m 1 #[.val (.int p1)] [(.int p1)])) _
    refine XS.ifYes X0.here hx rfl (pc0 := 1) (pc' := 8) rfl (hb hby d1_1) rfl ((if0 _ _).trans (feq hc1).2) (by decide) (by decide) ?_
    show Steps p.tables e below (s₁.setTop (mkF m 8 #[.val (.int p1)] [])) _
    refine XS.iloadN X0.here hx rfl (hb hby d1_8) rfl ?_
    show Steps p.tables e below (s₁.setTop (mkF m 9 #[.val (.int p1)] [(.int p1)])) _
    refine XS.iconst X0.here hx rfl (hb hby d1_9) ?_
    show Steps p.tables e below (s₁.setTop (mkF m 10 #[.val (.int p1)] [(.int (1 : Int32)), (.int p1)])) _
    refine XS.icmpYes X0.here hx rfl (pc0 := 10) (pc' := 17) rfl (hb hby d1_10) rfl (feq hc10).2 (by decide) (by decide) ?_
    show Steps p.tables e below (s₁.setTop (mkF m 17 #[.val (.int p1)] [])) _
    refine XS.iloadN X0.here hx rfl (hb hby d1_17) rfl ?_
    show Steps p.tables e below (s₁.setTop (mkF m 18 #[.val (.int p1)] [(.int p1)])) _
    refine XS.iconst X0.here hx rfl (hb hby d1_18) ?_
    show Steps p.tables e below (s₁.setTop (mkF m 19 #[.val (.int p1)] [(.int (2 : Int32)), (.int p1)])) _
    refine XS.icmpYes X0.here hx rfl (pc0 := 19) (pc' := 26) rfl (hb hby d1_19) rfl (feq hc19).2 (by decide) (by decide) ?_
    show Steps p.tables e below (s₁.setTop (mkF m 26 #[.val (.int p1)] [])) _
    refine XS.iloadN X0.here hx rfl (hb hby d1_26) rfl ?_
    show Steps p.tables e below (s₁.setTop (mkF m 27 #[.val (.int p1)] [(.int p1)])) _
    refine XS.iconst X0.here hx rfl (hb hby d1_27) ?_
    show Steps p.tables e below (s₁.setTop (mkF m 28 #[.val (.int p1)] [(.int (3 : Int32)), (.int p1)])) _
    refine XS.icmpYes X0.here hx rfl (pc0 := 28) (pc' := 35) rfl (hb hby d1_28) rfl (feq hc28).2 (by decide) (by decide) ?_
    show Steps p.tables e below (s₁.setTop (mkF m 35 #[.val (.int p1)] [])) _
    refine XS.iloadN X0.here hx rfl (hb hby d1_35) rfl ?_
    show Steps p.tables e below (s₁.setTop (mkF m 36 #[.val (.int p1)] [(.int p1)])) _
    refine XS.iconst X0.here hx rfl (hb hby d1_36) ?_
    show Steps p.tables e below (s₁.setTop (mkF m 37 #[.val (.int p1)] [(.int (4 : Int32)), (.int p1)])) _
    refine XS.icmpNo X0.here hx rfl (hb hby d1_37) rfl (teq hc37).2 ?_
    show Steps p.tables e below (s₁.setTop (mkF m 40 #[.val (.int p1)] [])) _
    refine st3 _ ?_
    show Steps p.tables e below (T3.setTop (mkF m 43 #[.val (.int p1)] [(.ref w2)])) _
    jvm_step X3.here [X3.here.top, hx, (hb hby d1_43), X3.method', Bd.returns, Value.isRef, FieldType.isReference]
    first | (intro acts; rw [hr _ acts rfl rfl rfl]) | rw [hr _ _ rfl rfl rfl]
    exact Steps.refl _
  · show Qr (.ref w2) h0 n0 _ T3.heap _
    rw [e3]
    exact ⟨rfl, N0, rfl⟩
theorem d1_44 : decode method_2_code 44 = .ok (.iload_n 0, 1) := by decide +kernel
theorem d1_45 : decode method_2_code 45 = .ok (.iconst 5, 1) := by decide +kernel
theorem d1_46 : decode method_2_code 46 = .ok (.if_icmp .ne 7, 3) := by decide +kernel
theorem d1_49 : decode method_2_code 49 = .ok (.getstatic 25, 3) := by decide +kernel
theorem d1_52 : decode method_2_code 52 = .ok (.areturn, 1) := by decide +kernel
set_option maxRecDepth 65536 in
set_option maxHeartbeats 40000000 in
theorem rm1_5 (l : Launch) (Z : State) (a0 : Array Value) (hw : ∀ d ∈ tables_1, d.before a0 Z = true) (ws : List Jvm.Cond) (p1 : Int32) (w2 : Addr) (h0 : Heap) (n0 : Nat) (Z0 : n0 ≤ h0.size) (S_SECOND : Sta Z h0 "com/example/numerand/numerand/engine/Precision" "SECOND" "Lcom/example/numerand/numerand/engine/Precision;" (.ref w2)) (hc1 : ¬ (p1 = (0 : Int32))) (hc10 : ¬ (p1 = (1 : Int32))) (hc19 : ¬ (p1 = (2 : Int32))) (hc28 : ¬ (p1 = (3 : Int32))) (hc37 : ¬ (p1 = (4 : Int32))) (hc46 : p1 = (5 : Int32)) :
    MetFree l (⟨"com/example/numerand/numerand/engine/PrecisionSecondsPinLaw", "pick", "(I)Lcom/example/numerand/numerand/engine/Precision;"⟩ : MethodName) (head1 (Jvm.Cond.code (⟨"com/example/numerand/numerand/engine/PrecisionSecondsPinLaw", "pick", "(I)Lcom/example/numerand/numerand/engine/Precision;"⟩ : MethodName) method_2_code 1 (some (.object "com/example/numerand/numerand/engine/Precision")) :: ws) ({ frames := 0, cells := 0, slots := 0, locals := 0 } : Room)) (fun a U => a = #[(.int p1)] ∧ Z.Warmed39 U.vm ∧ U.heap = h0) (fun _ _ _ _ _ => True) (fun _ U o U' => ∃ v L, o = .returned v ∧ Qr (.ref w2) h0 n0 v U'.heap L ∧ FrameEnd U o U' L ({ frames := 0, cells := 0, slots := 0, locals := 0 } : Room).cells ({ frames := 0, cells := 0, slots := 0, locals := 0 } : Room).slots) := by
  refine MetFree.of_bodySF (plainFor_of_name pn_1) hisR ?_
  intro p e s m args below meth c s₁ Bd hml0 hP hK
  obtain ⟨rfl, hZ, hh⟩ := hP
  have hx := Bd.exec
  have hby := Bd.bytes
  have hml : c.maxLocals = 1 := hml0
  have hown : s.vm.findClass "com/example/numerand/numerand/engine/PrecisionSecondsPinLaw" = some m.cls := findClass_of_methodNamed Bd.named
  have hnm := (name_of_methodNamed Bd.named Bd.method).1
  have X0 : Stand p l e ({ frames := 0, cells := 0, slots := 0, locals := 0 } : Room) s m #[(.int p1)] below meth c s₁ [] 0 0 := Stand.of_body Bd
  have e0 : s₁.heap = h0 := by rw [← hh, Bd.state]; rfl
  have N0 := Fr.nil n0
  have pre0 : ∀ t, Steps p.tables e below (s₁.setTop (mkF m 0 #[.val (.int p1)] [])) t → Steps p.tables e below (s₁.setTop (entryFrame m #[(.int p1)] 1)) t := fun t k => castTop (ef_1 m p1) k
  obtain ⟨T3, X3, e3, st3⟩ := getS2 X0 hx hZ hown (host := "") (Or.inl (hw _ (List.mem_of_getElem? (i := 23) rfl))) Via.refl e0 S_SECOND (g := (mkF m 49 #[.val (.int p1)] [])) rfl (hb hby d1_49)
  obtain ⟨fs, hr, hrun, hended, hW, hsame⟩ := X3.leave (v := some (.ref w2)) (fun h => by rw [Bd.returns] at h; cases h)
  refine ⟨_, _, pre0 _ ?_, hrun, hended, _, _, rfl, ?_, ⟨_, rfl⟩, hW, hsame.mono (by decide) (by decide)⟩
  · show Steps p.tables e below (s₁.setTop (mkF m 0 #[.val (.int p1)] [])) _
    refine XS.iloadN X0.here hx rfl (hb hby d1_0) rfl ?_
    show Steps p.tables e below (s₁.setTop (mkF m 1 #[.val (.int p1)] [(.int p1)])) _
    refine XS.ifYes X0.here hx rfl (pc0 := 1) (pc' := 8) rfl (hb hby d1_1) rfl ((if0 _ _).trans (feq hc1).2) (by decide) (by decide) ?_
    show Steps p.tables e below (s₁.setTop (mkF m 8 #[.val (.int p1)] [])) _
    refine XS.iloadN X0.here hx rfl (hb hby d1_8) rfl ?_
    show Steps p.tables e below (s₁.setTop (mkF m 9 #[.val (.int p1)] [(.int p1)])) _
    refine XS.iconst X0.here hx rfl (hb hby d1_9) ?_
    show Steps p.tables e below (s₁.setTop (mkF m 10 #[.val (.int p1)] [(.int (1 : Int32)), (.int p1)])) _
    refine XS.icmpYes X0.here hx rfl (pc0 := 10) (pc' := 17) rfl (hb hby d1_10) rfl (feq hc10).2 (by decide) (by decide) ?_
    show Steps p.tables e below (s₁.setTop (mkF m 17 #[.val (.int p1)] [])) _
    refine XS.iloadN X0.here hx rfl (hb hby d1_17) rfl ?_
    show Steps p.tables e below (s₁.setTop (mkF m 18 #[.val (.int p1)] [(.int p1)])) _
    refine XS.iconst X0.here hx rfl (hb hby d1_18) ?_
    show Steps p.tables e below (s₁.setTop (mkF m 19 #[.val (.int p1)] [(.int (2 : Int32)), (.int p1)])) _
    refine XS.icmpYes X0.here hx rfl (pc0 := 19) (pc' := 26) rfl (hb hby d1_19) rfl (feq hc19).2 (by decide) (by decide) ?_
    show Steps p.tables e below (s₁.setTop (mkF m 26 #[.val (.int p1)] [])) _
    refine XS.iloadN X0.here hx rfl (hb hby d1_26) rfl ?_
    show Steps p.tables e below (s₁.setTop (mkF m 27 #[.val (.int p1)] [(.int p1)])) _
    refine XS.iconst X0.here hx rfl (hb hby d1_27) ?_
    show Steps p.tables e below (s₁.setTop (mkF m 28 #[.val (.int p1)] [(.int (3 : Int32)), (.int p1)])) _
    refine XS.icmpYes X0.here hx rfl (pc0 := 28) (pc' := 35) rfl (hb hby d1_28) rfl (feq hc28).2 (by decide) (by decide) ?_
    show Steps p.tables e below (s₁.setTop (mkF m 35 #[.val (.int p1)] [])) _
    refine XS.iloadN X0.here hx rfl (hb hby d1_35) rfl ?_
    show Steps p.tables e below (s₁.setTop (mkF m 36 #[.val (.int p1)] [(.int p1)])) _
    refine XS.iconst X0.here hx rfl (hb hby d1_36) ?_
    show Steps p.tables e below (s₁.setTop (mkF m 37 #[.val (.int p1)] [(.int (4 : Int32)), (.int p1)])) _
    refine XS.icmpYes X0.here hx rfl (pc0 := 37) (pc' := 44) rfl (hb hby d1_37) rfl (feq hc37).2 (by decide) (by decide) ?_
    show Steps p.tables e below (s₁.setTop (mkF m 44 #[.val (.int p1)] [])) _
    refine XS.iloadN X0.here hx rfl (hb hby d1_44) rfl ?_
    show Steps p.tables e below (s₁.setTop (mkF m 45 #[.val (.int p1)] [(.int p1)])) _
    refine XS.iconst X0.here hx rfl (hb hby d1_45) ?_
    show Steps p.tables e below (s₁.setTop (mkF m 46 #[.val (.int p1)] [(.int (5 : Int32)), (.int p1)])) _
    refine XS.icmpNo X0.here hx rfl (hb hby d1_46) rfl (teq hc46).2 ?_
    show Steps p.tables e below (s₁.setTop (mkF m 49 #[.val (.int p1)] [])) _
    refine st3 _ ?_
    show Steps p.tables e below (T3.setTop (mkF m 52 #[.val (.int p1)] [(.ref w2)])) _
    jvm_step X3.here [X3.here.top, hx, (hb hby d1_52), X3.method', Bd.returns, Value.isRef, FieldType.isReference]
    first | (intro acts; rw [hr _ acts rfl rfl rfl]) | rw [hr _ _ rfl rfl rfl]
    exact Steps.refl _
  · show Qr (.ref w2) h0 n0 _ T3.heap _
    rw [e3]
    exact ⟨rfl, N0, rfl⟩
theorem d1_53 : decode method_2_code 53 = .ok (.getstatic 28, 3) := by decide +kernel
theorem d1_56 : decode method_2_code 56 = .ok (.areturn, 1) := by decide +kernel
set_option maxRecDepth 65536 in
set_option maxHeartbeats 40000000 in
theorem rm1_6 (l : Launch) (Z : State) (a0 : Array Value) (hw : ∀ d ∈ tables_1, d.before a0 Z = true) (ws : List Jvm.Cond) (p1 : Int32) (w2 : Addr) (h0 : Heap) (n0 : Nat) (Z0 : n0 ≤ h0.size) (S_MILLISECOND : Sta Z h0 "com/example/numerand/numerand/engine/Precision" "MILLISECOND" "Lcom/example/numerand/numerand/engine/Precision;" (.ref w2)) (hc1 : ¬ (p1 = (0 : Int32))) (hc10 : ¬ (p1 = (1 : Int32))) (hc19 : ¬ (p1 = (2 : Int32))) (hc28 : ¬ (p1 = (3 : Int32))) (hc37 : ¬ (p1 = (4 : Int32))) (hc46 : ¬ (p1 = (5 : Int32))) :
    MetFree l (⟨"com/example/numerand/numerand/engine/PrecisionSecondsPinLaw", "pick", "(I)Lcom/example/numerand/numerand/engine/Precision;"⟩ : MethodName) (head1 (Jvm.Cond.code (⟨"com/example/numerand/numerand/engine/PrecisionSecondsPinLaw", "pick", "(I)Lcom/example/numerand/numerand/engine/Precision;"⟩ : MethodName) method_2_code 1 (some (.object "com/example/numerand/numerand/engine/Precision")) :: ws) ({ frames := 0, cells := 0, slots := 0, locals := 0 } : Room)) (fun a U => a = #[(.int p1)] ∧ Z.Warmed39 U.vm ∧ U.heap = h0) (fun _ _ _ _ _ => True) (fun _ U o U' => ∃ v L, o = .returned v ∧ Qr (.ref w2) h0 n0 v U'.heap L ∧ FrameEnd U o U' L ({ frames := 0, cells := 0, slots := 0, locals := 0 } : Room).cells ({ frames := 0, cells := 0, slots := 0, locals := 0 } : Room).slots) := by
  refine MetFree.of_bodySF (plainFor_of_name pn_1) hisR ?_
  intro p e s m args below meth c s₁ Bd hml0 hP hK
  obtain ⟨rfl, hZ, hh⟩ := hP
  have hx := Bd.exec
  have hby := Bd.bytes
  have hml : c.maxLocals = 1 := hml0
  have hown : s.vm.findClass "com/example/numerand/numerand/engine/PrecisionSecondsPinLaw" = some m.cls := findClass_of_methodNamed Bd.named
  have hnm := (name_of_methodNamed Bd.named Bd.method).1
  have X0 : Stand p l e ({ frames := 0, cells := 0, slots := 0, locals := 0 } : Room) s m #[(.int p1)] below meth c s₁ [] 0 0 := Stand.of_body Bd
  have e0 : s₁.heap = h0 := by rw [← hh, Bd.state]; rfl
  have N0 := Fr.nil n0
  have pre0 : ∀ t, Steps p.tables e below (s₁.setTop (mkF m 0 #[.val (.int p1)] [])) t → Steps p.tables e below (s₁.setTop (entryFrame m #[(.int p1)] 1)) t := fun t k => castTop (ef_1 m p1) k
  obtain ⟨T3, X3, e3, st3⟩ := getS2 X0 hx hZ hown (host := "") (Or.inl (hw _ (List.mem_of_getElem? (i := 15) rfl))) Via.refl e0 S_MILLISECOND (g := (mkF m 53 #[.val (.int p1)] [])) rfl (hb hby d1_53)
  obtain ⟨fs, hr, hrun, hended, hW, hsame⟩ := X3.leave (v := some (.ref w2)) (fun h => by rw [Bd.returns] at h; cases h)
  refine ⟨_, _, pre0 _ ?_, hrun, hended, _, _, rfl, ?_, ⟨_, rfl⟩, hW, hsame.mono (by decide) (by decide)⟩
  · show Steps p.tables e below (s₁.setTop (mkF m 0 #[.val (.int p1)] [])) _
    refine XS.iloadN X0.here hx rfl (hb hby d1_0) rfl ?_
    show Steps p.tables e below (s₁.setTop (mkF m 1 #[.val (.int p1)] [(.int p1)])) _
    refine XS.ifYes X0.here hx rfl (pc0 := 1) (pc' := 8) rfl (hb hby d1_1) rfl ((if0 _ _).trans (feq hc1).2) (by decide) (by decide) ?_
    show Steps p.tables e below (s₁.setTop (mkF m 8 #[.val (.int p1)] [])) _
    refine XS.iloadN X0.here hx rfl (hb hby d1_8) rfl ?_
    show Steps p.tables e below (s₁.setTop (mkF m 9 #[.val (.int p1)] [(.int p1)])) _
    refine XS.iconst X0.here hx rfl (hb hby d1_9) ?_
    show Steps p.tables e below (s₁.setTop (mkF m 10 #[.val (.int p1)] [(.int (1 : Int32)), (.int p1)])) _
    refine XS.icmpYes X0.here hx rfl (pc0 := 10) (pc' := 17) rfl (hb hby d1_10) rfl (feq hc10).2 (by decide) (by decide) ?_
    show Steps p.tables e below (s₁.setTop (mkF m 17 #[.val (.int p1)] [])) _
    refine XS.iloadN X0.here hx rfl (hb hby d1_17) rfl ?_
    show Steps p.tables e below (s₁.setTop (mkF m 18 #[.val (.int p1)] [(.int p1)])) _
    refine XS.iconst X0.here hx rfl (hb hby d1_18) ?_
    show Steps p.tables e below (s₁.setTop (mkF m 19 #[.val (.int p1)] [(.int (2 : Int32)), (.int p1)])) _
    refine XS.icmpYes X0.here hx rfl (pc0 := 19) (pc' := 26) rfl (hb hby d1_19) rfl (feq hc19).2 (by decide) (by decide) ?_
    show Steps p.tables e below (s₁.setTop (mkF m 26 #[.val (.int p1)] [])) _
    refine XS.iloadN X0.here hx rfl (hb hby d1_26) rfl ?_
    show Steps p.tables e below (s₁.setTop (mkF m 27 #[.val (.int p1)] [(.int p1)])) _
    refine XS.iconst X0.here hx rfl (hb hby d1_27) ?_
    show Steps p.tables e below (s₁.setTop (mkF m 28 #[.val (.int p1)] [(.int (3 : Int32)), (.int p1)])) _
    refine XS.icmpYes X0.here hx rfl (pc0 := 28) (pc' := 35) rfl (hb hby d1_28) rfl (feq hc28).2 (by decide) (by decide) ?_
    show Steps p.tables e below (s₁.setTop (mkF m 35 #[.val (.int p1)] [])) _
    refine XS.iloadN X0.here hx rfl (hb hby d1_35) rfl ?_
    show Steps p.tables e below (s₁.setTop (mkF m 36 #[.val (.int p1)] [(.int p1)])) _
    refine XS.iconst X0.here hx rfl (hb hby d1_36) ?_
    show Steps p.tables e below (s₁.setTop (mkF m 37 #[.val (.int p1)] [(.int (4 : Int32)), (.int p1)])) _
    refine XS.icmpYes X0.here hx rfl (pc0 := 37) (pc' := 44) rfl (hb hby d1_37) rfl (feq hc37).2 (by decide) (by decide) ?_
    show Steps p.tables e below (s₁.setTop (mkF m 44 #[.val (.int p1)] [])) _
    refine XS.iloadN X0.here hx rfl (hb hby d1_44) rfl ?_
    show Steps p.tables e below (s₁.setTop (mkF m 45 #[.val (.int p1)] [(.int p1)])) _
    refine XS.iconst X0.here hx rfl (hb hby d1_45) ?_
    show Steps p.tables e below (s₁.setTop (mkF m 46 #[.val (.int p1)] [(.int (5 : Int32)), (.int p1)])) _
    refine XS.icmpYes X0.here hx rfl (pc0 := 46) (pc' := 53) rfl (hb hby d1_46) rfl (feq hc46).2 (by decide) (by decide) ?_
    show Steps p.tables e below (s₁.setTop (mkF m 53 #[.val (.int p1)] [])) _
    refine st3 _ ?_
    show Steps p.tables e below (T3.setTop (mkF m 56 #[.val (.int p1)] [(.ref w2)])) _
    jvm_step X3.here [X3.here.top, hx, (hb hby d1_56), X3.method', Bd.returns, Value.isRef, FieldType.isReference]
    first | (intro acts; rw [hr _ acts rfl rfl rfl]) | rw [hr _ _ rfl rfl rfl]
    exact Steps.refl _
  · show Qr (.ref w2) h0 n0 _ T3.heap _
    rw [e3]
    exact ⟨rfl, N0, rfl⟩
set_option maxRecDepth 65536 in
set_option maxHeartbeats 40000000 in
theorem rm1 (l : Launch) (Z : State) (a0 : Array Value) (hw : ∀ d ∈ tables_1, d.before a0 Z = true) (ws : List Jvm.Cond) (i : Int32) (P : Int32 → Addr) (h0 : Heap) (n0 : Nat) (Z0 : n0 ≤ h0.size) (K : Known Z h0 P) (hi : In7 i) :
    MetFree l (⟨"com/example/numerand/numerand/engine/PrecisionSecondsPinLaw", "pick", "(I)Lcom/example/numerand/numerand/engine/Precision;"⟩ : MethodName) (head1 (Jvm.Cond.code (⟨"com/example/numerand/numerand/engine/PrecisionSecondsPinLaw", "pick", "(I)Lcom/example/numerand/numerand/engine/Precision;"⟩ : MethodName) method_2_code 1 (some (.object "com/example/numerand/numerand/engine/Precision")) :: ws) ({ frames := 0, cells := 0, slots := 0, locals := 0 } : Room)) (fun a U => a = #[(.int i)] ∧ Z.Warmed39 U.vm ∧ U.heap = h0) (fun _ _ _ _ _ => True) (fun _ U o U' => ∃ v L, o = .returned v ∧ Qr (.ref (P i)) h0 n0 v U'.heap L ∧ FrameEnd U o U' L ({ frames := 0, cells := 0, slots := 0, locals := 0 } : Room).cells ({ frames := 0, cells := 0, slots := 0, locals := 0 } : Room).slots) := by
  obtain ⟨s0, s1, s2, s3, s4, s5, s6, hinj⟩ := K
  rcases hi with rfl | rfl | rfl | rfl | rfl | rfl | rfl
  · exact rm1_0 l Z a0 hw ws 0 (P 0) h0 n0 Z0 s0  rfl
  · exact rm1_1 l Z a0 hw ws 1 (P 1) h0 n0 Z0 s1 (by decide) rfl
  · exact rm1_2 l Z a0 hw ws 2 (P 2) h0 n0 Z0 s2 (by decide) (by decide) rfl
  · exact rm1_3 l Z a0 hw ws 3 (P 3) h0 n0 Z0 s3 (by decide) (by decide) (by decide) rfl
  · exact rm1_4 l Z a0 hw ws 4 (P 4) h0 n0 Z0 s4 (by decide) (by decide) (by decide) (by decide) rfl
  · exact rm1_5 l Z a0 hw ws 5 (P 5) h0 n0 Z0 s5 (by decide) (by decide) (by decide) (by decide) (by decide) rfl
  · exact rm1_6 l Z a0 hw ws 6 (P 6) h0 n0 Z0 s6 (by decide) (by decide) (by decide) (by decide) (by decide) (by decide)
theorem d2_0 : decode prog_21_method_8_code 0 = .ok (.aload_n 0, 1) := by decide +kernel
theorem d2_1 : decode prog_21_method_8_code 1 = .ok (.getstatic 22, 3) := by decide +kernel
theorem d2_4 : decode prog_21_method_8_code 4 = .ok (.if_acmp .ne 9, 3) := by decide +kernel
theorem d2_7 : decode prog_21_method_8_code 7 = .ok (.getstatic 19, 3) := by decide +kernel
theorem d2_10 : decode prog_21_method_8_code 10 = .ok (.goto 4, 3) := by decide +kernel
theorem d2_14 : decode prog_21_method_8_code 14 = .ok (.areturn, 1) := by decide +kernel
theorem pn_2 : plainName "com/example/numerand/numerand/engine/Precision" = true := by first | (simp [plainName, overriddenIn]; done) | decide +kernel
theorem ef_2 (m : MethodId) (x0 : Addr) : entryFrame m #[(.ref x0)] 1 = mkF m 0 #[.val (.ref x0)] [] := by first | (simp [entryFrame, mkF, argsToLocals, Value.category]; done) | rfl
set_option maxRecDepth 65536 in
set_option maxHeartbeats 40000000 in
theorem rm2f (l : Launch) (Z : State) (a0 : Array Value) (hw : ∀ d ∈ tables_1, d.before a0 Z = true) (ws : List Jvm.Cond) (a1 : Addr) (w2 : Addr) (w4 : Addr) (h0 : Heap) (n0 : Nat) (Z0 : n0 ≤ h0.size) (S_MILLISECOND : Sta Z h0 "com/example/numerand/numerand/engine/Precision" "MILLISECOND" "Lcom/example/numerand/numerand/engine/Precision;" (.ref w2)) (S_SECOND : Sta Z h0 "com/example/numerand/numerand/engine/Precision" "SECOND" "Lcom/example/numerand/numerand/engine/Precision;" (.ref w4)) (ha4 : a1 = w2) :
    MetFree l (⟨"com/example/numerand/numerand/engine/Precision", "seconds", "(Lcom/example/numerand/numerand/engine/Precision;)Lcom/example/numerand/numerand/engine/Precision;"⟩ : MethodName) (head1 (Jvm.Cond.code (⟨"com/example/numerand/numerand/engine/Precision", "seconds", "(Lcom/example/numerand/numerand/engine/Precision;)Lcom/example/numerand/numerand/engine/Precision;"⟩ : MethodName) prog_21_method_8_code 1 (some (.object "com/example/numerand/numerand/engine/Precision")) :: ws) ({ frames := 0, cells := 0, slots := 0, locals := 0 } : Room)) (fun a U => a = #[(.ref a1)] ∧ Z.Warmed39 U.vm ∧ U.heap = h0) (fun _ _ _ _ _ => True) (fun _ U o U' => ∃ v L, o = .returned v ∧ Qr (.ref w4) h0 n0 v U'.heap L ∧ FrameEnd U o U' L ({ frames := 0, cells := 0, slots := 0, locals := 0 } : Room).cells ({ frames := 0, cells := 0, slots := 0, locals := 0 } : Room).slots) := by
  refine MetFree.of_bodySF (plainFor_of_name pn_2) hisR ?_
  intro p e s m args below meth c s₁ Bd hml0 hP hK
  obtain ⟨rfl, hZ, hh⟩ := hP
  have hx := Bd.exec
  have hby := Bd.bytes
  have hml : c.maxLocals = 1 := hml0
  have hown : s.vm.findClass "com/example/numerand/numerand/engine/Precision" = some m.cls := findClass_of_methodNamed Bd.named
  have hnm := (name_of_methodNamed Bd.named Bd.method).1
  have X0 : Stand p l e ({ frames := 0, cells := 0, slots := 0, locals := 0 } : Room) s m #[(.ref a1)] below meth c s₁ [] 0 0 := Stand.of_body Bd
  have e0 : s₁.heap = h0 := by rw [← hh, Bd.state]; rfl
  have N0 := Fr.nil n0
  have pre0 : ∀ t, Steps p.tables e below (s₁.setTop (mkF m 0 #[.val (.ref a1)] [])) t → Steps p.tables e below (s₁.setTop (entryFrame m #[(.ref a1)] 1)) t := fun t k => castTop (ef_2 m a1) k
  obtain ⟨T3, X3, e3, st3⟩ := getS2 X0 hx hZ hown (host := "") (Or.inl (hw _ (List.mem_of_getElem? (i := 13) rfl))) Via.refl e0 S_MILLISECOND (g := (mkF m 1 #[.val (.ref a1)] [(.ref a1)])) rfl (hb hby d2_1)
  obtain ⟨T5, X5, e5, st5⟩ := getS2 X3 hx hZ hown (host := "") (Or.inl (hw _ (List.mem_of_getElem? (i := 27) rfl))) Via.refl e3 S_SECOND (g := (mkF m 7 #[.val (.ref a1)] [])) rfl (hb hby d2_7)
  obtain ⟨fs, hr, hrun, hended, hW, hsame⟩ := X5.leave (v := some (.ref w4)) (fun h => by rw [Bd.returns] at h; cases h)
  refine ⟨_, _, pre0 _ ?_, hrun, hended, _, _, rfl, ?_, ⟨_, rfl⟩, hW, hsame.mono (by decide) (by decide)⟩
  · show Steps p.tables e below (s₁.setTop (mkF m 0 #[.val (.ref a1)] [])) _
    refine XS.aloadN X0.here hx rfl (hb hby d2_0) rfl rfl ?_
    show Steps p.tables e below (s₁.setTop (mkF m 1 #[.val (.ref a1)] [(.ref a1)])) _
    refine st3 _ ?_
    show Steps p.tables e below (T3.setTop (mkF m 4 #[.val (.ref a1)] [(.ref w2), (.ref a1)])) _
    refine Jvm.RoadKit.acmp (g := (mkF m 4 #[.val (.ref a1)] [(.ref w2), (.ref a1)])) X3 hx rfl rfl rfl (pc0 := 4) (pc' := 7) (same := true) rfl (hb hby d2_4) rfl (decide_eq_true (congrArg Value.ref ha4)) (by decide) (by decide) ?_
    show Steps p.tables e below (T3.setTop (mkF m 7 #[.val (.ref a1)] [])) _
    refine st5 _ ?_
    show Steps p.tables e below (T5.setTop (mkF m 10 #[.val (.ref a1)] [(.ref w4)])) _
    refine XS.goto X5.here hx rfl (pc0 := 10) (pc' := 14) rfl (hb hby d2_10) (by decide) (by decide) ?_
    show Steps p.tables e below (T5.setTop (mkF m 14 #[.val (.ref a1)] [(.ref w4)])) _
    jvm_step X5.here [X5.here.top, hx, (hb hby d2_14), X5.method', Bd.returns, Value.isRef, FieldType.isReference]
    first | (intro acts; rw [hr _ acts rfl rfl rfl]) | rw [hr _ _ rfl rfl rfl]
    exact Steps.refl _
  · show Qr (.ref w4) h0 n0 _ T5.heap _
    rw [e5]
    exact ⟨rfl, N0, rfl⟩
theorem d2_13 : decode prog_21_method_8_code 13 = .ok (.aload_n 0, 1) := by decide +kernel
set_option maxRecDepth 65536 in
set_option maxHeartbeats 40000000 in
theorem rm2t (l : Launch) (Z : State) (a0 : Array Value) (hw : ∀ d ∈ tables_1, d.before a0 Z = true) (ws : List Jvm.Cond) (a1 : Addr) (w2 : Addr) (h0 : Heap) (n0 : Nat) (Z0 : n0 ≤ h0.size) (S_MILLISECOND : Sta Z h0 "com/example/numerand/numerand/engine/Precision" "MILLISECOND" "Lcom/example/numerand/numerand/engine/Precision;" (.ref w2)) (ha4 : ¬ (a1 = w2)) :
    MetFree l (⟨"com/example/numerand/numerand/engine/Precision", "seconds", "(Lcom/example/numerand/numerand/engine/Precision;)Lcom/example/numerand/numerand/engine/Precision;"⟩ : MethodName) (head1 (Jvm.Cond.code (⟨"com/example/numerand/numerand/engine/Precision", "seconds", "(Lcom/example/numerand/numerand/engine/Precision;)Lcom/example/numerand/numerand/engine/Precision;"⟩ : MethodName) prog_21_method_8_code 1 (some (.object "com/example/numerand/numerand/engine/Precision")) :: ws) ({ frames := 0, cells := 0, slots := 0, locals := 0 } : Room)) (fun a U => a = #[(.ref a1)] ∧ Z.Warmed39 U.vm ∧ U.heap = h0) (fun _ _ _ _ _ => True) (fun _ U o U' => ∃ v L, o = .returned v ∧ Qr (.ref a1) h0 n0 v U'.heap L ∧ FrameEnd U o U' L ({ frames := 0, cells := 0, slots := 0, locals := 0 } : Room).cells ({ frames := 0, cells := 0, slots := 0, locals := 0 } : Room).slots) := by
  refine MetFree.of_bodySF (plainFor_of_name pn_2) hisR ?_
  intro p e s m args below meth c s₁ Bd hml0 hP hK
  obtain ⟨rfl, hZ, hh⟩ := hP
  have hx := Bd.exec
  have hby := Bd.bytes
  have hml : c.maxLocals = 1 := hml0
  have hown : s.vm.findClass "com/example/numerand/numerand/engine/Precision" = some m.cls := findClass_of_methodNamed Bd.named
  have hnm := (name_of_methodNamed Bd.named Bd.method).1
  have X0 : Stand p l e ({ frames := 0, cells := 0, slots := 0, locals := 0 } : Room) s m #[(.ref a1)] below meth c s₁ [] 0 0 := Stand.of_body Bd
  have e0 : s₁.heap = h0 := by rw [← hh, Bd.state]; rfl
  have N0 := Fr.nil n0
  have pre0 : ∀ t, Steps p.tables e below (s₁.setTop (mkF m 0 #[.val (.ref a1)] [])) t → Steps p.tables e below (s₁.setTop (entryFrame m #[(.ref a1)] 1)) t := fun t k => castTop (ef_2 m a1) k
  obtain ⟨T3, X3, e3, st3⟩ := getS2 X0 hx hZ hown (host := "") (Or.inl (hw _ (List.mem_of_getElem? (i := 13) rfl))) Via.refl e0 S_MILLISECOND (g := (mkF m 1 #[.val (.ref a1)] [(.ref a1)])) rfl (hb hby d2_1)
  obtain ⟨fs, hr, hrun, hended, hW, hsame⟩ := X3.leave (v := some (.ref a1)) (fun h => by rw [Bd.returns] at h; cases h)
  refine ⟨_, _, pre0 _ ?_, hrun, hended, _, _, rfl, ?_, ⟨_, rfl⟩, hW, hsame.mono (by decide) (by decide)⟩
  · show Steps p.tables e below (s₁.setTop (mkF m 0 #[.val (.ref a1)] [])) _
    refine XS.aloadN X0.here hx rfl (hb hby d2_0) rfl rfl ?_
    show Steps p.tables e below (s₁.setTop (mkF m 1 #[.val (.ref a1)] [(.ref a1)])) _
    refine st3 _ ?_
    show Steps p.tables e below (T3.setTop (mkF m 4 #[.val (.ref a1)] [(.ref w2), (.ref a1)])) _
    refine Jvm.RoadKit.acmp (g := (mkF m 4 #[.val (.ref a1)] [(.ref w2), (.ref a1)])) X3 hx rfl rfl rfl (pc0 := 4) (pc' := 13) (same := false) rfl (hb hby d2_4) rfl (decide_eq_false fun q => ha4 (Value.ref.inj q)) (by decide) (by decide) ?_
    show Steps p.tables e below (T3.setTop (mkF m 13 #[.val (.ref a1)] [])) _
    refine XS.aloadN X3.here hx rfl (hb hby d2_13) rfl rfl ?_
    show Steps p.tables e below (T3.setTop (mkF m 14 #[.val (.ref a1)] [(.ref a1)])) _
    jvm_step X3.here [X3.here.top, hx, (hb hby d2_14), X3.method', Bd.returns, Value.isRef, FieldType.isReference]
    first | (intro acts; rw [hr _ acts rfl rfl rfl]) | rw [hr _ _ rfl rfl rfl]
    exact Steps.refl _
  · show Qr (.ref a1) h0 n0 _ T3.heap _
    rw [e3]
    exact ⟨rfl, N0, rfl⟩
set_option maxRecDepth 65536 in
set_option maxHeartbeats 40000000 in
theorem rm2 (l : Launch) (Z : State) (a0 : Array Value) (hw : ∀ d ∈ tables_1, d.before a0 Z = true) (ws : List Jvm.Cond) (i : Int32) (P : Int32 → Addr) (h0 : Heap) (n0 : Nat) (Z0 : n0 ≤ h0.size) (K : Known Z h0 P) (hi : In7 i) :
    MetFree l (⟨"com/example/numerand/numerand/engine/Precision", "seconds", "(Lcom/example/numerand/numerand/engine/Precision;)Lcom/example/numerand/numerand/engine/Precision;"⟩ : MethodName) (head1 (Jvm.Cond.code (⟨"com/example/numerand/numerand/engine/Precision", "seconds", "(Lcom/example/numerand/numerand/engine/Precision;)Lcom/example/numerand/numerand/engine/Precision;"⟩ : MethodName) prog_21_method_8_code 1 (some (.object "com/example/numerand/numerand/engine/Precision")) :: ws) ({ frames := 0, cells := 0, slots := 0, locals := 0 } : Room)) (fun a U => a = #[(.ref (P i))] ∧ Z.Warmed39 U.vm ∧ U.heap = h0) (fun _ _ _ _ _ => True) (fun _ U o U' => ∃ v L, o = .returned v ∧ Qr (.ref (P (own_s i))) h0 n0 v U'.heap L ∧ FrameEnd U o U' L ({ frames := 0, cells := 0, slots := 0, locals := 0 } : Room).cells ({ frames := 0, cells := 0, slots := 0, locals := 0 } : Room).slots) := by
  obtain ⟨s0, s1, s2, s3, s4, s5, s6, hinj⟩ := K
  by_cases h6 : i = 6
  · subst h6
    have e : own_s 6 = 5 := by decide
    rw [e]
    exact rm2f l Z a0 hw ws (P 6) (P 6) (P 5) h0 n0 Z0 s6 s5 rfl
  · rw [own_sn h6]
    exact rm2t l Z a0 hw ws (P i) (P 6) h0 n0 Z0 s6 (fun q => h6 (hinj i 6 hi own_6 q))
theorem d3_0 : decode method_3_code 0 = .ok (.aload_n 0, 1) := by decide +kernel
theorem d3_1 : decode method_3_code 1 = .ok (.getstatic 7, 3) := by decide +kernel
theorem d3_4 : decode method_3_code 4 = .ok (.if_acmp .ne 5, 3) := by decide +kernel
theorem d3_7 : decode method_3_code 7 = .ok (.iconst 0, 1) := by decide +kernel
theorem d3_8 : decode method_3_code 8 = .ok (.ireturn, 1) := by decide +kernel
theorem pn_3 : plainName "com/example/numerand/numerand/engine/PrecisionSecondsPinLaw" = true := by first | (simp [plainName, overriddenIn]; done) | decide +kernel
theorem ef_3 (m : MethodId) (x0 : Addr) : entryFrame m #[(.ref x0)] 1 = mkF m 0 #[.val (.ref x0)] [] := by first | (simp [entryFrame, mkF, argsToLocals, Value.category]; done) | rfl
set_option maxRecDepth 65536 in
set_option maxHeartbeats 40000000 in
theorem rm3_0 (l : Launch) (Z : State) (a0 : Array Value) (hw : ∀ d ∈ tables_1, d.before a0 Z = true) (ws : List Jvm.Cond) (a1 : Addr) (w2 : Addr) (h0 : Heap) (n0 : Nat) (Z0 : n0 ≤ h0.size) (S_YEAR : Sta Z h0 "com/example/numerand/numerand/engine/Precision" "YEAR" "Lcom/example/numerand/numerand/engine/Precision;" (.ref w2)) (ha4 : a1 = w2) :
    MetFree l (⟨"com/example/numerand/numerand/engine/PrecisionSecondsPinLaw", "idx", "(Lcom/example/numerand/numerand/engine/Precision;)I"⟩ : MethodName) (head1 (Jvm.Cond.code (⟨"com/example/numerand/numerand/engine/PrecisionSecondsPinLaw", "idx", "(Lcom/example/numerand/numerand/engine/Precision;)I"⟩ : MethodName) method_3_code 1 (some .int) :: ws) ({ frames := 0, cells := 0, slots := 0, locals := 0 } : Room)) (fun a U => a = #[(.ref a1)] ∧ Z.Warmed39 U.vm ∧ U.heap = h0) (fun _ _ _ _ _ => True) (fun _ U o U' => ∃ v L, o = .returned v ∧ Qr (.int (0 : Int32)) h0 n0 v U'.heap L ∧ FrameEnd U o U' L ({ frames := 0, cells := 0, slots := 0, locals := 0 } : Room).cells ({ frames := 0, cells := 0, slots := 0, locals := 0 } : Room).slots) := by
  refine MetFree.of_bodySF (plainFor_of_name pn_3) hisR ?_
  intro p e s m args below meth c s₁ Bd hml0 hP hK
  obtain ⟨rfl, hZ, hh⟩ := hP
  have hx := Bd.exec
  have hby := Bd.bytes
  have hml : c.maxLocals = 1 := hml0
  have hown : s.vm.findClass "com/example/numerand/numerand/engine/PrecisionSecondsPinLaw" = some m.cls := findClass_of_methodNamed Bd.named
  have hnm := (name_of_methodNamed Bd.named Bd.method).1
  have X0 : Stand p l e ({ frames := 0, cells := 0, slots := 0, locals := 0 } : Room) s m #[(.ref a1)] below meth c s₁ [] 0 0 := Stand.of_body Bd
  have e0 : s₁.heap = h0 := by rw [← hh, Bd.state]; rfl
  have N0 := Fr.nil n0
  have pre0 : ∀ t, Steps p.tables e below (s₁.setTop (mkF m 0 #[.val (.ref a1)] [])) t → Steps p.tables e below (s₁.setTop (entryFrame m #[(.ref a1)] 1)) t := fun t k => castTop (ef_3 m a1) k
  obtain ⟨T3, X3, e3, st3⟩ := getS2 X0 hx hZ hown (host := "") (Or.inl (hw _ (List.mem_of_getElem? (i := 5) rfl))) Via.refl e0 S_YEAR (g := (mkF m 1 #[.val (.ref a1)] [(.ref a1)])) rfl (hb hby d3_1)
  obtain ⟨fs, hr, hrun, hended, hW, hsame⟩ := X3.leave (v := some (.int (0 : Int32))) (fun h => by rw [Bd.returns] at h; cases h)
  refine ⟨_, _, pre0 _ ?_, hrun, hended, _, _, rfl, ?_, ⟨_, rfl⟩, hW, hsame.mono (by decide) (by decide)⟩
  · show Steps p.tables e below (s₁.setTop (mkF m 0 #[.val (.ref a1)] [])) _
    refine XS.aloadN X0.here hx rfl (hb hby d3_0) rfl rfl ?_
    show Steps p.tables e below (s₁.setTop (mkF m 1 #[.val (.ref a1)] [(.ref a1)])) _
    refine st3 _ ?_
    show Steps p.tables e below (T3.setTop (mkF m 4 #[.val (.ref a1)] [(.ref w2), (.ref a1)])) _
    refine Jvm.RoadKit.acmp (g := (mkF m 4 #[.val (.ref a1)] [(.ref w2), (.ref a1)])) X3 hx rfl rfl rfl (pc0 := 4) (pc' := 7) (same := true) rfl (hb hby d3_4) rfl (decide_eq_true (congrArg Value.ref ha4)) (by decide) (by decide) ?_
    show Steps p.tables e below (T3.setTop (mkF m 7 #[.val (.ref a1)] [])) _
    refine XS.iconst X3.here hx rfl (hb hby d3_7) ?_
    show Steps p.tables e below (T3.setTop (mkF m 8 #[.val (.ref a1)] [(.int (0 : Int32))])) _
    exact retI X3 hx Bd.returns (hb hby d3_8) hr      -- retI stands in the head ('lawwalk <made dir>' prints it)
  · show Qr (.int (0 : Int32)) h0 n0 _ T3.heap _
    rw [e3]
    exact ⟨rfl, N0, rfl⟩
theorem d3_9 : decode method_3_code 9 = .ok (.aload_n 0, 1) := by decide +kernel
theorem d3_10 : decode method_3_code 10 = .ok (.getstatic 13, 3) := by decide +kernel
theorem d3_13 : decode method_3_code 13 = .ok (.if_acmp .ne 5, 3) := by decide +kernel
theorem d3_16 : decode method_3_code 16 = .ok (.iconst 1, 1) := by decide +kernel
theorem d3_17 : decode method_3_code 17 = .ok (.ireturn, 1) := by decide +kernel
set_option maxRecDepth 65536 in
set_option maxHeartbeats 40000000 in
theorem rm3_1 (l : Launch) (Z : State) (a0 : Array Value) (hw : ∀ d ∈ tables_1, d.before a0 Z = true) (ws : List Jvm.Cond) (a1 : Addr) (w2 : Addr) (w4 : Addr) (h0 : Heap) (n0 : Nat) (Z0 : n0 ≤ h0.size) (S_YEAR : Sta Z h0 "com/example/numerand/numerand/engine/Precision" "YEAR" "Lcom/example/numerand/numerand/engine/Precision;" (.ref w2)) (S_MONTH : Sta Z h0 "com/example/numerand/numerand/engine/Precision" "MONTH" "Lcom/example/numerand/numerand/engine/Precision;" (.ref w4)) (ha4 : ¬ (a1 = w2)) (ha13 : a1 = w4) :
    MetFree l (⟨"com/example/numerand/numerand/engine/PrecisionSecondsPinLaw", "idx", "(Lcom/example/numerand/numerand/engine/Precision;)I"⟩ : MethodName) (head1 (Jvm.Cond.code (⟨"com/example/numerand/numerand/engine/PrecisionSecondsPinLaw", "idx", "(Lcom/example/numerand/numerand/engine/Precision;)I"⟩ : MethodName) method_3_code 1 (some .int) :: ws) ({ frames := 0, cells := 0, slots := 0, locals := 0 } : Room)) (fun a U => a = #[(.ref a1)] ∧ Z.Warmed39 U.vm ∧ U.heap = h0) (fun _ _ _ _ _ => True) (fun _ U o U' => ∃ v L, o = .returned v ∧ Qr (.int (1 : Int32)) h0 n0 v U'.heap L ∧ FrameEnd U o U' L ({ frames := 0, cells := 0, slots := 0, locals := 0 } : Room).cells ({ frames := 0, cells := 0, slots := 0, locals := 0 } : Room).slots) := by
  refine MetFree.of_bodySF (plainFor_of_name pn_3) hisR ?_
  intro p e s m args below meth c s₁ Bd hml0 hP hK
  obtain ⟨rfl, hZ, hh⟩ := hP
  have hx := Bd.exec
  have hby := Bd.bytes
  have hml : c.maxLocals = 1 := hml0
  have hown : s.vm.findClass "com/example/numerand/numerand/engine/PrecisionSecondsPinLaw" = some m.cls := findClass_of_methodNamed Bd.named
  have hnm := (name_of_methodNamed Bd.named Bd.method).1
  have X0 : Stand p l e ({ frames := 0, cells := 0, slots := 0, locals := 0 } : Room) s m #[(.ref a1)] below meth c s₁ [] 0 0 := Stand.of_body Bd
  have e0 : s₁.heap = h0 := by rw [← hh, Bd.state]; rfl
  have N0 := Fr.nil n0
  have pre0 : ∀ t, Steps p.tables e below (s₁.setTop (mkF m 0 #[.val (.ref a1)] [])) t → Steps p.tables e below (s₁.setTop (entryFrame m #[(.ref a1)] 1)) t := fun t k => castTop (ef_3 m a1) k
  obtain ⟨T3, X3, e3, st3⟩ := getS2 X0 hx hZ hown (host := "") (Or.inl (hw _ (List.mem_of_getElem? (i := 5) rfl))) Via.refl e0 S_YEAR (g := (mkF m 1 #[.val (.ref a1)] [(.ref a1)])) rfl (hb hby d3_1)
  obtain ⟨T5, X5, e5, st5⟩ := getS2 X3 hx hZ hown (host := "") (Or.inl (hw _ (List.mem_of_getElem? (i := 19) rfl))) Via.refl e3 S_MONTH (g := (mkF m 10 #[.val (.ref a1)] [(.ref a1)])) rfl (hb hby d3_10)
  obtain ⟨fs, hr, hrun, hended, hW, hsame⟩ := X5.leave (v := some (.int (1 : Int32))) (fun h => by rw [Bd.returns] at h; cases h)
  refine ⟨_, _, pre0 _ ?_, hrun, hended, _, _, rfl, ?_, ⟨_, rfl⟩, hW, hsame.mono (by decide) (by decide)⟩
  · show Steps p.tables e below (s₁.setTop (mkF m 0 #[.val (.ref a1)] [])) _
    refine XS.aloadN X0.here hx rfl (hb hby d3_0) rfl rfl ?_
    show Steps p.tables e below (s₁.setTop (mkF m 1 #[.val (.ref a1)] [(.ref a1)])) _
    refine st3 _ ?_
    show Steps p.tables e below (T3.setTop (mkF m 4 #[.val (.ref a1)] [(.ref w2), (.ref a1)])) _
    refine Jvm.RoadKit.acmp (g := (mkF m 4 #[.val (.ref a1)] [(.ref w2), (.ref a1)])) X3 hx rfl rfl rfl (pc0 := 4) (pc' := 9) (same := false) rfl (hb hby d3_4) rfl (decide_eq_false fun q => ha4 (Value.ref.inj q)) (by decide) (by decide) ?_
    show Steps p.tables e below (T3.setTop (mkF m 9 #[.val (.ref a1)] [])) _
    refine XS.aloadN X3.here hx rfl (hb hby d3_9) rfl rfl ?_
    show Steps p.tables e below (T3.setTop (mkF m 10 #[.val (.ref a1)] [(.ref a1)])) _
    refine st5 _ ?_
    show Steps p.tables e below (T5.setTop (mkF m 13 #[.val (.ref a1)] [(.ref w4), (.ref a1)])) _
    refine Jvm.RoadKit.acmp (g := (mkF m 13 #[.val (.ref a1)] [(.ref w4), (.ref a1)])) X5 hx rfl rfl rfl (pc0 := 13) (pc' := 16) (same := true) rfl (hb hby d3_13) rfl (decide_eq_true (congrArg Value.ref ha13)) (by decide) (by decide) ?_
    show Steps p.tables e below (T5.setTop (mkF m 16 #[.val (.ref a1)] [])) _
    refine XS.iconst X5.here hx rfl (hb hby d3_16) ?_
    show Steps p.tables e below (T5.setTop (mkF m 17 #[.val (.ref a1)] [(.int (1 : Int32))])) _
    exact retI X5 hx Bd.returns (hb hby d3_17) hr      -- retI stands in the head ('lawwalk <made dir>' prints it)
  · show Qr (.int (1 : Int32)) h0 n0 _ T5.heap _
    rw [e5]
    exact ⟨rfl, N0, rfl⟩
theorem d3_18 : decode method_3_code 18 = .ok (.aload_n 0, 1) := by decide +kernel
theorem d3_19 : decode method_3_code 19 = .ok (.getstatic 16, 3) := by decide +kernel
theorem d3_22 : decode method_3_code 22 = .ok (.if_acmp .ne 5, 3) := by decide +kernel
theorem d3_25 : decode method_3_code 25 = .ok (.iconst 2, 1) := by decide +kernel
theorem d3_26 : decode method_3_code 26 = .ok (.ireturn, 1) := by decide +kernel
set_option maxRecDepth 65536 in
set_option maxHeartbeats 40000000 in
theorem rm3_2 (l : Launch) (Z : State) (a0 : Array Value) (hw : ∀ d ∈ tables_1, d.before a0 Z = true) (ws : List Jvm.Cond) (a1 : Addr) (w2 : Addr) (w4 : Addr) (w6 : Addr) (h0 : Heap) (n0 : Nat) (Z0 : n0 ≤ h0.size) (S_YEAR : Sta Z h0 "com/example/numerand/numerand/engine/Precision" "YEAR" "Lcom/example/numerand/numerand/engine/Precision;" (.ref w2)) (S_MONTH : Sta Z h0 "com/example/numerand/numerand/engine/Precision" "MONTH" "Lcom/example/numerand/numerand/engine/Precision;" (.ref w4)) (S_DAY : Sta Z h0 "com/example/numerand/numerand/engine/Precision" "DAY" "Lcom/example/numerand/numerand/engine/Precision;" (.ref w6)) (ha4 : ¬ (a1 = w2)) (ha13 : ¬ (a1 = w4)) (ha22 : a1 = w6) :
    MetFree l (⟨"com/example/numerand/numerand/engine/PrecisionSecondsPinLaw", "idx", "(Lcom/example/numerand/numerand/engine/Precision;)I"⟩ : MethodName) (head1 (Jvm.Cond.code (⟨"com/example/numerand/numerand/engine/PrecisionSecondsPinLaw", "idx", "(Lcom/example/numerand/numerand/engine/Precision;)I"⟩ : MethodName) method_3_code 1 (some .int) :: ws) ({ frames := 0, cells := 0, slots := 0, locals := 0 } : Room)) (fun a U => a = #[(.ref a1)] ∧ Z.Warmed39 U.vm ∧ U.heap = h0) (fun _ _ _ _ _ => True) (fun _ U o U' => ∃ v L, o = .returned v ∧ Qr (.int (2 : Int32)) h0 n0 v U'.heap L ∧ FrameEnd U o U' L ({ frames := 0, cells := 0, slots := 0, locals := 0 } : Room).cells ({ frames := 0, cells := 0, slots := 0, locals := 0 } : Room).slots) := by
  refine MetFree.of_bodySF (plainFor_of_name pn_3) hisR ?_
  intro p e s m args below meth c s₁ Bd hml0 hP hK
  obtain ⟨rfl, hZ, hh⟩ := hP
  have hx := Bd.exec
  have hby := Bd.bytes
  have hml : c.maxLocals = 1 := hml0
  have hown : s.vm.findClass "com/example/numerand/numerand/engine/PrecisionSecondsPinLaw" = some m.cls := findClass_of_methodNamed Bd.named
  have hnm := (name_of_methodNamed Bd.named Bd.method).1
  have X0 : Stand p l e ({ frames := 0, cells := 0, slots := 0, locals := 0 } : Room) s m #[(.ref a1)] below meth c s₁ [] 0 0 := Stand.of_body Bd
  have e0 : s₁.heap = h0 := by rw [← hh, Bd.state]; rfl
  have N0 := Fr.nil n0
  have pre0 : ∀ t, Steps p.tables e below (s₁.setTop (mkF m 0 #[.val (.ref a1)] [])) t → Steps p.tables e below (s₁.setTop (entryFrame m #[(.ref a1)] 1)) t := fun t k => castTop (ef_3 m a1) k
  obtain ⟨T3, X3, e3, st3⟩ := getS2 X0 hx hZ hown (host := "") (Or.inl (hw _ (List.mem_of_getElem? (i := 5) rfl))) Via.refl e0 S_YEAR (g := (mkF m 1 #[.val (.ref a1)] [(.ref a1)])) rfl (hb hby d3_1)
  obtain ⟨T5, X5, e5, st5⟩ := getS2 X3 hx hZ hown (host := "") (Or.inl (hw _ (List.mem_of_getElem? (i := 19) rfl))) Via.refl e3 S_MONTH (g := (mkF m 10 #[.val (.ref a1)] [(.ref a1)])) rfl (hb hby d3_10)
  obtain ⟨T7, X7, e7, st7⟩ := getS2 X5 hx hZ hown (host := "") (Or.inl (hw _ (List.mem_of_getElem? (i := 21) rfl))) Via.refl e5 S_DAY (g := (mkF m 19 #[.val (.ref a1)] [(.ref a1)])) rfl (hb hby d3_19)
  obtain ⟨fs, hr, hrun, hended, hW, hsame⟩ := X7.leave (v := some (.int (2 : Int32))) (fun h => by rw [Bd.returns] at h; cases h)
  refine ⟨_, _, pre0 _ ?_, hrun, hended, _, _, rfl, ?_, ⟨_, rfl⟩, hW, hsame.mono (by decide) (by decide)⟩
  · show Steps p.tables e below (s₁.setTop (mkF m 0 #[.val (.ref a1)] [])) _
    refine XS.aloadN X0.here hx rfl (hb hby d3_0) rfl rfl ?_
    show Steps p.tables e below (s₁.setTop (mkF m 1 #[.val (.ref a1)] [(.ref a1)])) _
    refine st3 _ ?_
    show Steps p.tables e below (T3.setTop (mkF m 4 #[.val (.ref a1)] [(.ref w2), (.ref a1)])) _
    refine Jvm.RoadKit.acmp (g := (mkF m 4 #[.val (.ref a1)] [(.ref w2), (.ref a1)])) X3 hx rfl rfl rfl (pc0 := 4) (pc' := 9) (same := false) rfl (hb hby d3_4) rfl (decide_eq_false fun q => ha4 (Value.ref.inj q)) (by decide) (by decide) ?_
    show Steps p.tables e below (T3.setTop (mkF m 9 #[.val (.ref a1)] [])) _
    refine XS.aloadN X3.here hx rfl (hb hby d3_9) rfl rfl ?_
    show Steps p.tables e below (T3.setTop (mkF m 10 #[.val (.ref a1)] [(.ref a1)])) _
    refine st5 _ ?_
    show Steps p.tables e below (T5.setTop (mkF m 13 #[.val (.ref a1)] [(.ref w4), (.ref a1)])) _
    refine Jvm.RoadKit.acmp (g := (mkF m 13 #[.val (.ref a1)] [(.ref w4), (.ref a1)])) X5 hx rfl rfl rfl (pc0 := 13) (pc' := 18) (same := false) rfl (hb hby d3_13) rfl (decide_eq_false fun q => ha13 (Value.ref.inj q)) (by decide) (by decide) ?_
    show Steps p.tables e below (T5.setTop (mkF m 18 #[.val (.ref a1)] [])) _
    refine XS.aloadN X5.here hx rfl (hb hby d3_18) rfl rfl ?_
    show Steps p.tables e below (T5.setTop (mkF m 19 #[.val (.ref a1)] [(.ref a1)])) _
    refine st7 _ ?_
    show Steps p.tables e below (T7.setTop (mkF m 22 #[.val (.ref a1)] [(.ref w6), (.ref a1)])) _
    refine Jvm.RoadKit.acmp (g := (mkF m 22 #[.val (.ref a1)] [(.ref w6), (.ref a1)])) X7 hx rfl rfl rfl (pc0 := 22) (pc' := 25) (same := true) rfl (hb hby d3_22) rfl (decide_eq_true (congrArg Value.ref ha22)) (by decide) (by decide) ?_
    show Steps p.tables e below (T7.setTop (mkF m 25 #[.val (.ref a1)] [])) _
    refine XS.iconst X7.here hx rfl (hb hby d3_25) ?_
    show Steps p.tables e below (T7.setTop (mkF m 26 #[.val (.ref a1)] [(.int (2 : Int32))])) _
    exact retI X7 hx Bd.returns (hb hby d3_26) hr      -- retI stands in the head ('lawwalk <made dir>' prints it)
  · show Qr (.int (2 : Int32)) h0 n0 _ T7.heap _
    rw [e7]
    exact ⟨rfl, N0, rfl⟩
theorem d3_27 : decode method_3_code 27 = .ok (.aload_n 0, 1) := by decide +kernel
theorem d3_28 : decode method_3_code 28 = .ok (.getstatic 19, 3) := by decide +kernel
theorem d3_31 : decode method_3_code 31 = .ok (.if_acmp .ne 5, 3) := by decide +kernel
theorem d3_34 : decode method_3_code 34 = .ok (.iconst 3, 1) := by decide +kernel
theorem d3_35 : decode method_3_code 35 = .ok (.ireturn, 1) := by decide +kernel
set_option maxRecDepth 65536 in
set_option maxHeartbeats 40000000 in
theorem rm3_3 (l : Launch) (Z : State) (a0 : Array Value) (hw : ∀ d ∈ tables_1, d.before a0 Z = true) (ws : List Jvm.Cond) (a1 : Addr) (w2 : Addr) (w4 : Addr) (w6 : Addr) (w8 : Addr) (h0 : Heap) (n0 : Nat) (Z0 : n0 ≤ h0.size) (S_YEAR : Sta Z h0 "com/example/numerand/numerand/engine/Precision" "YEAR" "Lcom/example/numerand/numerand/engine/Precision;" (.ref w2)) (S_MONTH : Sta Z h0 "com/example/numerand/numerand/engine/Precision" "MONTH" "Lcom/example/numerand/numerand/engine/Precision;" (.ref w4)) (S_DAY : Sta Z h0 "com/example/numerand/numerand/engine/Precision" "DAY" "Lcom/example/numerand/numerand/engine/Precision;" (.ref w6)) (S_HOUR : Sta Z h0 "com/example/numerand/numerand/engine/Precision" "HOUR" "Lcom/example/numerand/numerand/engine/Precision;" (.ref w8)) (ha4 : ¬ (a1 = w2)) (ha13 : ¬ (a1 = w4)) (ha22 : ¬ (a1 = w6)) (ha31 : a1 = w8) :
    MetFree l (⟨"com/example/numerand/numerand/engine/PrecisionSecondsPinLaw", "idx", "(Lcom/example/numerand/numerand/engine/Precision;)I"⟩ : MethodName) (head1 (Jvm.Cond.code (⟨"com/example/numerand/numerand/engine/PrecisionSecondsPinLaw", "idx", "(Lcom/example/numerand/numerand/engine/Precision;)I"⟩ : MethodName) method_3_code 1 (some .int) :: ws) ({ frames := 0, cells := 0, slots := 0, locals := 0 } : Room)) (fun a U => a = #[(.ref a1)] ∧ Z.Warmed39 U.vm ∧ U.heap = h0) (fun _ _ _ _ _ => True) (fun _ U o U' => ∃ v L, o = .returned v ∧ Qr (.int (3 : Int32)) h0 n0 v U'.heap L ∧ FrameEnd U o U' L ({ frames := 0, cells := 0, slots := 0, locals := 0 } : Room).cells ({ frames := 0, cells := 0, slots := 0, locals := 0 } : Room).slots) := by
  refine MetFree.of_bodySF (plainFor_of_name pn_3) hisR ?_
  intro p e s m args below meth c s₁ Bd hml0 hP hK
  obtain ⟨rfl, hZ, hh⟩ := hP
  have hx := Bd.exec
  have hby := Bd.bytes
  have hml : c.maxLocals = 1 := hml0
  have hown : s.vm.findClass "com/example/numerand/numerand/engine/PrecisionSecondsPinLaw" = some m.cls := findClass_of_methodNamed Bd.named
  have hnm := (name_of_methodNamed Bd.named Bd.method).1
  have X0 : Stand p l e ({ frames := 0, cells := 0, slots := 0, locals := 0 } : Room) s m #[(.ref a1)] below meth c s₁ [] 0 0 := Stand.of_body Bd
  have e0 : s₁.heap = h0 := by rw [← hh, Bd.state]; rfl
  have N0 := Fr.nil n0
  have pre0 : ∀ t, Steps p.tables e below (s₁.setTop (mkF m 0 #[.val (.ref a1)] [])) t → Steps p.tables e below (s₁.setTop (entryFrame m #[(.ref a1)] 1)) t := fun t k => castTop (ef_3 m a1) k
  obtain ⟨T3, X3, e3, st3⟩ := getS2 X0 hx hZ hown (host := "") (Or.inl (hw _ (List.mem_of_getElem? (i := 5) rfl))) Via.refl e0 S_YEAR (g := (mkF m 1 #[.val (.ref a1)] [(.ref a1)])) rfl (hb hby d3_1)
  obtain ⟨T5, X5, e5, st5⟩ := getS2 X3 hx hZ hown (host := "") (Or.inl (hw _ (List.mem_of_getElem? (i := 19) rfl))) Via.refl e3 S_MONTH (g := (mkF m 10 #[.val (.ref a1)] [(.ref a1)])) rfl (hb hby d3_10)
  obtain ⟨T7, X7, e7, st7⟩ := getS2 X5 hx hZ hown (host := "") (Or.inl (hw _ (List.mem_of_getElem? (i := 21) rfl))) Via.refl e5 S_DAY (g := (mkF m 19 #[.val (.ref a1)] [(.ref a1)])) rfl (hb hby d3_19)
  obtain ⟨T9, X9, e9, st9⟩ := getS2 X7 hx hZ hown (host := "") (Or.inl (hw _ (List.mem_of_getElem? (i := 8) rfl))) Via.refl e7 S_HOUR (g := (mkF m 28 #[.val (.ref a1)] [(.ref a1)])) rfl (hb hby d3_28)
  obtain ⟨fs, hr, hrun, hended, hW, hsame⟩ := X9.leave (v := some (.int (3 : Int32))) (fun h => by rw [Bd.returns] at h; cases h)
  refine ⟨_, _, pre0 _ ?_, hrun, hended, _, _, rfl, ?_, ⟨_, rfl⟩, hW, hsame.mono (by decide) (by decide)⟩
  · show Steps p.tables e below (s₁.setTop (mkF m 0 #[.val (.ref a1)] [])) _
    refine XS.aloadN X0.here hx rfl (hb hby d3_0) rfl rfl ?_
    show Steps p.tables e below (s₁.setTop (mkF m 1 #[.val (.ref a1)] [(.ref a1)])) _
    refine st3 _ ?_
    show Steps p.tables e below (T3.setTop (mkF m 4 #[.val (.ref a1)] [(.ref w2), (.ref a1)])) _
    refine Jvm.RoadKit.acmp (g := (mkF m 4 #[.val (.ref a1)] [(.ref w2), (.ref a1)])) X3 hx rfl rfl rfl (pc0 := 4) (pc' := 9) (same := false) rfl (hb hby d3_4) rfl (decide_eq_false fun q => ha4 (Value.ref.inj q)) (by decide) (by decide) ?_
    show Steps p.tables e below (T3.setTop (mkF m 9 #[.val (.ref a1)] [])) _
    refine XS.aloadN X3.here hx rfl (hb hby d3_9) rfl rfl ?_
    show Steps p.tables e below (T3.setTop (mkF m 10 #[.val (.ref a1)] [(.ref a1)])) _
    refine st5 _ ?_
    show Steps p.tables e below (T5.setTop (mkF m 13 #[.val (.ref a1)] [(.ref w4), (.ref a1)])) _
    refine Jvm.RoadKit.acmp (g := (mkF m 13 #[.val (.ref a1)] [(.ref w4), (.ref a1)])) X5 hx rfl rfl rfl (pc0 := 13) (pc' := 18) (same := false) rfl (hb hby d3_13) rfl (decide_eq_false fun q => ha13 (Value.ref.inj q)) (by decide) (by decide) ?_
    show Steps p.tables e below (T5.setTop (mkF m 18 #[.val (.ref a1)] [])) _
    refine XS.aloadN X5.here hx rfl (hb hby d3_18) rfl rfl ?_
    show Steps p.tables e below (T5.setTop (mkF m 19 #[.val (.ref a1)] [(.ref a1)])) _
    refine st7 _ ?_
    show Steps p.tables e below (T7.setTop (mkF m 22 #[.val (.ref a1)] [(.ref w6), (.ref a1)])) _
    refine Jvm.RoadKit.acmp (g := (mkF m 22 #[.val (.ref a1)] [(.ref w6), (.ref a1)])) X7 hx rfl rfl rfl (pc0 := 22) (pc' := 27) (same := false) rfl (hb hby d3_22) rfl (decide_eq_false fun q => ha22 (Value.ref.inj q)) (by decide) (by decide) ?_
    show Steps p.tables e below (T7.setTop (mkF m 27 #[.val (.ref a1)] [])) _
    refine XS.aloadN X7.here hx rfl (hb hby d3_27) rfl rfl ?_
    show Steps p.tables e below (T7.setTop (mkF m 28 #[.val (.ref a1)] [(.ref a1)])) _
    refine st9 _ ?_
    show Steps p.tables e below (T9.setTop (mkF m 31 #[.val (.ref a1)] [(.ref w8), (.ref a1)])) _
    refine Jvm.RoadKit.acmp (g := (mkF m 31 #[.val (.ref a1)] [(.ref w8), (.ref a1)])) X9 hx rfl rfl rfl (pc0 := 31) (pc' := 34) (same := true) rfl (hb hby d3_31) rfl (decide_eq_true (congrArg Value.ref ha31)) (by decide) (by decide) ?_
    show Steps p.tables e below (T9.setTop (mkF m 34 #[.val (.ref a1)] [])) _
    refine XS.iconst X9.here hx rfl (hb hby d3_34) ?_
    show Steps p.tables e below (T9.setTop (mkF m 35 #[.val (.ref a1)] [(.int (3 : Int32))])) _
    exact retI X9 hx Bd.returns (hb hby d3_35) hr      -- retI stands in the head ('lawwalk <made dir>' prints it)
  · show Qr (.int (3 : Int32)) h0 n0 _ T9.heap _
    rw [e9]
    exact ⟨rfl, N0, rfl⟩
theorem d3_36 : decode method_3_code 36 = .ok (.aload_n 0, 1) := by decide +kernel
theorem d3_37 : decode method_3_code 37 = .ok (.getstatic 22, 3) := by decide +kernel
theorem d3_40 : decode method_3_code 40 = .ok (.if_acmp .ne 5, 3) := by decide +kernel
theorem d3_43 : decode method_3_code 43 = .ok (.iconst 4, 1) := by decide +kernel
theorem d3_44 : decode method_3_code 44 = .ok (.ireturn, 1) := by decide +kernel
set_option maxRecDepth 65536 in
set_option maxHeartbeats 40000000 in
theorem rm3_4 (l : Launch) (Z : State) (a0 : Array Value) (hw : ∀ d ∈ tables_1, d.before a0 Z = true) (ws : List Jvm.Cond) (a1 : Addr) (w2 : Addr) (w4 : Addr) (w6 : Addr) (w8 : Addr) (w10 : Addr) (h0 : Heap) (n0 : Nat) (Z0 : n0 ≤ h0.size) (S_YEAR : Sta Z h0 "com/example/numerand/numerand/engine/Precision" "YEAR" "Lcom/example/numerand/numerand/engine/Precision;" (.ref w2)) (S_MONTH : Sta Z h0 "com/example/numerand/numerand/engine/Precision" "MONTH" "Lcom/example/numerand/numerand/engine/Precision;" (.ref w4)) (S_DAY : Sta Z h0 "com/example/numerand/numerand/engine/Precision" "DAY" "Lcom/example/numerand/numerand/engine/Precision;" (.ref w6)) (S_HOUR : Sta Z h0 "com/example/numerand/numerand/engine/Precision" "HOUR" "Lcom/example/numerand/numerand/engine/Precision;" (.ref w8)) (S_MINUTE : Sta Z h0 "com/example/numerand/numerand/engine/Precision" "MINUTE" "Lcom/example/numerand/numerand/engine/Precision;" (.ref w10)) (ha4 : ¬ (a1 = w2)) (ha13 : ¬ (a1 = w4)) (ha22 : ¬ (a1 = w6)) (ha31 : ¬ (a1 = w8)) (ha40 : a1 = w10) :
    MetFree l (⟨"com/example/numerand/numerand/engine/PrecisionSecondsPinLaw", "idx", "(Lcom/example/numerand/numerand/engine/Precision;)I"⟩ : MethodName) (head1 (Jvm.Cond.code (⟨"com/example/numerand/numerand/engine/PrecisionSecondsPinLaw", "idx", "(Lcom/example/numerand/numerand/engine/Precision;)I"⟩ : MethodName) method_3_code 1 (some .int) :: ws) ({ frames := 0, cells := 0, slots := 0, locals := 0 } : Room)) (fun a U => a = #[(.ref a1)] ∧ Z.Warmed39 U.vm ∧ U.heap = h0) (fun _ _ _ _ _ => True) (fun _ U o U' => ∃ v L, o = .returned v ∧ Qr (.int (4 : Int32)) h0 n0 v U'.heap L ∧ FrameEnd U o U' L ({ frames := 0, cells := 0, slots := 0, locals := 0 } : Room).cells ({ frames := 0, cells := 0, slots := 0, locals := 0 } : Room).slots) := by
  refine MetFree.of_bodySF (plainFor_of_name pn_3) hisR ?_
  intro p e s m args below meth c s₁ Bd hml0 hP hK
  obtain ⟨rfl, hZ, hh⟩ := hP
  have hx := Bd.exec
  have hby := Bd.bytes
  have hml : c.maxLocals = 1 := hml0
  have hown : s.vm.findClass "com/example/numerand/numerand/engine/PrecisionSecondsPinLaw" = some m.cls := findClass_of_methodNamed Bd.named
  have hnm := (name_of_methodNamed Bd.named Bd.method).1
  have X0 : Stand p l e ({ frames := 0, cells := 0, slots := 0, locals := 0 } : Room) s m #[(.ref a1)] below meth c s₁ [] 0 0 := Stand.of_body Bd
  have e0 : s₁.heap = h0 := by rw [← hh, Bd.state]; rfl
  have N0 := Fr.nil n0
  have pre0 : ∀ t, Steps p.tables e below (s₁.setTop (mkF m 0 #[.val (.ref a1)] [])) t → Steps p.tables e below (s₁.setTop (entryFrame m #[(.ref a1)] 1)) t := fun t k => castTop (ef_3 m a1) k
  obtain ⟨T3, X3, e3, st3⟩ := getS2 X0 hx hZ hown (host := "") (Or.inl (hw _ (List.mem_of_getElem? (i := 5) rfl))) Via.refl e0 S_YEAR (g := (mkF m 1 #[.val (.ref a1)] [(.ref a1)])) rfl (hb hby d3_1)
  obtain ⟨T5, X5, e5, st5⟩ := getS2 X3 hx hZ hown (host := "") (Or.inl (hw _ (List.mem_of_getElem? (i := 19) rfl))) Via.refl e3 S_MONTH (g := (mkF m 10 #[.val (.ref a1)] [(.ref a1)])) rfl (hb hby d3_10)
  obtain ⟨T7, X7, e7, st7⟩ := getS2 X5 hx hZ hown (host := "") (Or.inl (hw _ (List.mem_of_getElem? (i := 21) rfl))) Via.refl e5 S_DAY (g := (mkF m 19 #[.val (.ref a1)] [(.ref a1)])) rfl (hb hby d3_19)
  obtain ⟨T9, X9, e9, st9⟩ := getS2 X7 hx hZ hown (host := "") (Or.inl (hw _ (List.mem_of_getElem? (i := 8) rfl))) Via.refl e7 S_HOUR (g := (mkF m 28 #[.val (.ref a1)] [(.ref a1)])) rfl (hb hby d3_28)
  obtain ⟨T11, X11, e11, st11⟩ := getS2 X9 hx hZ hown (host := "") (Or.inl (hw _ (List.mem_of_getElem? (i := 25) rfl))) Via.refl e9 S_MINUTE (g := (mkF m 37 #[.val (.ref a1)] [(.ref a1)])) rfl (hb hby d3_37)
  obtain ⟨fs, hr, hrun, hended, hW, hsame⟩ := X11.leave (v := some (.int (4 : Int32))) (fun h => by rw [Bd.returns] at h; cases h)
  refine ⟨_, _, pre0 _ ?_, hrun, hended, _, _, rfl, ?_, ⟨_, rfl⟩, hW, hsame.mono (by decide) (by decide)⟩
  · show Steps p.tables e below (s₁.setTop (mkF m 0 #[.val (.ref a1)] [])) _
    refine XS.aloadN X0.here hx rfl (hb hby d3_0) rfl rfl ?_
    show Steps p.tables e below (s₁.setTop (mkF m 1 #[.val (.ref a1)] [(.ref a1)])) _
    refine st3 _ ?_
    show Steps p.tables e below (T3.setTop (mkF m 4 #[.val (.ref a1)] [(.ref w2), (.ref a1)])) _
    refine Jvm.RoadKit.acmp (g := (mkF m 4 #[.val (.ref a1)] [(.ref w2), (.ref a1)])) X3 hx rfl rfl rfl (pc0 := 4) (pc' := 9) (same := false) rfl (hb hby d3_4) rfl (decide_eq_false fun q => ha4 (Value.ref.inj q)) (by decide) (by decide) ?_
    show Steps p.tables e below (T3.setTop (mkF m 9 #[.val (.ref a1)] [])) _
    refine XS.aloadN X3.here hx rfl (hb hby d3_9) rfl rfl ?_
    show Steps p.tables e below (T3.setTop (mkF m 10 #[.val (.ref a1)] [(.ref a1)])) _
    refine st5 _ ?_
    show Steps p.tables e below (T5.setTop (mkF m 13 #[.val (.ref a1)] [(.ref w4), (.ref a1)])) _
    refine Jvm.RoadKit.acmp (g := (mkF m 13 #[.val (.ref a1)] [(.ref w4), (.ref a1)])) X5 hx rfl rfl rfl (pc0 := 13) (pc' := 18) (same := false) rfl (hb hby d3_13) rfl (decide_eq_false fun q => ha13 (Value.ref.inj q)) (by decide) (by decide) ?_
    show Steps p.tables e below (T5.setTop (mkF m 18 #[.val (.ref a1)] [])) _
    refine XS.aloadN X5.here hx rfl (hb hby d3_18) rfl rfl ?_
    show Steps p.tables e below (T5.setTop (mkF m 19 #[.val (.ref a1)] [(.ref a1)])) _
    refine st7 _ ?_
    show Steps p.tables e below (T7.setTop (mkF m 22 #[.val (.ref a1)] [(.ref w6), (.ref a1)])) _
    refine Jvm.RoadKit.acmp (g := (mkF m 22 #[.val (.ref a1)] [(.ref w6), (.ref a1)])) X7 hx rfl rfl rfl (pc0 := 22) (pc' := 27) (same := false) rfl (hb hby d3_22) rfl (decide_eq_false fun q => ha22 (Value.ref.inj q)) (by decide) (by decide) ?_
    show Steps p.tables e below (T7.setTop (mkF m 27 #[.val (.ref a1)] [])) _
    refine XS.aloadN X7.here hx rfl (hb hby d3_27) rfl rfl ?_
    show Steps p.tables e below (T7.setTop (mkF m 28 #[.val (.ref a1)] [(.ref a1)])) _
    refine st9 _ ?_
    show Steps p.tables e below (T9.setTop (mkF m 31 #[.val (.ref a1)] [(.ref w8), (.ref a1)])) _
    refine Jvm.RoadKit.acmp (g := (mkF m 31 #[.val (.ref a1)] [(.ref w8), (.ref a1)])) X9 hx rfl rfl rfl (pc0 := 31) (pc' := 36) (same := false) rfl (hb hby d3_31) rfl (decide_eq_false fun q => ha31 (Value.ref.inj q)) (by decide) (by decide) ?_
    show Steps p.tables e below (T9.setTop (mkF m 36 #[.val (.ref a1)] [])) _
    refine XS.aloadN X9.here hx rfl (hb hby d3_36) rfl rfl ?_
    show Steps p.tables e below (T9.setTop (mkF m 37 #[.val (.ref a1)] [(.ref a1)])) _
    refine st11 _ ?_
    show Steps p.tables e below (T11.setTop (mkF m 40 #[.val (.ref a1)] [(.ref w10), (.ref a1)])) _
    refine Jvm.RoadKit.acmp (g := (mkF m 40 #[.val (.ref a1)] [(.ref w10), (.ref a1)])) X11 hx rfl rfl rfl (pc0 := 40) (pc' := 43) (same := true) rfl (hb hby d3_40) rfl (decide_eq_true (congrArg Value.ref ha40)) (by decide) (by decide) ?_
    show Steps p.tables e below (T11.setTop (mkF m 43 #[.val (.ref a1)] [])) _
    refine XS.iconst X11.here hx rfl (hb hby d3_43) ?_
    show Steps p.tables e below (T11.setTop (mkF m 44 #[.val (.ref a1)] [(.int (4 : Int32))])) _
    exact retI X11 hx Bd.returns (hb hby d3_44) hr      -- retI stands in the head ('lawwalk <made dir>' prints it)
  · show Qr (.int (4 : Int32)) h0 n0 _ T11.heap _
    rw [e11]
    exact ⟨rfl, N0, rfl⟩
theorem d3_45 : decode method_3_code 45 = .ok (.aload_n 0, 1) := by decide +kernel
theorem d3_46 : decode method_3_code 46 = .ok (.getstatic 25, 3) := by decide +kernel
theorem d3_49 : decode method_3_code 49 = .ok (.if_acmp .ne 5, 3) := by decide +kernel
theorem d3_52 : decode method_3_code 52 = .ok (.iconst 5, 1) := by decide +kernel
theorem d3_53 : decode method_3_code 53 = .ok (.ireturn, 1) := by decide +kernel
set_option maxRecDepth 65536 in
set_option maxHeartbeats 40000000 in
theorem rm3_5 (l : Launch) (Z : State) (a0 : Array Value) (hw : ∀ d ∈ tables_1, d.before a0 Z = true) (ws : List Jvm.Cond) (a1 : Addr) (w2 : Addr) (w4 : Addr) (w6 : Addr) (w8 : Addr) (w10 : Addr) (w12 : Addr) (h0 : Heap) (n0 : Nat) (Z0 : n0 ≤ h0.size) (S_YEAR : Sta Z h0 "com/example/numerand/numerand/engine/Precision" "YEAR" "Lcom/example/numerand/numerand/engine/Precision;" (.ref w2)) (S_MONTH : Sta Z h0 "com/example/numerand/numerand/engine/Precision" "MONTH" "Lcom/example/numerand/numerand/engine/Precision;" (.ref w4)) (S_DAY : Sta Z h0 "com/example/numerand/numerand/engine/Precision" "DAY" "Lcom/example/numerand/numerand/engine/Precision;" (.ref w6)) (S_HOUR : Sta Z h0 "com/example/numerand/numerand/engine/Precision" "HOUR" "Lcom/example/numerand/numerand/engine/Precision;" (.ref w8)) (S_MINUTE : Sta Z h0 "com/example/numerand/numerand/engine/Precision" "MINUTE" "Lcom/example/numerand/numerand/engine/Precision;" (.ref w10)) (S_SECOND : Sta Z h0 "com/example/numerand/numerand/engine/Precision" "SECOND" "Lcom/example/numerand/numerand/engine/Precision;" (.ref w12)) (ha4 : ¬ (a1 = w2)) (ha13 : ¬ (a1 = w4)) (ha22 : ¬ (a1 = w6)) (ha31 : ¬ (a1 = w8)) (ha40 : ¬ (a1 = w10)) (ha49 : a1 = w12) :
    MetFree l (⟨"com/example/numerand/numerand/engine/PrecisionSecondsPinLaw", "idx", "(Lcom/example/numerand/numerand/engine/Precision;)I"⟩ : MethodName) (head1 (Jvm.Cond.code (⟨"com/example/numerand/numerand/engine/PrecisionSecondsPinLaw", "idx", "(Lcom/example/numerand/numerand/engine/Precision;)I"⟩ : MethodName) method_3_code 1 (some .int) :: ws) ({ frames := 0, cells := 0, slots := 0, locals := 0 } : Room)) (fun a U => a = #[(.ref a1)] ∧ Z.Warmed39 U.vm ∧ U.heap = h0) (fun _ _ _ _ _ => True) (fun _ U o U' => ∃ v L, o = .returned v ∧ Qr (.int (5 : Int32)) h0 n0 v U'.heap L ∧ FrameEnd U o U' L ({ frames := 0, cells := 0, slots := 0, locals := 0 } : Room).cells ({ frames := 0, cells := 0, slots := 0, locals := 0 } : Room).slots) := by
  refine MetFree.of_bodySF (plainFor_of_name pn_3) hisR ?_
  intro p e s m args below meth c s₁ Bd hml0 hP hK
  obtain ⟨rfl, hZ, hh⟩ := hP
  have hx := Bd.exec
  have hby := Bd.bytes
  have hml : c.maxLocals = 1 := hml0
  have hown : s.vm.findClass "com/example/numerand/numerand/engine/PrecisionSecondsPinLaw" = some m.cls := findClass_of_methodNamed Bd.named
  have hnm := (name_of_methodNamed Bd.named Bd.method).1
  have X0 : Stand p l e ({ frames := 0, cells := 0, slots := 0, locals := 0 } : Room) s m #[(.ref a1)] below meth c s₁ [] 0 0 := Stand.of_body Bd
  have e0 : s₁.heap = h0 := by rw [← hh, Bd.state]; rfl
  have N0 := Fr.nil n0
  have pre0 : ∀ t, Steps p.tables e below (s₁.setTop (mkF m 0 #[.val (.ref a1)] [])) t → Steps p.tables e below (s₁.setTop (entryFrame m #[(.ref a1)] 1)) t := fun t k => castTop (ef_3 m a1) k
  obtain ⟨T3, X3, e3, st3⟩ := getS2 X0 hx hZ hown (host := "") (Or.inl (hw _ (List.mem_of_getElem? (i := 5) rfl))) Via.refl e0 S_YEAR (g := (mkF m 1 #[.val (.ref a1)] [(.ref a1)])) rfl (hb hby d3_1)
  obtain ⟨T5, X5, e5, st5⟩ := getS2 X3 hx hZ hown (host := "") (Or.inl (hw _ (List.mem_of_getElem? (i := 19) rfl))) Via.refl e3 S_MONTH (g := (mkF m 10 #[.val (.ref a1)] [(.ref a1)])) rfl (hb hby d3_10)
  obtain ⟨T7, X7, e7, st7⟩ := getS2 X5 hx hZ hown (host := "") (Or.inl (hw _ (List.mem_of_getElem? (i := 21) rfl))) Via.refl e5 S_DAY (g := (mkF m 19 #[.val (.ref a1)] [(.ref a1)])) rfl (hb hby d3_19)
  obtain ⟨T9, X9, e9, st9⟩ := getS2 X7 hx hZ hown (host := "") (Or.inl (hw _ (List.mem_of_getElem? (i := 8) rfl))) Via.refl e7 S_HOUR (g := (mkF m 28 #[.val (.ref a1)] [(.ref a1)])) rfl (hb hby d3_28)
  obtain ⟨T11, X11, e11, st11⟩ := getS2 X9 hx hZ hown (host := "") (Or.inl (hw _ (List.mem_of_getElem? (i := 25) rfl))) Via.refl e9 S_MINUTE (g := (mkF m 37 #[.val (.ref a1)] [(.ref a1)])) rfl (hb hby d3_37)
  obtain ⟨T13, X13, e13, st13⟩ := getS2 X11 hx hZ hown (host := "") (Or.inl (hw _ (List.mem_of_getElem? (i := 23) rfl))) Via.refl e11 S_SECOND (g := (mkF m 46 #[.val (.ref a1)] [(.ref a1)])) rfl (hb hby d3_46)
  obtain ⟨fs, hr, hrun, hended, hW, hsame⟩ := X13.leave (v := some (.int (5 : Int32))) (fun h => by rw [Bd.returns] at h; cases h)
  refine ⟨_, _, pre0 _ ?_, hrun, hended, _, _, rfl, ?_, ⟨_, rfl⟩, hW, hsame.mono (by decide) (by decide)⟩
  · show Steps p.tables e below (s₁.setTop (mkF m 0 #[.val (.ref a1)] [])) _
    refine XS.aloadN X0.here hx rfl (hb hby d3_0) rfl rfl ?_
    show Steps p.tables e below (s₁.setTop (mkF m 1 #[.val (.ref a1)] [(.ref a1)])) _
    refine st3 _ ?_
    show Steps p.tables e below (T3.setTop (mkF m 4 #[.val (.ref a1)] [(.ref w2), (.ref a1)])) _
    refine Jvm.RoadKit.acmp (g := (mkF m 4 #[.val (.ref a1)] [(.ref w2), (.ref a1)])) X3 hx rfl rfl rfl (pc0 := 4) (pc' := 9) (same := false) rfl (hb hby d3_4) rfl (decide_eq_false fun q => ha4 (Value.ref.inj q)) (by decide) (by decide) ?_
    show Steps p.tables e below (T3.setTop (mkF m 9 #[.val (.ref a1)] [])) _
    refine XS.aloadN X3.here hx rfl (hb hby d3_9) rfl rfl ?_
    show Steps p.tables e below (T3.setTop (mkF m 10 #[.val (.ref a1)] [(.ref a1)])) _
    refine st5 _ ?_
    show Steps p.tables e below (T5.setTop (mkF m 13 #[.val (.ref a1)] [(.ref w4), (.ref a1)])) _
    refine Jvm.RoadKit.acmp (g := (mkF m 13 #[.val (.ref a1)] [(.ref w4), (.ref a1)])) X5 hx rfl rfl rfl (pc0 := 13) (pc' := 18) (same := false) rfl (hb hby d3_13) rfl (decide_eq_false fun q => ha13 (Value.ref.inj q)) (by decide) (by decide) ?_
    show Steps p.tables e below (T5.setTop (mkF m 18 #[.val (.ref a1)] [])) _
    refine XS.aloadN X5.here hx rfl (hb hby d3_18) rfl rfl ?_
    show Steps p.tables e below (T5.setTop (mkF m 19 #[.val (.ref a1)] [(.ref a1)])) _
    refine st7 _ ?_
    show Steps p.tables e below (T7.setTop (mkF m 22 #[.val (.ref a1)] [(.ref w6), (.ref a1)])) _
    refine Jvm.RoadKit.acmp (g := (mkF m 22 #[.val (.ref a1)] [(.ref w6), (.ref a1)])) X7 hx rfl rfl rfl (pc0 := 22) (pc' := 27) (same := false) rfl (hb hby d3_22) rfl (decide_eq_false fun q => ha22 (Value.ref.inj q)) (by decide) (by decide) ?_
    show Steps p.tables e below (T7.setTop (mkF m 27 #[.val (.ref a1)] [])) _
    refine XS.aloadN X7.here hx rfl (hb hby d3_27) rfl rfl ?_
    show Steps p.tables e below (T7.setTop (mkF m 28 #[.val (.ref a1)] [(.ref a1)])) _
    refine st9 _ ?_
    show Steps p.tables e below (T9.setTop (mkF m 31 #[.val (.ref a1)] [(.ref w8), (.ref a1)])) _
    refine Jvm.RoadKit.acmp (g := (mkF m 31 #[.val (.ref a1)] [(.ref w8), (.ref a1)])) X9 hx rfl rfl rfl (pc0 := 31) (pc' := 36) (same := false) rfl (hb hby d3_31) rfl (decide_eq_false fun q => ha31 (Value.ref.inj q)) (by decide) (by decide) ?_
    show Steps p.tables e below (T9.setTop (mkF m 36 #[.val (.ref a1)] [])) _
    refine XS.aloadN X9.here hx rfl (hb hby d3_36) rfl rfl ?_
    show Steps p.tables e below (T9.setTop (mkF m 37 #[.val (.ref a1)] [(.ref a1)])) _
    refine st11 _ ?_
    show Steps p.tables e below (T11.setTop (mkF m 40 #[.val (.ref a1)] [(.ref w10), (.ref a1)])) _
    refine Jvm.RoadKit.acmp (g := (mkF m 40 #[.val (.ref a1)] [(.ref w10), (.ref a1)])) X11 hx rfl rfl rfl (pc0 := 40) (pc' := 45) (same := false) rfl (hb hby d3_40) rfl (decide_eq_false fun q => ha40 (Value.ref.inj q)) (by decide) (by decide) ?_
    show Steps p.tables e below (T11.setTop (mkF m 45 #[.val (.ref a1)] [])) _
    refine XS.aloadN X11.here hx rfl (hb hby d3_45) rfl rfl ?_
    show Steps p.tables e below (T11.setTop (mkF m 46 #[.val (.ref a1)] [(.ref a1)])) _
    refine st13 _ ?_
    show Steps p.tables e below (T13.setTop (mkF m 49 #[.val (.ref a1)] [(.ref w12), (.ref a1)])) _
    refine Jvm.RoadKit.acmp (g := (mkF m 49 #[.val (.ref a1)] [(.ref w12), (.ref a1)])) X13 hx rfl rfl rfl (pc0 := 49) (pc' := 52) (same := true) rfl (hb hby d3_49) rfl (decide_eq_true (congrArg Value.ref ha49)) (by decide) (by decide) ?_
    show Steps p.tables e below (T13.setTop (mkF m 52 #[.val (.ref a1)] [])) _
    refine XS.iconst X13.here hx rfl (hb hby d3_52) ?_
    show Steps p.tables e below (T13.setTop (mkF m 53 #[.val (.ref a1)] [(.int (5 : Int32))])) _
    exact retI X13 hx Bd.returns (hb hby d3_53) hr      -- retI stands in the head ('lawwalk <made dir>' prints it)
  · show Qr (.int (5 : Int32)) h0 n0 _ T13.heap _
    rw [e13]
    exact ⟨rfl, N0, rfl⟩
theorem d3_54 : decode method_3_code 54 = .ok (.aload_n 0, 1) := by decide +kernel
theorem d3_55 : decode method_3_code 55 = .ok (.getstatic 28, 3) := by decide +kernel
theorem d3_58 : decode method_3_code 58 = .ok (.if_acmp .ne 6, 3) := by decide +kernel
theorem d3_61 : decode method_3_code 61 = .ok (.bipush 6, 2) := by decide +kernel
theorem d3_63 : decode method_3_code 63 = .ok (.ireturn, 1) := by decide +kernel
set_option maxRecDepth 65536 in
set_option maxHeartbeats 40000000 in
theorem rm3_6 (l : Launch) (Z : State) (a0 : Array Value) (hw : ∀ d ∈ tables_1, d.before a0 Z = true) (ws : List Jvm.Cond) (a1 : Addr) (w2 : Addr) (w4 : Addr) (w6 : Addr) (w8 : Addr) (w10 : Addr) (w12 : Addr) (w14 : Addr) (h0 : Heap) (n0 : Nat) (Z0 : n0 ≤ h0.size) (S_YEAR : Sta Z h0 "com/example/numerand/numerand/engine/Precision" "YEAR" "Lcom/example/numerand/numerand/engine/Precision;" (.ref w2)) (S_MONTH : Sta Z h0 "com/example/numerand/numerand/engine/Precision" "MONTH" "Lcom/example/numerand/numerand/engine/Precision;" (.ref w4)) (S_DAY : Sta Z h0 "com/example/numerand/numerand/engine/Precision" "DAY" "Lcom/example/numerand/numerand/engine/Precision;" (.ref w6)) (S_HOUR : Sta Z h0 "com/example/numerand/numerand/engine/Precision" "HOUR" "Lcom/example/numerand/numerand/engine/Precision;" (.ref w8)) (S_MINUTE : Sta Z h0 "com/example/numerand/numerand/engine/Precision" "MINUTE" "Lcom/example/numerand/numerand/engine/Precision;" (.ref w10)) (S_SECOND : Sta Z h0 "com/example/numerand/numerand/engine/Precision" "SECOND" "Lcom/example/numerand/numerand/engine/Precision;" (.ref w12)) (S_MILLISECOND : Sta Z h0 "com/example/numerand/numerand/engine/Precision" "MILLISECOND" "Lcom/example/numerand/numerand/engine/Precision;" (.ref w14)) (ha4 : ¬ (a1 = w2)) (ha13 : ¬ (a1 = w4)) (ha22 : ¬ (a1 = w6)) (ha31 : ¬ (a1 = w8)) (ha40 : ¬ (a1 = w10)) (ha49 : ¬ (a1 = w12)) (ha58 : a1 = w14) :
    MetFree l (⟨"com/example/numerand/numerand/engine/PrecisionSecondsPinLaw", "idx", "(Lcom/example/numerand/numerand/engine/Precision;)I"⟩ : MethodName) (head1 (Jvm.Cond.code (⟨"com/example/numerand/numerand/engine/PrecisionSecondsPinLaw", "idx", "(Lcom/example/numerand/numerand/engine/Precision;)I"⟩ : MethodName) method_3_code 1 (some .int) :: ws) ({ frames := 0, cells := 0, slots := 0, locals := 0 } : Room)) (fun a U => a = #[(.ref a1)] ∧ Z.Warmed39 U.vm ∧ U.heap = h0) (fun _ _ _ _ _ => True) (fun _ U o U' => ∃ v L, o = .returned v ∧ Qr (.int (6 : Int32)) h0 n0 v U'.heap L ∧ FrameEnd U o U' L ({ frames := 0, cells := 0, slots := 0, locals := 0 } : Room).cells ({ frames := 0, cells := 0, slots := 0, locals := 0 } : Room).slots) := by
  refine MetFree.of_bodySF (plainFor_of_name pn_3) hisR ?_
  intro p e s m args below meth c s₁ Bd hml0 hP hK
  obtain ⟨rfl, hZ, hh⟩ := hP
  have hx := Bd.exec
  have hby := Bd.bytes
  have hml : c.maxLocals = 1 := hml0
  have hown : s.vm.findClass "com/example/numerand/numerand/engine/PrecisionSecondsPinLaw" = some m.cls := findClass_of_methodNamed Bd.named
  have hnm := (name_of_methodNamed Bd.named Bd.method).1
  have X0 : Stand p l e ({ frames := 0, cells := 0, slots := 0, locals := 0 } : Room) s m #[(.ref a1)] below meth c s₁ [] 0 0 := Stand.of_body Bd
  have e0 : s₁.heap = h0 := by rw [← hh, Bd.state]; rfl
  have N0 := Fr.nil n0
  have pre0 : ∀ t, Steps p.tables e below (s₁.setTop (mkF m 0 #[.val (.ref a1)] [])) t → Steps p.tables e below (s₁.setTop (entryFrame m #[(.ref a1)] 1)) t := fun t k => castTop (ef_3 m a1) k
  obtain ⟨T3, X3, e3, st3⟩ := getS2 X0 hx hZ hown (host := "") (Or.inl (hw _ (List.mem_of_getElem? (i := 5) rfl))) Via.refl e0 S_YEAR (g := (mkF m 1 #[.val (.ref a1)] [(.ref a1)])) rfl (hb hby d3_1)
  obtain ⟨T5, X5, e5, st5⟩ := getS2 X3 hx hZ hown (host := "") (Or.inl (hw _ (List.mem_of_getElem? (i := 19) rfl))) Via.refl e3 S_MONTH (g := (mkF m 10 #[.val (.ref a1)] [(.ref a1)])) rfl (hb hby d3_10)
  obtain ⟨T7, X7, e7, st7⟩ := getS2 X5 hx hZ hown (host := "") (Or.inl (hw _ (List.mem_of_getElem? (i := 21) rfl))) Via.refl e5 S_DAY (g := (mkF m 19 #[.val (.ref a1)] [(.ref a1)])) rfl (hb hby d3_19)
  obtain ⟨T9, X9, e9, st9⟩ := getS2 X7 hx hZ hown (host := "") (Or.inl (hw _ (List.mem_of_getElem? (i := 8) rfl))) Via.refl e7 S_HOUR (g := (mkF m 28 #[.val (.ref a1)] [(.ref a1)])) rfl (hb hby d3_28)
  obtain ⟨T11, X11, e11, st11⟩ := getS2 X9 hx hZ hown (host := "") (Or.inl (hw _ (List.mem_of_getElem? (i := 25) rfl))) Via.refl e9 S_MINUTE (g := (mkF m 37 #[.val (.ref a1)] [(.ref a1)])) rfl (hb hby d3_37)
  obtain ⟨T13, X13, e13, st13⟩ := getS2 X11 hx hZ hown (host := "") (Or.inl (hw _ (List.mem_of_getElem? (i := 23) rfl))) Via.refl e11 S_SECOND (g := (mkF m 46 #[.val (.ref a1)] [(.ref a1)])) rfl (hb hby d3_46)
  obtain ⟨T15, X15, e15, st15⟩ := getS2 X13 hx hZ hown (host := "") (Or.inl (hw _ (List.mem_of_getElem? (i := 15) rfl))) Via.refl e13 S_MILLISECOND (g := (mkF m 55 #[.val (.ref a1)] [(.ref a1)])) rfl (hb hby d3_55)
  obtain ⟨fs, hr, hrun, hended, hW, hsame⟩ := X15.leave (v := some (.int (6 : Int32))) (fun h => by rw [Bd.returns] at h; cases h)
  refine ⟨_, _, pre0 _ ?_, hrun, hended, _, _, rfl, ?_, ⟨_, rfl⟩, hW, hsame.mono (by decide) (by decide)⟩
  · show Steps p.tables e below (s₁.setTop (mkF m 0 #[.val (.ref a1)] [])) _
    refine XS.aloadN X0.here hx rfl (hb hby d3_0) rfl rfl ?_
    show Steps p.tables e below (s₁.setTop (mkF m 1 #[.val (.ref a1)] [(.ref a1)])) _
    refine st3 _ ?_
    show Steps p.tables e below (T3.setTop (mkF m 4 #[.val (.ref a1)] [(.ref w2), (.ref a1)])) _
    refine Jvm.RoadKit.acmp (g := (mkF m 4 #[.val (.ref a1)] [(.ref w2), (.ref a1)])) X3 hx rfl rfl rfl (pc0 := 4) (pc' := 9) (same := false) rfl (hb hby d3_4) rfl (decide_eq_false fun q => ha4 (Value.ref.inj q)) (by decide) (by decide) ?_
    show Steps p.tables e below (T3.setTop (mkF m 9 #[.val (.ref a1)] [])) _
    refine XS.aloadN X3.here hx rfl (hb hby d3_9) rfl rfl ?_
    show Steps p.tables e below (T3.setTop (mkF m 10 #[.val (.ref a1)] [(.ref a1)])) _
    refine st5 _ ?_
    show Steps p.tables e below (T5.setTop (mkF m 13 #[.val (.ref a1)] [(.ref w4), (.ref a1)])) _
    refine Jvm.RoadKit.acmp (g := (mkF m 13 #[.val (.ref a1)] [(.ref w4), (.ref a1)])) X5 hx rfl rfl rfl (pc0 := 13) (pc' := 18) (same := false) rfl (hb hby d3_13) rfl (decide_eq_false fun q => ha13 (Value.ref.inj q)) (by decide) (by decide) ?_
    show Steps p.tables e below (T5.setTop (mkF m 18 #[.val (.ref a1)] [])) _
    refine XS.aloadN X5.here hx rfl (hb hby d3_18) rfl rfl ?_
    show Steps p.tables e below (T5.setTop (mkF m 19 #[.val (.ref a1)] [(.ref a1)])) _
    refine st7 _ ?_
    show Steps p.tables e below (T7.setTop (mkF m 22 #[.val (.ref a1)] [(.ref w6), (.ref a1)])) _
    refine Jvm.RoadKit.acmp (g := (mkF m 22 #[.val (.ref a1)] [(.ref w6), (.ref a1)])) X7 hx rfl rfl rfl (pc0 := 22) (pc' := 27) (same := false) rfl (hb hby d3_22) rfl (decide_eq_false fun q => ha22 (Value.ref.inj q)) (by decide) (by decide) ?_
    show Steps p.tables e below (T7.setTop (mkF m 27 #[.val (.ref a1)] [])) _
    refine XS.aloadN X7.here hx rfl (hb hby d3_27) rfl rfl ?_
    show Steps p.tables e below (T7.setTop (mkF m 28 #[.val (.ref a1)] [(.ref a1)])) _
    refine st9 _ ?_
    show Steps p.tables e below (T9.setTop (mkF m 31 #[.val (.ref a1)] [(.ref w8), (.ref a1)])) _
    refine Jvm.RoadKit.acmp (g := (mkF m 31 #[.val (.ref a1)] [(.ref w8), (.ref a1)])) X9 hx rfl rfl rfl (pc0 := 31) (pc' := 36) (same := false) rfl (hb hby d3_31) rfl (decide_eq_false fun q => ha31 (Value.ref.inj q)) (by decide) (by decide) ?_
    show Steps p.tables e below (T9.setTop (mkF m 36 #[.val (.ref a1)] [])) _
    refine XS.aloadN X9.here hx rfl (hb hby d3_36) rfl rfl ?_
    show Steps p.tables e below (T9.setTop (mkF m 37 #[.val (.ref a1)] [(.ref a1)])) _
    refine st11 _ ?_
    show Steps p.tables e below (T11.setTop (mkF m 40 #[.val (.ref a1)] [(.ref w10), (.ref a1)])) _
    refine Jvm.RoadKit.acmp (g := (mkF m 40 #[.val (.ref a1)] [(.ref w10), (.ref a1)])) X11 hx rfl rfl rfl (pc0 := 40) (pc' := 45) (same := false) rfl (hb hby d3_40) rfl (decide_eq_false fun q => ha40 (Value.ref.inj q)) (by decide) (by decide) ?_
    show Steps p.tables e below (T11.setTop (mkF m 45 #[.val (.ref a1)] [])) _
    refine XS.aloadN X11.here hx rfl (hb hby d3_45) rfl rfl ?_
    show Steps p.tables e below (T11.setTop (mkF m 46 #[.val (.ref a1)] [(.ref a1)])) _
    refine st13 _ ?_
    show Steps p.tables e below (T13.setTop (mkF m 49 #[.val (.ref a1)] [(.ref w12), (.ref a1)])) _
    refine Jvm.RoadKit.acmp (g := (mkF m 49 #[.val (.ref a1)] [(.ref w12), (.ref a1)])) X13 hx rfl rfl rfl (pc0 := 49) (pc' := 54) (same := false) rfl (hb hby d3_49) rfl (decide_eq_false fun q => ha49 (Value.ref.inj q)) (by decide) (by decide) ?_
    show Steps p.tables e below (T13.setTop (mkF m 54 #[.val (.ref a1)] [])) _
    refine XS.aloadN X13.here hx rfl (hb hby d3_54) rfl rfl ?_
    show Steps p.tables e below (T13.setTop (mkF m 55 #[.val (.ref a1)] [(.ref a1)])) _
    refine st15 _ ?_
    show Steps p.tables e below (T15.setTop (mkF m 58 #[.val (.ref a1)] [(.ref w14), (.ref a1)])) _
    refine Jvm.RoadKit.acmp (g := (mkF m 58 #[.val (.ref a1)] [(.ref w14), (.ref a1)])) X15 hx rfl rfl rfl (pc0 := 58) (pc' := 61) (same := true) rfl (hb hby d3_58) rfl (decide_eq_true (congrArg Value.ref ha58)) (by decide) (by decide) ?_
    show Steps p.tables e below (T15.setTop (mkF m 61 #[.val (.ref a1)] [])) _
    refine XS.bipush X15.here hx rfl (hb hby d3_61) ?_
    show Steps p.tables e below (T15.setTop (mkF m 63 #[.val (.ref a1)] [(.int (6 : Int32))])) _
    exact retI X15 hx Bd.returns (hb hby d3_63) hr      -- retI stands in the head ('lawwalk <made dir>' prints it)
  · show Qr (.int (6 : Int32)) h0 n0 _ T15.heap _
    rw [e15]
    exact ⟨rfl, N0, rfl⟩
set_option maxRecDepth 65536 in
set_option maxHeartbeats 40000000 in
theorem rm3 (l : Launch) (Z : State) (a0 : Array Value) (hw : ∀ d ∈ tables_1, d.before a0 Z = true) (ws : List Jvm.Cond) (i : Int32) (P : Int32 → Addr) (h0 : Heap) (n0 : Nat) (Z0 : n0 ≤ h0.size) (K : Known Z h0 P) (hi : In7 i) :
    MetFree l (⟨"com/example/numerand/numerand/engine/PrecisionSecondsPinLaw", "idx", "(Lcom/example/numerand/numerand/engine/Precision;)I"⟩ : MethodName) (head1 (Jvm.Cond.code (⟨"com/example/numerand/numerand/engine/PrecisionSecondsPinLaw", "idx", "(Lcom/example/numerand/numerand/engine/Precision;)I"⟩ : MethodName) method_3_code 1 (some .int) :: ws) ({ frames := 0, cells := 0, slots := 0, locals := 0 } : Room)) (fun a U => a = #[(.ref (P i))] ∧ Z.Warmed39 U.vm ∧ U.heap = h0) (fun _ _ _ _ _ => True) (fun _ U o U' => ∃ v L, o = .returned v ∧ Qr (.int i) h0 n0 v U'.heap L ∧ FrameEnd U o U' L ({ frames := 0, cells := 0, slots := 0, locals := 0 } : Room).cells ({ frames := 0, cells := 0, slots := 0, locals := 0 } : Room).slots) := by
  obtain ⟨s0, s1, s2, s3, s4, s5, s6, hinj⟩ := K
  rcases hi with rfl | rfl | rfl | rfl | rfl | rfl | rfl
  · exact rm3_0 l Z a0 hw ws (P 0) (P 0) h0 n0 Z0 s0  rfl
  · exact rm3_1 l Z a0 hw ws (P 1) (P 0) (P 1) h0 n0 Z0 s0 s1 (fun q => absurd (hinj 1 0 (by unfold In7; decide) (by unfold In7; decide) q) (by decide)) rfl
  · exact rm3_2 l Z a0 hw ws (P 2) (P 0) (P 1) (P 2) h0 n0 Z0 s0 s1 s2 (fun q => absurd (hinj 2 0 (by unfold In7; decide) (by unfold In7; decide) q) (by decide)) (fun q => absurd (hinj 2 1 (by unfold In7; decide) (by unfold In7; decide) q) (by decide)) rfl
  · exact rm3_3 l Z a0 hw ws (P 3) (P 0) (P 1) (P 2) (P 3) h0 n0 Z0 s0 s1 s2 s3 (fun q => absurd (hinj 3 0 (by unfold In7; decide) (by unfold In7; decide) q) (by decide)) (fun q => absurd (hinj 3 1 (by unfold In7; decide) (by unfold In7; decide) q) (by decide)) (fun q => absurd (hinj 3 2 (by unfold In7; decide) (by unfold In7; decide) q) (by decide)) rfl
  · exact rm3_4 l Z a0 hw ws (P 4) (P 0) (P 1) (P 2) (P 3) (P 4) h0 n0 Z0 s0 s1 s2 s3 s4 (fun q => absurd (hinj 4 0 (by unfold In7; decide) (by unfold In7; decide) q) (by decide)) (fun q => absurd (hinj 4 1 (by unfold In7; decide) (by unfold In7; decide) q) (by decide)) (fun q => absurd (hinj 4 2 (by unfold In7; decide) (by unfold In7; decide) q) (by decide)) (fun q => absurd (hinj 4 3 (by unfold In7; decide) (by unfold In7; decide) q) (by decide)) rfl
  · exact rm3_5 l Z a0 hw ws (P 5) (P 0) (P 1) (P 2) (P 3) (P 4) (P 5) h0 n0 Z0 s0 s1 s2 s3 s4 s5 (fun q => absurd (hinj 5 0 (by unfold In7; decide) (by unfold In7; decide) q) (by decide)) (fun q => absurd (hinj 5 1 (by unfold In7; decide) (by unfold In7; decide) q) (by decide)) (fun q => absurd (hinj 5 2 (by unfold In7; decide) (by unfold In7; decide) q) (by decide)) (fun q => absurd (hinj 5 3 (by unfold In7; decide) (by unfold In7; decide) q) (by decide)) (fun q => absurd (hinj 5 4 (by unfold In7; decide) (by unfold In7; decide) q) (by decide)) rfl
  · exact rm3_6 l Z a0 hw ws (P 6) (P 0) (P 1) (P 2) (P 3) (P 4) (P 5) (P 6) h0 n0 Z0 s0 s1 s2 s3 s4 s5 s6 (fun q => absurd (hinj 6 0 (by unfold In7; decide) (by unfold In7; decide) q) (by decide)) (fun q => absurd (hinj 6 1 (by unfold In7; decide) (by unfold In7; decide) q) (by decide)) (fun q => absurd (hinj 6 2 (by unfold In7; decide) (by unfold In7; decide) q) (by decide)) (fun q => absurd (hinj 6 3 (by unfold In7; decide) (by unfold In7; decide) q) (by decide)) (fun q => absurd (hinj 6 4 (by unfold In7; decide) (by unfold In7; decide) q) (by decide)) (fun q => absurd (hinj 6 5 (by unfold In7; decide) (by unfold In7; decide) q) (by decide)) rfl
theorem pn_0 : plainName "com/example/numerand/numerand/engine/PrecisionSecondsPinLaw" = true := by first | (simp [plainName, overriddenIn]; done) | decide +kernel
theorem pd_0_0 : parseMethodDescriptor "(I)Lcom/example/numerand/numerand/engine/Precision;" = some ⟨[.int], some (.object "com/example/numerand/numerand/engine/Precision")⟩ := by decide +kernel
theorem pd_0_1 : parseMethodDescriptor "(Lcom/example/numerand/numerand/engine/Precision;)Lcom/example/numerand/numerand/engine/Precision;" = some ⟨[(.object "com/example/numerand/numerand/engine/Precision")], some (.object "com/example/numerand/numerand/engine/Precision")⟩ := by decide +kernel
theorem pd_0_2 : parseMethodDescriptor "(Lcom/example/numerand/numerand/engine/Precision;)I" = some ⟨[(.object "com/example/numerand/numerand/engine/Precision")], some .int⟩ := by decide +kernel
theorem ef_0 (m : MethodId) (x0 : Int32) (x1 : Int32) : entryFrame m #[(.int x0), (.int x1)] maxLocals = mkF m 0 #[.val (.int x0), .val (.int x1), .unset, .unset, .unset, .unset, .unset, .unset, .unset] [] := by first | (simp [entryFrame, mkF, argsToLocals, Value.category, maxLocals]; done) | rfl
set_option maxRecDepth 65536 in
set_option maxHeartbeats 40000000 in
theorem rm0A (l : Launch) (Z : State) (a0 : Array Value) (hw : ∀ d ∈ tables_1, d.before a0 Z = true) (ws : List Jvm.Cond) (p1 : Int32) (p2 : Int32) (P : Int32 → Addr) (h0 : Heap) (n0 : Nat) (Z0 : n0 ≤ h0.size) (K : Known Z h0 P) (S_MILLISECOND : Sta Z h0 "com/example/numerand/numerand/engine/Precision" "MILLISECOND" "Lcom/example/numerand/numerand/engine/Precision;" (.ref (P 6))) (S_SECOND : Sta Z h0 "com/example/numerand/numerand/engine/Precision" "SECOND" "Lcom/example/numerand/numerand/engine/Precision;" (.ref (P 5))) (hc61 : ¬ ((1 : Int32) = (0 : Int32))) (ha69 : ¬ ((P (own_s ((p1 &&& (2147483647 : Int32)) % (7 : Int32)))) = (P 6))) (ha77 : ¬ ((P (own_s ((p2 &&& (2147483647 : Int32)) % (7 : Int32)))) = (P 6))) (hc89 : ¬ ((1 : Int32) = (0 : Int32))) (hc95 : ((p1 &&& (2147483647 : Int32)) % (7 : Int32)) = (6 : Int32)) (hc114 : ¬ ((1 : Int32) = (0 : Int32))) (hc120 : ((p2 &&& (2147483647 : Int32)) % (7 : Int32)) = (6 : Int32)) (hc139 : ¬ ((1 : Int32) = (0 : Int32))) (ha149 : (P (own_s (own_s ((p1 &&& (2147483647 : Int32)) % (7 : Int32))))) = (P (own_s ((p1 &&& (2147483647 : Int32)) % (7 : Int32))))) (hc161 : ¬ ((1 : Int32) = (0 : Int32))) (hc167 : ((p1 &&& (2147483647 : Int32)) % (7 : Int32)) = (6 : Int32)) (ha178 : (P (own_s ((p1 &&& (2147483647 : Int32)) % (7 : Int32)))) = (P (own_s 5))) (hc190 : ¬ ((1 : Int32) = (0 : Int32))) (hc195 : ¬ (((p2 &&& (2147483647 : Int32)) % (7 : Int32)) < ((p1 &&& (2147483647 : Int32)) % (7 : Int32)))) :
    MetFree l x (head1 (Jvm.Cond.code x code maxLocals ret :: ws) room_1) (fun a U => a = #[(.int p1), (.int p2)] ∧ Z.Warmed39 U.vm ∧ U.heap = h0) (fun _ _ _ _ _ => True) (fun _ U o U' => ∃ v L, o = .returned v ∧ Qlaw n0 v L ∧ FrameEnd U o U' L room_1.cells room_1.slots) := by
  refine MetFree.of_bodySF (plainFor_of_name pn_0) hisR ?_
  intro p e s m args below meth c s₁ Bd hml0 hP hK
  obtain ⟨rfl, hZ, hh⟩ := hP
  have hx := Bd.exec
  have hby := Bd.bytes
  have hml : c.maxLocals = 9 := hml0
  have hown : s.vm.findClass "com/example/numerand/numerand/engine/PrecisionSecondsPinLaw" = some m.cls := findClass_of_methodNamed Bd.named
  have hnm := (name_of_methodNamed Bd.named Bd.method).1
  have X0 : Stand p l e room_1 s m #[(.int p1), (.int p2)] below meth c s₁ [] 0 0 := Stand.of_body Bd
  have e0 : s₁.heap = h0 := by rw [← hh, Bd.state]; rfl
  have N0 := Fr.nil n0
  have pre0 : ∀ t, Steps p.tables e below (s₁.setTop (mkF m 0 #[.val (.int p1), .val (.int p2), .unset, .unset, .unset, .unset, .unset, .unset, .unset] [])) t → Steps p.tables e below (s₁.setTop (entryFrame m #[(.int p1), (.int p2)] maxLocals)) t := fun t k => castTop (ef_0 m p1 p2) k
  obtain ⟨_, _, ⟨T3, L3, k3, n3⟩, -, X3, ⟨Lc3, hQ3, l3, y3, z3⟩, st3⟩ := Jvm.LawKit.callS X0 hx (y := (⟨"com/example/numerand/numerand/engine/PrecisionSecondsPinLaw", "pick", "(I)Lcom/example/numerand/numerand/engine/Precision;"⟩ : MethodName)) hown (mvT hZ (hw _ (List.mem_of_getElem? (i := 1) rfl))) (mvT hZ (hw _ (List.mem_of_getElem? (i := 2) rfl))) (mvT hZ (hw _ (List.mem_of_getElem? (i := 3) rfl))) (mvT hZ (hw _ (List.mem_of_getElem? (i := 4) rfl))) (by decide) (backOf (W := 0) (rm1 l Z a0 hw [] ((p1 &&& (2147483647 : Int32)) % (7 : Int32)) P h0 n0 Z0 K (own_in7 p1)) hZ (hw _ (List.mem_of_getElem? (i := 4) rfl)) (hw _ (List.mem_of_getElem? (i := 3) rfl)) (by decide) (by decide)) (g := (mkF m 17 #[.val (.int p1), .val (.int p2), .val (.int ((p1 &&& (2147483647 : Int32)) % (7 : Int32))), .val (.int ((p2 &&& (2147483647 : Int32)) % (7 : Int32))), .unset, .unset, .unset, .unset, .unset] [(.int ((p1 &&& (2147483647 : Int32)) % (7 : Int32)))])) rfl (by rw [hml]; rfl) (argsL := [(.int ((p1 &&& (2147483647 : Int32)) % (7 : Int32)))]) (rest := []) (lenOf pd_0_0 rfl) rfl (by show 2 * 0 + _ ≤ _; exact Nat.le_of_eq rfl) (hb hby at_17) (fun _ _ => ⟨rfl, e0, (by decide : 0 + 0 ≤ _), (by decide : 0 + 0 ≤ _)⟩)
  dsimp only [Pt.U, Pt.locs, Pt.cells, Pt.slots] at X3 l3 y3 z3 st3 hQ3
  subst l3 y3 z3
  obtain ⟨rfl, N3q, e3⟩ := hQ3
  have N3 := Fr.app N0 N3q
  obtain ⟨_, _, ⟨T4, L4, k4, n4⟩, -, X4, ⟨Lc4, hQ4, l4, y4, z4⟩, st4⟩ := Jvm.LawKit.callS X3 hx (y := (⟨"com/example/numerand/numerand/engine/PrecisionSecondsPinLaw", "pick", "(I)Lcom/example/numerand/numerand/engine/Precision;"⟩ : MethodName)) hown (mvT hZ (hw _ (List.mem_of_getElem? (i := 1) rfl))) (mvT hZ (hw _ (List.mem_of_getElem? (i := 2) rfl))) (mvT hZ (hw _ (List.mem_of_getElem? (i := 3) rfl))) (mvT hZ (hw _ (List.mem_of_getElem? (i := 4) rfl))) (by decide) (backOf (W := 0) (rm1 l Z a0 hw [] ((p2 &&& (2147483647 : Int32)) % (7 : Int32)) P h0 n0 Z0 K (own_in7 p2)) hZ (hw _ (List.mem_of_getElem? (i := 4) rfl)) (hw _ (List.mem_of_getElem? (i := 3) rfl)) (by decide) (by decide)) (g := (mkF m 23 #[.val (.int p1), .val (.int p2), .val (.int ((p1 &&& (2147483647 : Int32)) % (7 : Int32))), .val (.int ((p2 &&& (2147483647 : Int32)) % (7 : Int32))), .val (.ref (P ((p1 &&& (2147483647 : Int32)) % (7 : Int32)))), .unset, .unset, .unset, .unset] [(.int ((p2 &&& (2147483647 : Int32)) % (7 : Int32)))])) rfl (by rw [hml]; rfl) (argsL := [(.int ((p2 &&& (2147483647 : Int32)) % (7 : Int32)))]) (rest := []) (lenOf pd_0_0 rfl) rfl (by show 2 * 0 + _ ≤ _; exact Nat.le_of_eq rfl) (hb hby at_23) (fun _ _ => ⟨rfl, e3, (by decide : 0 + 0 ≤ _), (by decide : 0 + 0 ≤ _)⟩)
  dsimp only [Pt.U, Pt.locs, Pt.cells, Pt.slots] at X4 l4 y4 z4 st4 hQ4
  subst l4 y4 z4
  obtain ⟨rfl, N4q, e4⟩ := hQ4
  have N4 := Fr.app N3 N4q
  obtain ⟨_, _, ⟨T5, L5, k5, n5⟩, -, X5, ⟨Lc5, hQ5, l5, y5, z5⟩, st5⟩ := Jvm.LawKit.callS X4 hx (y := (⟨"com/example/numerand/numerand/engine/Precision", "seconds", "(Lcom/example/numerand/numerand/engine/Precision;)Lcom/example/numerand/numerand/engine/Precision;"⟩ : MethodName)) hown (mvT hZ (hw _ (List.mem_of_getElem? (i := 10) rfl))) (mvT hZ (hw _ (List.mem_of_getElem? (i := 11) rfl))) (mvT hZ (hw _ (List.mem_of_getElem? (i := 6) rfl))) (mvT hZ (hw _ (List.mem_of_getElem? (i := 12) rfl))) (by decide) (backOf (W := 0) (rm2 l Z a0 hw [] ((p1 &&& (2147483647 : Int32)) % (7 : Int32)) P h0 n0 Z0 K (own_in7 p1)) hZ (hw _ (List.mem_of_getElem? (i := 12) rfl)) (hw _ (List.mem_of_getElem? (i := 6) rfl)) (by decide) (by decide)) (g := (mkF m 30 #[.val (.int p1), .val (.int p2), .val (.int ((p1 &&& (2147483647 : Int32)) % (7 : Int32))), .val (.int ((p2 &&& (2147483647 : Int32)) % (7 : Int32))), .val (.ref (P ((p1 &&& (2147483647 : Int32)) % (7 : Int32)))), .val (.ref (P ((p2 &&& (2147483647 : Int32)) % (7 : Int32)))), .unset, .unset, .unset] [(.ref (P ((p1 &&& (2147483647 : Int32)) % (7 : Int32))))])) rfl (by rw [hml]; rfl) (argsL := [(.ref (P ((p1 &&& (2147483647 : Int32)) % (7 : Int32))))]) (rest := []) (lenOf pd_0_1 rfl) rfl (by show 2 * 0 + _ ≤ _; exact Nat.le_of_eq rfl) (hb hby at_30) (fun _ _ => ⟨rfl, e4, (by decide : 0 + 0 ≤ _), (by decide : 0 + 0 ≤ _)⟩)
  dsimp only [Pt.U, Pt.locs, Pt.cells, Pt.slots] at X5 l5 y5 z5 st5 hQ5
  subst l5 y5 z5
  obtain ⟨rfl, N5q, e5⟩ := hQ5
  have N5 := Fr.app N4 N5q
  obtain ⟨_, _, ⟨T6, L6, k6, n6⟩, -, X6, ⟨Lc6, hQ6, l6, y6, z6⟩, st6⟩ := Jvm.LawKit.callS X5 hx (y := (⟨"com/example/numerand/numerand/engine/Precision", "seconds", "(Lcom/example/numerand/numerand/engine/Precision;)Lcom/example/numerand/numerand/engine/Precision;"⟩ : MethodName)) hown (mvT hZ (hw _ (List.mem_of_getElem? (i := 10) rfl))) (mvT hZ (hw _ (List.mem_of_getElem? (i := 11) rfl))) (mvT hZ (hw _ (List.mem_of_getElem? (i := 6) rfl))) (mvT hZ (hw _ (List.mem_of_getElem? (i := 12) rfl))) (by decide) (backOf (W := 0) (rm2 l Z a0 hw [] ((p2 &&& (2147483647 : Int32)) % (7 : Int32)) P h0 n0 Z0 K (own_in7 p2)) hZ (hw _ (List.mem_of_getElem? (i := 12) rfl)) (hw _ (List.mem_of_getElem? (i := 6) rfl)) (by decide) (by decide)) (g := (mkF m 37 #[.val (.int p1), .val (.int p2), .val (.int ((p1 &&& (2147483647 : Int32)) % (7 : Int32))), .val (.int ((p2 &&& (2147483647 : Int32)) % (7 : Int32))), .val (.ref (P ((p1 &&& (2147483647 : Int32)) % (7 : Int32)))), .val (.ref (P ((p2 &&& (2147483647 : Int32)) % (7 : Int32)))), .val (.ref (P (own_s ((p1 &&& (2147483647 : Int32)) % (7 : Int32))))), .unset, .unset] [(.ref (P ((p2 &&& (2147483647 : Int32)) % (7 : Int32))))])) rfl (by rw [hml]; rfl) (argsL := [(.ref (P ((p2 &&& (2147483647 : Int32)) % (7 : Int32))))]) (rest := []) (lenOf pd_0_1 rfl) rfl (by show 2 * 0 + _ ≤ _; exact Nat.le_of_eq rfl) (hb hby at_37) (fun _ _ => ⟨rfl, e5, (by decide : 0 + 0 ≤ _), (by decide : 0 + 0 ≤ _)⟩)
  dsimp only [Pt.U, Pt.locs, Pt.cells, Pt.slots] at X6 l6 y6 z6 st6 hQ6
  subst l6 y6 z6
  obtain ⟨rfl, N6q, e6⟩ := hQ6
  have N6 := Fr.app N5 N6q
  obtain ⟨T8, X8, e8, st8⟩ := getS2 X6 hx hZ hown (host := "") (Or.inl (hw _ (List.mem_of_getElem? (i := 15) rfl))) Via.refl e6 S_MILLISECOND (g := (mkF m 66 #[.val (.int p1), .val (.int p2), .val (.int ((p1 &&& (2147483647 : Int32)) % (7 : Int32))), .val (.int ((p2 &&& (2147483647 : Int32)) % (7 : Int32))), .val (.ref (P ((p1 &&& (2147483647 : Int32)) % (7 : Int32)))), .val (.ref (P ((p2 &&& (2147483647 : Int32)) % (7 : Int32)))), .val (.ref (P (own_s ((p1 &&& (2147483647 : Int32)) % (7 : Int32))))), .val (.ref (P (own_s ((p2 &&& (2147483647 : Int32)) % (7 : Int32))))), .val (.int (1 : Int32))] [(.ref (P (own_s ((p1 &&& (2147483647 : Int32)) % (7 : Int32)))))])) rfl (hb hby at_66)
  obtain ⟨T9, X9, e9, st9⟩ := getS2 X8 hx hZ hown (host := "") (Or.inl (hw _ (List.mem_of_getElem? (i := 15) rfl))) Via.refl e8 S_MILLISECOND (g := (mkF m 74 #[.val (.int p1), .val (.int p2), .val (.int ((p1 &&& (2147483647 : Int32)) % (7 : Int32))), .val (.int ((p2 &&& (2147483647 : Int32)) % (7 : Int32))), .val (.ref (P ((p1 &&& (2147483647 : Int32)) % (7 : Int32)))), .val (.ref (P ((p2 &&& (2147483647 : Int32)) % (7 : Int32)))), .val (.ref (P (own_s ((p1 &&& (2147483647 : Int32)) % (7 : Int32))))), .val (.ref (P (own_s ((p2 &&& (2147483647 : Int32)) % (7 : Int32))))), .val (.int (1 : Int32))] [(.ref (P (own_s ((p2 &&& (2147483647 : Int32)) % (7 : Int32)))))])) rfl (hb hby at_74)
  obtain ⟨_, _, ⟨T10, L10, k10, n10⟩, -, X10, ⟨Lc10, hQ10, l10, y10, z10⟩, st10⟩ := Jvm.LawKit.callS X9 hx (y := (⟨"com/example/numerand/numerand/engine/Precision", "seconds", "(Lcom/example/numerand/numerand/engine/Precision;)Lcom/example/numerand/numerand/engine/Precision;"⟩ : MethodName)) hown (mvT hZ (hw _ (List.mem_of_getElem? (i := 10) rfl))) (mvT hZ (hw _ (List.mem_of_getElem? (i := 11) rfl))) (mvT hZ (hw _ (List.mem_of_getElem? (i := 6) rfl))) (mvT hZ (hw _ (List.mem_of_getElem? (i := 12) rfl))) (by decide) (backOf (W := 0) (rm2 l Z a0 hw [] (own_s ((p1 &&& (2147483647 : Int32)) % (7 : Int32))) P h0 n0 Z0 K (own_s7 (own_in7 p1))) hZ (hw _ (List.mem_of_getElem? (i := 12) rfl)) (hw _ (List.mem_of_getElem? (i := 6) rfl)) (by decide) (by decide)) (g := (mkF m 144 #[.val (.int p1), .val (.int p2), .val (.int ((p1 &&& (2147483647 : Int32)) % (7 : Int32))), .val (.int ((p2 &&& (2147483647 : Int32)) % (7 : Int32))), .val (.ref (P ((p1 &&& (2147483647 : Int32)) % (7 : Int32)))), .val (.ref (P ((p2 &&& (2147483647 : Int32)) % (7 : Int32)))), .val (.ref (P (own_s ((p1 &&& (2147483647 : Int32)) % (7 : Int32))))), .val (.ref (P (own_s ((p2 &&& (2147483647 : Int32)) % (7 : Int32))))), .val (.int (1 : Int32))] [(.ref (P (own_s ((p1 &&& (2147483647 : Int32)) % (7 : Int32)))))])) rfl (by rw [hml]; rfl) (argsL := [(.ref (P (own_s ((p1 &&& (2147483647 : Int32)) % (7 : Int32)))))]) (rest := []) (lenOf pd_0_1 rfl) rfl (by show 2 * 0 + _ ≤ _; exact Nat.le_of_eq rfl) (hb hby at_144) (fun _ _ => ⟨rfl, e9, (by decide : 0 + 0 ≤ _), (by decide : 0 + 0 ≤ _)⟩)
  dsimp only [Pt.U, Pt.locs, Pt.cells, Pt.slots] at X10 l10 y10 z10 st10 hQ10
  subst l10 y10 z10
  obtain ⟨rfl, N10q, e10⟩ := hQ10
  have N10 := Fr.app N6 N10q
  obtain ⟨T12, X12, e12, st12⟩ := getS2 X10 hx hZ hown (host := "") (Or.inl (hw _ (List.mem_of_getElem? (i := 23) rfl))) Via.refl e10 S_SECOND (g := (mkF m 172 #[.val (.int p1), .val (.int p2), .val (.int ((p1 &&& (2147483647 : Int32)) % (7 : Int32))), .val (.int ((p2 &&& (2147483647 : Int32)) % (7 : Int32))), .val (.ref (P ((p1 &&& (2147483647 : Int32)) % (7 : Int32)))), .val (.ref (P ((p2 &&& (2147483647 : Int32)) % (7 : Int32)))), .val (.ref (P (own_s ((p1 &&& (2147483647 : Int32)) % (7 : Int32))))), .val (.ref (P (own_s ((p2 &&& (2147483647 : Int32)) % (7 : Int32))))), .val (.int (1 : Int32))] [(.ref (P (own_s ((p1 &&& (2147483647 : Int32)) % (7 : Int32)))))])) rfl (hb hby at_172)
  obtain ⟨_, _, ⟨T13, L13, k13, n13⟩, -, X13, ⟨Lc13, hQ13, l13, y13, z13⟩, st13⟩ := Jvm.LawKit.callS X12 hx (y := (⟨"com/example/numerand/numerand/engine/Precision", "seconds", "(Lcom/example/numerand/numerand/engine/Precision;)Lcom/example/numerand/numerand/engine/Precision;"⟩ : MethodName)) hown (mvT hZ (hw _ (List.mem_of_getElem? (i := 10) rfl))) (mvT hZ (hw _ (List.mem_of_getElem? (i := 11) rfl))) (mvT hZ (hw _ (List.mem_of_getElem? (i := 6) rfl))) (mvT hZ (hw _ (List.mem_of_getElem? (i := 12) rfl))) (by decide) (backOf (W := 1) (rm2 l Z a0 hw [] 5 P h0 n0 Z0 K own_5) hZ (hw _ (List.mem_of_getElem? (i := 12) rfl)) (hw _ (List.mem_of_getElem? (i := 6) rfl)) (by decide) (by decide)) (g := (mkF m 175 #[.val (.int p1), .val (.int p2), .val (.int ((p1 &&& (2147483647 : Int32)) % (7 : Int32))), .val (.int ((p2 &&& (2147483647 : Int32)) % (7 : Int32))), .val (.ref (P ((p1 &&& (2147483647 : Int32)) % (7 : Int32)))), .val (.ref (P ((p2 &&& (2147483647 : Int32)) % (7 : Int32)))), .val (.ref (P (own_s ((p1 &&& (2147483647 : Int32)) % (7 : Int32))))), .val (.ref (P (own_s ((p2 &&& (2147483647 : Int32)) % (7 : Int32))))), .val (.int (1 : Int32))] [(.ref (P 5)), (.ref (P (own_s ((p1 &&& (2147483647 : Int32)) % (7 : Int32)))))])) rfl (by rw [hml]; rfl) (argsL := [(.ref (P 5))]) (rest := [(.ref (P (own_s ((p1 &&& (2147483647 : Int32)) % (7 : Int32)))))]) (lenOf pd_0_1 rfl) rfl (by show 2 * 0 + _ ≤ _; exact Nat.le_of_eq rfl) (hb hby at_175) (fun _ _ => ⟨rfl, e12, (by decide : 0 + 0 ≤ _), (by decide : 0 + 0 ≤ _)⟩)
  dsimp only [Pt.U, Pt.locs, Pt.cells, Pt.slots] at X13 l13 y13 z13 st13 hQ13
  subst l13 y13 z13
  obtain ⟨rfl, N13q, e13⟩ := hQ13
  have N13 := Fr.app N10 N13q
  obtain ⟨_, _, ⟨T14, L14, k14, n14⟩, -, X14, ⟨Lc14, hQ14, l14, y14, z14⟩, st14⟩ := Jvm.LawKit.callS X13 hx (y := (⟨"com/example/numerand/numerand/engine/PrecisionSecondsPinLaw", "idx", "(Lcom/example/numerand/numerand/engine/Precision;)I"⟩ : MethodName)) hown (mvT hZ (hw _ (List.mem_of_getElem? (i := 16) rfl))) (mvT hZ (hw _ (List.mem_of_getElem? (i := 17) rfl))) (mvT hZ (hw _ (List.mem_of_getElem? (i := 3) rfl))) (mvT hZ (hw _ (List.mem_of_getElem? (i := 18) rfl))) (by decide) (backOf (W := 0) (rm3 l Z a0 hw [] (own_s ((p1 &&& (2147483647 : Int32)) % (7 : Int32))) P h0 n0 Z0 K (own_s7 (own_in7 p1))) hZ (hw _ (List.mem_of_getElem? (i := 18) rfl)) (hw _ (List.mem_of_getElem? (i := 3) rfl)) (by decide) (by decide)) (g := (mkF m 200 #[.val (.int p1), .val (.int p2), .val (.int ((p1 &&& (2147483647 : Int32)) % (7 : Int32))), .val (.int ((p2 &&& (2147483647 : Int32)) % (7 : Int32))), .val (.ref (P ((p1 &&& (2147483647 : Int32)) % (7 : Int32)))), .val (.ref (P ((p2 &&& (2147483647 : Int32)) % (7 : Int32)))), .val (.ref (P (own_s ((p1 &&& (2147483647 : Int32)) % (7 : Int32))))), .val (.ref (P (own_s ((p2 &&& (2147483647 : Int32)) % (7 : Int32))))), .val (.int (1 : Int32))] [(.ref (P (own_s ((p1 &&& (2147483647 : Int32)) % (7 : Int32)))))])) rfl (by rw [hml]; rfl) (argsL := [(.ref (P (own_s ((p1 &&& (2147483647 : Int32)) % (7 : Int32)))))]) (rest := []) (lenOf pd_0_2 rfl) rfl (by show 2 * 0 + _ ≤ _; exact Nat.le_of_eq rfl) (hb hby at_200) (fun _ _ => ⟨rfl, e13, (by decide : 0 + 0 ≤ _), (by decide : 0 + 0 ≤ _)⟩)
  dsimp only [Pt.U, Pt.locs, Pt.cells, Pt.slots] at X14 l14 y14 z14 st14 hQ14
  subst l14 y14 z14
  obtain ⟨rfl, N14q, e14⟩ := hQ14
  have N14 := Fr.app N13 N14q
  obtain ⟨_, _, ⟨T15, L15, k15, n15⟩, -, X15, ⟨Lc15, hQ15, l15, y15, z15⟩, st15⟩ := Jvm.LawKit.callS X14 hx (y := (⟨"com/example/numerand/numerand/engine/PrecisionSecondsPinLaw", "idx", "(Lcom/example/numerand/numerand/engine/Precision;)I"⟩ : MethodName)) hown (mvT hZ (hw _ (List.mem_of_getElem? (i := 16) rfl))) (mvT hZ (hw _ (List.mem_of_getElem? (i := 17) rfl))) (mvT hZ (hw _ (List.mem_of_getElem? (i := 3) rfl))) (mvT hZ (hw _ (List.mem_of_getElem? (i := 18) rfl))) (by decide) (backOf (W := 1) (rm3 l Z a0 hw [] (own_s ((p2 &&& (2147483647 : Int32)) % (7 : Int32))) P h0 n0 Z0 K (own_s7 (own_in7 p2))) hZ (hw _ (List.mem_of_getElem? (i := 18) rfl)) (hw _ (List.mem_of_getElem? (i := 3) rfl)) (by decide) (by decide)) (g := (mkF m 205 #[.val (.int p1), .val (.int p2), .val (.int ((p1 &&& (2147483647 : Int32)) % (7 : Int32))), .val (.int ((p2 &&& (2147483647 : Int32)) % (7 : Int32))), .val (.ref (P ((p1 &&& (2147483647 : Int32)) % (7 : Int32)))), .val (.ref (P ((p2 &&& (2147483647 : Int32)) % (7 : Int32)))), .val (.ref (P (own_s ((p1 &&& (2147483647 : Int32)) % (7 : Int32))))), .val (.ref (P (own_s ((p2 &&& (2147483647 : Int32)) % (7 : Int32))))), .val (.int (1 : Int32))] [(.ref (P (own_s ((p2 &&& (2147483647 : Int32)) % (7 : Int32))))), (.int (own_s ((p1 &&& (2147483647 : Int32)) % (7 : Int32))))])) rfl (by rw [hml]; rfl) (argsL := [(.ref (P (own_s ((p2 &&& (2147483647 : Int32)) % (7 : Int32)))))]) (rest := [(.int (own_s ((p1 &&& (2147483647 : Int32)) % (7 : Int32))))]) (lenOf pd_0_2 rfl) rfl (by show 2 * 0 + _ ≤ _; exact Nat.le_of_eq rfl) (hb hby at_205) (fun _ _ => ⟨rfl, e14, (by decide : 0 + 0 ≤ _), (by decide : 0 + 0 ≤ _)⟩)
  dsimp only [Pt.U, Pt.locs, Pt.cells, Pt.slots] at X15 l15 y15 z15 st15 hQ15
  subst l15 y15 z15
  obtain ⟨rfl, N15q, e15⟩ := hQ15
  have N15 := Fr.app N14 N15q
  obtain ⟨fs, hr, hrun, hended, hW, hsame⟩ := X15.leave (v := some (.int (1 : Int32))) (fun h => by rw [Bd.returns] at h; cases h)
  refine ⟨_, _, pre0 _ ?_, hrun, hended, _, _, rfl, ?_, ⟨_, rfl⟩, hW, hsame.mono (by decide) (by decide)⟩
  · show Steps p.tables e below (s₁.setTop (mkF m 0 #[.val (.int p1), .val (.int p2), .unset, .unset, .unset, .unset, .unset, .unset, .unset] [])) _
    refine XS.iloadN X0.here hx rfl (hb hby at_0) rfl ?_
    show Steps p.tables e below (s₁.setTop (mkF m 1 #[.val (.int p1), .val (.int p2), .unset, .unset, .unset, .unset, .unset, .unset, .unset] [(.int p1)])) _
    refine X0.ldcInt hx hown (mvT hZ (hw _ (List.mem_of_getElem? (i := 0) rfl))) (g := (mkF m 1 #[.val (.int p1), .val (.int p2), .unset, .unset, .unset, .unset, .unset, .unset, .unset] [(.int p1)])) rfl (hb hby at_1) _ ?_
    show Steps p.tables e below (s₁.setTop (mkF m 3 #[.val (.int p1), .val (.int p2), .unset, .unset, .unset, .unset, .unset, .unset, .unset] [(.int (2147483647 : Int32)), (.int p1)])) _
    refine XS.iand X0.here hx rfl (hb hby at_3) rfl ?_
    show Steps p.tables e below (s₁.setTop (mkF m 4 #[.val (.int p1), .val (.int p2), .unset, .unset, .unset, .unset, .unset, .unset, .unset] [(.int (p1 &&& (2147483647 : Int32)))])) _
    refine XS.bipush X0.here hx rfl (hb hby at_4) ?_
    show Steps p.tables e below (s₁.setTop (mkF m 6 #[.val (.int p1), .val (.int p2), .unset, .unset, .unset, .unset, .unset, .unset, .unset] [(.int (7 : Int32)), (.int (p1 &&& (2147483647 : Int32)))])) _
    refine iremM X0 hx rfl (hb hby at_6) rfl (by decide) ?_
    show Steps p.tables e below (s₁.setTop (mkF m 7 #[.val (.int p1), .val (.int p2), .unset, .unset, .unset, .unset, .unset, .unset, .unset] [(.int ((p1 &&& (2147483647 : Int32)) % (7 : Int32)))])) _
    refine XS.istoreN X0.here hx rfl (hb hby at_7) rfl (l' := #[.val (.int p1), .val (.int p2), .val (.int ((p1 &&& (2147483647 : Int32)) % (7 : Int32))), .unset, .unset, .unset, .unset, .unset, .unset]) rfl ?_
    show Steps p.tables e below (s₁.setTop (mkF m 8 #[.val (.int p1), .val (.int p2), .val (.int ((p1 &&& (2147483647 : Int32)) % (7 : Int32))), .unset, .unset, .unset, .unset, .unset, .unset] [])) _
    refine XS.iloadN X0.here hx rfl (hb hby at_8) rfl ?_
    show Steps p.tables e below (s₁.setTop (mkF m 9 #[.val (.int p1), .val (.int p2), .val (.int ((p1 &&& (2147483647 : Int32)) % (7 : Int32))), .unset, .unset, .unset, .unset, .unset, .unset] [(.int p2)])) _
    refine X0.ldcInt hx hown (mvT hZ (hw _ (List.mem_of_getElem? (i := 0) rfl))) (g := (mkF m 9 #[.val (.int p1), .val (.int p2), .val (.int ((p1 &&& (2147483647 : Int32)) % (7 : Int32))), .unset, .unset, .unset, .unset, .unset, .unset] [(.int p2)])) rfl (hb hby at_9) _ ?_
    show Steps p.tables e below (s₁.setTop (mkF m 11 #[.val (.int p1), .val (.int p2), .val (.int ((p1 &&& (2147483647 : Int32)) % (7 : Int32))), .unset, .unset, .unset, .unset, .unset, .unset] [(.int (2147483647 : Int32)), (.int p2)])) _
    refine XS.iand X0.here hx rfl (hb hby at_11) rfl ?_
    show Steps p.tables e below (s₁.setTop (mkF m 12 #[.val (.int p1), .val (.int p2), .val (.int ((p1 &&& (2147483647 : Int32)) % (7 : Int32))), .unset, .unset, .unset, .unset, .unset, .unset] [(.int (p2 &&& (2147483647 : Int32)))])) _
    refine XS.bipush X0.here hx rfl (hb hby at_12) ?_
    show Steps p.tables e below (s₁.setTop (mkF m 14 #[.val (.int p1), .val (.int p2), .val (.int ((p1 &&& (2147483647 : Int32)) % (7 : Int32))), .unset, .unset, .unset, .unset, .unset, .unset] [(.int (7 : Int32)), (.int (p2 &&& (2147483647 : Int32)))])) _
    refine iremM X0 hx rfl (hb hby at_14) rfl (by decide) ?_
    show Steps p.tables e below (s₁.setTop (mkF m 15 #[.val (.int p1), .val (.int p2), .val (.int ((p1 &&& (2147483647 : Int32)) % (7 : Int32))), .unset, .unset, .unset, .unset, .unset, .unset] [(.int ((p2 &&& (2147483647 : Int32)) % (7 : Int32)))])) _
    refine XS.istoreN X0.here hx rfl (hb hby at_15) rfl (l' := #[.val (.int p1), .val (.int p2), .val (.int ((p1 &&& (2147483647 : Int32)) % (7 : Int32))), .val (.int ((p2 &&& (2147483647 : Int32)) % (7 : Int32))), .unset, .unset, .unset, .unset, .unset]) rfl ?_
    show Steps p.tables e below (s₁.setTop (mkF m 16 #[.val (.int p1), .val (.int p2), .val (.int ((p1 &&& (2147483647 : Int32)) % (7 : Int32))), .val (.int ((p2 &&& (2147483647 : Int32)) % (7 : Int32))), .unset, .unset, .unset, .unset, .unset] [])) _
    refine XS.iloadN X0.here hx rfl (hb hby at_16) rfl ?_
    show Steps p.tables e below (s₁.setTop (mkF m 17 #[.val (.int p1), .val (.int p2), .val (.int ((p1 &&& (2147483647 : Int32)) % (7 : Int32))), .val (.int ((p2 &&& (2147483647 : Int32)) % (7 : Int32))), .unset, .unset, .unset, .unset, .unset] [(.int ((p1 &&& (2147483647 : Int32)) % (7 : Int32)))])) _
    refine st3 _ ?_
    show Steps p.tables e below (T3.setTop (mkF m 20 #[.val (.int p1), .val (.int p2), .val (.int ((p1 &&& (2147483647 : Int32)) % (7 : Int32))), .val (.int ((p2 &&& (2147483647 : Int32)) % (7 : Int32))), .unset, .unset, .unset, .unset, .unset] [(.ref (P ((p1 &&& (2147483647 : Int32)) % (7 : Int32))))])) _
    refine XS.astore X3.here hx rfl (hb hby at_20) rfl rfl (l' := #[.val (.int p1), .val (.int p2), .val (.int ((p1 &&& (2147483647 : Int32)) % (7 : Int32))), .val (.int ((p2 &&& (2147483647 : Int32)) % (7 : Int32))), .val (.ref (P ((p1 &&& (2147483647 : Int32)) % (7 : Int32)))), .unset, .unset, .unset, .unset]) rfl ?_
    show Steps p.tables e below (T3.setTop (mkF m 22 #[.val (.int p1), .val (.int p2), .val (.int ((p1 &&& (2147483647 : Int32)) % (7 : Int32))), .val (.int ((p2 &&& (2147483647 : Int32)) % (7 : Int32))), .val (.ref (P ((p1 &&& (2147483647 : Int32)) % (7 : Int32)))), .unset, .unset, .unset, .unset] [])) _
    refine XS.iloadN X3.here hx rfl (hb hby at_22) rfl ?_
    show Steps p.tables e below (T3.setTop (mkF m 23 #[.val (.int p1), .val (.int p2), .val (.int ((p1 &&& (2147483647 : Int32)) % (7 : Int32))), .val (.int ((p2 &&& (2147483647 : Int32)) % (7 : Int32))), .val (.ref (P ((p1 &&& (2147483647 : Int32)) % (7 : Int32)))), .unset, .unset, .unset, .unset] [(.int ((p2 &&& (2147483647 : Int32)) % (7 : Int32)))])) _
    refine st4 _ ?_
    show Steps p.tables e below (T4.setTop (mkF m 26 #[.val (.int p1), .val (.int p2), .val (.int ((p1 &&& (2147483647 : Int32)) % (7 : Int32))), .val (.int ((p2 &&& (2147483647 : Int32)) % (7 : Int32))), .val (.ref (P ((p1 &&& (2147483647 : Int32)) % (7 : Int32)))), .unset, .unset, .unset, .unset] [(.ref (P ((p2 &&& (2147483647 : Int32)) % (7 : Int32))))])) _
    refine XS.astore X4.here hx rfl (hb hby at_26) rfl rfl (l' := #[.val (.int p1), .val (.int p2), .val (.int ((p1 &&& (2147483647 : Int32)) % (7 : Int32))), .val (.int ((p2 &&& (2147483647 : Int32)) % (7 : Int32))), .val (.ref (P ((p1 &&& (2147483647 : Int32)) % (7 : Int32)))), .val (.ref (P ((p2 &&& (2147483647 : Int32)) % (7 : Int32)))), .unset, .unset, .unset]) rfl ?_
    show Steps p.tables e below (T4.setTop (mkF m 28 #[.val (.int p1), .val (.int p2), .val (.int ((p1 &&& (2147483647 : Int32)) % (7 : Int32))), .val (.int ((p2 &&& (2147483647 : Int32)) % (7 : Int32))), .val (.ref (P ((p1 &&& (2147483647 : Int32)) % (7 : Int32)))), .val (.ref (P ((p2 &&& (2147483647 : Int32)) % (7 : Int32)))), .unset, .unset, .unset] [])) _
    refine XS.aload X4.here hx rfl (hb hby at_28) rfl rfl ?_
    show Steps p.tables e below (T4.setTop (mkF m 30 #[.val (.int p1), .val (.int p2), .val (.int ((p1 &&& (2147483647 : Int32)) % (7 : Int32))), .val (.int ((p2 &&& (2147483647 : Int32)) % (7 : Int32))), .val (.ref (P ((p1 &&& (2147483647 : Int32)) % (7 : Int32)))), .val (.ref (P ((p2 &&& (2147483647 : Int32)) % (7 : Int32)))), .unset, .unset, .unset] [(.ref (P ((p1 &&& (2147483647 : Int32)) % (7 : Int32))))])) _
    refine st5 _ ?_
    show Steps p.tables e below (T5.setTop (mkF m 33 #[.val (.int p1), .val (.int p2), .val (.int ((p1 &&& (2147483647 : Int32)) % (7 : Int32))), .val (.int ((p2 &&& (2147483647 : Int32)) % (7 : Int32))), .val (.ref (P ((p1 &&& (2147483647 : Int32)) % (7 : Int32)))), .val (.ref (P ((p2 &&& (2147483647 : Int32)) % (7 : Int32)))), .unset, .unset, .unset] [(.ref (P (own_s ((p1 &&& (2147483647 : Int32)) % (7 : Int32)))))])) _
    refine XS.astore X5.here hx rfl (hb hby at_33) rfl rfl (l' := #[.val (.int p1), .val (.int p2), .val (.int ((p1 &&& (2147483647 : Int32)) % (7 : Int32))), .val (.int ((p2 &&& (2147483647 : Int32)) % (7 : Int32))), .val (.ref (P ((p1 &&& (2147483647 : Int32)) % (7 : Int32)))), .val (.ref (P ((p2 &&& (2147483647 : Int32)) % (7 : Int32)))), .val (.ref (P (own_s ((p1 &&& (2147483647 : Int32)) % (7 : Int32))))), .unset, .unset]) rfl ?_
    show Steps p.tables e below (T5.setTop (mkF m 35 #[.val (.int p1), .val (.int p2), .val (.int ((p1 &&& (2147483647 : Int32)) % (7 : Int32))), .val (.int ((p2 &&& (2147483647 : Int32)) % (7 : Int32))), .val (.ref (P ((p1 &&& (2147483647 : Int32)) % (7 : Int32)))), .val (.ref (P ((p2 &&& (2147483647 : Int32)) % (7 : Int32)))), .val (.ref (P (own_s ((p1 &&& (2147483647 : Int32)) % (7 : Int32))))), .unset, .unset] [])) _
    refine XS.aload X5.here hx rfl (hb hby at_35) rfl rfl ?_
    show Steps p.tables e below (T5.setTop (mkF m 37 #[.val (.int p1), .val (.int p2), .val (.int ((p1 &&& (2147483647 : Int32)) % (7 : Int32))), .val (.int ((p2 &&& (2147483647 : Int32)) % (7 : Int32))), .val (.ref (P ((p1 &&& (2147483647 : Int32)) % (7 : Int32)))), .val (.ref (P ((p2 &&& (2147483647 : Int32)) % (7 : Int32)))), .val (.ref (P (own_s ((p1 &&& (2147483647 : Int32)) % (7 : Int32))))), .unset, .unset] [(.ref (P ((p2 &&& (2147483647 : Int32)) % (7 : Int32))))])) _
    refine st6 _ ?_
    show Steps p.tables e below (T6.setTop (mkF m 40 #[.val (.int p1), .val (.int p2), .val (.int ((p1 &&& (2147483647 : Int32)) % (7 : Int32))), .val (.int ((p2 &&& (2147483647 : Int32)) % (7 : Int32))), .val (.ref (P ((p1 &&& (2147483647 : Int32)) % (7 : Int32)))), .val (.ref (P ((p2 &&& (2147483647 : Int32)) % (7 : Int32)))), .val (.ref (P (own_s ((p1 &&& (2147483647 : Int32)) % (7 : Int32))))), .unset, .unset] [(.ref (P (own_s ((p2 &&& (2147483647 : Int32)) % (7 : Int32)))))])) _
    refine XS.astore X6.here hx rfl (hb hby at_40) rfl rfl (l' := #[.val (.int p1), .val (.int p2), .val (.int ((p1 &&& (2147483647 : Int32)) % (7 : Int32))), .val (.int ((p2 &&& (2147483647 : Int32)) % (7 : Int32))), .val (.ref (P ((p1 &&& (2147483647 : Int32)) % (7 : Int32)))), .val (.ref (P ((p2 &&& (2147483647 : Int32)) % (7 : Int32)))), .val (.ref (P (own_s ((p1 &&& (2147483647 : Int32)) % (7 : Int32))))), .val (.ref (P (own_s ((p2 &&& (2147483647 : Int32)) % (7 : Int32))))), .unset]) rfl ?_
    show Steps p.tables e below (T6.setTop (mkF m 42 #[.val (.int p1), .val (.int p2), .val (.int ((p1 &&& (2147483647 : Int32)) % (7 : Int32))), .val (.int ((p2 &&& (2147483647 : Int32)) % (7 : Int32))), .val (.ref (P ((p1 &&& (2147483647 : Int32)) % (7 : Int32)))), .val (.ref (P ((p2 &&& (2147483647 : Int32)) % (7 : Int32)))), .val (.ref (P (own_s ((p1 &&& (2147483647 : Int32)) % (7 : Int32))))), .val (.ref (P (own_s ((p2 &&& (2147483647 : Int32)) % (7 : Int32))))), .unset] [])) _
    refine XS.aload X6.here hx rfl (hb hby at_42) rfl rfl ?_
    show Steps p.tables e below (T6.setTop (mkF m 44 #[.val (.int p1), .val (.int p2), .val (.int ((p1 &&& (2147483647 : Int32)) % (7 : Int32))), .val (.int ((p2 &&& (2147483647 : Int32)) % (7 : Int32))), .val (.ref (P ((p1 &&& (2147483647 : Int32)) % (7 : Int32)))), .val (.ref (P ((p2 &&& (2147483647 : Int32)) % (7 : Int32)))), .val (.ref (P (own_s ((p1 &&& (2147483647 : Int32)) % (7 : Int32))))), .val (.ref (P (own_s ((p2 &&& (2147483647 : Int32)) % (7 : Int32))))), .unset] [(.ref (P (own_s ((p1 &&& (2147483647 : Int32)) % (7 : Int32)))))])) _
    refine XS.ifnullNo X6.here hx rfl (hb hby at_44) rfl ?_
    show Steps p.tables e below (T6.setTop (mkF m 47 #[.val (.int p1), .val (.int p2), .val (.int ((p1 &&& (2147483647 : Int32)) % (7 : Int32))), .val (.int ((p2 &&& (2147483647 : Int32)) % (7 : Int32))), .val (.ref (P ((p1 &&& (2147483647 : Int32)) % (7 : Int32)))), .val (.ref (P ((p2 &&& (2147483647 : Int32)) % (7 : Int32)))), .val (.ref (P (own_s ((p1 &&& (2147483647 : Int32)) % (7 : Int32))))), .val (.ref (P (own_s ((p2 &&& (2147483647 : Int32)) % (7 : Int32))))), .unset] [])) _
    refine XS.aload X6.here hx rfl (hb hby at_47) rfl rfl ?_
    show Steps p.tables e below (T6.setTop (mkF m 49 #[.val (.int p1), .val (.int p2), .val (.int ((p1 &&& (2147483647 : Int32)) % (7 : Int32))), .val (.int ((p2 &&& (2147483647 : Int32)) % (7 : Int32))), .val (.ref (P ((p1 &&& (2147483647 : Int32)) % (7 : Int32)))), .val (.ref (P ((p2 &&& (2147483647 : Int32)) % (7 : Int32)))), .val (.ref (P (own_s ((p1 &&& (2147483647 : Int32)) % (7 : Int32))))), .val (.ref (P (own_s ((p2 &&& (2147483647 : Int32)) % (7 : Int32))))), .unset] [(.ref (P (own_s ((p2 &&& (2147483647 : Int32)) % (7 : Int32)))))])) _
    refine XS.ifnullNo X6.here hx rfl (hb hby at_49) rfl ?_
    show Steps p.tables e below (T6.setTop (mkF m 52 #[.val (.int p1), .val (.int p2), .val (.int ((p1 &&& (2147483647 : Int32)) % (7 : Int32))), .val (.int ((p2 &&& (2147483647 : Int32)) % (7 : Int32))), .val (.ref (P ((p1 &&& (2147483647 : Int32)) % (7 : Int32)))), .val (.ref (P ((p2 &&& (2147483647 : Int32)) % (7 : Int32)))), .val (.ref (P (own_s ((p1 &&& (2147483647 : Int32)) % (7 : Int32))))), .val (.ref (P (own_s ((p2 &&& (2147483647 : Int32)) % (7 : Int32))))), .unset] [])) _
    refine XS.iconst X6.here hx rfl (hb hby at_52) ?_
    show Steps p.tables e below (T6.setTop (mkF m 53 #[.val (.int p1), .val (.int p2), .val (.int ((p1 &&& (2147483647 : Int32)) % (7 : Int32))), .val (.int ((p2 &&& (2147483647 : Int32)) % (7 : Int32))), .val (.ref (P ((p1 &&& (2147483647 : Int32)) % (7 : Int32)))), .val (.ref (P ((p2 &&& (2147483647 : Int32)) % (7 : Int32)))), .val (.ref (P (own_s ((p1 &&& (2147483647 : Int32)) % (7 : Int32))))), .val (.ref (P (own_s ((p2 &&& (2147483647 : Int32)) % (7 : Int32))))), .unset] [(.int (1 : Int32))])) _
    refine XS.goto X6.here hx rfl (pc0 := 53) (pc' := 57) rfl (hb hby at_53) (by decide) (by decide) ?_
    show Steps p.tables e below (T6.setTop (mkF m 57 #[.val (.int p1), .val (.int p2), .val (.int ((p1 &&& (2147483647 : Int32)) % (7 : Int32))), .val (.int ((p2 &&& (2147483647 : Int32)) % (7 : Int32))), .val (.ref (P ((p1 &&& (2147483647 : Int32)) % (7 : Int32)))), .val (.ref (P ((p2 &&& (2147483647 : Int32)) % (7 : Int32)))), .val (.ref (P (own_s ((p1 &&& (2147483647 : Int32)) % (7 : Int32))))), .val (.ref (P (own_s ((p2 &&& (2147483647 : Int32)) % (7 : Int32))))), .unset] [(.int (1 : Int32))])) _
    refine XS.istore X6.here hx rfl (hb hby at_57) rfl (l' := #[.val (.int p1), .val (.int p2), .val (.int ((p1 &&& (2147483647 : Int32)) % (7 : Int32))), .val (.int ((p2 &&& (2147483647 : Int32)) % (7 : Int32))), .val (.ref (P ((p1 &&& (2147483647 : Int32)) % (7 : Int32)))), .val (.ref (P ((p2 &&& (2147483647 : Int32)) % (7 : Int32)))), .val (.ref (P (own_s ((p1 &&& (2147483647 : Int32)) % (7 : Int32))))), .val (.ref (P (own_s ((p2 &&& (2147483647 : Int32)) % (7 : Int32))))), .val (.int (1 : Int32))]) rfl ?_
    show Steps p.tables e below (T6.setTop (mkF m 59 #[.val (.int p1), .val (.int p2), .val (.int ((p1 &&& (2147483647 : Int32)) % (7 : Int32))), .val (.int ((p2 &&& (2147483647 : Int32)) % (7 : Int32))), .val (.ref (P ((p1 &&& (2147483647 : Int32)) % (7 : Int32)))), .val (.ref (P ((p2 &&& (2147483647 : Int32)) % (7 : Int32)))), .val (.ref (P (own_s ((p1 &&& (2147483647 : Int32)) % (7 : Int32))))), .val (.ref (P (own_s ((p2 &&& (2147483647 : Int32)) % (7 : Int32))))), .val (.int (1 : Int32))] [])) _
    refine XS.iload X6.here hx rfl (hb hby at_59) rfl ?_
    show Steps p.tables e below (T6.setTop (mkF m 61 #[.val (.int p1), .val (.int p2), .val (.int ((p1 &&& (2147483647 : Int32)) % (7 : Int32))), .val (.int ((p2 &&& (2147483647 : Int32)) % (7 : Int32))), .val (.ref (P ((p1 &&& (2147483647 : Int32)) % (7 : Int32)))), .val (.ref (P ((p2 &&& (2147483647 : Int32)) % (7 : Int32)))), .val (.ref (P (own_s ((p1 &&& (2147483647 : Int32)) % (7 : Int32))))), .val (.ref (P (own_s ((p2 &&& (2147483647 : Int32)) % (7 : Int32))))), .val (.int (1 : Int32))] [(.int (1 : Int32))])) _
    refine XS.ifNo X6.here hx rfl (hb hby at_61) rfl ((if0 _ _).trans (feq hc61).1) ?_
    show Steps p.tables e below (T6.setTop (mkF m 64 #[.val (.int p1), .val (.int p2), .val (.int ((p1 &&& (2147483647 : Int32)) % (7 : Int32))), .val (.int ((p2 &&& (2147483647 : Int32)) % (7 : Int32))), .val (.ref (P ((p1 &&& (2147483647 : Int32)) % (7 : Int32)))), .val (.ref (P ((p2 &&& (2147483647 : Int32)) % (7 : Int32)))), .val (.ref (P (own_s ((p1 &&& (2147483647 : Int32)) % (7 : Int32))))), .val (.ref (P (own_s ((p2 &&& (2147483647 : Int32)) % (7 : Int32))))), .val (.int (1 : Int32))] [])) _
    refine XS.aload X6.here hx rfl (hb hby at_64) rfl rfl ?_
    show Steps p.tables e below (T6.setTop (mkF m 66 #[.val (.int p1), .val (.int p2), .val (.int ((p1 &&& (2147483647 : Int32)) % (7 : Int32))), .val (.int ((p2 &&& (2147483647 : Int32)) % (7 : Int32))), .val (.ref (P ((p1 &&& (2147483647 : Int32)) % (7 : Int32)))), .val (.ref (P ((p2 &&& (2147483647 : Int32)) % (7 : Int32)))), .val (.ref (P (own_s ((p1 &&& (2147483647 : Int32)) % (7 : Int32))))), .val (.ref (P (own_s ((p2 &&& (2147483647 : Int32)) % (7 : Int32))))), .val (.int (1 : Int32))] [(.ref (P (own_s ((p1 &&& (2147483647 : Int32)) % (7 : Int32)))))])) _
    refine st8 _ ?_
    show Steps p.tables e below (T8.setTop (mkF m 69 #[.val (.int p1), .val (.int p2), .val (.int ((p1 &&& (2147483647 : Int32)) % (7 : Int32))), .val (.int ((p2 &&& (2147483647 : Int32)) % (7 : Int32))), .val (.ref (P ((p1 &&& (2147483647 : Int32)) % (7 : Int32)))), .val (.ref (P ((p2 &&& (2147483647 : Int32)) % (7 : Int32)))), .val (.ref (P (own_s ((p1 &&& (2147483647 : Int32)) % (7 : Int32))))), .val (.ref (P (own_s ((p2 &&& (2147483647 : Int32)) % (7 : Int32))))), .val (.int (1 : Int32))] [(.ref (P 6)), (.ref (P (own_s ((p1 &&& (2147483647 : Int32)) % (7 : Int32)))))])) _
    refine Jvm.RoadKit.acmp (g := (mkF m 69 #[.val (.int p1), .val (.int p2), .val (.int ((p1 &&& (2147483647 : Int32)) % (7 : Int32))), .val (.int ((p2 &&& (2147483647 : Int32)) % (7 : Int32))), .val (.ref (P ((p1 &&& (2147483647 : Int32)) % (7 : Int32)))), .val (.ref (P ((p2 &&& (2147483647 : Int32)) % (7 : Int32)))), .val (.ref (P (own_s ((p1 &&& (2147483647 : Int32)) % (7 : Int32))))), .val (.ref (P (own_s ((p2 &&& (2147483647 : Int32)) % (7 : Int32))))), .val (.int (1 : Int32))] [(.ref (P 6)), (.ref (P (own_s ((p1 &&& (2147483647 : Int32)) % (7 : Int32)))))])) X8 hx rfl rfl rfl (pc0 := 69) (pc' := 72) (same := false) rfl (hb hby at_69) rfl (decide_eq_false fun q => ha69 (Value.ref.inj q)) (by decide) (by decide) ?_
    show Steps p.tables e below (T8.setTop (mkF m 72 #[.val (.int p1), .val (.int p2), .val (.int ((p1 &&& (2147483647 : Int32)) % (7 : Int32))), .val (.int ((p2 &&& (2147483647 : Int32)) % (7 : Int32))), .val (.ref (P ((p1 &&& (2147483647 : Int32)) % (7 : Int32)))), .val (.ref (P ((p2 &&& (2147483647 : Int32)) % (7 : Int32)))), .val (.ref (P (own_s ((p1 &&& (2147483647 : Int32)) % (7 : Int32))))), .val (.ref (P (own_s ((p2 &&& (2147483647 : Int32)) % (7 : Int32))))), .val (.int (1 : Int32))] [])) _
    refine XS.aload X8.here hx rfl (hb hby at_72) rfl rfl ?_
    show Steps p.tables e below (T8.setTop (mkF m 74 #[.val (.int p1), .val (.int p2), .val (.int ((p1 &&& (2147483647 : Int32)) % (7 : Int32))), .val (.int ((p2 &&& (2147483647 : Int32)) % (7 : Int32))), .val (.ref (P ((p1 &&& (2147483647 : Int32)) % (7 : Int32)))), .val (.ref (P ((p2 &&& (2147483647 : Int32)) % (7 : Int32)))), .val (.ref (P (own_s ((p1 &&& (2147483647 : Int32)) % (7 : Int32))))), .val (.ref (P (own_s ((p2 &&& (2147483647 : Int32)) % (7 : Int32))))), .val (.int (1 : Int32))] [(.ref (P (own_s ((p2 &&& (2147483647 : Int32)) % (7 : Int32)))))])) _
    refine st9 _ ?_
    show Steps p.tables e below (T9.setTop (mkF m 77 #[.val (.int p1), .val (.int p2), .val (.int ((p1 &&& (2147483647 : Int32)) % (7 : Int32))), .val (.int ((p2 &&& (2147483647 : Int32)) % (7 : Int32))), .val (.ref (P ((p1 &&& (2147483647 : Int32)) % (7 : Int32)))), .val (.ref (P ((p2 &&& (2147483647 : Int32)) % (7 : Int32)))), .val (.ref (P (own_s ((p1 &&& (2147483647 : Int32)) % (7 : Int32))))), .val (.ref (P (own_s ((p2 &&& (2147483647 : Int32)) % (7 : Int32))))), .val (.int (1 : Int32))] [(.ref (P 6)), (.ref (P (own_s ((p2 &&& (2147483647 : Int32)) % (7 : Int32)))))])) _
    refine Jvm.RoadKit.acmp (g := (mkF m 77 #[.val (.int p1), .val (.int p2), .val (.int ((p1 &&& (2147483647 : Int32)) % (7 : Int32))), .val (.int ((p2 &&& (2147483647 : Int32)) % (7 : Int32))), .val (.ref (P ((p1 &&& (2147483647 : Int32)) % (7 : Int32)))), .val (.ref (P ((p2 &&& (2147483647 : Int32)) % (7 : Int32)))), .val (.ref (P (own_s ((p1 &&& (2147483647 : Int32)) % (7 : Int32))))), .val (.ref (P (own_s ((p2 &&& (2147483647 : Int32)) % (7 : Int32))))), .val (.int (1 : Int32))] [(.ref (P 6)), (.ref (P (own_s ((p2 &&& (2147483647 : Int32)) % (7 : Int32)))))])) X9 hx rfl rfl rfl (pc0 := 77) (pc' := 80) (same := false) rfl (hb hby at_77) rfl (decide_eq_false fun q => ha77 (Value.ref.inj q)) (by decide) (by decide) ?_
    show Steps p.tables e below (T9.setTop (mkF m 80 #[.val (.int p1), .val (.int p2), .val (.int ((p1 &&& (2147483647 : Int32)) % (7 : Int32))), .val (.int ((p2 &&& (2147483647 : Int32)) % (7 : Int32))), .val (.ref (P ((p1 &&& (2147483647 : Int32)) % (7 : Int32)))), .val (.ref (P ((p2 &&& (2147483647 : Int32)) % (7 : Int32)))), .val (.ref (P (own_s ((p1 &&& (2147483647 : Int32)) % (7 : Int32))))), .val (.ref (P (own_s ((p2 &&& (2147483647 : Int32)) % (7 : Int32))))), .val (.int (1 : Int32))] [])) _
    refine XS.iconst X9.here hx rfl (hb hby at_80) ?_
    show Steps p.tables e below (T9.setTop (mkF m 81 #[.val (.int p1), .val (.int p2), .val (.int ((p1 &&& (2147483647 : Int32)) % (7 : Int32))), .val (.int ((p2 &&& (2147483647 : Int32)) % (7 : Int32))), .val (.ref (P ((p1 &&& (2147483647 : Int32)) % (7 : Int32)))), .val (.ref (P ((p2 &&& (2147483647 : Int32)) % (7 : Int32)))), .val (.ref (P (own_s ((p1 &&& (2147483647 : Int32)) % (7 : Int32))))), .val (.ref (P (own_s ((p2 &&& (2147483647 : Int32)) % (7 : Int32))))), .val (.int (1 : Int32))] [(.int (1 : Int32))])) _
    refine XS.goto X9.here hx rfl (pc0 := 81) (pc' := 85) rfl (hb hby at_81) (by decide) (by decide) ?_
    show Steps p.tables e below (T9.setTop (mkF m 85 #[.val (.int p1), .val (.int p2), .val (.int ((p1 &&& (2147483647 : Int32)) % (7 : Int32))), .val (.int ((p2 &&& (2147483647 : Int32)) % (7 : Int32))), .val (.ref (P ((p1 &&& (2147483647 : Int32)) % (7 : Int32)))), .val (.ref (P ((p2 &&& (2147483647 : Int32)) % (7 : Int32)))), .val (.ref (P (own_s ((p1 &&& (2147483647 : Int32)) % (7 : Int32))))), .val (.ref (P (own_s ((p2 &&& (2147483647 : Int32)) % (7 : Int32))))), .val (.int (1 : Int32))] [(.int (1 : Int32))])) _
    refine XS.istore X9.here hx rfl (hb hby at_85) rfl (l' := #[.val (.int p1), .val (.int p2), .val (.int ((p1 &&& (2147483647 : Int32)) % (7 : Int32))), .val (.int ((p2 &&& (2147483647 : Int32)) % (7 : Int32))), .val (.ref (P ((p1 &&& (2147483647 : Int32)) % (7 : Int32)))), .val (.ref (P ((p2 &&& (2147483647 : Int32)) % (7 : Int32)))), .val (.ref (P (own_s ((p1 &&& (2147483647 : Int32)) % (7 : Int32))))), .val (.ref (P (own_s ((p2 &&& (2147483647 : Int32)) % (7 : Int32))))), .val (.int (1 : Int32))]) rfl ?_
    show Steps p.tables e below (T9.setTop (mkF m 87 #[.val (.int p1), .val (.int p2), .val (.int ((p1 &&& (2147483647 : Int32)) % (7 : Int32))), .val (.int ((p2 &&& (2147483647 : Int32)) % (7 : Int32))), .val (.ref (P ((p1 &&& (2147483647 : Int32)) % (7 : Int32)))), .val (.ref (P ((p2 &&& (2147483647 : Int32)) % (7 : Int32)))), .val (.ref (P (own_s ((p1 &&& (2147483647 : Int32)) % (7 : Int32))))), .val (.ref (P (own_s ((p2 &&& (2147483647 : Int32)) % (7 : Int32))))), .val (.int (1 : Int32))] [])) _
    refine XS.iload X9.here hx rfl (hb hby at_87) rfl ?_
    show Steps p.tables e below (T9.setTop (mkF m 89 #[.val (.int p1), .val (.int p2), .val (.int ((p1 &&& (2147483647 : Int32)) % (7 : Int32))), .val (.int ((p2 &&& (2147483647 : Int32)) % (7 : Int32))), .val (.ref (P ((p1 &&& (2147483647 : Int32)) % (7 : Int32)))), .val (.ref (P ((p2 &&& (2147483647 : Int32)) % (7 : Int32)))), .val (.ref (P (own_s ((p1 &&& (2147483647 : Int32)) % (7 : Int32))))), .val (.ref (P (own_s ((p2 &&& (2147483647 : Int32)) % (7 : Int32))))), .val (.int (1 : Int32))] [(.int (1 : Int32))])) _
    refine XS.ifNo X9.here hx rfl (hb hby at_89) rfl ((if0 _ _).trans (feq hc89).1) ?_
    show Steps p.tables e below (T9.setTop (mkF m 92 #[.val (.int p1), .val (.int p2), .val (.int ((p1 &&& (2147483647 : Int32)) % (7 : Int32))), .val (.int ((p2 &&& (2147483647 : Int32)) % (7 : Int32))), .val (.ref (P ((p1 &&& (2147483647 : Int32)) % (7 : Int32)))), .val (.ref (P ((p2 &&& (2147483647 : Int32)) % (7 : Int32)))), .val (.ref (P (own_s ((p1 &&& (2147483647 : Int32)) % (7 : Int32))))), .val (.ref (P (own_s ((p2 &&& (2147483647 : Int32)) % (7 : Int32))))), .val (.int (1 : Int32))] [])) _
    refine XS.iloadN X9.here hx rfl (hb hby at_92) rfl ?_
    show Steps p.tables e below (T9.setTop (mkF m 93 #[.val (.int p1), .val (.int p2), .val (.int ((p1 &&& (2147483647 : Int32)) % (7 : Int32))), .val (.int ((p2 &&& (2147483647 : Int32)) % (7 : Int32))), .val (.ref (P ((p1 &&& (2147483647 : Int32)) % (7 : Int32)))), .val (.ref (P ((p2 &&& (2147483647 : Int32)) % (7 : Int32)))), .val (.ref (P (own_s ((p1 &&& (2147483647 : Int32)) % (7 : Int32))))), .val (.ref (P (own_s ((p2 &&& (2147483647 : Int32)) % (7 : Int32))))), .val (.int (1 : Int32))] [(.int ((p1 &&& (2147483647 : Int32)) % (7 : Int32)))])) _
    refine XS.bipush X9.here hx rfl (hb hby at_93) ?_
    show Steps p.tables e below (T9.setTop (mkF m 95 #[.val (.int p1), .val (.int p2), .val (.int ((p1 &&& (2147483647 : Int32)) % (7 : Int32))), .val (.int ((p2 &&& (2147483647 : Int32)) % (7 : Int32))), .val (.ref (P ((p1 &&& (2147483647 : Int32)) % (7 : Int32)))), .val (.ref (P ((p2 &&& (2147483647 : Int32)) % (7 : Int32)))), .val (.ref (P (own_s ((p1 &&& (2147483647 : Int32)) % (7 : Int32))))), .val (.ref (P (own_s ((p2 &&& (2147483647 : Int32)) % (7 : Int32))))), .val (.int (1 : Int32))] [(.int (6 : Int32)), (.int ((p1 &&& (2147483647 : Int32)) % (7 : Int32)))])) _
    refine XS.icmpYes X9.here hx rfl (pc0 := 95) (pc' := 105) rfl (hb hby at_95) rfl (teq hc95).1 (by decide) (by decide) ?_
    show Steps p.tables e below (T9.setTop (mkF m 105 #[.val (.int p1), .val (.int p2), .val (.int ((p1 &&& (2147483647 : Int32)) % (7 : Int32))), .val (.int ((p2 &&& (2147483647 : Int32)) % (7 : Int32))), .val (.ref (P ((p1 &&& (2147483647 : Int32)) % (7 : Int32)))), .val (.ref (P ((p2 &&& (2147483647 : Int32)) % (7 : Int32)))), .val (.ref (P (own_s ((p1 &&& (2147483647 : Int32)) % (7 : Int32))))), .val (.ref (P (own_s ((p2 &&& (2147483647 : Int32)) % (7 : Int32))))), .val (.int (1 : Int32))] [])) _
    refine XS.iconst X9.here hx rfl (hb hby at_105) ?_
    show Steps p.tables e below (T9.setTop (mkF m 106 #[.val (.int p1), .val (.int p2), .val (.int ((p1 &&& (2147483647 : Int32)) % (7 : Int32))), .val (.int ((p2 &&& (2147483647 : Int32)) % (7 : Int32))), .val (.ref (P ((p1 &&& (2147483647 : Int32)) % (7 : Int32)))), .val (.ref (P ((p2 &&& (2147483647 : Int32)) % (7 : Int32)))), .val (.ref (P (own_s ((p1 &&& (2147483647 : Int32)) % (7 : Int32))))), .val (.ref (P (own_s ((p2 &&& (2147483647 : Int32)) % (7 : Int32))))), .val (.int (1 : Int32))] [(.int (1 : Int32))])) _
    refine XS.goto X9.here hx rfl (pc0 := 106) (pc' := 110) rfl (hb hby at_106) (by decide) (by decide) ?_
    show Steps p.tables e below (T9.setTop (mkF m 110 #[.val (.int p1), .val (.int p2), .val (.int ((p1 &&& (2147483647 : Int32)) % (7 : Int32))), .val (.int ((p2 &&& (2147483647 : Int32)) % (7 : Int32))), .val (.ref (P ((p1 &&& (2147483647 : Int32)) % (7 : Int32)))), .val (.ref (P ((p2 &&& (2147483647 : Int32)) % (7 : Int32)))), .val (.ref (P (own_s ((p1 &&& (2147483647 : Int32)) % (7 : Int32))))), .val (.ref (P (own_s ((p2 &&& (2147483647 : Int32)) % (7 : Int32))))), .val (.int (1 : Int32))] [(.int (1 : Int32))])) _
    refine XS.istore X9.here hx rfl (hb hby at_110) rfl (l' := #[.val (.int p1), .val (.int p2), .val (.int ((p1 &&& (2147483647 : Int32)) % (7 : Int32))), .val (.int ((p2 &&& (2147483647 : Int32)) % (7 : Int32))), .val (.ref (P ((p1 &&& (2147483647 : Int32)) % (7 : Int32)))), .val (.ref (P ((p2 &&& (2147483647 : Int32)) % (7 : Int32)))), .val (.ref (P (own_s ((p1 &&& (2147483647 : Int32)) % (7 : Int32))))), .val (.ref (P (own_s ((p2 &&& (2147483647 : Int32)) % (7 : Int32))))), .val (.int (1 : Int32))]) rfl ?_
    show Steps p.tables e below (T9.setTop (mkF m 112 #[.val (.int p1), .val (.int p2), .val (.int ((p1 &&& (2147483647 : Int32)) % (7 : Int32))), .val (.int ((p2 &&& (2147483647 : Int32)) % (7 : Int32))), .val (.ref (P ((p1 &&& (2147483647 : Int32)) % (7 : Int32)))), .val (.ref (P ((p2 &&& (2147483647 : Int32)) % (7 : Int32)))), .val (.ref (P (own_s ((p1 &&& (2147483647 : Int32)) % (7 : Int32))))), .val (.ref (P (own_s ((p2 &&& (2147483647 : Int32)) % (7 : Int32))))), .val (.int (1 : Int32))] [])) _
    refine XS.iload X9.here hx rfl (hb hby at_112) rfl ?_
    show Steps p.tables e below (T9.setTop (mkF m 114 #[.val (.int p1), .val (.int p2), .val (.int ((p1 &&& (2147483647 : Int32)) % (7 : Int32))), .val (.int ((p2 &&& (2147483647 : Int32)) % (7 : Int32))), .val (.ref (P ((p1 &&& (2147483647 : Int32)) % (7 : Int32)))), .val (.ref (P ((p2 &&& (2147483647 : Int32)) % (7 : Int32)))), .val (.ref (P (own_s ((p1 &&& (2147483647 : Int32)) % (7 : Int32))))), .val (.ref (P (own_s ((p2 &&& (2147483647 : Int32)) % (7 : Int32))))), .val (.int (1 : Int32))] [(.int (1 : Int32))])) _
    refine XS.ifNo X9.here hx rfl (hb hby at_114) rfl ((if0 _ _).trans (feq hc114).1) ?_
    show Steps p.tables e below (T9.setTop (mkF m 117 #[.val (.int p1), .val (.int p2), .val (.int ((p1 &&& (2147483647 : Int32)) % (7 : Int32))), .val (.int ((p2 &&& (2147483647 : Int32)) % (7 : Int32))), .val (.ref (P ((p1 &&& (2147483647 : Int32)) % (7 : Int32)))), .val (.ref (P ((p2 &&& (2147483647 : Int32)) % (7 : Int32)))), .val (.ref (P (own_s ((p1 &&& (2147483647 : Int32)) % (7 : Int32))))), .val (.ref (P (own_s ((p2 &&& (2147483647 : Int32)) % (7 : Int32))))), .val (.int (1 : Int32))] [])) _
    refine XS.iloadN X9.here hx rfl (hb hby at_117) rfl ?_
    show Steps p.tables e below (T9.setTop (mkF m 118 #[.val (.int p1), .val (.int p2), .val (.int ((p1 &&& (2147483647 : Int32)) % (7 : Int32))), .val (.int ((p2 &&& (2147483647 : Int32)) % (7 : Int32))), .val (.ref (P ((p1 &&& (2147483647 : Int32)) % (7 : Int32)))), .val (.ref (P ((p2 &&& (2147483647 : Int32)) % (7 : Int32)))), .val (.ref (P (own_s ((p1 &&& (2147483647 : Int32)) % (7 : Int32))))), .val (.ref (P (own_s ((p2 &&& (2147483647 : Int32)) % (7 : Int32))))), .val (.int (1 : Int32))] [(.int ((p2 &&& (2147483647 : Int32)) % (7 : Int32)))])) _
    refine XS.bipush X9.here hx rfl (hb hby at_118) ?_
    show Steps p.tables e below (T9.setTop (mkF m 120 #[.val (.int p1), .val (.int p2), .val (.int ((p1 &&& (2147483647 : Int32)) % (7 : Int32))), .val (.int ((p2 &&& (2147483647 : Int32)) % (7 : Int32))), .val (.ref (P ((p1 &&& (2147483647 : Int32)) % (7 : Int32)))), .val (.ref (P ((p2 &&& (2147483647 : Int32)) % (7 : Int32)))), .val (.ref (P (own_s ((p1 &&& (2147483647 : Int32)) % (7 : Int32))))), .val (.ref (P (own_s ((p2 &&& (2147483647 : Int32)) % (7 : Int32))))), .val (.int (1 : Int32))] [(.int (6 : Int32)), (.int ((p2 &&& (2147483647 : Int32)) % (7 : Int32)))])) _
    refine XS.icmpYes X9.here hx rfl (pc0 := 120) (pc' := 130) rfl (hb hby at_120) rfl (teq hc120).1 (by decide) (by decide) ?_
    show Steps p.tables e below (T9.setTop (mkF m 130 #[.val (.int p1), .val (.int p2), .val (.int ((p1 &&& (2147483647 : Int32)) % (7 : Int32))), .val (.int ((p2 &&& (2147483647 : Int32)) % (7 : Int32))), .val (.ref (P ((p1 &&& (2147483647 : Int32)) % (7 : Int32)))), .val (.ref (P ((p2 &&& (2147483647 : Int32)) % (7 : Int32)))), .val (.ref (P (own_s ((p1 &&& (2147483647 : Int32)) % (7 : Int32))))), .val (.ref (P (own_s ((p2 &&& (2147483647 : Int32)) % (7 : Int32))))), .val (.int (1 : Int32))] [])) _
    refine XS.iconst X9.here hx rfl (hb hby at_130) ?_
    show Steps p.tables e below (T9.setTop (mkF m 131 #[.val (.int p1), .val (.int p2), .val (.int ((p1 &&& (2147483647 : Int32)) % (7 : Int32))), .val (.int ((p2 &&& (2147483647 : Int32)) % (7 : Int32))), .val (.ref (P ((p1 &&& (2147483647 : Int32)) % (7 : Int32)))), .val (.ref (P ((p2 &&& (2147483647 : Int32)) % (7 : Int32)))), .val (.ref (P (own_s ((p1 &&& (2147483647 : Int32)) % (7 : Int32))))), .val (.ref (P (own_s ((p2 &&& (2147483647 : Int32)) % (7 : Int32))))), .val (.int (1 : Int32))] [(.int (1 : Int32))])) _
    refine XS.goto X9.here hx rfl (pc0 := 131) (pc' := 135) rfl (hb hby at_131) (by decide) (by decide) ?_
    show Steps p.tables e below (T9.setTop (mkF m 135 #[.val (.int p1), .val (.int p2), .val (.int ((p1 &&& (2147483647 : Int32)) % (7 : Int32))), .val (.int ((p2 &&& (2147483647 : Int32)) % (7 : Int32))), .val (.ref (P ((p1 &&& (2147483647 : Int32)) % (7 : Int32)))), .val (.ref (P ((p2 &&& (2147483647 : Int32)) % (7 : Int32)))), .val (.ref (P (own_s ((p1 &&& (2147483647 : Int32)) % (7 : Int32))))), .val (.ref (P (own_s ((p2 &&& (2147483647 : Int32)) % (7 : Int32))))), .val (.int (1 : Int32))] [(.int (1 : Int32))])) _
    refine XS.istore X9.here hx rfl (hb hby at_135) rfl (l' := #[.val (.int p1), .val (.int p2), .val (.int ((p1 &&& (2147483647 : Int32)) % (7 : Int32))), .val (.int ((p2 &&& (2147483647 : Int32)) % (7 : Int32))), .val (.ref (P ((p1 &&& (2147483647 : Int32)) % (7 : Int32)))), .val (.ref (P ((p2 &&& (2147483647 : Int32)) % (7 : Int32)))), .val (.ref (P (own_s ((p1 &&& (2147483647 : Int32)) % (7 : Int32))))), .val (.ref (P (own_s ((p2 &&& (2147483647 : Int32)) % (7 : Int32))))), .val (.int (1 : Int32))]) rfl ?_
    show Steps p.tables e below (T9.setTop (mkF m 137 #[.val (.int p1), .val (.int p2), .val (.int ((p1 &&& (2147483647 : Int32)) % (7 : Int32))), .val (.int ((p2 &&& (2147483647 : Int32)) % (7 : Int32))), .val (.ref (P ((p1 &&& (2147483647 : Int32)) % (7 : Int32)))), .val (.ref (P ((p2 &&& (2147483647 : Int32)) % (7 : Int32)))), .val (.ref (P (own_s ((p1 &&& (2147483647 : Int32)) % (7 : Int32))))), .val (.ref (P (own_s ((p2 &&& (2147483647 : Int32)) % (7 : Int32))))), .val (.int (1 : Int32))] [])) _
    refine XS.iload X9.here hx rfl (hb hby at_137) rfl ?_
    show Steps p.tables e below (T9.setTop (mkF m 139 #[.val (.int p1), .val (.int p2), .val (.int ((p1 &&& (2147483647 : Int32)) % (7 : Int32))), .val (.int ((p2 &&& (2147483647 : Int32)) % (7 : Int32))), .val (.ref (P ((p1 &&& (2147483647 : Int32)) % (7 : Int32)))), .val (.ref (P ((p2 &&& (2147483647 : Int32)) % (7 : Int32)))), .val (.ref (P (own_s ((p1 &&& (2147483647 : Int32)) % (7 : Int32))))), .val (.ref (P (own_s ((p2 &&& (2147483647 : Int32)) % (7 : Int32))))), .val (.int (1 : Int32))] [(.int (1 : Int32))])) _
    refine XS.ifNo X9.here hx rfl (hb hby at_139) rfl ((if0 _ _).trans (feq hc139).1) ?_
    show Steps p.tables e below (T9.setTop (mkF m 142 #[.val (.int p1), .val (.int p2), .val (.int ((p1 &&& (2147483647 : Int32)) % (7 : Int32))), .val (.int ((p2 &&& (2147483647 : Int32)) % (7 : Int32))), .val (.ref (P ((p1 &&& (2147483647 : Int32)) % (7 : Int32)))), .val (.ref (P ((p2 &&& (2147483647 : Int32)) % (7 : Int32)))), .val (.ref (P (own_s ((p1 &&& (2147483647 : Int32)) % (7 : Int32))))), .val (.ref (P (own_s ((p2 &&& (2147483647 : Int32)) % (7 : Int32))))), .val (.int (1 : Int32))] [])) _
    refine XS.aload X9.here hx rfl (hb hby at_142) rfl rfl ?_
    show Steps p.tables e below (T9.setTop (mkF m 144 #[.val (.int p1), .val (.int p2), .val (.int ((p1 &&& (2147483647 : Int32)) % (7 : Int32))), .val (.int ((p2 &&& (2147483647 : Int32)) % (7 : Int32))), .val (.ref (P ((p1 &&& (2147483647 : Int32)) % (7 : Int32)))), .val (.ref (P ((p2 &&& (2147483647 : Int32)) % (7 : Int32)))), .val (.ref (P (own_s ((p1 &&& (2147483647 : Int32)) % (7 : Int32))))), .val (.ref (P (own_s ((p2 &&& (2147483647 : Int32)) % (7 : Int32))))), .val (.int (1 : Int32))] [(.ref (P (own_s ((p1 &&& (2147483647 : Int32)) % (7 : Int32)))))])) _
    refine st10 _ ?_
    show Steps p.tables e below (T10.setTop (mkF m 147 #[.val (.int p1), .val (.int p2), .val (.int ((p1 &&& (2147483647 : Int32)) % (7 : Int32))), .val (.int ((p2 &&& (2147483647 : Int32)) % (7 : Int32))), .val (.ref (P ((p1 &&& (2147483647 : Int32)) % (7 : Int32)))), .val (.ref (P ((p2 &&& (2147483647 : Int32)) % (7 : Int32)))), .val (.ref (P (own_s ((p1 &&& (2147483647 : Int32)) % (7 : Int32))))), .val (.ref (P (own_s ((p2 &&& (2147483647 : Int32)) % (7 : Int32))))), .val (.int (1 : Int32))] [(.ref (P (own_s (own_s ((p1 &&& (2147483647 : Int32)) % (7 : Int32))))))])) _
    refine XS.aload X10.here hx rfl (hb hby at_147) rfl rfl ?_
    show Steps p.tables e below (T10.setTop (mkF m 149 #[.val (.int p1), .val (.int p2), .val (.int ((p1 &&& (2147483647 : Int32)) % (7 : Int32))), .val (.int ((p2 &&& (2147483647 : Int32)) % (7 : Int32))), .val (.ref (P ((p1 &&& (2147483647 : Int32)) % (7 : Int32)))), .val (.ref (P ((p2 &&& (2147483647 : Int32)) % (7 : Int32)))), .val (.ref (P (own_s ((p1 &&& (2147483647 : Int32)) % (7 : Int32))))), .val (.ref (P (own_s ((p2 &&& (2147483647 : Int32)) % (7 : Int32))))), .val (.int (1 : Int32))] [(.ref (P (own_s ((p1 &&& (2147483647 : Int32)) % (7 : Int32))))), (.ref (P (own_s (own_s ((p1 &&& (2147483647 : Int32)) % (7 : Int32))))))])) _
    refine Jvm.RoadKit.acmp (g := (mkF m 149 #[.val (.int p1), .val (.int p2), .val (.int ((p1 &&& (2147483647 : Int32)) % (7 : Int32))), .val (.int ((p2 &&& (2147483647 : Int32)) % (7 : Int32))), .val (.ref (P ((p1 &&& (2147483647 : Int32)) % (7 : Int32)))), .val (.ref (P ((p2 &&& (2147483647 : Int32)) % (7 : Int32)))), .val (.ref (P (own_s ((p1 &&& (2147483647 : Int32)) % (7 : Int32))))), .val (.ref (P (own_s ((p2 &&& (2147483647 : Int32)) % (7 : Int32))))), .val (.int (1 : Int32))] [(.ref (P (own_s ((p1 &&& (2147483647 : Int32)) % (7 : Int32))))), (.ref (P (own_s (own_s ((p1 &&& (2147483647 : Int32)) % (7 : Int32))))))])) X10 hx rfl rfl rfl (pc0 := 149) (pc' := 152) (same := true) rfl (hb hby at_149) rfl (decide_eq_true (congrArg Value.ref ha149)) (by decide) (by decide) ?_
    show Steps p.tables e below (T10.setTop (mkF m 152 #[.val (.int p1), .val (.int p2), .val (.int ((p1 &&& (2147483647 : Int32)) % (7 : Int32))), .val (.int ((p2 &&& (2147483647 : Int32)) % (7 : Int32))), .val (.ref (P ((p1 &&& (2147483647 : Int32)) % (7 : Int32)))), .val (.ref (P ((p2 &&& (2147483647 : Int32)) % (7 : Int32)))), .val (.ref (P (own_s ((p1 &&& (2147483647 : Int32)) % (7 : Int32))))), .val (.ref (P (own_s ((p2 &&& (2147483647 : Int32)) % (7 : Int32))))), .val (.int (1 : Int32))] [])) _
    refine XS.iconst X10.here hx rfl (hb hby at_152) ?_
    show Steps p.tables e below (T10.setTop (mkF m 153 #[.val (.int p1), .val (.int p2), .val (.int ((p1 &&& (2147483647 : Int32)) % (7 : Int32))), .val (.int ((p2 &&& (2147483647 : Int32)) % (7 : Int32))), .val (.ref (P ((p1 &&& (2147483647 : Int32)) % (7 : Int32)))), .val (.ref (P ((p2 &&& (2147483647 : Int32)) % (7 : Int32)))), .val (.ref (P (own_s ((p1 &&& (2147483647 : Int32)) % (7 : Int32))))), .val (.ref (P (own_s ((p2 &&& (2147483647 : Int32)) % (7 : Int32))))), .val (.int (1 : Int32))] [(.int (1 : Int32))])) _
    refine XS.goto X10.here hx rfl (pc0 := 153) (pc' := 157) rfl (hb hby at_153) (by decide) (by decide) ?_
    show Steps p.tables e below (T10.setTop (mkF m 157 #[.val (.int p1), .val (.int p2), .val (.int ((p1 &&& (2147483647 : Int32)) % (7 : Int32))), .val (.int ((p2 &&& (2147483647 : Int32)) % (7 : Int32))), .val (.ref (P ((p1 &&& (2147483647 : Int32)) % (7 : Int32)))), .val (.ref (P ((p2 &&& (2147483647 : Int32)) % (7 : Int32)))), .val (.ref (P (own_s ((p1 &&& (2147483647 : Int32)) % (7 : Int32))))), .val (.ref (P (own_s ((p2 &&& (2147483647 : Int32)) % (7 : Int32))))), .val (.int (1 : Int32))] [(.int (1 : Int32))])) _
    refine XS.istore X10.here hx rfl (hb hby at_157) rfl (l' := #[.val (.int p1), .val (.int p2), .val (.int ((p1 &&& (2147483647 : Int32)) % (7 : Int32))), .val (.int ((p2 &&& (2147483647 : Int32)) % (7 : Int32))), .val (.ref (P ((p1 &&& (2147483647 : Int32)) % (7 : Int32)))), .val (.ref (P ((p2 &&& (2147483647 : Int32)) % (7 : Int32)))), .val (.ref (P (own_s ((p1 &&& (2147483647 : Int32)) % (7 : Int32))))), .val (.ref (P (own_s ((p2 &&& (2147483647 : Int32)) % (7 : Int32))))), .val (.int (1 : Int32))]) rfl ?_
    show Steps p.tables e below (T10.setTop (mkF m 159 #[.val (.int p1), .val (.int p2), .val (.int ((p1 &&& (2147483647 : Int32)) % (7 : Int32))), .val (.int ((p2 &&& (2147483647 : Int32)) % (7 : Int32))), .val (.ref (P ((p1 &&& (2147483647 : Int32)) % (7 : Int32)))), .val (.ref (P ((p2 &&& (2147483647 : Int32)) % (7 : Int32)))), .val (.ref (P (own_s ((p1 &&& (2147483647 : Int32)) % (7 : Int32))))), .val (.ref (P (own_s ((p2 &&& (2147483647 : Int32)) % (7 : Int32))))), .val (.int (1 : Int32))] [])) _
    refine XS.iload X10.here hx rfl (hb hby at_159) rfl ?_
    show Steps p.tables e below (T10.setTop (mkF m 161 #[.val (.int p1), .val (.int p2), .val (.int ((p1 &&& (2147483647 : Int32)) % (7 : Int32))), .val (.int ((p2 &&& (2147483647 : Int32)) % (7 : Int32))), .val (.ref (P ((p1 &&& (2147483647 : Int32)) % (7 : Int32)))), .val (.ref (P ((p2 &&& (2147483647 : Int32)) % (7 : Int32)))), .val (.ref (P (own_s ((p1 &&& (2147483647 : Int32)) % (7 : Int32))))), .val (.ref (P (own_s ((p2 &&& (2147483647 : Int32)) % (7 : Int32))))), .val (.int (1 : Int32))] [(.int (1 : Int32))])) _
    refine XS.ifNo X10.here hx rfl (hb hby at_161) rfl ((if0 _ _).trans (feq hc161).1) ?_
    show Steps p.tables e below (T10.setTop (mkF m 164 #[.val (.int p1), .val (.int p2), .val (.int ((p1 &&& (2147483647 : Int32)) % (7 : Int32))), .val (.int ((p2 &&& (2147483647 : Int32)) % (7 : Int32))), .val (.ref (P ((p1 &&& (2147483647 : Int32)) % (7 : Int32)))), .val (.ref (P ((p2 &&& (2147483647 : Int32)) % (7 : Int32)))), .val (.ref (P (own_s ((p1 &&& (2147483647 : Int32)) % (7 : Int32))))), .val (.ref (P (own_s ((p2 &&& (2147483647 : Int32)) % (7 : Int32))))), .val (.int (1 : Int32))] [])) _
    refine XS.iloadN X10.here hx rfl (hb hby at_164) rfl ?_
    show Steps p.tables e below (T10.setTop (mkF m 165 #[.val (.int p1), .val (.int p2), .val (.int ((p1 &&& (2147483647 : Int32)) % (7 : Int32))), .val (.int ((p2 &&& (2147483647 : Int32)) % (7 : Int32))), .val (.ref (P ((p1 &&& (2147483647 : Int32)) % (7 : Int32)))), .val (.ref (P ((p2 &&& (2147483647 : Int32)) % (7 : Int32)))), .val (.ref (P (own_s ((p1 &&& (2147483647 : Int32)) % (7 : Int32))))), .val (.ref (P (own_s ((p2 &&& (2147483647 : Int32)) % (7 : Int32))))), .val (.int (1 : Int32))] [(.int ((p1 &&& (2147483647 : Int32)) % (7 : Int32)))])) _
    refine XS.bipush X10.here hx rfl (hb hby at_165) ?_
    show Steps p.tables e below (T10.setTop (mkF m 167 #[.val (.int p1), .val (.int p2), .val (.int ((p1 &&& (2147483647 : Int32)) % (7 : Int32))), .val (.int ((p2 &&& (2147483647 : Int32)) % (7 : Int32))), .val (.ref (P ((p1 &&& (2147483647 : Int32)) % (7 : Int32)))), .val (.ref (P ((p2 &&& (2147483647 : Int32)) % (7 : Int32)))), .val (.ref (P (own_s ((p1 &&& (2147483647 : Int32)) % (7 : Int32))))), .val (.ref (P (own_s ((p2 &&& (2147483647 : Int32)) % (7 : Int32))))), .val (.int (1 : Int32))] [(.int (6 : Int32)), (.int ((p1 &&& (2147483647 : Int32)) % (7 : Int32)))])) _
    refine XS.icmpNo X10.here hx rfl (hb hby at_167) rfl (teq hc167).2 ?_
    show Steps p.tables e below (T10.setTop (mkF m 170 #[.val (.int p1), .val (.int p2), .val (.int ((p1 &&& (2147483647 : Int32)) % (7 : Int32))), .val (.int ((p2 &&& (2147483647 : Int32)) % (7 : Int32))), .val (.ref (P ((p1 &&& (2147483647 : Int32)) % (7 : Int32)))), .val (.ref (P ((p2 &&& (2147483647 : Int32)) % (7 : Int32)))), .val (.ref (P (own_s ((p1 &&& (2147483647 : Int32)) % (7 : Int32))))), .val (.ref (P (own_s ((p2 &&& (2147483647 : Int32)) % (7 : Int32))))), .val (.int (1 : Int32))] [])) _
    refine XS.aload X10.here hx rfl (hb hby at_170) rfl rfl ?_
    show Steps p.tables e below (T10.setTop (mkF m 172 #[.val (.int p1), .val (.int p2), .val (.int ((p1 &&& (2147483647 : Int32)) % (7 : Int32))), .val (.int ((p2 &&& (2147483647 : Int32)) % (7 : Int32))), .val (.ref (P ((p1 &&& (2147483647 : Int32)) % (7 : Int32)))), .val (.ref (P ((p2 &&& (2147483647 : Int32)) % (7 : Int32)))), .val (.ref (P (own_s ((p1 &&& (2147483647 : Int32)) % (7 : Int32))))), .val (.ref (P (own_s ((p2 &&& (2147483647 : Int32)) % (7 : Int32))))), .val (.int (1 : Int32))] [(.ref (P (own_s ((p1 &&& (2147483647 : Int32)) % (7 : Int32)))))])) _
    refine st12 _ ?_
    show Steps p.tables e below (T12.setTop (mkF m 175 #[.val (.int p1), .val (.int p2), .val (.int ((p1 &&& (2147483647 : Int32)) % (7 : Int32))), .val (.int ((p2 &&& (2147483647 : Int32)) % (7 : Int32))), .val (.ref (P ((p1 &&& (2147483647 : Int32)) % (7 : Int32)))), .val (.ref (P ((p2 &&& (2147483647 : Int32)) % (7 : Int32)))), .val (.ref (P (own_s ((p1 &&& (2147483647 : Int32)) % (7 : Int32))))), .val (.ref (P (own_s ((p2 &&& (2147483647 : Int32)) % (7 : Int32))))), .val (.int (1 : Int32))] [(.ref (P 5)), (.ref (P (own_s ((p1 &&& (2147483647 : Int32)) % (7 : Int32)))))])) _
    refine st13 _ ?_
    show Steps p.tables e below (T13.setTop (mkF m 178 #[.val (.int p1), .val (.int p2), .val (.int ((p1 &&& (2147483647 : Int32)) % (7 : Int32))), .val (.int ((p2 &&& (2147483647 : Int32)) % (7 : Int32))), .val (.ref (P ((p1 &&& (2147483647 : Int32)) % (7 : Int32)))), .val (.ref (P ((p2 &&& (2147483647 : Int32)) % (7 : Int32)))), .val (.ref (P (own_s ((p1 &&& (2147483647 : Int32)) % (7 : Int32))))), .val (.ref (P (own_s ((p2 &&& (2147483647 : Int32)) % (7 : Int32))))), .val (.int (1 : Int32))] [(.ref (P (own_s 5))), (.ref (P (own_s ((p1 &&& (2147483647 : Int32)) % (7 : Int32)))))])) _
    refine Jvm.RoadKit.acmp (g := (mkF m 178 #[.val (.int p1), .val (.int p2), .val (.int ((p1 &&& (2147483647 : Int32)) % (7 : Int32))), .val (.int ((p2 &&& (2147483647 : Int32)) % (7 : Int32))), .val (.ref (P ((p1 &&& (2147483647 : Int32)) % (7 : Int32)))), .val (.ref (P ((p2 &&& (2147483647 : Int32)) % (7 : Int32)))), .val (.ref (P (own_s ((p1 &&& (2147483647 : Int32)) % (7 : Int32))))), .val (.ref (P (own_s ((p2 &&& (2147483647 : Int32)) % (7 : Int32))))), .val (.int (1 : Int32))] [(.ref (P (own_s 5))), (.ref (P (own_s ((p1 &&& (2147483647 : Int32)) % (7 : Int32)))))])) X13 hx rfl rfl rfl (pc0 := 178) (pc' := 181) (same := true) rfl (hb hby at_178) rfl (decide_eq_true (congrArg Value.ref ha178)) (by decide) (by decide) ?_
    show Steps p.tables e below (T13.setTop (mkF m 181 #[.val (.int p1), .val (.int p2), .val (.int ((p1 &&& (2147483647 : Int32)) % (7 : Int32))), .val (.int ((p2 &&& (2147483647 : Int32)) % (7 : Int32))), .val (.ref (P ((p1 &&& (2147483647 : Int32)) % (7 : Int32)))), .val (.ref (P ((p2 &&& (2147483647 : Int32)) % (7 : Int32)))), .val (.ref (P (own_s ((p1 &&& (2147483647 : Int32)) % (7 : Int32))))), .val (.ref (P (own_s ((p2 &&& (2147483647 : Int32)) % (7 : Int32))))), .val (.int (1 : Int32))] [])) _
    refine XS.iconst X13.here hx rfl (hb hby at_181) ?_
    show Steps p.tables e below (T13.setTop (mkF m 182 #[.val (.int p1), .val (.int p2), .val (.int ((p1 &&& (2147483647 : Int32)) % (7 : Int32))), .val (.int ((p2 &&& (2147483647 : Int32)) % (7 : Int32))), .val (.ref (P ((p1 &&& (2147483647 : Int32)) % (7 : Int32)))), .val (.ref (P ((p2 &&& (2147483647 : Int32)) % (7 : Int32)))), .val (.ref (P (own_s ((p1 &&& (2147483647 : Int32)) % (7 : Int32))))), .val (.ref (P (own_s ((p2 &&& (2147483647 : Int32)) % (7 : Int32))))), .val (.int (1 : Int32))] [(.int (1 : Int32))])) _
    refine XS.goto X13.here hx rfl (pc0 := 182) (pc' := 186) rfl (hb hby at_182) (by decide) (by decide) ?_
    show Steps p.tables e below (T13.setTop (mkF m 186 #[.val (.int p1), .val (.int p2), .val (.int ((p1 &&& (2147483647 : Int32)) % (7 : Int32))), .val (.int ((p2 &&& (2147483647 : Int32)) % (7 : Int32))), .val (.ref (P ((p1 &&& (2147483647 : Int32)) % (7 : Int32)))), .val (.ref (P ((p2 &&& (2147483647 : Int32)) % (7 : Int32)))), .val (.ref (P (own_s ((p1 &&& (2147483647 : Int32)) % (7 : Int32))))), .val (.ref (P (own_s ((p2 &&& (2147483647 : Int32)) % (7 : Int32))))), .val (.int (1 : Int32))] [(.int (1 : Int32))])) _
    refine XS.istore X13.here hx rfl (hb hby at_186) rfl (l' := #[.val (.int p1), .val (.int p2), .val (.int ((p1 &&& (2147483647 : Int32)) % (7 : Int32))), .val (.int ((p2 &&& (2147483647 : Int32)) % (7 : Int32))), .val (.ref (P ((p1 &&& (2147483647 : Int32)) % (7 : Int32)))), .val (.ref (P ((p2 &&& (2147483647 : Int32)) % (7 : Int32)))), .val (.ref (P (own_s ((p1 &&& (2147483647 : Int32)) % (7 : Int32))))), .val (.ref (P (own_s ((p2 &&& (2147483647 : Int32)) % (7 : Int32))))), .val (.int (1 : Int32))]) rfl ?_
    show Steps p.tables e below (T13.setTop (mkF m 188 #[.val (.int p1), .val (.int p2), .val (.int ((p1 &&& (2147483647 : Int32)) % (7 : Int32))), .val (.int ((p2 &&& (2147483647 : Int32)) % (7 : Int32))), .val (.ref (P ((p1 &&& (2147483647 : Int32)) % (7 : Int32)))), .val (.ref (P ((p2 &&& (2147483647 : Int32)) % (7 : Int32)))), .val (.ref (P (own_s ((p1 &&& (2147483647 : Int32)) % (7 : Int32))))), .val (.ref (P (own_s ((p2 &&& (2147483647 : Int32)) % (7 : Int32))))), .val (.int (1 : Int32))] [])) _
    refine XS.iload X13.here hx rfl (hb hby at_188) rfl ?_
    show Steps p.tables e below (T13.setTop (mkF m 190 #[.val (.int p1), .val (.int p2), .val (.int ((p1 &&& (2147483647 : Int32)) % (7 : Int32))), .val (.int ((p2 &&& (2147483647 : Int32)) % (7 : Int32))), .val (.ref (P ((p1 &&& (2147483647 : Int32)) % (7 : Int32)))), .val (.ref (P ((p2 &&& (2147483647 : Int32)) % (7 : Int32)))), .val (.ref (P (own_s ((p1 &&& (2147483647 : Int32)) % (7 : Int32))))), .val (.ref (P (own_s ((p2 &&& (2147483647 : Int32)) % (7 : Int32))))), .val (.int (1 : Int32))] [(.int (1 : Int32))])) _
    refine XS.ifNo X13.here hx rfl (hb hby at_190) rfl ((if0 _ _).trans (feq hc190).1) ?_
    show Steps p.tables e below (T13.setTop (mkF m 193 #[.val (.int p1), .val (.int p2), .val (.int ((p1 &&& (2147483647 : Int32)) % (7 : Int32))), .val (.int ((p2 &&& (2147483647 : Int32)) % (7 : Int32))), .val (.ref (P ((p1 &&& (2147483647 : Int32)) % (7 : Int32)))), .val (.ref (P ((p2 &&& (2147483647 : Int32)) % (7 : Int32)))), .val (.ref (P (own_s ((p1 &&& (2147483647 : Int32)) % (7 : Int32))))), .val (.ref (P (own_s ((p2 &&& (2147483647 : Int32)) % (7 : Int32))))), .val (.int (1 : Int32))] [])) _
    refine XS.iloadN X13.here hx rfl (hb hby at_193) rfl ?_
    show Steps p.tables e below (T13.setTop (mkF m 194 #[.val (.int p1), .val (.int p2), .val (.int ((p1 &&& (2147483647 : Int32)) % (7 : Int32))), .val (.int ((p2 &&& (2147483647 : Int32)) % (7 : Int32))), .val (.ref (P ((p1 &&& (2147483647 : Int32)) % (7 : Int32)))), .val (.ref (P ((p2 &&& (2147483647 : Int32)) % (7 : Int32)))), .val (.ref (P (own_s ((p1 &&& (2147483647 : Int32)) % (7 : Int32))))), .val (.ref (P (own_s ((p2 &&& (2147483647 : Int32)) % (7 : Int32))))), .val (.int (1 : Int32))] [(.int ((p1 &&& (2147483647 : Int32)) % (7 : Int32)))])) _
    refine XS.iloadN X13.here hx rfl (hb hby at_194) rfl ?_
    show Steps p.tables e below (T13.setTop (mkF m 195 #[.val (.int p1), .val (.int p2), .val (.int ((p1 &&& (2147483647 : Int32)) % (7 : Int32))), .val (.int ((p2 &&& (2147483647 : Int32)) % (7 : Int32))), .val (.ref (P ((p1 &&& (2147483647 : Int32)) % (7 : Int32)))), .val (.ref (P ((p2 &&& (2147483647 : Int32)) % (7 : Int32)))), .val (.ref (P (own_s ((p1 &&& (2147483647 : Int32)) % (7 : Int32))))), .val (.ref (P (own_s ((p2 &&& (2147483647 : Int32)) % (7 : Int32))))), .val (.int (1 : Int32))] [(.int ((p2 &&& (2147483647 : Int32)) % (7 : Int32))), (.int ((p1 &&& (2147483647 : Int32)) % (7 : Int32)))])) _
    refine XS.icmpNo X13.here hx rfl (hb hby at_195) rfl (flt hc195).2.2.1 ?_
    show Steps p.tables e below (T13.setTop (mkF m 198 #[.val (.int p1), .val (.int p2), .val (.int ((p1 &&& (2147483647 : Int32)) % (7 : Int32))), .val (.int ((p2 &&& (2147483647 : Int32)) % (7 : Int32))), .val (.ref (P ((p1 &&& (2147483647 : Int32)) % (7 : Int32)))), .val (.ref (P ((p2 &&& (2147483647 : Int32)) % (7 : Int32)))), .val (.ref (P (own_s ((p1 &&& (2147483647 : Int32)) % (7 : Int32))))), .val (.ref (P (own_s ((p2 &&& (2147483647 : Int32)) % (7 : Int32))))), .val (.int (1 : Int32))] [])) _
    refine XS.aload X13.here hx rfl (hb hby at_198) rfl rfl ?_
    show Steps p.tables e below (T13.setTop (mkF m 200 #[.val (.int p1), .val (.int p2), .val (.int ((p1 &&& (2147483647 : Int32)) % (7 : Int32))), .val (.int ((p2 &&& (2147483647 : Int32)) % (7 : Int32))), .val (.ref (P ((p1 &&& (2147483647 : Int32)) % (7 : Int32)))), .val (.ref (P ((p2 &&& (2147483647 : Int32)) % (7 : Int32)))), .val (.ref (P (own_s ((p1 &&& (2147483647 : Int32)) % (7 : Int32))))), .val (.ref (P (own_s ((p2 &&& (2147483647 : Int32)) % (7 : Int32))))), .val (.int (1 : Int32))] [(.ref (P (own_s ((p1 &&& (2147483647 : Int32)) % (7 : Int32)))))])) _
    refine st14 _ ?_
    show Steps p.tables e below (T14.setTop (mkF m 203 #[.val (.int p1), .val (.int p2), .val (.int ((p1 &&& (2147483647 : Int32)) % (7 : Int32))), .val (.int ((p2 &&& (2147483647 : Int32)) % (7 : Int32))), .val (.ref (P ((p1 &&& (2147483647 : Int32)) % (7 : Int32)))), .val (.ref (P ((p2 &&& (2147483647 : Int32)) % (7 : Int32)))), .val (.ref (P (own_s ((p1 &&& (2147483647 : Int32)) % (7 : Int32))))), .val (.ref (P (own_s ((p2 &&& (2147483647 : Int32)) % (7 : Int32))))), .val (.int (1 : Int32))] [(.int (own_s ((p1 &&& (2147483647 : Int32)) % (7 : Int32))))])) _
    refine XS.aload X14.here hx rfl (hb hby at_203) rfl rfl ?_
    show Steps p.tables e below (T14.setTop (mkF m 205 #[.val (.int p1), .val (.int p2), .val (.int ((p1 &&& (2147483647 : Int32)) % (7 : Int32))), .val (.int ((p2 &&& (2147483647 : Int32)) % (7 : Int32))), .val (.ref (P ((p1 &&& (2147483647 : Int32)) % (7 : Int32)))), .val (.ref (P ((p2 &&& (2147483647 : Int32)) % (7 : Int32)))), .val (.ref (P (own_s ((p1 &&& (2147483647 : Int32)) % (7 : Int32))))), .val (.ref (P (own_s ((p2 &&& (2147483647 : Int32)) % (7 : Int32))))), .val (.int (1 : Int32))] [(.ref (P (own_s ((p2 &&& (2147483647 : Int32)) % (7 : Int32))))), (.int (own_s ((p1 &&& (2147483647 : Int32)) % (7 : Int32))))])) _
    refine st15 _ ?_
    show Steps p.tables e below (T15.setTop (mkF m 208 #[.val (.int p1), .val (.int p2), .val (.int ((p1 &&& (2147483647 : Int32)) % (7 : Int32))), .val (.int ((p2 &&& (2147483647 : Int32)) % (7 : Int32))), .val (.ref (P ((p1 &&& (2147483647 : Int32)) % (7 : Int32)))), .val (.ref (P ((p2 &&& (2147483647 : Int32)) % (7 : Int32)))), .val (.ref (P (own_s ((p1 &&& (2147483647 : Int32)) % (7 : Int32))))), .val (.ref (P (own_s ((p2 &&& (2147483647 : Int32)) % (7 : Int32))))), .val (.int (1 : Int32))] [(.int (own_s ((p2 &&& (2147483647 : Int32)) % (7 : Int32)))), (.int (own_s ((p1 &&& (2147483647 : Int32)) % (7 : Int32))))])) _
    refine XS.icmpNo X15.here hx rfl (hb hby at_208) rfl (flt (own_mono (own_in7 p1) (own_in7 p2) hc195 : ¬ ((own_s ((p2 &&& (2147483647 : Int32)) % (7 : Int32))) < (own_s ((p1 &&& (2147483647 : Int32)) % (7 : Int32)))))).2.2.1 ?_
    show Steps p.tables e below (T15.setTop (mkF m 211 #[.val (.int p1), .val (.int p2), .val (.int ((p1 &&& (2147483647 : Int32)) % (7 : Int32))), .val (.int ((p2 &&& (2147483647 : Int32)) % (7 : Int32))), .val (.ref (P ((p1 &&& (2147483647 : Int32)) % (7 : Int32)))), .val (.ref (P ((p2 &&& (2147483647 : Int32)) % (7 : Int32)))), .val (.ref (P (own_s ((p1 &&& (2147483647 : Int32)) % (7 : Int32))))), .val (.ref (P (own_s ((p2 &&& (2147483647 : Int32)) % (7 : Int32))))), .val (.int (1 : Int32))] [])) _
    refine XS.iconst X15.here hx rfl (hb hby at_211) ?_
    show Steps p.tables e below (T15.setTop (mkF m 212 #[.val (.int p1), .val (.int p2), .val (.int ((p1 &&& (2147483647 : Int32)) % (7 : Int32))), .val (.int ((p2 &&& (2147483647 : Int32)) % (7 : Int32))), .val (.ref (P ((p1 &&& (2147483647 : Int32)) % (7 : Int32)))), .val (.ref (P ((p2 &&& (2147483647 : Int32)) % (7 : Int32)))), .val (.ref (P (own_s ((p1 &&& (2147483647 : Int32)) % (7 : Int32))))), .val (.ref (P (own_s ((p2 &&& (2147483647 : Int32)) % (7 : Int32))))), .val (.int (1 : Int32))] [(.int (1 : Int32))])) _
    refine XS.goto X15.here hx rfl (pc0 := 212) (pc' := 216) rfl (hb hby at_212) (by decide) (by decide) ?_
    show Steps p.tables e below (T15.setTop (mkF m 216 #[.val (.int p1), .val (.int p2), .val (.int ((p1 &&& (2147483647 : Int32)) % (7 : Int32))), .val (.int ((p2 &&& (2147483647 : Int32)) % (7 : Int32))), .val (.ref (P ((p1 &&& (2147483647 : Int32)) % (7 : Int32)))), .val (.ref (P ((p2 &&& (2147483647 : Int32)) % (7 : Int32)))), .val (.ref (P (own_s ((p1 &&& (2147483647 : Int32)) % (7 : Int32))))), .val (.ref (P (own_s ((p2 &&& (2147483647 : Int32)) % (7 : Int32))))), .val (.int (1 : Int32))] [(.int (1 : Int32))])) _
    refine XS.istore X15.here hx rfl (hb hby at_216) rfl (l' := #[.val (.int p1), .val (.int p2), .val (.int ((p1 &&& (2147483647 : Int32)) % (7 : Int32))), .val (.int ((p2 &&& (2147483647 : Int32)) % (7 : Int32))), .val (.ref (P ((p1 &&& (2147483647 : Int32)) % (7 : Int32)))), .val (.ref (P ((p2 &&& (2147483647 : Int32)) % (7 : Int32)))), .val (.ref (P (own_s ((p1 &&& (2147483647 : Int32)) % (7 : Int32))))), .val (.ref (P (own_s ((p2 &&& (2147483647 : Int32)) % (7 : Int32))))), .val (.int (1 : Int32))]) rfl ?_
    show Steps p.tables e below (T15.setTop (mkF m 218 #[.val (.int p1), .val (.int p2), .val (.int ((p1 &&& (2147483647 : Int32)) % (7 : Int32))), .val (.int ((p2 &&& (2147483647 : Int32)) % (7 : Int32))), .val (.ref (P ((p1 &&& (2147483647 : Int32)) % (7 : Int32)))), .val (.ref (P ((p2 &&& (2147483647 : Int32)) % (7 : Int32)))), .val (.ref (P (own_s ((p1 &&& (2147483647 : Int32)) % (7 : Int32))))), .val (.ref (P (own_s ((p2 &&& (2147483647 : Int32)) % (7 : Int32))))), .val (.int (1 : Int32))] [])) _
    refine XS.iload X15.here hx rfl (hb hby at_218) rfl ?_
    show Steps p.tables e below (T15.setTop (mkF m 220 #[.val (.int p1), .val (.int p2), .val (.int ((p1 &&& (2147483647 : Int32)) % (7 : Int32))), .val (.int ((p2 &&& (2147483647 : Int32)) % (7 : Int32))), .val (.ref (P ((p1 &&& (2147483647 : Int32)) % (7 : Int32)))), .val (.ref (P ((p2 &&& (2147483647 : Int32)) % (7 : Int32)))), .val (.ref (P (own_s ((p1 &&& (2147483647 : Int32)) % (7 : Int32))))), .val (.ref (P (own_s ((p2 &&& (2147483647 : Int32)) % (7 : Int32))))), .val (.int (1 : Int32))] [(.int (1 : Int32))])) _
    exact retN X15 hx (t := .boolean) Bd.returns (by simp) (hb hby at_220) hr
  · show Qlaw n0 _ _
    exact ⟨rfl, N15⟩
set_option maxRecDepth 65536 in
set_option maxHeartbeats 40000000 in
theorem rm0B (l : Launch) (Z : State) (a0 : Array Value) (hw : ∀ d ∈ tables_1, d.before a0 Z = true) (ws : List Jvm.Cond) (p1 : Int32) (p2 : Int32) (P : Int32 → Addr) (h0 : Heap) (n0 : Nat) (Z0 : n0 ≤ h0.size) (K : Known Z h0 P) (S_MILLISECOND : Sta Z h0 "com/example/numerand/numerand/engine/Precision" "MILLISECOND" "Lcom/example/numerand/numerand/engine/Precision;" (.ref (P 6))) (S_SECOND : Sta Z h0 "com/example/numerand/numerand/engine/Precision" "SECOND" "Lcom/example/numerand/numerand/engine/Precision;" (.ref (P 5))) (hc61 : ¬ ((1 : Int32) = (0 : Int32))) (ha69 : ¬ ((P (own_s ((p1 &&& (2147483647 : Int32)) % (7 : Int32)))) = (P 6))) (ha77 : ¬ ((P (own_s ((p2 &&& (2147483647 : Int32)) % (7 : Int32)))) = (P 6))) (hc89 : ¬ ((1 : Int32) = (0 : Int32))) (hc95 : ((p1 &&& (2147483647 : Int32)) % (7 : Int32)) = (6 : Int32)) (hc114 : ¬ ((1 : Int32) = (0 : Int32))) (hc120 : ¬ (((p2 &&& (2147483647 : Int32)) % (7 : Int32)) = (6 : Int32))) (ha127 : (P (own_s ((p2 &&& (2147483647 : Int32)) % (7 : Int32)))) = (P ((p2 &&& (2147483647 : Int32)) % (7 : Int32)))) (hc139 : ¬ ((1 : Int32) = (0 : Int32))) (ha149 : (P (own_s (own_s ((p1 &&& (2147483647 : Int32)) % (7 : Int32))))) = (P (own_s ((p1 &&& (2147483647 : Int32)) % (7 : Int32))))) (hc161 : ¬ ((1 : Int32) = (0 : Int32))) (hc167 : ((p1 &&& (2147483647 : Int32)) % (7 : Int32)) = (6 : Int32)) (ha178 : (P (own_s ((p1 &&& (2147483647 : Int32)) % (7 : Int32)))) = (P (own_s 5))) (hc190 : ¬ ((1 : Int32) = (0 : Int32))) (hc195 : ((p2 &&& (2147483647 : Int32)) % (7 : Int32)) < ((p1 &&& (2147483647 : Int32)) % (7 : Int32))) :
    MetFree l x (head1 (Jvm.Cond.code x code maxLocals ret :: ws) room_1) (fun a U => a = #[(.int p1), (.int p2)] ∧ Z.Warmed39 U.vm ∧ U.heap = h0) (fun _ _ _ _ _ => True) (fun _ U o U' => ∃ v L, o = .returned v ∧ Qlaw n0 v L ∧ FrameEnd U o U' L room_1.cells room_1.slots) := by
  refine MetFree.of_bodySF (plainFor_of_name pn_0) hisR ?_
  intro p e s m args below meth c s₁ Bd hml0 hP hK
  obtain ⟨rfl, hZ, hh⟩ := hP
  have hx := Bd.exec
  have hby := Bd.bytes
  have hml : c.maxLocals = 9 := hml0
  have hown : s.vm.findClass "com/example/numerand/numerand/engine/PrecisionSecondsPinLaw" = some m.cls := findClass_of_methodNamed Bd.named
  have hnm := (name_of_methodNamed Bd.named Bd.method).1
  have X0 : Stand p l e room_1 s m #[(.int p1), (.int p2)] below meth c s₁ [] 0 0 := Stand.of_body Bd
  have e0 : s₁.heap = h0 := by rw [← hh, Bd.state]; rfl
  have N0 := Fr.nil n0
  have pre0 : ∀ t, Steps p.tables e below (s₁.setTop (mkF m 0 #[.val (.int p1), .val (.int p2), .unset, .unset, .unset, .unset, .unset, .unset, .unset] [])) t → Steps p.tables e below (s₁.setTop (entryFrame m #[(.int p1), (.int p2)] maxLocals)) t := fun t k => castTop (ef_0 m p1 p2) k
  obtain ⟨_, _, ⟨T3, L3, k3, n3⟩, -, X3, ⟨Lc3, hQ3, l3, y3, z3⟩, st3⟩ := Jvm.LawKit.callS X0 hx (y := (⟨"com/example/numerand/numerand/engine/PrecisionSecondsPinLaw", "pick", "(I)Lcom/example/numerand/numerand/engine/Precision;"⟩ : MethodName)) hown (mvT hZ (hw _ (List.mem_of_getElem? (i := 1) rfl))) (mvT hZ (hw _ (List.mem_of_getElem? (i := 2) rfl))) (mvT hZ (hw _ (List.mem_of_getElem? (i := 3) rfl))) (mvT hZ (hw _ (List.mem_of_getElem? (i := 4) rfl))) (by decide) (backOf (W := 0) (rm1 l Z a0 hw [] ((p1 &&& (2147483647 : Int32)) % (7 : Int32)) P h0 n0 Z0 K (own_in7 p1)) hZ (hw _ (List.mem_of_getElem? (i := 4) rfl)) (hw _ (List.mem_of_getElem? (i := 3) rfl)) (by decide) (by decide)) (g := (mkF m 17 #[.val (.int p1), .val (.int p2), .val (.int ((p1 &&& (2147483647 : Int32)) % (7 : Int32))), .val (.int ((p2 &&& (2147483647 : Int32)) % (7 : Int32))), .unset, .unset, .unset, .unset, .unset] [(.int ((p1 &&& (2147483647 : Int32)) % (7 : Int32)))])) rfl (by rw [hml]; rfl) (argsL := [(.int ((p1 &&& (2147483647 : Int32)) % (7 : Int32)))]) (rest := []) (lenOf pd_0_0 rfl) rfl (by show 2 * 0 + _ ≤ _; exact Nat.le_of_eq rfl) (hb hby at_17) (fun _ _ => ⟨rfl, e0, (by decide : 0 + 0 ≤ _), (by decide : 0 + 0 ≤ _)⟩)
  dsimp only [Pt.U, Pt.locs, Pt.cells, Pt.slots] at X3 l3 y3 z3 st3 hQ3
  subst l3 y3 z3
  obtain ⟨rfl, N3q, e3⟩ := hQ3
  have N3 := Fr.app N0 N3q
  obtain ⟨_, _, ⟨T4, L4, k4, n4⟩, -, X4, ⟨Lc4, hQ4, l4, y4, z4⟩, st4⟩ := Jvm.LawKit.callS X3 hx (y := (⟨"com/example/numerand/numerand/engine/PrecisionSecondsPinLaw", "pick", "(I)Lcom/example/numerand/numerand/engine/Precision;"⟩ : MethodName)) hown (mvT hZ (hw _ (List.mem_of_getElem? (i := 1) rfl))) (mvT hZ (hw _ (List.mem_of_getElem? (i := 2) rfl))) (mvT hZ (hw _ (List.mem_of_getElem? (i := 3) rfl))) (mvT hZ (hw _ (List.mem_of_getElem? (i := 4) rfl))) (by decide) (backOf (W := 0) (rm1 l Z a0 hw [] ((p2 &&& (2147483647 : Int32)) % (7 : Int32)) P h0 n0 Z0 K (own_in7 p2)) hZ (hw _ (List.mem_of_getElem? (i := 4) rfl)) (hw _ (List.mem_of_getElem? (i := 3) rfl)) (by decide) (by decide)) (g := (mkF m 23 #[.val (.int p1), .val (.int p2), .val (.int ((p1 &&& (2147483647 : Int32)) % (7 : Int32))), .val (.int ((p2 &&& (2147483647 : Int32)) % (7 : Int32))), .val (.ref (P ((p1 &&& (2147483647 : Int32)) % (7 : Int32)))), .unset, .unset, .unset, .unset] [(.int ((p2 &&& (2147483647 : Int32)) % (7 : Int32)))])) rfl (by rw [hml]; rfl) (argsL := [(.int ((p2 &&& (2147483647 : Int32)) % (7 : Int32)))]) (rest := []) (lenOf pd_0_0 rfl) rfl (by show 2 * 0 + _ ≤ _; exact Nat.le_of_eq rfl) (hb hby at_23) (fun _ _ => ⟨rfl, e3, (by decide : 0 + 0 ≤ _), (by decide : 0 + 0 ≤ _)⟩)
  dsimp only [Pt.U, Pt.locs, Pt.cells, Pt.slots] at X4 l4 y4 z4 st4 hQ4
  subst l4 y4 z4
  obtain ⟨rfl, N4q, e4⟩ := hQ4
  have N4 := Fr.app N3 N4q
  obtain ⟨_, _, ⟨T5, L5, k5, n5⟩, -, X5, ⟨Lc5, hQ5, l5, y5, z5⟩, st5⟩ := Jvm.LawKit.callS X4 hx (y := (⟨"com/example/numerand/numerand/engine/Precision", "seconds", "(Lcom/example/numerand/numerand/engine/Precision;)Lcom/example/numerand/numerand/engine/Precision;"⟩ : MethodName)) hown (mvT hZ (hw _ (List.mem_of_getElem? (i := 10) rfl))) (mvT hZ (hw _ (List.mem_of_getElem? (i := 11) rfl))) (mvT hZ (hw _ (List.mem_of_getElem? (i := 6) rfl))) (mvT hZ (hw _ (List.mem_of_getElem? (i := 12) rfl))) (by decide) (backOf (W := 0) (rm2 l Z a0 hw [] ((p1 &&& (2147483647 : Int32)) % (7 : Int32)) P h0 n0 Z0 K (own_in7 p1)) hZ (hw _ (List.mem_of_getElem? (i := 12) rfl)) (hw _ (List.mem_of_getElem? (i := 6) rfl)) (by decide) (by decide)) (g := (mkF m 30 #[.val (.int p1), .val (.int p2), .val (.int ((p1 &&& (2147483647 : Int32)) % (7 : Int32))), .val (.int ((p2 &&& (2147483647 : Int32)) % (7 : Int32))), .val (.ref (P ((p1 &&& (2147483647 : Int32)) % (7 : Int32)))), .val (.ref (P ((p2 &&& (2147483647 : Int32)) % (7 : Int32)))), .unset, .unset, .unset] [(.ref (P ((p1 &&& (2147483647 : Int32)) % (7 : Int32))))])) rfl (by rw [hml]; rfl) (argsL := [(.ref (P ((p1 &&& (2147483647 : Int32)) % (7 : Int32))))]) (rest := []) (lenOf pd_0_1 rfl) rfl (by show 2 * 0 + _ ≤ _; exact Nat.le_of_eq rfl) (hb hby at_30) (fun _ _ => ⟨rfl, e4, (by decide : 0 + 0 ≤ _), (by decide : 0 + 0 ≤ _)⟩)
  dsimp only [Pt.U, Pt.locs, Pt.cells, Pt.slots] at X5 l5 y5 z5 st5 hQ5
  subst l5 y5 z5
  obtain ⟨rfl, N5q, e5⟩ := hQ5
  have N5 := Fr.app N4 N5q
  obtain ⟨_, _, ⟨T6, L6, k6, n6⟩, -, X6, ⟨Lc6, hQ6, l6, y6, z6⟩, st6⟩ := Jvm.LawKit.callS X5 hx (y := (⟨"com/example/numerand/numerand/engine/Precision", "seconds", "(Lcom/example/numerand/numerand/engine/Precision;)Lcom/example/numerand/numerand/engine/Precision;"⟩ : MethodName)) hown (mvT hZ (hw _ (List.mem_of_getElem? (i := 10) rfl))) (mvT hZ (hw _ (List.mem_of_getElem? (i := 11) rfl))) (mvT hZ (hw _ (List.mem_of_getElem? (i := 6) rfl))) (mvT hZ (hw _ (List.mem_of_getElem? (i := 12) rfl))) (by decide) (backOf (W := 0) (rm2 l Z a0 hw [] ((p2 &&& (2147483647 : Int32)) % (7 : Int32)) P h0 n0 Z0 K (own_in7 p2)) hZ (hw _ (List.mem_of_getElem? (i := 12) rfl)) (hw _ (List.mem_of_getElem? (i := 6) rfl)) (by decide) (by decide)) (g := (mkF m 37 #[.val (.int p1), .val (.int p2), .val (.int ((p1 &&& (2147483647 : Int32)) % (7 : Int32))), .val (.int ((p2 &&& (2147483647 : Int32)) % (7 : Int32))), .val (.ref (P ((p1 &&& (2147483647 : Int32)) % (7 : Int32)))), .val (.ref (P ((p2 &&& (2147483647 : Int32)) % (7 : Int32)))), .val (.ref (P (own_s ((p1 &&& (2147483647 : Int32)) % (7 : Int32))))), .unset, .unset] [(.ref (P ((p2 &&& (2147483647 : Int32)) % (7 : Int32))))])) rfl (by rw [hml]; rfl) (argsL := [(.ref (P ((p2 &&& (2147483647 : Int32)) % (7 : Int32))))]) (rest := []) (lenOf pd_0_1 rfl) rfl (by show 2 * 0 + _ ≤ _; exact Nat.le_of_eq rfl) (hb hby at_37) (fun _ _ => ⟨rfl, e5, (by decide : 0 + 0 ≤ _), (by decide : 0 + 0 ≤ _)⟩)
  dsimp only [Pt.U, Pt.locs, Pt.cells, Pt.slots] at X6 l6 y6 z6 st6 hQ6
  subst l6 y6 z6
  obtain ⟨rfl, N6q, e6⟩ := hQ6
  have N6 := Fr.app N5 N6q
  obtain ⟨T8, X8, e8, st8⟩ := getS2 X6 hx hZ hown (host := "") (Or.inl (hw _ (List.mem_of_getElem? (i := 15) rfl))) Via.refl e6 S_MILLISECOND (g := (mkF m 66 #[.val (.int p1), .val (.int p2), .val (.int ((p1 &&& (2147483647 : Int32)) % (7 : Int32))), .val (.int ((p2 &&& (2147483647 : Int32)) % (7 : Int32))), .val (.ref (P ((p1 &&& (2147483647 : Int32)) % (7 : Int32)))), .val (.ref (P ((p2 &&& (2147483647 : Int32)) % (7 : Int32)))), .val (.ref (P (own_s ((p1 &&& (2147483647 : Int32)) % (7 : Int32))))), .val (.ref (P (own_s ((p2 &&& (2147483647 : Int32)) % (7 : Int32))))), .val (.int (1 : Int32))] [(.ref (P (own_s ((p1 &&& (2147483647 : Int32)) % (7 : Int32)))))])) rfl (hb hby at_66)
  obtain ⟨T9, X9, e9, st9⟩ := getS2 X8 hx hZ hown (host := "") (Or.inl (hw _ (List.mem_of_getElem? (i := 15) rfl))) Via.refl e8 S_MILLISECOND (g := (mkF m 74 #[.val (.int p1), .val (.int p2), .val (.int ((p1 &&& (2147483647 : Int32)) % (7 : Int32))), .val (.int ((p2 &&& (2147483647 : Int32)) % (7 : Int32))), .val (.ref (P ((p1 &&& (2147483647 : Int32)) % (7 : Int32)))), .val (.ref (P ((p2 &&& (2147483647 : Int32)) % (7 : Int32)))), .val (.ref (P (own_s ((p1 &&& (2147483647 : Int32)) % (7 : Int32))))), .val (.ref (P (own_s ((p2 &&& (2147483647 : Int32)) % (7 : Int32))))), .val (.int (1 : Int32))] [(.ref (P (own_s ((p2 &&& (2147483647 : Int32)) % (7 : Int32)))))])) rfl (hb hby at_74)
  obtain ⟨_, _, ⟨T10, L10, k10, n10⟩, -, X10, ⟨Lc10, hQ10, l10, y10, z10⟩, st10⟩ := Jvm.LawKit.callS X9 hx (y := (⟨"com/example/numerand/numerand/engine/Precision", "seconds", "(Lcom/example/numerand/numerand/engine/Precision;)Lcom/example/numerand/numerand/engine/Precision;"⟩ : MethodName)) hown (mvT hZ (hw _ (List.mem_of_getElem? (i := 10) rfl))) (mvT hZ (hw _ (List.mem_of_getElem? (i := 11) rfl))) (mvT hZ (hw _ (List.mem_of_getElem? (i := 6) rfl))) (mvT hZ (hw _ (List.mem_of_getElem? (i := 12) rfl))) (by decide) (backOf (W := 0) (rm2 l Z a0 hw [] (own_s ((p1 &&& (2147483647 : Int32)) % (7 : Int32))) P h0 n0 Z0 K (own_s7 (own_in7 p1))) hZ (hw _ (List.mem_of_getElem? (i := 12) rfl)) (hw _ (List.mem_of_getElem? (i := 6) rfl)) (by decide) (by decide)) (g := (mkF m 144 #[.val (.int p1), .val (.int p2), .val (.int ((p1 &&& (2147483647 : Int32)) % (7 : Int32))), .val (.int ((p2 &&& (2147483647 : Int32)) % (7 : Int32))), .val (.ref (P ((p1 &&& (2147483647 : Int32)) % (7 : Int32)))), .val (.ref (P ((p2 &&& (2147483647 : Int32)) % (7 : Int32)))), .val (.ref (P (own_s ((p1 &&& (2147483647 : Int32)) % (7 : Int32))))), .val (.ref (P (own_s ((p2 &&& (2147483647 : Int32)) % (7 : Int32))))), .val (.int (1 : Int32))] [(.ref (P (own_s ((p1 &&& (2147483647 : Int32)) % (7 : Int32)))))])) rfl (by rw [hml]; rfl) (argsL := [(.ref (P (own_s ((p1 &&& (2147483647 : Int32)) % (7 : Int32)))))]) (rest := []) (lenOf pd_0_1 rfl) rfl (by show 2 * 0 + _ ≤ _; exact Nat.le_of_eq rfl) (hb hby at_144) (fun _ _ => ⟨rfl, e9, (by decide : 0 + 0 ≤ _), (by decide : 0 + 0 ≤ _)⟩)
  dsimp only [Pt.U, Pt.locs, Pt.cells, Pt.slots] at X10 l10 y10 z10 st10 hQ10
  subst l10 y10 z10
  obtain ⟨rfl, N10q, e10⟩ := hQ10
  have N10 := Fr.app N6 N10q
  obtain ⟨T12, X12, e12, st12⟩ := getS2 X10 hx hZ hown (host := "") (Or.inl (hw _ (List.mem_of_getElem? (i := 23) rfl))) Via.refl e10 S_SECOND (g := (mkF m 172 #[.val (.int p1), .val (.int p2), .val (.int ((p1 &&& (2147483647 : Int32)) % (7 : Int32))), .val (.int ((p2 &&& (2147483647 : Int32)) % (7 : Int32))), .val (.ref (P ((p1 &&& (2147483647 : Int32)) % (7 : Int32)))), .val (.ref (P ((p2 &&& (2147483647 : Int32)) % (7 : Int32)))), .val (.ref (P (own_s ((p1 &&& (2147483647 : Int32)) % (7 : Int32))))), .val (.ref (P (own_s ((p2 &&& (2147483647 : Int32)) % (7 : Int32))))), .val (.int (1 : Int32))] [(.ref (P (own_s ((p1 &&& (2147483647 : Int32)) % (7 : Int32)))))])) rfl (hb hby at_172)
  obtain ⟨_, _, ⟨T13, L13, k13, n13⟩, -, X13, ⟨Lc13, hQ13, l13, y13, z13⟩, st13⟩ := Jvm.LawKit.callS X12 hx (y := (⟨"com/example/numerand/numerand/engine/Precision", "seconds", "(Lcom/example/numerand/numerand/engine/Precision;)Lcom/example/numerand/numerand/engine/Precision;"⟩ : MethodName)) hown (mvT hZ (hw _ (List.mem_of_getElem? (i := 10) rfl))) (mvT hZ (hw _ (List.mem_of_getElem? (i := 11) rfl))) (mvT hZ (hw _ (List.mem_of_getElem? (i := 6) rfl))) (mvT hZ (hw _ (List.mem_of_getElem? (i := 12) rfl))) (by decide) (backOf (W := 1) (rm2 l Z a0 hw [] 5 P h0 n0 Z0 K own_5) hZ (hw _ (List.mem_of_getElem? (i := 12) rfl)) (hw _ (List.mem_of_getElem? (i := 6) rfl)) (by decide) (by decide)) (g := (mkF m 175 #[.val (.int p1), .val (.int p2), .val (.int ((p1 &&& (2147483647 : Int32)) % (7 : Int32))), .val (.int ((p2 &&& (2147483647 : Int32)) % (7 : Int32))), .val (.ref (P ((p1 &&& (2147483647 : Int32)) % (7 : Int32)))), .val (.ref (P ((p2 &&& (2147483647 : Int32)) % (7 : Int32)))), .val (.ref (P (own_s ((p1 &&& (2147483647 : Int32)) % (7 : Int32))))), .val (.ref (P (own_s ((p2 &&& (2147483647 : Int32)) % (7 : Int32))))), .val (.int (1 : Int32))] [(.ref (P 5)), (.ref (P (own_s ((p1 &&& (2147483647 : Int32)) % (7 : Int32)))))])) rfl (by rw [hml]; rfl) (argsL := [(.ref (P 5))]) (rest := [(.ref (P (own_s ((p1 &&& (2147483647 : Int32)) % (7 : Int32)))))]) (lenOf pd_0_1 rfl) rfl (by show 2 * 0 + _ ≤ _; exact Nat.le_of_eq rfl) (hb hby at_175) (fun _ _ => ⟨rfl, e12, (by decide : 0 + 0 ≤ _), (by decide : 0 + 0 ≤ _)⟩)
  dsimp only [Pt.U, Pt.locs, Pt.cells, Pt.slots] at X13 l13 y13 z13 st13 hQ13
  subst l13 y13 z13
  obtain ⟨rfl, N13q, e13⟩ := hQ13
  have N13 := Fr.app N10 N13q
  obtain ⟨fs, hr, hrun, hended, hW, hsame⟩ := X13.leave (v := some (.int (1 : Int32))) (fun h => by rw [Bd.returns] at h; cases h)
  refine ⟨_, _, pre0 _ ?_, hrun, hended, _, _, rfl, ?_, ⟨_, rfl⟩, hW, hsame.mono (by decide) (by decide)⟩
  · show Steps p.tables e below (s₁.setTop (mkF m 0 #[.val (.int p1), .val (.int p2), .unset, .unset, .unset, .unset, .unset, .unset, .unset] [])) _
    refine XS.iloadN X0.here hx rfl (hb hby at_0) rfl ?_
    show Steps p.tables e below (s₁.setTop (mkF m 1 #[.val (.int p1), .val (.int p2), .unset, .unset, .unset, .unset, .unset, .unset, .unset] [(.int p1)])) _
    refine X0.ldcInt hx hown (mvT hZ (hw _ (List.mem_of_getElem? (i := 0) rfl))) (g := (mkF m 1 #[.val (.int p1), .val (.int p2), .unset, .unset, .unset, .unset, .unset, .unset, .unset] [(.int p1)])) rfl (hb hby at_1) _ ?_
    show Steps p.tables e below (s₁.setTop (mkF m 3 #[.val (.int p1), .val (.int p2), .unset, .unset, .unset, .unset, .unset, .unset, .unset] [(.int (2147483647 : Int32)), (.int p1)])) _
    refine XS.iand X0.here hx rfl (hb hby at_3) rfl ?_
    show Steps p.tables e below (s₁.setTop (mkF m 4 #[.val (.int p1), .val (.int p2), .unset, .unset, .unset, .unset, .unset, .unset, .unset] [(.int (p1 &&& (2147483647 : Int32)))])) _
    refine XS.bipush X0.here hx rfl (hb hby at_4) ?_
    show Steps p.tables e below (s₁.setTop (mkF m 6 #[.val (.int p1), .val (.int p2), .unset, .unset, .unset, .unset, .unset, .unset, .unset] [(.int (7 : Int32)), (.int (p1 &&& (2147483647 : Int32)))])) _
    refine iremM X0 hx rfl (hb hby at_6) rfl (by decide) ?_
    show Steps p.tables e below (s₁.setTop (mkF m 7 #[.val (.int p1), .val (.int p2), .unset, .unset, .unset, .unset, .unset, .unset, .unset] [(.int ((p1 &&& (2147483647 : Int32)) % (7 : Int32)))])) _
    refine XS.istoreN X0.here hx rfl (hb hby at_7) rfl (l' := #[.val (.int p1), .val (.int p2), .val (.int ((p1 &&& (2147483647 : Int32)) % (7 : Int32))), .unset, .unset, .unset, .unset, .unset, .unset]) rfl ?_
    show Steps p.tables e below (s₁.setTop (mkF m 8 #[.val (.int p1), .val (.int p2), .val (.int ((p1 &&& (2147483647 : Int32)) % (7 : Int32))), .unset, .unset, .unset, .unset, .unset, .unset] [])) _
    refine XS.iloadN X0.here hx rfl (hb hby at_8) rfl ?_
    show Steps p.tables e below (s₁.setTop (mkF m 9 #[.val (.int p1), .val (.int p2), .val (.int ((p1 &&& (2147483647 : Int32)) % (7 : Int32))), .unset, .unset, .unset, .unset, .unset, .unset] [(.int p2)])) _
    refine X0.ldcInt hx hown (mvT hZ (hw _ (List.mem_of_getElem? (i := 0) rfl))) (g := (mkF m 9 #[.val (.int p1), .val (.int p2), .val (.int ((p1 &&& (2147483647 : Int32)) % (7 : Int32))), .unset, .unset, .unset, .unset, .unset, .unset] [(.int p2)])) rfl (hb hby at_9) _ ?_
    show Steps p.tables e below (s₁.setTop (mkF m 11 #[.val (.int p1), .val (.int p2), .val (.int ((p1 &&& (2147483647 : Int32)) % (7 : Int32))), .unset, .unset, .unset, .unset, .unset, .unset] [(.int (2147483647 : Int32)), (.int p2)])) _
    refine XS.iand X0.here hx rfl (hb hby at_11) rfl ?_
    show Steps p.tables e below (s₁.setTop (mkF m 12 #[.val (.int p1), .val (.int p2), .val (.int ((p1 &&& (2147483647 : Int32)) % (7 : Int32))), .unset, .unset, .unset, .unset, .unset, .unset] [(.int (p2 &&& (2147483647 : Int32)))])) _
    refine XS.bipush X0.here hx rfl (hb hby at_12) ?_
    show Steps p.tables e below (s₁.setTop (mkF m 14 #[.val (.int p1), .val (.int p2), .val (.int ((p1 &&& (2147483647 : Int32)) % (7 : Int32))), .unset, .unset, .unset, .unset, .unset, .unset] [(.int (7 : Int32)), (.int (p2 &&& (2147483647 : Int32)))])) _
    refine iremM X0 hx rfl (hb hby at_14) rfl (by decide) ?_
    show Steps p.tables e below (s₁.setTop (mkF m 15 #[.val (.int p1), .val (.int p2), .val (.int ((p1 &&& (2147483647 : Int32)) % (7 : Int32))), .unset, .unset, .unset, .unset, .unset, .unset] [(.int ((p2 &&& (2147483647 : Int32)) % (7 : Int32)))])) _
    refine XS.istoreN X0.here hx rfl (hb hby at_15) rfl (l' := #[.val (.int p1), .val (.int p2), .val (.int ((p1 &&& (2147483647 : Int32)) % (7 : Int32))), .val (.int ((p2 &&& (2147483647 : Int32)) % (7 : Int32))), .unset, .unset, .unset, .unset, .unset]) rfl ?_
    show Steps p.tables e below (s₁.setTop (mkF m 16 #[.val (.int p1), .val (.int p2), .val (.int ((p1 &&& (2147483647 : Int32)) % (7 : Int32))), .val (.int ((p2 &&& (2147483647 : Int32)) % (7 : Int32))), .unset, .unset, .unset, .unset, .unset] [])) _
    refine XS.iloadN X0.here hx rfl (hb hby at_16) rfl ?_
    show Steps p.tables e below (s₁.setTop (mkF m 17 #[.val (.int p1), .val (.int p2), .val (.int ((p1 &&& (2147483647 : Int32)) % (7 : Int32))), .val (.int ((p2 &&& (2147483647 : Int32)) % (7 : Int32))), .unset, .unset, .unset, .unset, .unset] [(.int ((p1 &&& (2147483647 : Int32)) % (7 : Int32)))])) _
    refine st3 _ ?_
    show Steps p.tables e below (T3.setTop (mkF m 20 #[.val (.int p1), .val (.int p2), .val (.int ((p1 &&& (2147483647 : Int32)) % (7 : Int32))), .val (.int ((p2 &&& (2147483647 : Int32)) % (7 : Int32))), .unset, .unset, .unset, .unset, .unset] [(.ref (P ((p1 &&& (2147483647 : Int32)) % (7 : Int32))))])) _
    refine XS.astore X3.here hx rfl (hb hby at_20) rfl rfl (l' := #[.val (.int p1), .val (.int p2), .val (.int ((p1 &&& (2147483647 : Int32)) % (7 : Int32))), .val (.int ((p2 &&& (2147483647 : Int32)) % (7 : Int32))), .val (.ref (P ((p1 &&& (2147483647 : Int32)) % (7 : Int32)))), .unset, .unset, .unset, .unset]) rfl ?_
    show Steps p.tables e below (T3.setTop (mkF m 22 #[.val (.int p1), .val (.int p2), .val (.int ((p1 &&& (2147483647 : Int32)) % (7 : Int32))), .val (.int ((p2 &&& (2147483647 : Int32)) % (7 : Int32))), .val (.ref (P ((p1 &&& (2147483647 : Int32)) % (7 : Int32)))), .unset, .unset, .unset, .unset] [])) _
    refine XS.iloadN X3.here hx rfl (hb hby at_22) rfl ?_
    show Steps p.tables e below (T3.setTop (mkF m 23 #[.val (.int p1), .val (.int p2), .val (.int ((p1 &&& (2147483647 : Int32)) % (7 : Int32))), .val (.int ((p2 &&& (2147483647 : Int32)) % (7 : Int32))), .val (.ref (P ((p1 &&& (2147483647 : Int32)) % (7 : Int32)))), .unset, .unset, .unset, .unset] [(.int ((p2 &&& (2147483647 : Int32)) % (7 : Int32)))])) _
    refine st4 _ ?_
    show Steps p.tables e below (T4.setTop (mkF m 26 #[.val (.int p1), .val (.int p2), .val (.int ((p1 &&& (2147483647 : Int32)) % (7 : Int32))), .val (.int ((p2 &&& (2147483647 : Int32)) % (7 : Int32))), .val (.ref (P ((p1 &&& (2147483647 : Int32)) % (7 : Int32)))), .unset, .unset, .unset, .unset] [(.ref (P ((p2 &&& (2147483647 : Int32)) % (7 : Int32))))])) _
    refine XS.astore X4.here hx rfl (hb hby at_26) rfl rfl (l' := #[.val (.int p1), .val (.int p2), .val (.int ((p1 &&& (2147483647 : Int32)) % (7 : Int32))), .val (.int ((p2 &&& (2147483647 : Int32)) % (7 : Int32))), .val (.ref (P ((p1 &&& (2147483647 : Int32)) % (7 : Int32)))), .val (.ref (P ((p2 &&& (2147483647 : Int32)) % (7 : Int32)))), .unset, .unset, .unset]) rfl ?_
    show Steps p.tables e below (T4.setTop (mkF m 28 #[.val (.int p1), .val (.int p2), .val (.int ((p1 &&& (2147483647 : Int32)) % (7 : Int32))), .val (.int ((p2 &&& (2147483647 : Int32)) % (7 : Int32))), .val (.ref (P ((p1 &&& (2147483647 : Int32)) % (7 : Int32)))), .val (.ref (P ((p2 &&& (2147483647 : Int32)) % (7 : Int32)))), .unset, .unset, .unset] [])) _
    refine XS.aload X4.here hx rfl (hb hby at_28) rfl rfl ?_
    show Steps p.tables e below (T4.setTop (mkF m 30 #[.val (.int p1), .val (.int p2), .val (.int ((p1 &&& (2147483647 : Int32)) % (7 : Int32))), .val (.int ((p2 &&& (2147483647 : Int32)) % (7 : Int32))), .val (.ref (P ((p1 &&& (2147483647 : Int32)) % (7 : Int32)))), .val (.ref (P ((p2 &&& (2147483647 : Int32)) % (7 : Int32)))), .unset, .unset, .unset] [(.ref (P ((p1 &&& (2147483647 : Int32)) % (7 : Int32))))])) _
    refine st5 _ ?_
    show Steps p.tables e below (T5.setTop (mkF m 33 #[.val (.int p1), .val (.int p2), .val (.int ((p1 &&& (2147483647 : Int32)) % (7 : Int32))), .val (.int ((p2 &&& (2147483647 : Int32)) % (7 : Int32))), .val (.ref (P ((p1 &&& (2147483647 : Int32)) % (7 : Int32)))), .val (.ref (P ((p2 &&& (2147483647 : Int32)) % (7 : Int32)))), .unset, .unset, .unset] [(.ref (P (own_s ((p1 &&& (2147483647 : Int32)) % (7 : Int32)))))])) _
    refine XS.astore X5.here hx rfl (hb hby at_33) rfl rfl (l' := #[.val (.int p1), .val (.int p2), .val (.int ((p1 &&& (2147483647 : Int32)) % (7 : Int32))), .val (.int ((p2 &&& (2147483647 : Int32)) % (7 : Int32))), .val (.ref (P ((p1 &&& (2147483647 : Int32)) % (7 : Int32)))), .val (.ref (P ((p2 &&& (2147483647 : Int32)) % (7 : Int32)))), .val (.ref (P (own_s ((p1 &&& (2147483647 : Int32)) % (7 : Int32))))), .unset, .unset]) rfl ?_
    show Steps p.tables e below (T5.setTop (mkF m 35 #[.val (.int p1), .val (.int p2), .val (.int ((p1 &&& (2147483647 : Int32)) % (7 : Int32))), .val (.int ((p2 &&& (2147483647 : Int32)) % (7 : Int32))), .val (.ref (P ((p1 &&& (2147483647 : Int32)) % (7 : Int32)))), .val (.ref (P ((p2 &&& (2147483647 : Int32)) % (7 : Int32)))), .val (.ref (P (own_s ((p1 &&& (2147483647 : Int32)) % (7 : Int32))))), .unset, .unset] [])) _
    refine XS.aload X5.here hx rfl (hb hby at_35) rfl rfl ?_
    show Steps p.tables e below (T5.setTop (mkF m 37 #[.val (.int p1), .val (.int p2), .val (.int ((p1 &&& (2147483647 : Int32)) % (7 : Int32))), .val (.int ((p2 &&& (2147483647 : Int32)) % (7 : Int32))), .val (.ref (P ((p1 &&& (2147483647 : Int32)) % (7 : Int32)))), .val (.ref (P ((p2 &&& (2147483647 : Int32)) % (7 : Int32)))), .val (.ref (P (own_s ((p1 &&& (2147483647 : Int32)) % (7 : Int32))))), .unset, .unset] [(.ref (P ((p2 &&& (2147483647 : Int32)) % (7 : Int32))))])) _
    refine st6 _ ?_
    show Steps p.tables e below (T6.setTop (mkF m 40 #[.val (.int p1), .val (.int p2), .val (.int ((p1 &&& (2147483647 : Int32)) % (7 : Int32))), .val (.int ((p2 &&& (2147483647 : Int32)) % (7 : Int32))), .val (.ref (P ((p1 &&& (2147483647 : Int32)) % (7 : Int32)))), .val (.ref (P ((p2 &&& (2147483647 : Int32)) % (7 : Int32)))), .val (.ref (P (own_s ((p1 &&& (2147483647 : Int32)) % (7 : Int32))))), .unset, .unset] [(.ref (P (own_s ((p2 &&& (2147483647 : Int32)) % (7 : Int32)))))])) _
    refine XS.astore X6.here hx rfl (hb hby at_40) rfl rfl (l' := #[.val (.int p1), .val (.int p2), .val (.int ((p1 &&& (2147483647 : Int32)) % (7 : Int32))), .val (.int ((p2 &&& (2147483647 : Int32)) % (7 : Int32))), .val (.ref (P ((p1 &&& (2147483647 : Int32)) % (7 : Int32)))), .val (.ref (P ((p2 &&& (2147483647 : Int32)) % (7 : Int32)))), .val (.ref (P (own_s ((p1 &&& (2147483647 : Int32)) % (7 : Int32))))), .val (.ref (P (own_s ((p2 &&& (2147483647 : Int32)) % (7 : Int32))))), .unset]) rfl ?_
    show Steps p.tables e below (T6.setTop (mkF m 42 #[.val (.int p1), .val (.int p2), .val (.int ((p1 &&& (2147483647 : Int32)) % (7 : Int32))), .val (.int ((p2 &&& (2147483647 : Int32)) % (7 : Int32))), .val (.ref (P ((p1 &&& (2147483647 : Int32)) % (7 : Int32)))), .val (.ref (P ((p2 &&& (2147483647 : Int32)) % (7 : Int32)))), .val (.ref (P (own_s ((p1 &&& (2147483647 : Int32)) % (7 : Int32))))), .val (.ref (P (own_s ((p2 &&& (2147483647 : Int32)) % (7 : Int32))))), .unset] [])) _
    refine XS.aload X6.here hx rfl (hb hby at_42) rfl rfl ?_
    show Steps p.tables e below (T6.setTop (mkF m 44 #[.val (.int p1), .val (.int p2), .val (.int ((p1 &&& (2147483647 : Int32)) % (7 : Int32))), .val (.int ((p2 &&& (2147483647 : Int32)) % (7 : Int32))), .val (.ref (P ((p1 &&& (2147483647 : Int32)) % (7 : Int32)))), .val (.ref (P ((p2 &&& (2147483647 : Int32)) % (7 : Int32)))), .val (.ref (P (own_s ((p1 &&& (2147483647 : Int32)) % (7 : Int32))))), .val (.ref (P (own_s ((p2 &&& (2147483647 : Int32)) % (7 : Int32))))), .unset] [(.ref (P (own_s ((p1 &&& (2147483647 : Int32)) % (7 : Int32)))))])) _
    refine XS.ifnullNo X6.here hx rfl (hb hby at_44) rfl ?_
    show Steps p.tables e below (T6.setTop (mkF m 47 #[.val (.int p1), .val (.int p2), .val (.int ((p1 &&& (2147483647 : Int32)) % (7 : Int32))), .val (.int ((p2 &&& (2147483647 : Int32)) % (7 : Int32))), .val (.ref (P ((p1 &&& (2147483647 : Int32)) % (7 : Int32)))), .val (.ref (P ((p2 &&& (2147483647 : Int32)) % (7 : Int32)))), .val (.ref (P (own_s ((p1 &&& (2147483647 : Int32)) % (7 : Int32))))), .val (.ref (P (own_s ((p2 &&& (2147483647 : Int32)) % (7 : Int32))))), .unset] [])) _
    refine XS.aload X6.here hx rfl (hb hby at_47) rfl rfl ?_
    show Steps p.tables e below (T6.setTop (mkF m 49 #[.val (.int p1), .val (.int p2), .val (.int ((p1 &&& (2147483647 : Int32)) % (7 : Int32))), .val (.int ((p2 &&& (2147483647 : Int32)) % (7 : Int32))), .val (.ref (P ((p1 &&& (2147483647 : Int32)) % (7 : Int32)))), .val (.ref (P ((p2 &&& (2147483647 : Int32)) % (7 : Int32)))), .val (.ref (P (own_s ((p1 &&& (2147483647 : Int32)) % (7 : Int32))))), .val (.ref (P (own_s ((p2 &&& (2147483647 : Int32)) % (7 : Int32))))), .unset] [(.ref (P (own_s ((p2 &&& (2147483647 : Int32)) % (7 : Int32)))))])) _
    refine XS.ifnullNo X6.here hx rfl (hb hby at_49) rfl ?_
    show Steps p.tables e below (T6.setTop (mkF m 52 #[.val (.int p1), .val (.int p2), .val (.int ((p1 &&& (2147483647 : Int32)) % (7 : Int32))), .val (.int ((p2 &&& (2147483647 : Int32)) % (7 : Int32))), .val (.ref (P ((p1 &&& (2147483647 : Int32)) % (7 : Int32)))), .val (.ref (P ((p2 &&& (2147483647 : Int32)) % (7 : Int32)))), .val (.ref (P (own_s ((p1 &&& (2147483647 : Int32)) % (7 : Int32))))), .val (.ref (P (own_s ((p2 &&& (2147483647 : Int32)) % (7 : Int32))))), .unset] [])) _
    refine XS.iconst X6.here hx rfl (hb hby at_52) ?_
    show Steps p.tables e below (T6.setTop (mkF m 53 #[.val (.int p1), .val (.int p2), .val (.int ((p1 &&& (2147483647 : Int32)) % (7 : Int32))), .val (.int ((p2 &&& (2147483647 : Int32)) % (7 : Int32))), .val (.ref (P ((p1 &&& (2147483647 : Int32)) % (7 : Int32)))), .val (.ref (P ((p2 &&& (2147483647 : Int32)) % (7 : Int32)))), .val (.ref (P (own_s ((p1 &&& (2147483647 : Int32)) % (7 : Int32))))), .val (.ref (P (own_s ((p2 &&& (2147483647 : Int32)) % (7 : Int32))))), .unset] [(.int (1 : Int32))])) _
    refine XS.goto X6.here hx rfl (pc0 := 53) (pc' := 57) rfl (hb hby at_53) (by decide) (by decide) ?_
    show Steps p.tables e below (T6.setTop (mkF m 57 #[.val (.int p1), .val (.int p2), .val (.int ((p1 &&& (2147483647 : Int32)) % (7 : Int32))), .val (.int ((p2 &&& (2147483647 : Int32)) % (7 : Int32))), .val (.ref (P ((p1 &&& (2147483647 : Int32)) % (7 : Int32)))), .val (.ref (P ((p2 &&& (2147483647 : Int32)) % (7 : Int32)))), .val (.ref (P (own_s ((p1 &&& (2147483647 : Int32)) % (7 : Int32))))), .val (.ref (P (own_s ((p2 &&& (2147483647 : Int32)) % (7 : Int32))))), .unset] [(.int (1 : Int32))])) _
    refine XS.istore X6.here hx rfl (hb hby at_57) rfl (l' := #[.val (.int p1), .val (.int p2), .val (.int ((p1 &&& (2147483647 : Int32)) % (7 : Int32))), .val (.int ((p2 &&& (2147483647 : Int32)) % (7 : Int32))), .val (.ref (P ((p1 &&& (2147483647 : Int32)) % (7 : Int32)))), .val (.ref (P ((p2 &&& (2147483647 : Int32)) % (7 : Int32)))), .val (.ref (P (own_s ((p1 &&& (2147483647 : Int32)) % (7 : Int32))))), .val (.ref (P (own_s ((p2 &&& (2147483647 : Int32)) % (7 : Int32))))), .val (.int (1 : Int32))]) rfl ?_
    show Steps p.tables e below (T6.setTop (mkF m 59 #[.val (.int p1), .val (.int p2), .val (.int ((p1 &&& (2147483647 : Int32)) % (7 : Int32))), .val (.int ((p2 &&& (2147483647 : Int32)) % (7 : Int32))), .val (.ref (P ((p1 &&& (2147483647 : Int32)) % (7 : Int32)))), .val (.ref (P ((p2 &&& (2147483647 : Int32)) % (7 : Int32)))), .val (.ref (P (own_s ((p1 &&& (2147483647 : Int32)) % (7 : Int32))))), .val (.ref (P (own_s ((p2 &&& (2147483647 : Int32)) % (7 : Int32))))), .val (.int (1 : Int32))] [])) _
    refine XS.iload X6.here hx rfl (hb hby at_59) rfl ?_
    show Steps p.tables e below (T6.setTop (mkF m 61 #[.val (.int p1), .val (.int p2), .val (.int ((p1 &&& (2147483647 : Int32)) % (7 : Int32))), .val (.int ((p2 &&& (2147483647 : Int32)) % (7 : Int32))), .val (.ref (P ((p1 &&& (2147483647 : Int32)) % (7 : Int32)))), .val (.ref (P ((p2 &&& (2147483647 : Int32)) % (7 : Int32)))), .val (.ref (P (own_s ((p1 &&& (2147483647 : Int32)) % (7 : Int32))))), .val (.ref (P (own_s ((p2 &&& (2147483647 : Int32)) % (7 : Int32))))), .val (.int (1 : Int32))] [(.int (1 : Int32))])) _
    refine XS.ifNo X6.here hx rfl (hb hby at_61) rfl ((if0 _ _).trans (feq hc61).1) ?_
    show Steps p.tables e below (T6.setTop (mkF m 64 #[.val (.int p1), .val (.int p2), .val (.int ((p1 &&& (2147483647 : Int32)) % (7 : Int32))), .val (.int ((p2 &&& (2147483647 : Int32)) % (7 : Int32))), .val (.ref (P ((p1 &&& (2147483647 : Int32)) % (7 : Int32)))), .val (.ref (P ((p2 &&& (2147483647 : Int32)) % (7 : Int32)))), .val (.ref (P (own_s ((p1 &&& (2147483647 : Int32)) % (7 : Int32))))), .val (.ref (P (own_s ((p2 &&& (2147483647 : Int32)) % (7 : Int32))))), .val (.int (1 : Int32))] [])) _
    refine XS.aload X6.here hx rfl (hb hby at_64) rfl rfl ?_
    show Steps p.tables e below (T6.setTop (mkF m 66 #[.val (.int p1), .val (.int p2), .val (.int ((p1 &&& (2147483647 : Int32)) % (7 : Int32))), .val (.int ((p2 &&& (2147483647 : Int32)) % (7 : Int32))), .val (.ref (P ((p1 &&& (2147483647 : Int32)) % (7 : Int32)))), .val (.ref (P ((p2 &&& (2147483647 : Int32)) % (7 : Int32)))), .val (.ref (P (own_s ((p1 &&& (2147483647 : Int32)) % (7 : Int32))))), .val (.ref (P (own_s ((p2 &&& (2147483647 : Int32)) % (7 : Int32))))), .val (.int (1 : Int32))] [(.ref (P (own_s ((p1 &&& (2147483647 : Int32)) % (7 : Int32)))))])) _
    refine st8 _ ?_
    show Steps p.tables e below (T8.setTop (mkF m 69 #[.val (.int p1), .val (.int p2), .val (.int ((p1 &&& (2147483647 : Int32)) % (7 : Int32))), .val (.int ((p2 &&& (2147483647 : Int32)) % (7 : Int32))), .val (.ref (P ((p1 &&& (2147483647 : Int32)) % (7 : Int32)))), .val (.ref (P ((p2 &&& (2147483647 : Int32)) % (7 : Int32)))), .val (.ref (P (own_s ((p1 &&& (2147483647 : Int32)) % (7 : Int32))))), .val (.ref (P (own_s ((p2 &&& (2147483647 : Int32)) % (7 : Int32))))), .val (.int (1 : Int32))] [(.ref (P 6)), (.ref (P (own_s ((p1 &&& (2147483647 : Int32)) % (7 : Int32)))))])) _
    refine Jvm.RoadKit.acmp (g := (mkF m 69 #[.val (.int p1), .val (.int p2), .val (.int ((p1 &&& (2147483647 : Int32)) % (7 : Int32))), .val (.int ((p2 &&& (2147483647 : Int32)) % (7 : Int32))), .val (.ref (P ((p1 &&& (2147483647 : Int32)) % (7 : Int32)))), .val (.ref (P ((p2 &&& (2147483647 : Int32)) % (7 : Int32)))), .val (.ref (P (own_s ((p1 &&& (2147483647 : Int32)) % (7 : Int32))))), .val (.ref (P (own_s ((p2 &&& (2147483647 : Int32)) % (7 : Int32))))), .val (.int (1 : Int32))] [(.ref (P 6)), (.ref (P (own_s ((p1 &&& (2147483647 : Int32)) % (7 : Int32)))))])) X8 hx rfl rfl rfl (pc0 := 69) (pc' := 72) (same := false) rfl (hb hby at_69) rfl (decide_eq_false fun q => ha69 (Value.ref.inj q)) (by decide) (by decide) ?_
    show Steps p.tables e below (T8.setTop (mkF m 72 #[.val (.int p1), .val (.int p2), .val (.int ((p1 &&& (2147483647 : Int32)) % (7 : Int32))), .val (.int ((p2 &&& (2147483647 : Int32)) % (7 : Int32))), .val (.ref (P ((p1 &&& (2147483647 : Int32)) % (7 : Int32)))), .val (.ref (P ((p2 &&& (2147483647 : Int32)) % (7 : Int32)))), .val (.ref (P (own_s ((p1 &&& (2147483647 : Int32)) % (7 : Int32))))), .val (.ref (P (own_s ((p2 &&& (2147483647 : Int32)) % (7 : Int32))))), .val (.int (1 : Int32))] [])) _
    refine XS.aload X8.here hx rfl (hb hby at_72) rfl rfl ?_
    show Steps p.tables e below (T8.setTop (mkF m 74 #[.val (.int p1), .val (.int p2), .val (.int ((p1 &&& (2147483647 : Int32)) % (7 : Int32))), .val (.int ((p2 &&& (2147483647 : Int32)) % (7 : Int32))), .val (.ref (P ((p1 &&& (2147483647 : Int32)) % (7 : Int32)))), .val (.ref (P ((p2 &&& (2147483647 : Int32)) % (7 : Int32)))), .val (.ref (P (own_s ((p1 &&& (2147483647 : Int32)) % (7 : Int32))))), .val (.ref (P (own_s ((p2 &&& (2147483647 : Int32)) % (7 : Int32))))), .val (.int (1 : Int32))] [(.ref (P (own_s ((p2 &&& (2147483647 : Int32)) % (7 : Int32)))))])) _
    refine st9 _ ?_
    show Steps p.tables e below (T9.setTop (mkF m 77 #[.val (.int p1), .val (.int p2), .val (.int ((p1 &&& (2147483647 : Int32)) % (7 : Int32))), .val (.int ((p2 &&& (2147483647 : Int32)) % (7 : Int32))), .val (.ref (P ((p1 &&& (2147483647 : Int32)) % (7 : Int32)))), .val (.ref (P ((p2 &&& (2147483647 : Int32)) % (7 : Int32)))), .val (.ref (P (own_s ((p1 &&& (2147483647 : Int32)) % (7 : Int32))))), .val (.ref (P (own_s ((p2 &&& (2147483647 : Int32)) % (7 : Int32))))), .val (.int (1 : Int32))] [(.ref (P 6)), (.ref (P (own_s ((p2 &&& (2147483647 : Int32)) % (7 : Int32)))))])) _
    refine Jvm.RoadKit.acmp (g := (mkF m 77 #[.val (.int p1), .val (.int p2), .val (.int ((p1 &&& (2147483647 : Int32)) % (7 : Int32))), .val (.int ((p2 &&& (2147483647 : Int32)) % (7 : Int32))), .val (.ref (P ((p1 &&& (2147483647 : Int32)) % (7 : Int32)))), .val (.ref (P ((p2 &&& (2147483647 : Int32)) % (7 : Int32)))), .val (.ref (P (own_s ((p1 &&& (2147483647 : Int32)) % (7 : Int32))))), .val (.ref (P (own_s ((p2 &&& (2147483647 : Int32)) % (7 : Int32))))), .val (.int (1 : Int32))] [(.ref (P 6)), (.ref (P (own_s ((p2 &&& (2147483647 : Int32)) % (7 : Int32)))))])) X9 hx rfl rfl rfl (pc0 := 77) (pc' := 80) (same := false) rfl (hb hby at_77) rfl (decide_eq_false fun q => ha77 (Value.ref.inj q)) (by decide) (by decide) ?_
    show Steps p.tables e below (T9.setTop (mkF m 80 #[.val (.int p1), .val (.int p2), .val (.int ((p1 &&& (2147483647 : Int32)) % (7 : Int32))), .val (.int ((p2 &&& (2147483647 : Int32)) % (7 : Int32))), .val (.ref (P ((p1 &&& (2147483647 : Int32)) % (7 : Int32)))), .val (.ref (P ((p2 &&& (2147483647 : Int32)) % (7 : Int32)))), .val (.ref (P (own_s ((p1 &&& (2147483647 : Int32)) % (7 : Int32))))), .val (.ref (P (own_s ((p2 &&& (2147483647 : Int32)) % (7 : Int32))))), .val (.int (1 : Int32))] [])) _
    refine XS.iconst X9.here hx rfl (hb hby at_80) ?_
    show Steps p.tables e below (T9.setTop (mkF m 81 #[.val (.int p1), .val (.int p2), .val (.int ((p1 &&& (2147483647 : Int32)) % (7 : Int32))), .val (.int ((p2 &&& (2147483647 : Int32)) % (7 : Int32))), .val (.ref (P ((p1 &&& (2147483647 : Int32)) % (7 : Int32)))), .val (.ref (P ((p2 &&& (2147483647 : Int32)) % (7 : Int32)))), .val (.ref (P (own_s ((p1 &&& (2147483647 : Int32)) % (7 : Int32))))), .val (.ref (P (own_s ((p2 &&& (2147483647 : Int32)) % (7 : Int32))))), .val (.int (1 : Int32))] [(.int (1 : Int32))])) _
    refine XS.goto X9.here hx rfl (pc0 := 81) (pc' := 85) rfl (hb hby at_81) (by decide) (by decide) ?_
    show Steps p.tables e below (T9.setTop (mkF m 85 #[.val (.int p1), .val (.int p2), .val (.int ((p1 &&& (2147483647 : Int32)) % (7 : Int32))), .val (.int ((p2 &&& (2147483647 : Int32)) % (7 : Int32))), .val (.ref (P ((p1 &&& (2147483647 : Int32)) % (7 : Int32)))), .val (.ref (P ((p2 &&& (2147483647 : Int32)) % (7 : Int32)))), .val (.ref (P (own_s ((p1 &&& (2147483647 : Int32)) % (7 : Int32))))), .val (.ref (P (own_s ((p2 &&& (2147483647 : Int32)) % (7 : Int32))))), .val (.int (1 : Int32))] [(.int (1 : Int32))])) _
    refine XS.istore X9.here hx rfl (hb hby at_85) rfl (l' := #[.val (.int p1), .val (.int p2), .val (.int ((p1 &&& (2147483647 : Int32)) % (7 : Int32))), .val (.int ((p2 &&& (2147483647 : Int32)) % (7 : Int32))), .val (.ref (P ((p1 &&& (2147483647 : Int32)) % (7 : Int32)))), .val (.ref (P ((p2 &&& (2147483647 : Int32)) % (7 : Int32)))), .val (.ref (P (own_s ((p1 &&& (2147483647 : Int32)) % (7 : Int32))))), .val (.ref (P (own_s ((p2 &&& (2147483647 : Int32)) % (7 : Int32))))), .val (.int (1 : Int32))]) rfl ?_
    show Steps p.tables e below (T9.setTop (mkF m 87 #[.val (.int p1), .val (.int p2), .val (.int ((p1 &&& (2147483647 : Int32)) % (7 : Int32))), .val (.int ((p2 &&& (2147483647 : Int32)) % (7 : Int32))), .val (.ref (P ((p1 &&& (2147483647 : Int32)) % (7 : Int32)))), .val (.ref (P ((p2 &&& (2147483647 : Int32)) % (7 : Int32)))), .val (.ref (P (own_s ((p1 &&& (2147483647 : Int32)) % (7 : Int32))))), .val (.ref (P (own_s ((p2 &&& (2147483647 : Int32)) % (7 : Int32))))), .val (.int (1 : Int32))] [])) _
    refine XS.iload X9.here hx rfl (hb hby at_87) rfl ?_
    show Steps p.tables e below (T9.setTop (mkF m 89 #[.val (.int p1), .val (.int p2), .val (.int ((p1 &&& (2147483647 : Int32)) % (7 : Int32))), .val (.int ((p2 &&& (2147483647 : Int32)) % (7 : Int32))), .val (.ref (P ((p1 &&& (2147483647 : Int32)) % (7 : Int32)))), .val (.ref (P ((p2 &&& (2147483647 : Int32)) % (7 : Int32)))), .val (.ref (P (own_s ((p1 &&& (2147483647 : Int32)) % (7 : Int32))))), .val (.ref (P (own_s ((p2 &&& (2147483647 : Int32)) % (7 : Int32))))), .val (.int (1 : Int32))] [(.int (1 : Int32))])) _
    refine XS.ifNo X9.here hx rfl (hb hby at_89) rfl ((if0 _ _).trans (feq hc89).1) ?_
    show Steps p.tables e below (T9.setTop (mkF m 92 #[.val (.int p1), .val (.int p2), .val (.int ((p1 &&& (2147483647 : Int32)) % (7 : Int32))), .val (.int ((p2 &&& (2147483647 : Int32)) % (7 : Int32))), .val (.ref (P ((p1 &&& (2147483647 : Int32)) % (7 : Int32)))), .val (.ref (P ((p2 &&& (2147483647 : Int32)) % (7 : Int32)))), .val (.ref (P (own_s ((p1 &&& (2147483647 : Int32)) % (7 : Int32))))), .val (.ref (P (own_s ((p2 &&& (2147483647 : Int32)) % (7 : Int32))))), .val (.int (1 : Int32))] [])) _
    refine XS.iloadN X9.here hx rfl (hb hby at_92) rfl ?_
    show Steps p.tables e below (T9.setTop (mkF m 93 #[.val (.int p1), .val (.int p2), .val (.int ((p1 &&& (2147483647 : Int32)) % (7 : Int32))), .val (.int ((p2 &&& (2147483647 : Int32)) % (7 : Int32))), .val (.ref (P ((p1 &&& (2147483647 : Int32)) % (7 : Int32)))), .val (.ref (P ((p2 &&& (2147483647 : Int32)) % (7 : Int32)))), .val (.ref (P (own_s ((p1 &&& (2147483647 : Int32)) % (7 : Int32))))), .val (.ref (P (own_s ((p2 &&& (2147483647 : Int32)) % (7 : Int32))))), .val (.int (1 : Int32))] [(.int ((p1 &&& (2147483647 : Int32)) % (7 : Int32)))])) _
    refine XS.bipush X9.here hx rfl (hb hby at_93) ?_
    show Steps p.tables e below (T9.setTop (mkF m 95 #[.val (.int p1), .val (.int p2), .val (.int ((p1 &&& (2147483647 : Int32)) % (7 : Int32))), .val (.int ((p2 &&& (2147483647 : Int32)) % (7 : Int32))), .val (.ref (P ((p1 &&& (2147483647 : Int32)) % (7 : Int32)))), .val (.ref (P ((p2 &&& (2147483647 : Int32)) % (7 : Int32)))), .val (.ref (P (own_s ((p1 &&& (2147483647 : Int32)) % (7 : Int32))))), .val (.ref (P (own_s ((p2 &&& (2147483647 : Int32)) % (7 : Int32))))), .val (.int (1 : Int32))] [(.int (6 : Int32)), (.int ((p1 &&& (2147483647 : Int32)) % (7 : Int32)))])) _
    refine XS.icmpYes X9.here hx rfl (pc0 := 95) (pc' := 105) rfl (hb hby at_95) rfl (teq hc95).1 (by decide) (by decide) ?_
    show Steps p.tables e below (T9.setTop (mkF m 105 #[.val (.int p1), .val (.int p2), .val (.int ((p1 &&& (2147483647 : Int32)) % (7 : Int32))), .val (.int ((p2 &&& (2147483647 : Int32)) % (7 : Int32))), .val (.ref (P ((p1 &&& (2147483647 : Int32)) % (7 : Int32)))), .val (.ref (P ((p2 &&& (2147483647 : Int32)) % (7 : Int32)))), .val (.ref (P (own_s ((p1 &&& (2147483647 : Int32)) % (7 : Int32))))), .val (.ref (P (own_s ((p2 &&& (2147483647 : Int32)) % (7 : Int32))))), .val (.int (1 : Int32))] [])) _
    refine XS.iconst X9.here hx rfl (hb hby at_105) ?_
    show Steps p.tables e below (T9.setTop (mkF m 106 #[.val (.int p1), .val (.int p2), .val (.int ((p1 &&& (2147483647 : Int32)) % (7 : Int32))), .val (.int ((p2 &&& (2147483647 : Int32)) % (7 : Int32))), .val (.ref (P ((p1 &&& (2147483647 : Int32)) % (7 : Int32)))), .val (.ref (P ((p2 &&& (2147483647 : Int32)) % (7 : Int32)))), .val (.ref (P (own_s ((p1 &&& (2147483647 : Int32)) % (7 : Int32))))), .val (.ref (P (own_s ((p2 &&& (2147483647 : Int32)) % (7 : Int32))))), .val (.int (1 : Int32))] [(.int (1 : Int32))])) _
    refine XS.goto X9.here hx rfl (pc0 := 106) (pc' := 110) rfl (hb hby at_106) (by decide) (by decide) ?_
    show Steps p.tables e below (T9.setTop (mkF m 110 #[.val (.int p1), .val (.int p2), .val (.int ((p1 &&& (2147483647 : Int32)) % (7 : Int32))), .val (.int ((p2 &&& (2147483647 : Int32)) % (7 : Int32))), .val (.ref (P ((p1 &&& (2147483647 : Int32)) % (7 : Int32)))), .val (.ref (P ((p2 &&& (2147483647 : Int32)) % (7 : Int32)))), .val (.ref (P (own_s ((p1 &&& (2147483647 : Int32)) % (7 : Int32))))), .val (.ref (P (own_s ((p2 &&& (2147483647 : Int32)) % (7 : Int32))))), .val (.int (1 : Int32))] [(.int (1 : Int32))])) _
    refine XS.istore X9.here hx rfl (hb hby at_110) rfl (l' := #[.val (.int p1), .val (.int p2), .val (.int ((p1 &&& (2147483647 : Int32)) % (7 : Int32))), .val (.int ((p2 &&& (2147483647 : Int32)) % (7 : Int32))), .val (.ref (P ((p1 &&& (2147483647 : Int32)) % (7 : Int32)))), .val (.ref (P ((p2 &&& (2147483647 : Int32)) % (7 : Int32)))), .val (.ref (P (own_s ((p1 &&& (2147483647 : Int32)) % (7 : Int32))))), .val (.ref (P (own_s ((p2 &&& (2147483647 : Int32)) % (7 : Int32))))), .val (.int (1 : Int32))]) rfl ?_
    show Steps p.tables e below (T9.setTop (mkF m 112 #[.val (.int p1), .val (.int p2), .val (.int ((p1 &&& (2147483647 : Int32)) % (7 : Int32))), .val (.int ((p2 &&& (2147483647 : Int32)) % (7 : Int32))), .val (.ref (P ((p1 &&& (2147483647 : Int32)) % (7 : Int32)))), .val (.ref (P ((p2 &&& (2147483647 : Int32)) % (7 : Int32)))), .val (.ref (P (own_s ((p1 &&& (2147483647 : Int32)) % (7 : Int32))))), .val (.ref (P (own_s ((p2 &&& (2147483647 : Int32)) % (7 : Int32))))), .val (.int (1 : Int32))] [])) _
    refine XS.iload X9.here hx rfl (hb hby at_112) rfl ?_
    show Steps p.tables e below (T9.setTop (mkF m 114 #[.val (.int p1), .val (.int p2), .val (.int ((p1 &&& (2147483647 : Int32)) % (7 : Int32))), .val (.int ((p2 &&& (2147483647 : Int32)) % (7 : Int32))), .val (.ref (P ((p1 &&& (2147483647 : Int32)) % (7 : Int32)))), .val (.ref (P ((p2 &&& (2147483647 : Int32)) % (7 : Int32)))), .val (.ref (P (own_s ((p1 &&& (2147483647 : Int32)) % (7 : Int32))))), .val (.ref (P (own_s ((p2 &&& (2147483647 : Int32)) % (7 : Int32))))), .val (.int (1 : Int32))] [(.int (1 : Int32))])) _
    refine XS.ifNo X9.here hx rfl (hb hby at_114) rfl ((if0 _ _).trans (feq hc114).1) ?_
    show Steps p.tables e below (T9.setTop (mkF m 117 #[.val (.int p1), .val (.int p2), .val (.int ((p1 &&& (2147483647 : Int32)) % (7 : Int32))), .val (.int ((p2 &&& (2147483647 : Int32)) % (7 : Int32))), .val (.ref (P ((p1 &&& (2147483647 : Int32)) % (7 : Int32)))), .val (.ref (P ((p2 &&& (2147483647 : Int32)) % (7 : Int32)))), .val (.ref (P (own_s ((p1 &&& (2147483647 : Int32)) % (7 : Int32))))), .val (.ref (P (own_s ((p2 &&& (2147483647 : Int32)) % (7 : Int32))))), .val (.int (1 : Int32))] [])) _
    refine XS.iloadN X9.here hx rfl (hb hby at_117) rfl ?_
    show Steps p.tables e below (T9.setTop (mkF m 118 #[.val (.int p1), .val (.int p2), .val (.int ((p1 &&& (2147483647 : Int32)) % (7 : Int32))), .val (.int ((p2 &&& (2147483647 : Int32)) % (7 : Int32))), .val (.ref (P ((p1 &&& (2147483647 : Int32)) % (7 : Int32)))), .val (.ref (P ((p2 &&& (2147483647 : Int32)) % (7 : Int32)))), .val (.ref (P (own_s ((p1 &&& (2147483647 : Int32)) % (7 : Int32))))), .val (.ref (P (own_s ((p2 &&& (2147483647 : Int32)) % (7 : Int32))))), .val (.int (1 : Int32))] [(.int ((p2 &&& (2147483647 : Int32)) % (7 : Int32)))])) _
    refine XS.bipush X9.here hx rfl (hb hby at_118) ?_
    show Steps p.tables e below (T9.setTop (mkF m 120 #[.val (.int p1), .val (.int p2), .val (.int ((p1 &&& (2147483647 : Int32)) % (7 : Int32))), .val (.int ((p2 &&& (2147483647 : Int32)) % (7 : Int32))), .val (.ref (P ((p1 &&& (2147483647 : Int32)) % (7 : Int32)))), .val (.ref (P ((p2 &&& (2147483647 : Int32)) % (7 : Int32)))), .val (.ref (P (own_s ((p1 &&& (2147483647 : Int32)) % (7 : Int32))))), .val (.ref (P (own_s ((p2 &&& (2147483647 : Int32)) % (7 : Int32))))), .val (.int (1 : Int32))] [(.int (6 : Int32)), (.int ((p2 &&& (2147483647 : Int32)) % (7 : Int32)))])) _
    refine XS.icmpNo X9.here hx rfl (hb hby at_120) rfl (feq hc120).1 ?_
    show Steps p.tables e below (T9.setTop (mkF m 123 #[.val (.int p1), .val (.int p2), .val (.int ((p1 &&& (2147483647 : Int32)) % (7 : Int32))), .val (.int ((p2 &&& (2147483647 : Int32)) % (7 : Int32))), .val (.ref (P ((p1 &&& (2147483647 : Int32)) % (7 : Int32)))), .val (.ref (P ((p2 &&& (2147483647 : Int32)) % (7 : Int32)))), .val (.ref (P (own_s ((p1 &&& (2147483647 : Int32)) % (7 : Int32))))), .val (.ref (P (own_s ((p2 &&& (2147483647 : Int32)) % (7 : Int32))))), .val (.int (1 : Int32))] [])) _
    refine XS.aload X9.here hx rfl (hb hby at_123) rfl rfl ?_
    show Steps p.tables e below (T9.setTop (mkF m 125 #[.val (.int p1), .val (.int p2), .val (.int ((p1 &&& (2147483647 : Int32)) % (7 : Int32))), .val (.int ((p2 &&& (2147483647 : Int32)) % (7 : Int32))), .val (.ref (P ((p1 &&& (2147483647 : Int32)) % (7 : Int32)))), .val (.ref (P ((p2 &&& (2147483647 : Int32)) % (7 : Int32)))), .val (.ref (P (own_s ((p1 &&& (2147483647 : Int32)) % (7 : Int32))))), .val (.ref (P (own_s ((p2 &&& (2147483647 : Int32)) % (7 : Int32))))), .val (.int (1 : Int32))] [(.ref (P (own_s ((p2 &&& (2147483647 : Int32)) % (7 : Int32)))))])) _
    refine XS.aload X9.here hx rfl (hb hby at_125) rfl rfl ?_
    show Steps p.tables e below (T9.setTop (mkF m 127 #[.val (.int p1), .val (.int p2), .val (.int ((p1 &&& (2147483647 : Int32)) % (7 : Int32))), .val (.int ((p2 &&& (2147483647 : Int32)) % (7 : Int32))), .val (.ref (P ((p1 &&& (2147483647 : Int32)) % (7 : Int32)))), .val (.ref (P ((p2 &&& (2147483647 : Int32)) % (7 : Int32)))), .val (.ref (P (own_s ((p1 &&& (2147483647 : Int32)) % (7 : Int32))))), .val (.ref (P (own_s ((p2 &&& (2147483647 : Int32)) % (7 : Int32))))), .val (.int (1 : Int32))] [(.ref (P ((p2 &&& (2147483647 : Int32)) % (7 : Int32)))), (.ref (P (own_s ((p2 &&& (2147483647 : Int32)) % (7 : Int32)))))])) _
    refine Jvm.RoadKit.acmp (g := (mkF m 127 #[.val (.int p1), .val (.int p2), .val (.int ((p1 &&& (2147483647 : Int32)) % (7 : Int32))), .val (.int ((p2 &&& (2147483647 : Int32)) % (7 : Int32))), .val (.ref (P ((p1 &&& (2147483647 : Int32)) % (7 : Int32)))), .val (.ref (P ((p2 &&& (2147483647 : Int32)) % (7 : Int32)))), .val (.ref (P (own_s ((p1 &&& (2147483647 : Int32)) % (7 : Int32))))), .val (.ref (P (own_s ((p2 &&& (2147483647 : Int32)) % (7 : Int32))))), .val (.int (1 : Int32))] [(.ref (P ((p2 &&& (2147483647 : Int32)) % (7 : Int32)))), (.ref (P (own_s ((p2 &&& (2147483647 : Int32)) % (7 : Int32)))))])) X9 hx rfl rfl rfl (pc0 := 127) (pc' := 130) (same := true) rfl (hb hby at_127) rfl (decide_eq_true (congrArg Value.ref ha127)) (by decide) (by decide) ?_
    show Steps p.tables e below (T9.setTop (mkF m 130 #[.val (.int p1), .val (.int p2), .val (.int ((p1 &&& (2147483647 : Int32)) % (7 : Int32))), .val (.int ((p2 &&& (2147483647 : Int32)) % (7 : Int32))), .val (.ref (P ((p1 &&& (2147483647 : Int32)) % (7 : Int32)))), .val (.ref (P ((p2 &&& (2147483647 : Int32)) % (7 : Int32)))), .val (.ref (P (own_s ((p1 &&& (2147483647 : Int32)) % (7 : Int32))))), .val (.ref (P (own_s ((p2 &&& (2147483647 : Int32)) % (7 : Int32))))), .val (.int (1 : Int32))] [])) _
    refine XS.iconst X9.here hx rfl (hb hby at_130) ?_
    show Steps p.tables e below (T9.setTop (mkF m 131 #[.val (.int p1), .val (.int p2), .val (.int ((p1 &&& (2147483647 : Int32)) % (7 : Int32))), .val (.int ((p2 &&& (2147483647 : Int32)) % (7 : Int32))), .val (.ref (P ((p1 &&& (2147483647 : Int32)) % (7 : Int32)))), .val (.ref (P ((p2 &&& (2147483647 : Int32)) % (7 : Int32)))), .val (.ref (P (own_s ((p1 &&& (2147483647 : Int32)) % (7 : Int32))))), .val (.ref (P (own_s ((p2 &&& (2147483647 : Int32)) % (7 : Int32))))), .val (.int (1 : Int32))] [(.int (1 : Int32))])) _
    refine XS.goto X9.here hx rfl (pc0 := 131) (pc' := 135) rfl (hb hby at_131) (by decide) (by decide) ?_
    show Steps p.tables e below (T9.setTop (mkF m 135 #[.val (.int p1), .val (.int p2), .val (.int ((p1 &&& (2147483647 : Int32)) % (7 : Int32))), .val (.int ((p2 &&& (2147483647 : Int32)) % (7 : Int32))), .val (.ref (P ((p1 &&& (2147483647 : Int32)) % (7 : Int32)))), .val (.ref (P ((p2 &&& (2147483647 : Int32)) % (7 : Int32)))), .val (.ref (P (own_s ((p1 &&& (2147483647 : Int32)) % (7 : Int32))))), .val (.ref (P (own_s ((p2 &&& (2147483647 : Int32)) % (7 : Int32))))), .val (.int (1 : Int32))] [(.int (1 : Int32))])) _
    refine XS.istore X9.here hx rfl (hb hby at_135) rfl (l' := #[.val (.int p1), .val (.int p2), .val (.int ((p1 &&& (2147483647 : Int32)) % (7 : Int32))), .val (.int ((p2 &&& (2147483647 : Int32)) % (7 : Int32))), .val (.ref (P ((p1 &&& (2147483647 : Int32)) % (7 : Int32)))), .val (.ref (P ((p2 &&& (2147483647 : Int32)) % (7 : Int32)))), .val (.ref (P (own_s ((p1 &&& (2147483647 : Int32)) % (7 : Int32))))), .val (.ref (P (own_s ((p2 &&& (2147483647 : Int32)) % (7 : Int32))))), .val (.int (1 : Int32))]) rfl ?_
    show Steps p.tables e below (T9.setTop (mkF m 137 #[.val (.int p1), .val (.int p2), .val (.int ((p1 &&& (2147483647 : Int32)) % (7 : Int32))), .val (.int ((p2 &&& (2147483647 : Int32)) % (7 : Int32))), .val (.ref (P ((p1 &&& (2147483647 : Int32)) % (7 : Int32)))), .val (.ref (P ((p2 &&& (2147483647 : Int32)) % (7 : Int32)))), .val (.ref (P (own_s ((p1 &&& (2147483647 : Int32)) % (7 : Int32))))), .val (.ref (P (own_s ((p2 &&& (2147483647 : Int32)) % (7 : Int32))))), .val (.int (1 : Int32))] [])) _
    refine XS.iload X9.here hx rfl (hb hby at_137) rfl ?_
    show Steps p.tables e below (T9.setTop (mkF m 139 #[.val (.int p1), .val (.int p2), .val (.int ((p1 &&& (2147483647 : Int32)) % (7 : Int32))), .val (.int ((p2 &&& (2147483647 : Int32)) % (7 : Int32))), .val (.ref (P ((p1 &&& (2147483647 : Int32)) % (7 : Int32)))), .val (.ref (P ((p2 &&& (2147483647 : Int32)) % (7 : Int32)))), .val (.ref (P (own_s ((p1 &&& (2147483647 : Int32)) % (7 : Int32))))), .val (.ref (P (own_s ((p2 &&& (2147483647 : Int32)) % (7 : Int32))))), .val (.int (1 : Int32))] [(.int (1 : Int32))])) _
    refine XS.ifNo X9.here hx rfl (hb hby at_139) rfl ((if0 _ _).trans (feq hc139).1) ?_
    show Steps p.tables e below (T9.setTop (mkF m 142 #[.val (.int p1), .val (.int p2), .val (.int ((p1 &&& (2147483647 : Int32)) % (7 : Int32))), .val (.int ((p2 &&& (2147483647 : Int32)) % (7 : Int32))), .val (.ref (P ((p1 &&& (2147483647 : Int32)) % (7 : Int32)))), .val (.ref (P ((p2 &&& (2147483647 : Int32)) % (7 : Int32)))), .val (.ref (P (own_s ((p1 &&& (2147483647 : Int32)) % (7 : Int32))))), .val (.ref (P (own_s ((p2 &&& (2147483647 : Int32)) % (7 : Int32))))), .val (.int (1 : Int32))] [])) _
    refine XS.aload X9.here hx rfl (hb hby at_142) rfl rfl ?_
    show Steps p.tables e below (T9.setTop (mkF m 144 #[.val (.int p1), .val (.int p2), .val (.int ((p1 &&& (2147483647 : Int32)) % (7 : Int32))), .val (.int ((p2 &&& (2147483647 : Int32)) % (7 : Int32))), .val (.ref (P ((p1 &&& (2147483647 : Int32)) % (7 : Int32)))), .val (.ref (P ((p2 &&& (2147483647 : Int32)) % (7 : Int32)))), .val (.ref (P (own_s ((p1 &&& (2147483647 : Int32)) % (7 : Int32))))), .val (.ref (P (own_s ((p2 &&& (2147483647 : Int32)) % (7 : Int32))))), .val (.int (1 : Int32))] [(.ref (P (own_s ((p1 &&& (2147483647 : Int32)) % (7 : Int32)))))])) _
    refine st10 _ ?_
    show Steps p.tables e below (T10.setTop (mkF m 147 #[.val (.int p1), .val (.int p2), .val (.int ((p1 &&& (2147483647 : Int32)) % (7 : Int32))), .val (.int ((p2 &&& (2147483647 : Int32)) % (7 : Int32))), .val (.ref (P ((p1 &&& (2147483647 : Int32)) % (7 : Int32)))), .val (.ref (P ((p2 &&& (2147483647 : Int32)) % (7 : Int32)))), .val (.ref (P (own_s ((p1 &&& (2147483647 : Int32)) % (7 : Int32))))), .val (.ref (P (own_s ((p2 &&& (2147483647 : Int32)) % (7 : Int32))))), .val (.int (1 : Int32))] [(.ref (P (own_s (own_s ((p1 &&& (2147483647 : Int32)) % (7 : Int32))))))])) _
    refine XS.aload X10.here hx rfl (hb hby at_147) rfl rfl ?_
    show Steps p.tables e below (T10.setTop (mkF m 149 #[.val (.int p1), .val (.int p2), .val (.int ((p1 &&& (2147483647 : Int32)) % (7 : Int32))), .val (.int ((p2 &&& (2147483647 : Int32)) % (7 : Int32))), .val (.ref (P ((p1 &&& (2147483647 : Int32)) % (7 : Int32)))), .val (.ref (P ((p2 &&& (2147483647 : Int32)) % (7 : Int32)))), .val (.ref (P (own_s ((p1 &&& (2147483647 : Int32)) % (7 : Int32))))), .val (.ref (P (own_s ((p2 &&& (2147483647 : Int32)) % (7 : Int32))))), .val (.int (1 : Int32))] [(.ref (P (own_s ((p1 &&& (2147483647 : Int32)) % (7 : Int32))))), (.ref (P (own_s (own_s ((p1 &&& (2147483647 : Int32)) % (7 : Int32))))))])) _
    refine Jvm.RoadKit.acmp (g := (mkF m 149 #[.val (.int p1), .val (.int p2), .val (.int ((p1 &&& (2147483647 : Int32)) % (7 : Int32))), .val (.int ((p2 &&& (2147483647 : Int32)) % (7 : Int32))), .val (.ref (P ((p1 &&& (2147483647 : Int32)) % (7 : Int32)))), .val (.ref (P ((p2 &&& (2147483647 : Int32)) % (7 : Int32)))), .val (.ref (P (own_s ((p1 &&& (2147483647 : Int32)) % (7 : Int32))))), .val (.ref (P (own_s ((p2 &&& (2147483647 : Int32)) % (7 : Int32))))), .val (.int (1 : Int32))] [(.ref (P (own_s ((p1 &&& (2147483647 : Int32)) % (7 : Int32))))), (.ref (P (own_s (own_s ((p1 &&& (2147483647 : Int32)) % (7 : Int32))))))])) X10 hx rfl rfl rfl (pc0 := 149) (pc' := 152) (same := true) rfl (hb hby at_149) rfl (decide_eq_true (congrArg Value.ref ha149)) (by decide) (by decide) ?_
    show Steps p.tables e below (T10.setTop (mkF m 152 #[.val (.int p1), .val (.int p2), .val (.int ((p1 &&& (2147483647 : Int32)) % (7 : Int32))), .val (.int ((p2 &&& (2147483647 : Int32)) % (7 : Int32))), .val (.ref (P ((p1 &&& (2147483647 : Int32)) % (7 : Int32)))), .val (.ref (P ((p2 &&& (2147483647 : Int32)) % (7 : Int32)))), .val (.ref (P (own_s ((p1 &&& (2147483647 : Int32)) % (7 : Int32))))), .val (.ref (P (own_s ((p2 &&& (2147483647 : Int32)) % (7 : Int32))))), .val (.int (1 : Int32))] [])) _
    refine XS.iconst X10.here hx rfl (hb hby at_152) ?_
    show Steps p.tables e below (T10.setTop (mkF m 153 #[.val (.int p1), .val (.int p2), .val (.int ((p1 &&& (2147483647 : Int32)) % (7 : Int32))), .val (.int ((p2 &&& (2147483647 : Int32)) % (7 : Int32))), .val (.ref (P ((p1 &&& (2147483647 : Int32)) % (7 : Int32)))), .val (.ref (P ((p2 &&& (2147483647 : Int32)) % (7 : Int32)))), .val (.ref (P (own_s ((p1 &&& (2147483647 : Int32)) % (7 : Int32))))), .val (.ref (P (own_s ((p2 &&& (2147483647 : Int32)) % (7 : Int32))))), .val (.int (1 : Int32))] [(.int (1 : Int32))])) _
    refine XS.goto X10.here hx rfl (pc0 := 153) (pc' := 157) rfl (hb hby at_153) (by decide) (by decide) ?_
    show Steps p.tables e below (T10.setTop (mkF m 157 #[.val (.int p1), .val (.int p2), .val (.int ((p1 &&& (2147483647 : Int32)) % (7 : Int32))), .val (.int ((p2 &&& (2147483647 : Int32)) % (7 : Int32))), .val (.ref (P ((p1 &&& (2147483647 : Int32)) % (7 : Int32)))), .val (.ref (P ((p2 &&& (2147483647 : Int32)) % (7 : Int32)))), .val (.ref (P (own_s ((p1 &&& (2147483647 : Int32)) % (7 : Int32))))), .val (.ref (P (own_s ((p2 &&& (2147483647 : Int32)) % (7 : Int32))))), .val (.int (1 : Int32))] [(.int (1 : Int32))])) _
    refine XS.istore X10.here hx rfl (hb hby at_157) rfl (l' := #[.val (.int p1), .val (.int p2), .val (.int ((p1 &&& (2147483647 : Int32)) % (7 : Int32))), .val (.int ((p2 &&& (2147483647 : Int32)) % (7 : Int32))), .val (.ref (P ((p1 &&& (2147483647 : Int32)) % (7 : Int32)))), .val (.ref (P ((p2 &&& (2147483647 : Int32)) % (7 : Int32)))), .val (.ref (P (own_s ((p1 &&& (2147483647 : Int32)) % (7 : Int32))))), .val (.ref (P (own_s ((p2 &&& (2147483647 : Int32)) % (7 : Int32))))), .val (.int (1 : Int32))]) rfl ?_
    show Steps p.tables e below (T10.setTop (mkF m 159 #[.val (.int p1), .val (.int p2), .val (.int ((p1 &&& (2147483647 : Int32)) % (7 : Int32))), .val (.int ((p2 &&& (2147483647 : Int32)) % (7 : Int32))), .val (.ref (P ((p1 &&& (2147483647 : Int32)) % (7 : Int32)))), .val (.ref (P ((p2 &&& (2147483647 : Int32)) % (7 : Int32)))), .val (.ref (P (own_s ((p1 &&& (2147483647 : Int32)) % (7 : Int32))))), .val (.ref (P (own_s ((p2 &&& (2147483647 : Int32)) % (7 : Int32))))), .val (.int (1 : Int32))] [])) _
    refine XS.iload X10.here hx rfl (hb hby at_159) rfl ?_
    show Steps p.tables e below (T10.setTop (mkF m 161 #[.val (.int p1), .val (.int p2), .val (.int ((p1 &&& (2147483647 : Int32)) % (7 : Int32))), .val (.int ((p2 &&& (2147483647 : Int32)) % (7 : Int32))), .val (.ref (P ((p1 &&& (2147483647 : Int32)) % (7 : Int32)))), .val (.ref (P ((p2 &&& (2147483647 : Int32)) % (7 : Int32)))), .val (.ref (P (own_s ((p1 &&& (2147483647 : Int32)) % (7 : Int32))))), .val (.ref (P (own_s ((p2 &&& (2147483647 : Int32)) % (7 : Int32))))), .val (.int (1 : Int32))] [(.int (1 : Int32))])) _
    refine XS.ifNo X10.here hx rfl (hb hby at_161) rfl ((if0 _ _).trans (feq hc161).1) ?_
    show Steps p.tables e below (T10.setTop (mkF m 164 #[.val (.int p1), .val (.int p2), .val (.int ((p1 &&& (2147483647 : Int32)) % (7 : Int32))), .val (.int ((p2 &&& (2147483647 : Int32)) % (7 : Int32))), .val (.ref (P ((p1 &&& (2147483647 : Int32)) % (7 : Int32)))), .val (.ref (P ((p2 &&& (2147483647 : Int32)) % (7 : Int32)))), .val (.ref (P (own_s ((p1 &&& (2147483647 : Int32)) % (7 : Int32))))), .val (.ref (P (own_s ((p2 &&& (2147483647 : Int32)) % (7 : Int32))))), .val (.int (1 : Int32))] [])) _
    refine XS.iloadN X10.here hx rfl (hb hby at_164) rfl ?_
    show Steps p.tables e below (T10.setTop (mkF m 165 #[.val (.int p1), .val (.int p2), .val (.int ((p1 &&& (2147483647 : Int32)) % (7 : Int32))), .val (.int ((p2 &&& (2147483647 : Int32)) % (7 : Int32))), .val (.ref (P ((p1 &&& (2147483647 : Int32)) % (7 : Int32)))), .val (.ref (P ((p2 &&& (2147483647 : Int32)) % (7 : Int32)))), .val (.ref (P (own_s ((p1 &&& (2147483647 : Int32)) % (7 : Int32))))), .val (.ref (P (own_s ((p2 &&& (2147483647 : Int32)) % (7 : Int32))))), .val (.int (1 : Int32))] [(.int ((p1 &&& (2147483647 : Int32)) % (7 : Int32)))])) _
    refine XS.bipush X10.here hx rfl (hb hby at_165) ?_
    show Steps p.tables e below (T10.setTop (mkF m 167 #[.val (.int p1), .val (.int p2), .val (.int ((p1 &&& (2147483647 : Int32)) % (7 : Int32))), .val (.int ((p2 &&& (2147483647 : Int32)) % (7 : Int32))), .val (.ref (P ((p1 &&& (2147483647 : Int32)) % (7 : Int32)))), .val (.ref (P ((p2 &&& (2147483647 : Int32)) % (7 : Int32)))), .val (.ref (P (own_s ((p1 &&& (2147483647 : Int32)) % (7 : Int32))))), .val (.ref (P (own_s ((p2 &&& (2147483647 : Int32)) % (7 : Int32))))), .val (.int (1 : Int32))] [(.int (6 : Int32)), (.int ((p1 &&& (2147483647 : Int32)) % (7 : Int32)))])) _
    refine XS.icmpNo X10.here hx rfl (hb hby at_167) rfl (teq hc167).2 ?_
    show Steps p.tables e below (T10.setTop (mkF m 170 #[.val (.int p1), .val (.int p2), .val (.int ((p1 &&& (2147483647 : Int32)) % (7 : Int32))), .val (.int ((p2 &&& (2147483647 : Int32)) % (7 : Int32))), .val (.ref (P ((p1 &&& (2147483647 : Int32)) % (7 : Int32)))), .val (.ref (P ((p2 &&& (2147483647 : Int32)) % (7 : Int32)))), .val (.ref (P (own_s ((p1 &&& (2147483647 : Int32)) % (7 : Int32))))), .val (.ref (P (own_s ((p2 &&& (2147483647 : Int32)) % (7 : Int32))))), .val (.int (1 : Int32))] [])) _
    refine XS.aload X10.here hx rfl (hb hby at_170) rfl rfl ?_
    show Steps p.tables e below (T10.setTop (mkF m 172 #[.val (.int p1), .val (.int p2), .val (.int ((p1 &&& (2147483647 : Int32)) % (7 : Int32))), .val (.int ((p2 &&& (2147483647 : Int32)) % (7 : Int32))), .val (.ref (P ((p1 &&& (2147483647 : Int32)) % (7 : Int32)))), .val (.ref (P ((p2 &&& (2147483647 : Int32)) % (7 : Int32)))), .val (.ref (P (own_s ((p1 &&& (2147483647 : Int32)) % (7 : Int32))))), .val (.ref (P (own_s ((p2 &&& (2147483647 : Int32)) % (7 : Int32))))), .val (.int (1 : Int32))] [(.ref (P (own_s ((p1 &&& (2147483647 : Int32)) % (7 : Int32)))))])) _
    refine st12 _ ?_
    show Steps p.tables e below (T12.setTop (mkF m 175 #[.val (.int p1), .val (.int p2), .val (.int ((p1 &&& (2147483647 : Int32)) % (7 : Int32))), .val (.int ((p2 &&& (2147483647 : Int32)) % (7 : Int32))), .val (.ref (P ((p1 &&& (2147483647 : Int32)) % (7 : Int32)))), .val (.ref (P ((p2 &&& (2147483647 : Int32)) % (7 : Int32)))), .val (.ref (P (own_s ((p1 &&& (2147483647 : Int32)) % (7 : Int32))))), .val (.ref (P (own_s ((p2 &&& (2147483647 : Int32)) % (7 : Int32))))), .val (.int (1 : Int32))] [(.ref (P 5)), (.ref (P (own_s ((p1 &&& (2147483647 : Int32)) % (7 : Int32)))))])) _
    refine st13 _ ?_
    show Steps p.tables e below (T13.setTop (mkF m 178 #[.val (.int p1), .val (.int p2), .val (.int ((p1 &&& (2147483647 : Int32)) % (7 : Int32))), .val (.int ((p2 &&& (2147483647 : Int32)) % (7 : Int32))), .val (.ref (P ((p1 &&& (2147483647 : Int32)) % (7 : Int32)))), .val (.ref (P ((p2 &&& (2147483647 : Int32)) % (7 : Int32)))), .val (.ref (P (own_s ((p1 &&& (2147483647 : Int32)) % (7 : Int32))))), .val (.ref (P (own_s ((p2 &&& (2147483647 : Int32)) % (7 : Int32))))), .val (.int (1 : Int32))] [(.ref (P (own_s 5))), (.ref (P (own_s ((p1 &&& (2147483647 : Int32)) % (7 : Int32)))))])) _
    refine Jvm.RoadKit.acmp (g := (mkF m 178 #[.val (.int p1), .val (.int p2), .val (.int ((p1 &&& (2147483647 : Int32)) % (7 : Int32))), .val (.int ((p2 &&& (2147483647 : Int32)) % (7 : Int32))), .val (.ref (P ((p1 &&& (2147483647 : Int32)) % (7 : Int32)))), .val (.ref (P ((p2 &&& (2147483647 : Int32)) % (7 : Int32)))), .val (.ref (P (own_s ((p1 &&& (2147483647 : Int32)) % (7 : Int32))))), .val (.ref (P (own_s ((p2 &&& (2147483647 : Int32)) % (7 : Int32))))), .val (.int (1 : Int32))] [(.ref (P (own_s 5))), (.ref (P (own_s ((p1 &&& (2147483647 : Int32)) % (7 : Int32)))))])) X13 hx rfl rfl rfl (pc0 := 178) (pc' := 181) (same := true) rfl (hb hby at_178) rfl (decide_eq_true (congrArg Value.ref ha178)) (by decide) (by decide) ?_
    show Steps p.tables e below (T13.setTop (mkF m 181 #[.val (.int p1), .val (.int p2), .val (.int ((p1 &&& (2147483647 : Int32)) % (7 : Int32))), .val (.int ((p2 &&& (2147483647 : Int32)) % (7 : Int32))), .val (.ref (P ((p1 &&& (2147483647 : Int32)) % (7 : Int32)))), .val (.ref (P ((p2 &&& (2147483647 : Int32)) % (7 : Int32)))), .val (.ref (P (own_s ((p1 &&& (2147483647 : Int32)) % (7 : Int32))))), .val (.ref (P (own_s ((p2 &&& (2147483647 : Int32)) % (7 : Int32))))), .val (.int (1 : Int32))] [])) _
    refine XS.iconst X13.here hx rfl (hb hby at_181) ?_
    show Steps p.tables e below (T13.setTop (mkF m 182 #[.val (.int p1), .val (.int p2), .val (.int ((p1 &&& (2147483647 : Int32)) % (7 : Int32))), .val (.int ((p2 &&& (2147483647 : Int32)) % (7 : Int32))), .val (.ref (P ((p1 &&& (2147483647 : Int32)) % (7 : Int32)))), .val (.ref (P ((p2 &&& (2147483647 : Int32)) % (7 : Int32)))), .val (.ref (P (own_s ((p1 &&& (2147483647 : Int32)) % (7 : Int32))))), .val (.ref (P (own_s ((p2 &&& (2147483647 : Int32)) % (7 : Int32))))), .val (.int (1 : Int32))] [(.int (1 : Int32))])) _
    refine XS.goto X13.here hx rfl (pc0 := 182) (pc' := 186) rfl (hb hby at_182) (by decide) (by decide) ?_
    show Steps p.tables e below (T13.setTop (mkF m 186 #[.val (.int p1), .val (.int p2), .val (.int ((p1 &&& (2147483647 : Int32)) % (7 : Int32))), .val (.int ((p2 &&& (2147483647 : Int32)) % (7 : Int32))), .val (.ref (P ((p1 &&& (2147483647 : Int32)) % (7 : Int32)))), .val (.ref (P ((p2 &&& (2147483647 : Int32)) % (7 : Int32)))), .val (.ref (P (own_s ((p1 &&& (2147483647 : Int32)) % (7 : Int32))))), .val (.ref (P (own_s ((p2 &&& (2147483647 : Int32)) % (7 : Int32))))), .val (.int (1 : Int32))] [(.int (1 : Int32))])) _
    refine XS.istore X13.here hx rfl (hb hby at_186) rfl (l' := #[.val (.int p1), .val (.int p2), .val (.int ((p1 &&& (2147483647 : Int32)) % (7 : Int32))), .val (.int ((p2 &&& (2147483647 : Int32)) % (7 : Int32))), .val (.ref (P ((p1 &&& (2147483647 : Int32)) % (7 : Int32)))), .val (.ref (P ((p2 &&& (2147483647 : Int32)) % (7 : Int32)))), .val (.ref (P (own_s ((p1 &&& (2147483647 : Int32)) % (7 : Int32))))), .val (.ref (P (own_s ((p2 &&& (2147483647 : Int32)) % (7 : Int32))))), .val (.int (1 : Int32))]) rfl ?_
    show Steps p.tables e below (T13.setTop (mkF m 188 #[.val (.int p1), .val (.int p2), .val (.int ((p1 &&& (2147483647 : Int32)) % (7 : Int32))), .val (.int ((p2 &&& (2147483647 : Int32)) % (7 : Int32))), .val (.ref (P ((p1 &&& (2147483647 : Int32)) % (7 : Int32)))), .val (.ref (P ((p2 &&& (2147483647 : Int32)) % (7 : Int32)))), .val (.ref (P (own_s ((p1 &&& (2147483647 : Int32)) % (7 : Int32))))), .val (.ref (P (own_s ((p2 &&& (2147483647 : Int32)) % (7 : Int32))))), .val (.int (1 : Int32))] [])) _
    refine XS.iload X13.here hx rfl (hb hby at_188) rfl ?_
    show Steps p.tables e below (T13.setTop (mkF m 190 #[.val (.int p1), .val (.int p2), .val (.int ((p1 &&& (2147483647 : Int32)) % (7 : Int32))), .val (.int ((p2 &&& (2147483647 : Int32)) % (7 : Int32))), .val (.ref (P ((p1 &&& (2147483647 : Int32)) % (7 : Int32)))), .val (.ref (P ((p2 &&& (2147483647 : Int32)) % (7 : Int32)))), .val (.ref (P (own_s ((p1 &&& (2147483647 : Int32)) % (7 : Int32))))), .val (.ref (P (own_s ((p2 &&& (2147483647 : Int32)) % (7 : Int32))))), .val (.int (1 : Int32))] [(.int (1 : Int32))])) _
    refine XS.ifNo X13.here hx rfl (hb hby at_190) rfl ((if0 _ _).trans (feq hc190).1) ?_
    show Steps p.tables e below (T13.setTop (mkF m 193 #[.val (.int p1), .val (.int p2), .val (.int ((p1 &&& (2147483647 : Int32)) % (7 : Int32))), .val (.int ((p2 &&& (2147483647 : Int32)) % (7 : Int32))), .val (.ref (P ((p1 &&& (2147483647 : Int32)) % (7 : Int32)))), .val (.ref (P ((p2 &&& (2147483647 : Int32)) % (7 : Int32)))), .val (.ref (P (own_s ((p1 &&& (2147483647 : Int32)) % (7 : Int32))))), .val (.ref (P (own_s ((p2 &&& (2147483647 : Int32)) % (7 : Int32))))), .val (.int (1 : Int32))] [])) _
    refine XS.iloadN X13.here hx rfl (hb hby at_193) rfl ?_
    show Steps p.tables e below (T13.setTop (mkF m 194 #[.val (.int p1), .val (.int p2), .val (.int ((p1 &&& (2147483647 : Int32)) % (7 : Int32))), .val (.int ((p2 &&& (2147483647 : Int32)) % (7 : Int32))), .val (.ref (P ((p1 &&& (2147483647 : Int32)) % (7 : Int32)))), .val (.ref (P ((p2 &&& (2147483647 : Int32)) % (7 : Int32)))), .val (.ref (P (own_s ((p1 &&& (2147483647 : Int32)) % (7 : Int32))))), .val (.ref (P (own_s ((p2 &&& (2147483647 : Int32)) % (7 : Int32))))), .val (.int (1 : Int32))] [(.int ((p1 &&& (2147483647 : Int32)) % (7 : Int32)))])) _
    refine XS.iloadN X13.here hx rfl (hb hby at_194) rfl ?_
    show Steps p.tables e below (T13.setTop (mkF m 195 #[.val (.int p1), .val (.int p2), .val (.int ((p1 &&& (2147483647 : Int32)) % (7 : Int32))), .val (.int ((p2 &&& (2147483647 : Int32)) % (7 : Int32))), .val (.ref (P ((p1 &&& (2147483647 : Int32)) % (7 : Int32)))), .val (.ref (P ((p2 &&& (2147483647 : Int32)) % (7 : Int32)))), .val (.ref (P (own_s ((p1 &&& (2147483647 : Int32)) % (7 : Int32))))), .val (.ref (P (own_s ((p2 &&& (2147483647 : Int32)) % (7 : Int32))))), .val (.int (1 : Int32))] [(.int ((p2 &&& (2147483647 : Int32)) % (7 : Int32))), (.int ((p1 &&& (2147483647 : Int32)) % (7 : Int32)))])) _
    refine XS.icmpYes X13.here hx rfl (pc0 := 195) (pc' := 211) rfl (hb hby at_195) rfl (tlt hc195).2.2.1 (by decide) (by decide) ?_
    show Steps p.tables e below (T13.setTop (mkF m 211 #[.val (.int p1), .val (.int p2), .val (.int ((p1 &&& (2147483647 : Int32)) % (7 : Int32))), .val (.int ((p2 &&& (2147483647 : Int32)) % (7 : Int32))), .val (.ref (P ((p1 &&& (2147483647 : Int32)) % (7 : Int32)))), .val (.ref (P ((p2 &&& (2147483647 : Int32)) % (7 : Int32)))), .val (.ref (P (own_s ((p1 &&& (2147483647 : Int32)) % (7 : Int32))))), .val (.ref (P (own_s ((p2 &&& (2147483647 : Int32)) % (7 : Int32))))), .val (.int (1 : Int32))] [])) _
    refine XS.iconst X13.here hx rfl (hb hby at_211) ?_
    show Steps p.tables e below (T13.setTop (mkF m 212 #[.val (.int p1), .val (.int p2), .val (.int ((p1 &&& (2147483647 : Int32)) % (7 : Int32))), .val (.int ((p2 &&& (2147483647 : Int32)) % (7 : Int32))), .val (.ref (P ((p1 &&& (2147483647 : Int32)) % (7 : Int32)))), .val (.ref (P ((p2 &&& (2147483647 : Int32)) % (7 : Int32)))), .val (.ref (P (own_s ((p1 &&& (2147483647 : Int32)) % (7 : Int32))))), .val (.ref (P (own_s ((p2 &&& (2147483647 : Int32)) % (7 : Int32))))), .val (.int (1 : Int32))] [(.int (1 : Int32))])) _
    refine XS.goto X13.here hx rfl (pc0 := 212) (pc' := 216) rfl (hb hby at_212) (by decide) (by decide) ?_
    show Steps p.tables e below (T13.setTop (mkF m 216 #[.val (.int p1), .val (.int p2), .val (.int ((p1 &&& (2147483647 : Int32)) % (7 : Int32))), .val (.int ((p2 &&& (2147483647 : Int32)) % (7 : Int32))), .val (.ref (P ((p1 &&& (2147483647 : Int32)) % (7 : Int32)))), .val (.ref (P ((p2 &&& (2147483647 : Int32)) % (7 : Int32)))), .val (.ref (P (own_s ((p1 &&& (2147483647 : Int32)) % (7 : Int32))))), .val (.ref (P (own_s ((p2 &&& (2147483647 : Int32)) % (7 : Int32))))), .val (.int (1 : Int32))] [(.int (1 : Int32))])) _
    refine XS.istore X13.here hx rfl (hb hby at_216) rfl (l' := #[.val (.int p1), .val (.int p2), .val (.int ((p1 &&& (2147483647 : Int32)) % (7 : Int32))), .val (.int ((p2 &&& (2147483647 : Int32)) % (7 : Int32))), .val (.ref (P ((p1 &&& (2147483647 : Int32)) % (7 : Int32)))), .val (.ref (P ((p2 &&& (2147483647 : Int32)) % (7 : Int32)))), .val (.ref (P (own_s ((p1 &&& (2147483647 : Int32)) % (7 : Int32))))), .val (.ref (P (own_s ((p2 &&& (2147483647 : Int32)) % (7 : Int32))))), .val (.int (1 : Int32))]) rfl ?_
    show Steps p.tables e below (T13.setTop (mkF m 218 #[.val (.int p1), .val (.int p2), .val (.int ((p1 &&& (2147483647 : Int32)) % (7 : Int32))), .val (.int ((p2 &&& (2147483647 : Int32)) % (7 : Int32))), .val (.ref (P ((p1 &&& (2147483647 : Int32)) % (7 : Int32)))), .val (.ref (P ((p2 &&& (2147483647 : Int32)) % (7 : Int32)))), .val (.ref (P (own_s ((p1 &&& (2147483647 : Int32)) % (7 : Int32))))), .val (.ref (P (own_s ((p2 &&& (2147483647 : Int32)) % (7 : Int32))))), .val (.int (1 : Int32))] [])) _
    refine XS.iload X13.here hx rfl (hb hby at_218) rfl ?_
    show Steps p.tables e below (T13.setTop (mkF m 220 #[.val (.int p1), .val (.int p2), .val (.int ((p1 &&& (2147483647 : Int32)) % (7 : Int32))), .val (.int ((p2 &&& (2147483647 : Int32)) % (7 : Int32))), .val (.ref (P ((p1 &&& (2147483647 : Int32)) % (7 : Int32)))), .val (.ref (P ((p2 &&& (2147483647 : Int32)) % (7 : Int32)))), .val (.ref (P (own_s ((p1 &&& (2147483647 : Int32)) % (7 : Int32))))), .val (.ref (P (own_s ((p2 &&& (2147483647 : Int32)) % (7 : Int32))))), .val (.int (1 : Int32))] [(.int (1 : Int32))])) _
    exact retN X13 hx (t := .boolean) Bd.returns (by simp) (hb hby at_220) hr
  · show Qlaw n0 _ _
    exact ⟨rfl, N13⟩
set_option maxRecDepth 65536 in
set_option maxHeartbeats 40000000 in
theorem rm0C (l : Launch) (Z : State) (a0 : Array Value) (hw : ∀ d ∈ tables_1, d.before a0 Z = true) (ws : List Jvm.Cond) (p1 : Int32) (p2 : Int32) (P : Int32 → Addr) (h0 : Heap) (n0 : Nat) (Z0 : n0 ≤ h0.size) (K : Known Z h0 P) (S_MILLISECOND : Sta Z h0 "com/example/numerand/numerand/engine/Precision" "MILLISECOND" "Lcom/example/numerand/numerand/engine/Precision;" (.ref (P 6))) (hc61 : ¬ ((1 : Int32) = (0 : Int32))) (ha69 : ¬ ((P (own_s ((p1 &&& (2147483647 : Int32)) % (7 : Int32)))) = (P 6))) (ha77 : ¬ ((P (own_s ((p2 &&& (2147483647 : Int32)) % (7 : Int32)))) = (P 6))) (hc89 : ¬ ((1 : Int32) = (0 : Int32))) (hc95 : ¬ (((p1 &&& (2147483647 : Int32)) % (7 : Int32)) = (6 : Int32))) (ha102 : (P (own_s ((p1 &&& (2147483647 : Int32)) % (7 : Int32)))) = (P ((p1 &&& (2147483647 : Int32)) % (7 : Int32)))) (hc114 : ¬ ((1 : Int32) = (0 : Int32))) (hc120 : ((p2 &&& (2147483647 : Int32)) % (7 : Int32)) = (6 : Int32)) (hc139 : ¬ ((1 : Int32) = (0 : Int32))) (ha149 : (P (own_s (own_s ((p1 &&& (2147483647 : Int32)) % (7 : Int32))))) = (P (own_s ((p1 &&& (2147483647 : Int32)) % (7 : Int32))))) (hc161 : ¬ ((1 : Int32) = (0 : Int32))) (hc167 : ¬ (((p1 &&& (2147483647 : Int32)) % (7 : Int32)) = (6 : Int32))) (hc190 : ¬ ((1 : Int32) = (0 : Int32))) (hc195 : ¬ (((p2 &&& (2147483647 : Int32)) % (7 : Int32)) < ((p1 &&& (2147483647 : Int32)) % (7 : Int32)))) :
    MetFree l x (head1 (Jvm.Cond.code x code maxLocals ret :: ws) room_1) (fun a U => a = #[(.int p1), (.int p2)] ∧ Z.Warmed39 U.vm ∧ U.heap = h0) (fun _ _ _ _ _ => True) (fun _ U o U' => ∃ v L, o = .returned v ∧ Qlaw n0 v L ∧ FrameEnd U o U' L room_1.cells room_1.slots) := by
  refine MetFree.of_bodySF (plainFor_of_name pn_0) hisR ?_
  intro p e s m args below meth c s₁ Bd hml0 hP hK
  obtain ⟨rfl, hZ, hh⟩ := hP
  have hx := Bd.exec
  have hby := Bd.bytes
  have hml : c.maxLocals = 9 := hml0
  have hown : s.vm.findClass "com/example/numerand/numerand/engine/PrecisionSecondsPinLaw" = some m.cls := findClass_of_methodNamed Bd.named
  have hnm := (name_of_methodNamed Bd.named Bd.method).1
  have X0 : Stand p l e room_1 s m #[(.int p1), (.int p2)] below meth c s₁ [] 0 0 := Stand.of_body Bd
  have e0 : s₁.heap = h0 := by rw [← hh, Bd.state]; rfl
  have N0 := Fr.nil n0
  have pre0 : ∀ t, Steps p.tables e below (s₁.setTop (mkF m 0 #[.val (.int p1), .val (.int p2), .unset, .unset, .unset, .unset, .unset, .unset, .unset] [])) t → Steps p.tables e below (s₁.setTop (entryFrame m #[(.int p1), (.int p2)] maxLocals)) t := fun t k => castTop (ef_0 m p1 p2) k
  obtain ⟨_, _, ⟨T3, L3, k3, n3⟩, -, X3, ⟨Lc3, hQ3, l3, y3, z3⟩, st3⟩ := Jvm.LawKit.callS X0 hx (y := (⟨"com/example/numerand/numerand/engine/PrecisionSecondsPinLaw", "pick", "(I)Lcom/example/numerand/numerand/engine/Precision;"⟩ : MethodName)) hown (mvT hZ (hw _ (List.mem_of_getElem? (i := 1) rfl))) (mvT hZ (hw _ (List.mem_of_getElem? (i := 2) rfl))) (mvT hZ (hw _ (List.mem_of_getElem? (i := 3) rfl))) (mvT hZ (hw _ (List.mem_of_getElem? (i := 4) rfl))) (by decide) (backOf (W := 0) (rm1 l Z a0 hw [] ((p1 &&& (2147483647 : Int32)) % (7 : Int32)) P h0 n0 Z0 K (own_in7 p1)) hZ (hw _ (List.mem_of_getElem? (i := 4) rfl)) (hw _ (List.mem_of_getElem? (i := 3) rfl)) (by decide) (by decide)) (g := (mkF m 17 #[.val (.int p1), .val (.int p2), .val (.int ((p1 &&& (2147483647 : Int32)) % (7 : Int32))), .val (.int ((p2 &&& (2147483647 : Int32)) % (7 : Int32))), .unset, .unset, .unset, .unset, .unset] [(.int ((p1 &&& (2147483647 : Int32)) % (7 : Int32)))])) rfl (by rw [hml]; rfl) (argsL := [(.int ((p1 &&& (2147483647 : Int32)) % (7 : Int32)))]) (rest := []) (lenOf pd_0_0 rfl) rfl (by show 2 * 0 + _ ≤ _; exact Nat.le_of_eq rfl) (hb hby at_17) (fun _ _ => ⟨rfl, e0, (by decide : 0 + 0 ≤ _), (by decide : 0 + 0 ≤ _)⟩)
  dsimp only [Pt.U, Pt.locs, Pt.cells, Pt.slots] at X3 l3 y3 z3 st3 hQ3
  subst l3 y3 z3
  obtain ⟨rfl, N3q, e3⟩ := hQ3
  have N3 := Fr.app N0 N3q
  obtain ⟨_, _, ⟨T4, L4, k4, n4⟩, -, X4, ⟨Lc4, hQ4, l4, y4, z4⟩, st4⟩ := Jvm.LawKit.callS X3 hx (y := (⟨"com/example/numerand/numerand/engine/PrecisionSecondsPinLaw", "pick", "(I)Lcom/example/numerand/numerand/engine/Precision;"⟩ : MethodName)) hown (mvT hZ (hw _ (List.mem_of_getElem? (i := 1) rfl))) (mvT hZ (hw _ (List.mem_of_getElem? (i := 2) rfl))) (mvT hZ (hw _ (List.mem_of_getElem? (i := 3) rfl))) (mvT hZ (hw _ (List.mem_of_getElem? (i := 4) rfl))) (by decide) (backOf (W := 0) (rm1 l Z a0 hw [] ((p2 &&& (2147483647 : Int32)) % (7 : Int32)) P h0 n0 Z0 K (own_in7 p2)) hZ (hw _ (List.mem_of_getElem? (i := 4) rfl)) (hw _ (List.mem_of_getElem? (i := 3) rfl)) (by decide) (by decide)) (g := (mkF m 23 #[.val (.int p1), .val (.int p2), .val (.int ((p1 &&& (2147483647 : Int32)) % (7 : Int32))), .val (.int ((p2 &&& (2147483647 : Int32)) % (7 : Int32))), .val (.ref (P ((p1 &&& (2147483647 : Int32)) % (7 : Int32)))), .unset, .unset, .unset, .unset] [(.int ((p2 &&& (2147483647 : Int32)) % (7 : Int32)))])) rfl (by rw [hml]; rfl) (argsL := [(.int ((p2 &&& (2147483647 : Int32)) % (7 : Int32)))]) (rest := []) (lenOf pd_0_0 rfl) rfl (by show 2 * 0 + _ ≤ _; exact Nat.le_of_eq rfl) (hb hby at_23) (fun _ _ => ⟨rfl, e3, (by decide : 0 + 0 ≤ _), (by decide : 0 + 0 ≤ _)⟩)
  dsimp only [Pt.U, Pt.locs, Pt.cells, Pt.slots] at X4 l4 y4 z4 st4 hQ4
  subst l4 y4 z4
  obtain ⟨rfl, N4q, e4⟩ := hQ4
  have N4 := Fr.app N3 N4q
  obtain ⟨_, _, ⟨T5, L5, k5, n5⟩, -, X5, ⟨Lc5, hQ5, l5, y5, z5⟩, st5⟩ := Jvm.LawKit.callS X4 hx (y := (⟨"com/example/numerand/numerand/engine/Precision", "seconds", "(Lcom/example/numerand/numerand/engine/Precision;)Lcom/example/numerand/numerand/engine/Precision;"⟩ : MethodName)) hown (mvT hZ (hw _ (List.mem_of_getElem? (i := 10) rfl))) (mvT hZ (hw _ (List.mem_of_getElem? (i := 11) rfl))) (mvT hZ (hw _ (List.mem_of_getElem? (i := 6) rfl))) (mvT hZ (hw _ (List.mem_of_getElem? (i := 12) rfl))) (by decide) (backOf (W := 0) (rm2 l Z a0 hw [] ((p1 &&& (2147483647 : Int32)) % (7 : Int32)) P h0 n0 Z0 K (own_in7 p1)) hZ (hw _ (List.mem_of_getElem? (i := 12) rfl)) (hw _ (List.mem_of_getElem? (i := 6) rfl)) (by decide) (by decide)) (g := (mkF m 30 #[.val (.int p1), .val (.int p2), .val (.int ((p1 &&& (2147483647 : Int32)) % (7 : Int32))), .val (.int ((p2 &&& (2147483647 : Int32)) % (7 : Int32))), .val (.ref (P ((p1 &&& (2147483647 : Int32)) % (7 : Int32)))), .val (.ref (P ((p2 &&& (2147483647 : Int32)) % (7 : Int32)))), .unset, .unset, .unset] [(.ref (P ((p1 &&& (2147483647 : Int32)) % (7 : Int32))))])) rfl (by rw [hml]; rfl) (argsL := [(.ref (P ((p1 &&& (2147483647 : Int32)) % (7 : Int32))))]) (rest := []) (lenOf pd_0_1 rfl) rfl (by show 2 * 0 + _ ≤ _; exact Nat.le_of_eq rfl) (hb hby at_30) (fun _ _ => ⟨rfl, e4, (by decide : 0 + 0 ≤ _), (by decide : 0 + 0 ≤ _)⟩)
  dsimp only [Pt.U, Pt.locs, Pt.cells, Pt.slots] at X5 l5 y5 z5 st5 hQ5
  subst l5 y5 z5
  obtain ⟨rfl, N5q, e5⟩ := hQ5
  have N5 := Fr.app N4 N5q
  obtain ⟨_, _, ⟨T6, L6, k6, n6⟩, -, X6, ⟨Lc6, hQ6, l6, y6, z6⟩, st6⟩ := Jvm.LawKit.callS X5 hx (y := (⟨"com/example/numerand/numerand/engine/Precision", "seconds", "(Lcom/example/numerand/numerand/engine/Precision;)Lcom/example/numerand/numerand/engine/Precision;"⟩ : MethodName)) hown (mvT hZ (hw _ (List.mem_of_getElem? (i := 10) rfl))) (mvT hZ (hw _ (List.mem_of_getElem? (i := 11) rfl))) (mvT hZ (hw _ (List.mem_of_getElem? (i := 6) rfl))) (mvT hZ (hw _ (List.mem_of_getElem? (i := 12) rfl))) (by decide) (backOf (W := 0) (rm2 l Z a0 hw [] ((p2 &&& (2147483647 : Int32)) % (7 : Int32)) P h0 n0 Z0 K (own_in7 p2)) hZ (hw _ (List.mem_of_getElem? (i := 12) rfl)) (hw _ (List.mem_of_getElem? (i := 6) rfl)) (by decide) (by decide)) (g := (mkF m 37 #[.val (.int p1), .val (.int p2), .val (.int ((p1 &&& (2147483647 : Int32)) % (7 : Int32))), .val (.int ((p2 &&& (2147483647 : Int32)) % (7 : Int32))), .val (.ref (P ((p1 &&& (2147483647 : Int32)) % (7 : Int32)))), .val (.ref (P ((p2 &&& (2147483647 : Int32)) % (7 : Int32)))), .val (.ref (P (own_s ((p1 &&& (2147483647 : Int32)) % (7 : Int32))))), .unset, .unset] [(.ref (P ((p2 &&& (2147483647 : Int32)) % (7 : Int32))))])) rfl (by rw [hml]; rfl) (argsL := [(.ref (P ((p2 &&& (2147483647 : Int32)) % (7 : Int32))))]) (rest := []) (lenOf pd_0_1 rfl) rfl (by show 2 * 0 + _ ≤ _; exact Nat.le_of_eq rfl) (hb hby at_37) (fun _ _ => ⟨rfl, e5, (by decide : 0 + 0 ≤ _), (by decide : 0 + 0 ≤ _)⟩)
  dsimp only [Pt.U, Pt.locs, Pt.cells, Pt.slots] at X6 l6 y6 z6 st6 hQ6
  subst l6 y6 z6
  obtain ⟨rfl, N6q, e6⟩ := hQ6
  have N6 := Fr.app N5 N6q
  obtain ⟨T8, X8, e8, st8⟩ := getS2 X6 hx hZ hown (host := "") (Or.inl (hw _ (List.mem_of_getElem? (i := 15) rfl))) Via.refl e6 S_MILLISECOND (g := (mkF m 66 #[.val (.int p1), .val (.int p2), .val (.int ((p1 &&& (2147483647 : Int32)) % (7 : Int32))), .val (.int ((p2 &&& (2147483647 : Int32)) % (7 : Int32))), .val (.ref (P ((p1 &&& (2147483647 : Int32)) % (7 : Int32)))), .val (.ref (P ((p2 &&& (2147483647 : Int32)) % (7 : Int32)))), .val (.ref (P (own_s ((p1 &&& (2147483647 : Int32)) % (7 : Int32))))), .val (.ref (P (own_s ((p2 &&& (2147483647 : Int32)) % (7 : Int32))))), .val (.int (1 : Int32))] [(.ref (P (own_s ((p1 &&& (2147483647 : Int32)) % (7 : Int32)))))])) rfl (hb hby at_66)
  obtain ⟨T9, X9, e9, st9⟩ := getS2 X8 hx hZ hown (host := "") (Or.inl (hw _ (List.mem_of_getElem? (i := 15) rfl))) Via.refl e8 S_MILLISECOND (g := (mkF m 74 #[.val (.int p1), .val (.int p2), .val (.int ((p1 &&& (2147483647 : Int32)) % (7 : Int32))), .val (.int ((p2 &&& (2147483647 : Int32)) % (7 : Int32))), .val (.ref (P ((p1 &&& (2147483647 : Int32)) % (7 : Int32)))), .val (.ref (P ((p2 &&& (2147483647 : Int32)) % (7 : Int32)))), .val (.ref (P (own_s ((p1 &&& (2147483647 : Int32)) % (7 : Int32))))), .val (.ref (P (own_s ((p2 &&& (2147483647 : Int32)) % (7 : Int32))))), .val (.int (1 : Int32))] [(.ref (P (own_s ((p2 &&& (2147483647 : Int32)) % (7 : Int32)))))])) rfl (hb hby at_74)
  obtain ⟨_, _, ⟨T10, L10, k10, n10⟩, -, X10, ⟨Lc10, hQ10, l10, y10, z10⟩, st10⟩ := Jvm.LawKit.callS X9 hx (y := (⟨"com/example/numerand/numerand/engine/Precision", "seconds", "(Lcom/example/numerand/numerand/engine/Precision;)Lcom/example/numerand/numerand/engine/Precision;"⟩ : MethodName)) hown (mvT hZ (hw _ (List.mem_of_getElem? (i := 10) rfl))) (mvT hZ (hw _ (List.mem_of_getElem? (i := 11) rfl))) (mvT hZ (hw _ (List.mem_of_getElem? (i := 6) rfl))) (mvT hZ (hw _ (List.mem_of_getElem? (i := 12) rfl))) (by decide) (backOf (W := 0) (rm2 l Z a0 hw [] (own_s ((p1 &&& (2147483647 : Int32)) % (7 : Int32))) P h0 n0 Z0 K (own_s7 (own_in7 p1))) hZ (hw _ (List.mem_of_getElem? (i := 12) rfl)) (hw _ (List.mem_of_getElem? (i := 6) rfl)) (by decide) (by decide)) (g := (mkF m 144 #[.val (.int p1), .val (.int p2), .val (.int ((p1 &&& (2147483647 : Int32)) % (7 : Int32))), .val (.int ((p2 &&& (2147483647 : Int32)) % (7 : Int32))), .val (.ref (P ((p1 &&& (2147483647 : Int32)) % (7 : Int32)))), .val (.ref (P ((p2 &&& (2147483647 : Int32)) % (7 : Int32)))), .val (.ref (P (own_s ((p1 &&& (2147483647 : Int32)) % (7 : Int32))))), .val (.ref (P (own_s ((p2 &&& (2147483647 : Int32)) % (7 : Int32))))), .val (.int (1 : Int32))] [(.ref (P (own_s ((p1 &&& (2147483647 : Int32)) % (7 : Int32)))))])) rfl (by rw [hml]; rfl) (argsL := [(.ref (P (own_s ((p1 &&& (2147483647 : Int32)) % (7 : Int32)))))]) (rest := []) (lenOf pd_0_1 rfl) rfl (by show 2 * 0 + _ ≤ _; exact Nat.le_of_eq rfl) (hb hby at_144) (fun _ _ => ⟨rfl, e9, (by decide : 0 + 0 ≤ _), (by decide : 0 + 0 ≤ _)⟩)
  dsimp only [Pt.U, Pt.locs, Pt.cells, Pt.slots] at X10 l10 y10 z10 st10 hQ10
  subst l10 y10 z10
  obtain ⟨rfl, N10q, e10⟩ := hQ10
  have N10 := Fr.app N6 N10q
  obtain ⟨_, _, ⟨T11, L11, k11, n11⟩, -, X11, ⟨Lc11, hQ11, l11, y11, z11⟩, st11⟩ := Jvm.LawKit.callS X10 hx (y := (⟨"com/example/numerand/numerand/engine/PrecisionSecondsPinLaw", "idx", "(Lcom/example/numerand/numerand/engine/Precision;)I"⟩ : MethodName)) hown (mvT hZ (hw _ (List.mem_of_getElem? (i := 16) rfl))) (mvT hZ (hw _ (List.mem_of_getElem? (i := 17) rfl))) (mvT hZ (hw _ (List.mem_of_getElem? (i := 3) rfl))) (mvT hZ (hw _ (List.mem_of_getElem? (i := 18) rfl))) (by decide) (backOf (W := 0) (rm3 l Z a0 hw [] (own_s ((p1 &&& (2147483647 : Int32)) % (7 : Int32))) P h0 n0 Z0 K (own_s7 (own_in7 p1))) hZ (hw _ (List.mem_of_getElem? (i := 18) rfl)) (hw _ (List.mem_of_getElem? (i := 3) rfl)) (by decide) (by decide)) (g := (mkF m 200 #[.val (.int p1), .val (.int p2), .val (.int ((p1 &&& (2147483647 : Int32)) % (7 : Int32))), .val (.int ((p2 &&& (2147483647 : Int32)) % (7 : Int32))), .val (.ref (P ((p1 &&& (2147483647 : Int32)) % (7 : Int32)))), .val (.ref (P ((p2 &&& (2147483647 : Int32)) % (7 : Int32)))), .val (.ref (P (own_s ((p1 &&& (2147483647 : Int32)) % (7 : Int32))))), .val (.ref (P (own_s ((p2 &&& (2147483647 : Int32)) % (7 : Int32))))), .val (.int (1 : Int32))] [(.ref (P (own_s ((p1 &&& (2147483647 : Int32)) % (7 : Int32)))))])) rfl (by rw [hml]; rfl) (argsL := [(.ref (P (own_s ((p1 &&& (2147483647 : Int32)) % (7 : Int32)))))]) (rest := []) (lenOf pd_0_2 rfl) rfl (by show 2 * 0 + _ ≤ _; exact Nat.le_of_eq rfl) (hb hby at_200) (fun _ _ => ⟨rfl, e10, (by decide : 0 + 0 ≤ _), (by decide : 0 + 0 ≤ _)⟩)
  dsimp only [Pt.U, Pt.locs, Pt.cells, Pt.slots] at X11 l11 y11 z11 st11 hQ11
  subst l11 y11 z11
  obtain ⟨rfl, N11q, e11⟩ := hQ11
  have N11 := Fr.app N10 N11q
  obtain ⟨_, _, ⟨T12, L12, k12, n12⟩, -, X12, ⟨Lc12, hQ12, l12, y12, z12⟩, st12⟩ := Jvm.LawKit.callS X11 hx (y := (⟨"com/example/numerand/numerand/engine/PrecisionSecondsPinLaw", "idx", "(Lcom/example/numerand/numerand/engine/Precision;)I"⟩ : MethodName)) hown (mvT hZ (hw _ (List.mem_of_getElem? (i := 16) rfl))) (mvT hZ (hw _ (List.mem_of_getElem? (i := 17) rfl))) (mvT hZ (hw _ (List.mem_of_getElem? (i := 3) rfl))) (mvT hZ (hw _ (List.mem_of_getElem? (i := 18) rfl))) (by decide) (backOf (W := 1) (rm3 l Z a0 hw [] (own_s ((p2 &&& (2147483647 : Int32)) % (7 : Int32))) P h0 n0 Z0 K (own_s7 (own_in7 p2))) hZ (hw _ (List.mem_of_getElem? (i := 18) rfl)) (hw _ (List.mem_of_getElem? (i := 3) rfl)) (by decide) (by decide)) (g := (mkF m 205 #[.val (.int p1), .val (.int p2), .val (.int ((p1 &&& (2147483647 : Int32)) % (7 : Int32))), .val (.int ((p2 &&& (2147483647 : Int32)) % (7 : Int32))), .val (.ref (P ((p1 &&& (2147483647 : Int32)) % (7 : Int32)))), .val (.ref (P ((p2 &&& (2147483647 : Int32)) % (7 : Int32)))), .val (.ref (P (own_s ((p1 &&& (2147483647 : Int32)) % (7 : Int32))))), .val (.ref (P (own_s ((p2 &&& (2147483647 : Int32)) % (7 : Int32))))), .val (.int (1 : Int32))] [(.ref (P (own_s ((p2 &&& (2147483647 : Int32)) % (7 : Int32))))), (.int (own_s ((p1 &&& (2147483647 : Int32)) % (7 : Int32))))])) rfl (by rw [hml]; rfl) (argsL := [(.ref (P (own_s ((p2 &&& (2147483647 : Int32)) % (7 : Int32)))))]) (rest := [(.int (own_s ((p1 &&& (2147483647 : Int32)) % (7 : Int32))))]) (lenOf pd_0_2 rfl) rfl (by show 2 * 0 + _ ≤ _; exact Nat.le_of_eq rfl) (hb hby at_205) (fun _ _ => ⟨rfl, e11, (by decide : 0 + 0 ≤ _), (by decide : 0 + 0 ≤ _)⟩)
  dsimp only [Pt.U, Pt.locs, Pt.cells, Pt.slots] at X12 l12 y12 z12 st12 hQ12
  subst l12 y12 z12
  obtain ⟨rfl, N12q, e12⟩ := hQ12
  have N12 := Fr.app N11 N12q
  obtain ⟨fs, hr, hrun, hended, hW, hsame⟩ := X12.leave (v := some (.int (1 : Int32))) (fun h => by rw [Bd.returns] at h; cases h)
  refine ⟨_, _, pre0 _ ?_, hrun, hended, _, _, rfl, ?_, ⟨_, rfl⟩, hW, hsame.mono (by decide) (by decide)⟩
  · show Steps p.tables e below (s₁.setTop (mkF m 0 #[.val (.int p1), .val (.int p2), .unset, .unset, .unset, .unset, .unset, .unset, .unset] [])) _
    refine XS.iloadN X0.here hx rfl (hb hby at_0) rfl ?_
    show Steps p.tables e below (s₁.setTop (mkF m 1 #[.val (.int p1), .val (.int p2), .unset, .unset, .unset, .unset, .unset, .unset, .unset] [(.int p1)])) _
    refine X0.ldcInt hx hown (mvT hZ (hw _ (List.mem_of_getElem? (i := 0) rfl))) (g := (mkF m 1 #[.val (.int p1), .val (.int p2), .unset, .unset, .unset, .unset, .unset, .unset, .unset] [(.int p1)])) rfl (hb hby at_1) _ ?_
    show Steps p.tables e below (s₁.setTop (mkF m 3 #[.val (.int p1), .val (.int p2), .unset, .unset, .unset, .unset, .unset, .unset, .unset] [(.int (2147483647 : Int32)), (.int p1)])) _
    refine XS.iand X0.here hx rfl (hb hby at_3) rfl ?_
    show Steps p.tables e below (s₁.setTop (mkF m 4 #[.val (.int p1), .val (.int p2), .unset, .unset, .unset, .unset, .unset, .unset, .unset] [(.int (p1 &&& (2147483647 : Int32)))])) _
    refine XS.bipush X0.here hx rfl (hb hby at_4) ?_
    show Steps p.tables e below (s₁.setTop (mkF m 6 #[.val (.int p1), .val (.int p2), .unset, .unset, .unset, .unset, .unset, .unset, .unset] [(.int (7 : Int32)), (.int (p1 &&& (2147483647 : Int32)))])) _
    refine iremM X0 hx rfl (hb hby at_6) rfl (by decide) ?_
    show Steps p.tables e below (s₁.setTop (mkF m 7 #[.val (.int p1), .val (.int p2), .unset, .unset, .unset, .unset, .unset, .unset, .unset] [(.int ((p1 &&& (2147483647 : Int32)) % (7 : Int32)))])) _
    refine XS.istoreN X0.here hx rfl (hb hby at_7) rfl (l' := #[.val (.int p1), .val (.int p2), .val (.int ((p1 &&& (2147483647 : Int32)) % (7 : Int32))), .unset, .unset, .unset, .unset, .unset, .unset]) rfl ?_
    show Steps p.tables e below (s₁.setTop (mkF m 8 #[.val (.int p1), .val (.int p2), .val (.int ((p1 &&& (2147483647 : Int32)) % (7 : Int32))), .unset, .unset, .unset, .unset, .unset, .unset] [])) _
    refine XS.iloadN X0.here hx rfl (hb hby at_8) rfl ?_
    show Steps p.tables e below (s₁.setTop (mkF m 9 #[.val (.int p1), .val (.int p2), .val (.int ((p1 &&& (2147483647 : Int32)) % (7 : Int32))), .unset, .unset, .unset, .unset, .unset, .unset] [(.int p2)])) _
    refine X0.ldcInt hx hown (mvT hZ (hw _ (List.mem_of_getElem? (i := 0) rfl))) (g := (mkF m 9 #[.val (.int p1), .val (.int p2), .val (.int ((p1 &&& (2147483647 : Int32)) % (7 : Int32))), .unset, .unset, .unset, .unset, .unset, .unset] [(.int p2)])) rfl (hb hby at_9) _ ?_
    show Steps p.tables e below (s₁.setTop (mkF m 11 #[.val (.int p1), .val (.int p2), .val (.int ((p1 &&& (2147483647 : Int32)) % (7 : Int32))), .unset, .unset, .unset, .unset, .unset, .unset] [(.int (2147483647 : Int32)), (.int p2)])) _
    refine XS.iand X0.here hx rfl (hb hby at_11) rfl ?_
    show Steps p.tables e below (s₁.setTop (mkF m 12 #[.val (.int p1), .val (.int p2), .val (.int ((p1 &&& (2147483647 : Int32)) % (7 : Int32))), .unset, .unset, .unset, .unset, .unset, .unset] [(.int (p2 &&& (2147483647 : Int32)))])) _
    refine XS.bipush X0.here hx rfl (hb hby at_12) ?_
    show Steps p.tables e below (s₁.setTop (mkF m 14 #[.val (.int p1), .val (.int p2), .val (.int ((p1 &&& (2147483647 : Int32)) % (7 : Int32))), .unset, .unset, .unset, .unset, .unset, .unset] [(.int (7 : Int32)), (.int (p2 &&& (2147483647 : Int32)))])) _
    refine iremM X0 hx rfl (hb hby at_14) rfl (by decide) ?_
    show Steps p.tables e below (s₁.setTop (mkF m 15 #[.val (.int p1), .val (.int p2), .val (.int ((p1 &&& (2147483647 : Int32)) % (7 : Int32))), .unset, .unset, .unset, .unset, .unset, .unset] [(.int ((p2 &&& (2147483647 : Int32)) % (7 : Int32)))])) _
    refine XS.istoreN X0.here hx rfl (hb hby at_15) rfl (l' := #[.val (.int p1), .val (.int p2), .val (.int ((p1 &&& (2147483647 : Int32)) % (7 : Int32))), .val (.int ((p2 &&& (2147483647 : Int32)) % (7 : Int32))), .unset, .unset, .unset, .unset, .unset]) rfl ?_
    show Steps p.tables e below (s₁.setTop (mkF m 16 #[.val (.int p1), .val (.int p2), .val (.int ((p1 &&& (2147483647 : Int32)) % (7 : Int32))), .val (.int ((p2 &&& (2147483647 : Int32)) % (7 : Int32))), .unset, .unset, .unset, .unset, .unset] [])) _
    refine XS.iloadN X0.here hx rfl (hb hby at_16) rfl ?_
    show Steps p.tables e below (s₁.setTop (mkF m 17 #[.val (.int p1), .val (.int p2), .val (.int ((p1 &&& (2147483647 : Int32)) % (7 : Int32))), .val (.int ((p2 &&& (2147483647 : Int32)) % (7 : Int32))), .unset, .unset, .unset, .unset, .unset] [(.int ((p1 &&& (2147483647 : Int32)) % (7 : Int32)))])) _
    refine st3 _ ?_
    show Steps p.tables e below (T3.setTop (mkF m 20 #[.val (.int p1), .val (.int p2), .val (.int ((p1 &&& (2147483647 : Int32)) % (7 : Int32))), .val (.int ((p2 &&& (2147483647 : Int32)) % (7 : Int32))), .unset, .unset, .unset, .unset, .unset] [(.ref (P ((p1 &&& (2147483647 : Int32)) % (7 : Int32))))])) _
    refine XS.astore X3.here hx rfl (hb hby at_20) rfl rfl (l' := #[.val (.int p1), .val (.int p2), .val (.int ((p1 &&& (2147483647 : Int32)) % (7 : Int32))), .val (.int ((p2 &&& (2147483647 : Int32)) % (7 : Int32))), .val (.ref (P ((p1 &&& (2147483647 : Int32)) % (7 : Int32)))), .unset, .unset, .unset, .unset]) rfl ?_
    show Steps p.tables e below (T3.setTop (mkF m 22 #[.val (.int p1), .val (.int p2), .val (.int ((p1 &&& (2147483647 : Int32)) % (7 : Int32))), .val (.int ((p2 &&& (2147483647 : Int32)) % (7 : Int32))), .val (.ref (P ((p1 &&& (2147483647 : Int32)) % (7 : Int32)))), .unset, .unset, .unset, .unset] [])) _
    refine XS.iloadN X3.here hx rfl (hb hby at_22) rfl ?_
    show Steps p.tables e below (T3.setTop (mkF m 23 #[.val (.int p1), .val (.int p2), .val (.int ((p1 &&& (2147483647 : Int32)) % (7 : Int32))), .val (.int ((p2 &&& (2147483647 : Int32)) % (7 : Int32))), .val (.ref (P ((p1 &&& (2147483647 : Int32)) % (7 : Int32)))), .unset, .unset, .unset, .unset] [(.int ((p2 &&& (2147483647 : Int32)) % (7 : Int32)))])) _
    refine st4 _ ?_
    show Steps p.tables e below (T4.setTop (mkF m 26 #[.val (.int p1), .val (.int p2), .val (.int ((p1 &&& (2147483647 : Int32)) % (7 : Int32))), .val (.int ((p2 &&& (2147483647 : Int32)) % (7 : Int32))), .val (.ref (P ((p1 &&& (2147483647 : Int32)) % (7 : Int32)))), .unset, .unset, .unset, .unset] [(.ref (P ((p2 &&& (2147483647 : Int32)) % (7 : Int32))))])) _
    refine XS.astore X4.here hx rfl (hb hby at_26) rfl rfl (l' := #[.val (.int p1), .val (.int p2), .val (.int ((p1 &&& (2147483647 : Int32)) % (7 : Int32))), .val (.int ((p2 &&& (2147483647 : Int32)) % (7 : Int32))), .val (.ref (P ((p1 &&& (2147483647 : Int32)) % (7 : Int32)))), .val (.ref (P ((p2 &&& (2147483647 : Int32)) % (7 : Int32)))), .unset, .unset, .unset]) rfl ?_
    show Steps p.tables e below (T4.setTop (mkF m 28 #[.val (.int p1), .val (.int p2), .val (.int ((p1 &&& (2147483647 : Int32)) % (7 : Int32))), .val (.int ((p2 &&& (2147483647 : Int32)) % (7 : Int32))), .val (.ref (P ((p1 &&& (2147483647 : Int32)) % (7 : Int32)))), .val (.ref (P ((p2 &&& (2147483647 : Int32)) % (7 : Int32)))), .unset, .unset, .unset] [])) _
    refine XS.aload X4.here hx rfl (hb hby at_28) rfl rfl ?_
    show Steps p.tables e below (T4.setTop (mkF m 30 #[.val (.int p1), .val (.int p2), .val (.int ((p1 &&& (2147483647 : Int32)) % (7 : Int32))), .val (.int ((p2 &&& (2147483647 : Int32)) % (7 : Int32))), .val (.ref (P ((p1 &&& (2147483647 : Int32)) % (7 : Int32)))), .val (.ref (P ((p2 &&& (2147483647 : Int32)) % (7 : Int32)))), .unset, .unset, .unset] [(.ref (P ((p1 &&& (2147483647 : Int32)) % (7 : Int32))))])) _
    refine st5 _ ?_
    show Steps p.tables e below (T5.setTop (mkF m 33 #[.val (.int p1), .val (.int p2), .val (.int ((p1 &&& (2147483647 : Int32)) % (7 : Int32))), .val (.int ((p2 &&& (2147483647 : Int32)) % (7 : Int32))), .val (.ref (P ((p1 &&& (2147483647 : Int32)) % (7 : Int32)))), .val (.ref (P ((p2 &&& (2147483647 : Int32)) % (7 : Int32)))), .unset, .unset, .unset] [(.ref (P (own_s ((p1 &&& (2147483647 : Int32)) % (7 : Int32)))))])) _
    refine XS.astore X5.here hx rfl (hb hby at_33) rfl rfl (l' := #[.val (.int p1), .val (.int p2), .val (.int ((p1 &&& (2147483647 : Int32)) % (7 : Int32))), .val (.int ((p2 &&& (2147483647 : Int32)) % (7 : Int32))), .val (.ref (P ((p1 &&& (2147483647 : Int32)) % (7 : Int32)))), .val (.ref (P ((p2 &&& (2147483647 : Int32)) % (7 : Int32)))), .val (.ref (P (own_s ((p1 &&& (2147483647 : Int32)) % (7 : Int32))))), .unset, .unset]) rfl ?_
    show Steps p.tables e below (T5.setTop (mkF m 35 #[.val (.int p1), .val (.int p2), .val (.int ((p1 &&& (2147483647 : Int32)) % (7 : Int32))), .val (.int ((p2 &&& (2147483647 : Int32)) % (7 : Int32))), .val (.ref (P ((p1 &&& (2147483647 : Int32)) % (7 : Int32)))), .val (.ref (P ((p2 &&& (2147483647 : Int32)) % (7 : Int32)))), .val (.ref (P (own_s ((p1 &&& (2147483647 : Int32)) % (7 : Int32))))), .unset, .unset] [])) _
    refine XS.aload X5.here hx rfl (hb hby at_35) rfl rfl ?_
    show Steps p.tables e below (T5.setTop (mkF m 37 #[.val (.int p1), .val (.int p2), .val (.int ((p1 &&& (2147483647 : Int32)) % (7 : Int32))), .val (.int ((p2 &&& (2147483647 : Int32)) % (7 : Int32))), .val (.ref (P ((p1 &&& (2147483647 : Int32)) % (7 : Int32)))), .val (.ref (P ((p2 &&& (2147483647 : Int32)) % (7 : Int32)))), .val (.ref (P (own_s ((p1 &&& (2147483647 : Int32)) % (7 : Int32))))), .unset, .unset] [(.ref (P ((p2 &&& (2147483647 : Int32)) % (7 : Int32))))])) _
    refine st6 _ ?_
    show Steps p.tables e below (T6.setTop (mkF m 40 #[.val (.int p1), .val (.int p2), .val (.int ((p1 &&& (2147483647 : Int32)) % (7 : Int32))), .val (.int ((p2 &&& (2147483647 : Int32)) % (7 : Int32))), .val (.ref (P ((p1 &&& (2147483647 : Int32)) % (7 : Int32)))), .val (.ref (P ((p2 &&& (2147483647 : Int32)) % (7 : Int32)))), .val (.ref (P (own_s ((p1 &&& (2147483647 : Int32)) % (7 : Int32))))), .unset, .unset] [(.ref (P (own_s ((p2 &&& (2147483647 : Int32)) % (7 : Int32)))))])) _
    refine XS.astore X6.here hx rfl (hb hby at_40) rfl rfl (l' := #[.val (.int p1), .val (.int p2), .val (.int ((p1 &&& (2147483647 : Int32)) % (7 : Int32))), .val (.int ((p2 &&& (2147483647 : Int32)) % (7 : Int32))), .val (.ref (P ((p1 &&& (2147483647 : Int32)) % (7 : Int32)))), .val (.ref (P ((p2 &&& (2147483647 : Int32)) % (7 : Int32)))), .val (.ref (P (own_s ((p1 &&& (2147483647 : Int32)) % (7 : Int32))))), .val (.ref (P (own_s ((p2 &&& (2147483647 : Int32)) % (7 : Int32))))), .unset]) rfl ?_
    show Steps p.tables e below (T6.setTop (mkF m 42 #[.val (.int p1), .val (.int p2), .val (.int ((p1 &&& (2147483647 : Int32)) % (7 : Int32))), .val (.int ((p2 &&& (2147483647 : Int32)) % (7 : Int32))), .val (.ref (P ((p1 &&& (2147483647 : Int32)) % (7 : Int32)))), .val (.ref (P ((p2 &&& (2147483647 : Int32)) % (7 : Int32)))), .val (.ref (P (own_s ((p1 &&& (2147483647 : Int32)) % (7 : Int32))))), .val (.ref (P (own_s ((p2 &&& (2147483647 : Int32)) % (7 : Int32))))), .unset] [])) _
    refine XS.aload X6.here hx rfl (hb hby at_42) rfl rfl ?_
    show Steps p.tables e below (T6.setTop (mkF m 44 #[.val (.int p1), .val (.int p2), .val (.int ((p1 &&& (2147483647 : Int32)) % (7 : Int32))), .val (.int ((p2 &&& (2147483647 : Int32)) % (7 : Int32))), .val (.ref (P ((p1 &&& (2147483647 : Int32)) % (7 : Int32)))), .val (.ref (P ((p2 &&& (2147483647 : Int32)) % (7 : Int32)))), .val (.ref (P (own_s ((p1 &&& (2147483647 : Int32)) % (7 : Int32))))), .val (.ref (P (own_s ((p2 &&& (2147483647 : Int32)) % (7 : Int32))))), .unset] [(.ref (P (own_s ((p1 &&& (2147483647 : Int32)) % (7 : Int32)))))])) _
    refine XS.ifnullNo X6.here hx rfl (hb hby at_44) rfl ?_
    show Steps p.tables e below (T6.setTop (mkF m 47 #[.val (.int p1), .val (.int p2), .val (.int ((p1 &&& (2147483647 : Int32)) % (7 : Int32))), .val (.int ((p2 &&& (2147483647 : Int32)) % (7 : Int32))), .val (.ref (P ((p1 &&& (2147483647 : Int32)) % (7 : Int32)))), .val (.ref (P ((p2 &&& (2147483647 : Int32)) % (7 : Int32)))), .val (.ref (P (own_s ((p1 &&& (2147483647 : Int32)) % (7 : Int32))))), .val (.ref (P (own_s ((p2 &&& (2147483647 : Int32)) % (7 : Int32))))), .unset] [])) _
    refine XS.aload X6.here hx rfl (hb hby at_47) rfl rfl ?_
    show Steps p.tables e below (T6.setTop (mkF m 49 #[.val (.int p1), .val (.int p2), .val (.int ((p1 &&& (2147483647 : Int32)) % (7 : Int32))), .val (.int ((p2 &&& (2147483647 : Int32)) % (7 : Int32))), .val (.ref (P ((p1 &&& (2147483647 : Int32)) % (7 : Int32)))), .val (.ref (P ((p2 &&& (2147483647 : Int32)) % (7 : Int32)))), .val (.ref (P (own_s ((p1 &&& (2147483647 : Int32)) % (7 : Int32))))), .val (.ref (P (own_s ((p2 &&& (2147483647 : Int32)) % (7 : Int32))))), .unset] [(.ref (P (own_s ((p2 &&& (2147483647 : Int32)) % (7 : Int32)))))])) _
    refine XS.ifnullNo X6.here hx rfl (hb hby at_49) rfl ?_
    show Steps p.tables e below (T6.setTop (mkF m 52 #[.val (.int p1), .val (.int p2), .val (.int ((p1 &&& (2147483647 : Int32)) % (7 : Int32))), .val (.int ((p2 &&& (2147483647 : Int32)) % (7 : Int32))), .val (.ref (P ((p1 &&& (2147483647 : Int32)) % (7 : Int32)))), .val (.ref (P ((p2 &&& (2147483647 : Int32)) % (7 : Int32)))), .val (.ref (P (own_s ((p1 &&& (2147483647 : Int32)) % (7 : Int32))))), .val (.ref (P (own_s ((p2 &&& (2147483647 : Int32)) % (7 : Int32))))), .unset] [])) _
    refine XS.iconst X6.here hx rfl (hb hby at_52) ?_
    show Steps p.tables e below (T6.setTop (mkF m 53 #[.val (.int p1), .val (.int p2), .val (.int ((p1 &&& (2147483647 : Int32)) % (7 : Int32))), .val (.int ((p2 &&& (2147483647 : Int32)) % (7 : Int32))), .val (.ref (P ((p1 &&& (2147483647 : Int32)) % (7 : Int32)))), .val (.ref (P ((p2 &&& (2147483647 : Int32)) % (7 : Int32)))), .val (.ref (P (own_s ((p1 &&& (2147483647 : Int32)) % (7 : Int32))))), .val (.ref (P (own_s ((p2 &&& (2147483647 : Int32)) % (7 : Int32))))), .unset] [(.int (1 : Int32))])) _
    refine XS.goto X6.here hx rfl (pc0 := 53) (pc' := 57) rfl (hb hby at_53) (by decide) (by decide) ?_
    show Steps p.tables e below (T6.setTop (mkF m 57 #[.val (.int p1), .val (.int p2), .val (.int ((p1 &&& (2147483647 : Int32)) % (7 : Int32))), .val (.int ((p2 &&& (2147483647 : Int32)) % (7 : Int32))), .val (.ref (P ((p1 &&& (2147483647 : Int32)) % (7 : Int32)))), .val (.ref (P ((p2 &&& (2147483647 : Int32)) % (7 : Int32)))), .val (.ref (P (own_s ((p1 &&& (2147483647 : Int32)) % (7 : Int32))))), .val (.ref (P (own_s ((p2 &&& (2147483647 : Int32)) % (7 : Int32))))), .unset] [(.int (1 : Int32))])) _
    refine XS.istore X6.here hx rfl (hb hby at_57) rfl (l' := #[.val (.int p1), .val (.int p2), .val (.int ((p1 &&& (2147483647 : Int32)) % (7 : Int32))), .val (.int ((p2 &&& (2147483647 : Int32)) % (7 : Int32))), .val (.ref (P ((p1 &&& (2147483647 : Int32)) % (7 : Int32)))), .val (.ref (P ((p2 &&& (2147483647 : Int32)) % (7 : Int32)))), .val (.ref (P (own_s ((p1 &&& (2147483647 : Int32)) % (7 : Int32))))), .val (.ref (P (own_s ((p2 &&& (2147483647 : Int32)) % (7 : Int32))))), .val (.int (1 : Int32))]) rfl ?_
    show Steps p.tables e below (T6.setTop (mkF m 59 #[.val (.int p1), .val (.int p2), .val (.int ((p1 &&& (2147483647 : Int32)) % (7 : Int32))), .val (.int ((p2 &&& (2147483647 : Int32)) % (7 : Int32))), .val (.ref (P ((p1 &&& (2147483647 : Int32)) % (7 : Int32)))), .val (.ref (P ((p2 &&& (2147483647 : Int32)) % (7 : Int32)))), .val (.ref (P (own_s ((p1 &&& (2147483647 : Int32)) % (7 : Int32))))), .val (.ref (P (own_s ((p2 &&& (2147483647 : Int32)) % (7 : Int32))))), .val (.int (1 : Int32))] [])) _
    refine XS.iload X6.here hx rfl (hb hby at_59) rfl ?_
    show Steps p.tables e below (T6.setTop (mkF m 61 #[.val (.int p1), .val (.int p2), .val (.int ((p1 &&& (2147483647 : Int32)) % (7 : Int32))), .val (.int ((p2 &&& (2147483647 : Int32)) % (7 : Int32))), .val (.ref (P ((p1 &&& (2147483647 : Int32)) % (7 : Int32)))), .val (.ref (P ((p2 &&& (2147483647 : Int32)) % (7 : Int32)))), .val (.ref (P (own_s ((p1 &&& (2147483647 : Int32)) % (7 : Int32))))), .val (.ref (P (own_s ((p2 &&& (2147483647 : Int32)) % (7 : Int32))))), .val (.int (1 : Int32))] [(.int (1 : Int32))])) _
    refine XS.ifNo X6.here hx rfl (hb hby at_61) rfl ((if0 _ _).trans (feq hc61).1) ?_
    show Steps p.tables e below (T6.setTop (mkF m 64 #[.val (.int p1), .val (.int p2), .val (.int ((p1 &&& (2147483647 : Int32)) % (7 : Int32))), .val (.int ((p2 &&& (2147483647 : Int32)) % (7 : Int32))), .val (.ref (P ((p1 &&& (2147483647 : Int32)) % (7 : Int32)))), .val (.ref (P ((p2 &&& (2147483647 : Int32)) % (7 : Int32)))), .val (.ref (P (own_s ((p1 &&& (2147483647 : Int32)) % (7 : Int32))))), .val (.ref (P (own_s ((p2 &&& (2147483647 : Int32)) % (7 : Int32))))), .val (.int (1 : Int32))] [])) _
    refine XS.aload X6.here hx rfl (hb hby at_64) rfl rfl ?_
    show Steps p.tables e below (T6.setTop (mkF m 66 #[.val (.int p1), .val (.int p2), .val (.int ((p1 &&& (2147483647 : Int32)) % (7 : Int32))), .val (.int ((p2 &&& (2147483647 : Int32)) % (7 : Int32))), .val (.ref (P ((p1 &&& (2147483647 : Int32)) % (7 : Int32)))), .val (.ref (P ((p2 &&& (2147483647 : Int32)) % (7 : Int32)))), .val (.ref (P (own_s ((p1 &&& (2147483647 : Int32)) % (7 : Int32))))), .val (.ref (P (own_s ((p2 &&& (2147483647 : Int32)) % (7 : Int32))))), .val (.int (1 : Int32))] [(.ref (P (own_s ((p1 &&& (2147483647 : Int32)) % (7 : Int32)))))])) _
    refine st8 _ ?_
    show Steps p.tables e below (T8.setTop (mkF m 69 #[.val (.int p1), .val (.int p2), .val (.int ((p1 &&& (2147483647 : Int32)) % (7 : Int32))), .val (.int ((p2 &&& (2147483647 : Int32)) % (7 : Int32))), .val (.ref (P ((p1 &&& (2147483647 : Int32)) % (7 : Int32)))), .val (.ref (P ((p2 &&& (2147483647 : Int32)) % (7 : Int32)))), .val (.ref (P (own_s ((p1 &&& (2147483647 : Int32)) % (7 : Int32))))), .val (.ref (P (own_s ((p2 &&& (2147483647 : Int32)) % (7 : Int32))))), .val (.int (1 : Int32))] [(.ref (P 6)), (.ref (P (own_s ((p1 &&& (2147483647 : Int32)) % (7 : Int32)))))])) _
    refine Jvm.RoadKit.acmp (g := (mkF m 69 #[.val (.int p1), .val (.int p2), .val (.int ((p1 &&& (2147483647 : Int32)) % (7 : Int32))), .val (.int ((p2 &&& (2147483647 : Int32)) % (7 : Int32))), .val (.ref (P ((p1 &&& (2147483647 : Int32)) % (7 : Int32)))), .val (.ref (P ((p2 &&& (2147483647 : Int32)) % (7 : Int32)))), .val (.ref (P (own_s ((p1 &&& (2147483647 : Int32)) % (7 : Int32))))), .val (.ref (P (own_s ((p2 &&& (2147483647 : Int32)) % (7 : Int32))))), .val (.int (1 : Int32))] [(.ref (P 6)), (.ref (P (own_s ((p1 &&& (2147483647 : Int32)) % (7 : Int32)))))])) X8 hx rfl rfl rfl (pc0 := 69) (pc' := 72) (same := false) rfl (hb hby at_69) rfl (decide_eq_false fun q => ha69 (Value.ref.inj q)) (by decide) (by decide) ?_
    show Steps p.tables e below (T8.setTop (mkF m 72 #[.val (.int p1), .val (.int p2), .val (.int ((p1 &&& (2147483647 : Int32)) % (7 : Int32))), .val (.int ((p2 &&& (2147483647 : Int32)) % (7 : Int32))), .val (.ref (P ((p1 &&& (2147483647 : Int32)) % (7 : Int32)))), .val (.ref (P ((p2 &&& (2147483647 : Int32)) % (7 : Int32)))), .val (.ref (P (own_s ((p1 &&& (2147483647 : Int32)) % (7 : Int32))))), .val (.ref (P (own_s ((p2 &&& (2147483647 : Int32)) % (7 : Int32))))), .val (.int (1 : Int32))] [])) _
    refine XS.aload X8.here hx rfl (hb hby at_72) rfl rfl ?_
    show Steps p.tables e below (T8.setTop (mkF m 74 #[.val (.int p1), .val (.int p2), .val (.int ((p1 &&& (2147483647 : Int32)) % (7 : Int32))), .val (.int ((p2 &&& (2147483647 : Int32)) % (7 : Int32))), .val (.ref (P ((p1 &&& (2147483647 : Int32)) % (7 : Int32)))), .val (.ref (P ((p2 &&& (2147483647 : Int32)) % (7 : Int32)))), .val (.ref (P (own_s ((p1 &&& (2147483647 : Int32)) % (7 : Int32))))), .val (.ref (P (own_s ((p2 &&& (2147483647 : Int32)) % (7 : Int32))))), .val (.int (1 : Int32))] [(.ref (P (own_s ((p2 &&& (2147483647 : Int32)) % (7 : Int32)))))])) _
    refine st9 _ ?_
    show Steps p.tables e below (T9.setTop (mkF m 77 #[.val (.int p1), .val (.int p2), .val (.int ((p1 &&& (2147483647 : Int32)) % (7 : Int32))), .val (.int ((p2 &&& (2147483647 : Int32)) % (7 : Int32))), .val (.ref (P ((p1 &&& (2147483647 : Int32)) % (7 : Int32)))), .val (.ref (P ((p2 &&& (2147483647 : Int32)) % (7 : Int32)))), .val (.ref (P (own_s ((p1 &&& (2147483647 : Int32)) % (7 : Int32))))), .val (.ref (P (own_s ((p2 &&& (2147483647 : Int32)) % (7 : Int32))))), .val (.int (1 : Int32))] [(.ref (P 6)), (.ref (P (own_s ((p2 &&& (2147483647 : Int32)) % (7 : Int32)))))])) _
    refine Jvm.RoadKit.acmp (g := (mkF m 77 #[.val (.int p1), .val (.int p2), .val (.int ((p1 &&& (2147483647 : Int32)) % (7 : Int32))), .val (.int ((p2 &&& (2147483647 : Int32)) % (7 : Int32))), .val (.ref (P ((p1 &&& (2147483647 : Int32)) % (7 : Int32)))), .val (.ref (P ((p2 &&& (2147483647 : Int32)) % (7 : Int32)))), .val (.ref (P (own_s ((p1 &&& (2147483647 : Int32)) % (7 : Int32))))), .val (.ref (P (own_s ((p2 &&& (2147483647 : Int32)) % (7 : Int32))))), .val (.int (1 : Int32))] [(.ref (P 6)), (.ref (P (own_s ((p2 &&& (2147483647 : Int32)) % (7 : Int32)))))])) X9 hx rfl rfl rfl (pc0 := 77) (pc' := 80) (same := false) rfl (hb hby at_77) rfl (decide_eq_false fun q => ha77 (Value.ref.inj q)) (by decide) (by decide) ?_
    show Steps p.tables e below (T9.setTop (mkF m 80 #[.val (.int p1), .val (.int p2), .val (.int ((p1 &&& (2147483647 : Int32)) % (7 : Int32))), .val (.int ((p2 &&& (2147483647 : Int32)) % (7 : Int32))), .val (.ref (P ((p1 &&& (2147483647 : Int32)) % (7 : Int32)))), .val (.ref (P ((p2 &&& (2147483647 : Int32)) % (7 : Int32)))), .val (.ref (P (own_s ((p1 &&& (2147483647 : Int32)) % (7 : Int32))))), .val (.ref (P (own_s ((p2 &&& (2147483647 : Int32)) % (7 : Int32))))), .val (.int (1 : Int32))] [])) _
    refine XS.iconst X9.here hx rfl (hb hby at_80) ?_
    show Steps p.tables e below (T9.setTop (mkF m 81 #[.val (.int p1), .val (.int p2), .val (.int ((p1 &&& (2147483647 : Int32)) % (7 : Int32))), .val (.int ((p2 &&& (2147483647 : Int32)) % (7 : Int32))), .val (.ref (P ((p1 &&& (2147483647 : Int32)) % (7 : Int32)))), .val (.ref (P ((p2 &&& (2147483647 : Int32)) % (7 : Int32)))), .val (.ref (P (own_s ((p1 &&& (2147483647 : Int32)) % (7 : Int32))))), .val (.ref (P (own_s ((p2 &&& (2147483647 : Int32)) % (7 : Int32))))), .val (.int (1 : Int32))] [(.int (1 : Int32))])) _
    refine XS.goto X9.here hx rfl (pc0 := 81) (pc' := 85) rfl (hb hby at_81) (by decide) (by decide) ?_
    show Steps p.tables e below (T9.setTop (mkF m 85 #[.val (.int p1), .val (.int p2), .val (.int ((p1 &&& (2147483647 : Int32)) % (7 : Int32))), .val (.int ((p2 &&& (2147483647 : Int32)) % (7 : Int32))), .val (.ref (P ((p1 &&& (2147483647 : Int32)) % (7 : Int32)))), .val (.ref (P ((p2 &&& (2147483647 : Int32)) % (7 : Int32)))), .val (.ref (P (own_s ((p1 &&& (2147483647 : Int32)) % (7 : Int32))))), .val (.ref (P (own_s ((p2 &&& (2147483647 : Int32)) % (7 : Int32))))), .val (.int (1 : Int32))] [(.int (1 : Int32))])) _
    refine XS.istore X9.here hx rfl (hb hby at_85) rfl (l' := #[.val (.int p1), .val (.int p2), .val (.int ((p1 &&& (2147483647 : Int32)) % (7 : Int32))), .val (.int ((p2 &&& (2147483647 : Int32)) % (7 : Int32))), .val (.ref (P ((p1 &&& (2147483647 : Int32)) % (7 : Int32)))), .val (.ref (P ((p2 &&& (2147483647 : Int32)) % (7 : Int32)))), .val (.ref (P (own_s ((p1 &&& (2147483647 : Int32)) % (7 : Int32))))), .val (.ref (P (own_s ((p2 &&& (2147483647 : Int32)) % (7 : Int32))))), .val (.int (1 : Int32))]) rfl ?_
    show Steps p.tables e below (T9.setTop (mkF m 87 #[.val (.int p1), .val (.int p2), .val (.int ((p1 &&& (2147483647 : Int32)) % (7 : Int32))), .val (.int ((p2 &&& (2147483647 : Int32)) % (7 : Int32))), .val (.ref (P ((p1 &&& (2147483647 : Int32)) % (7 : Int32)))), .val (.ref (P ((p2 &&& (2147483647 : Int32)) % (7 : Int32)))), .val (.ref (P (own_s ((p1 &&& (2147483647 : Int32)) % (7 : Int32))))), .val (.ref (P (own_s ((p2 &&& (2147483647 : Int32)) % (7 : Int32))))), .val (.int (1 : Int32))] [])) _
    refine XS.iload X9.here hx rfl (hb hby at_87) rfl ?_
    show Steps p.tables e below (T9.setTop (mkF m 89 #[.val (.int p1), .val (.int p2), .val (.int ((p1 &&& (2147483647 : Int32)) % (7 : Int32))), .val (.int ((p2 &&& (2147483647 : Int32)) % (7 : Int32))), .val (.ref (P ((p1 &&& (2147483647 : Int32)) % (7 : Int32)))), .val (.ref (P ((p2 &&& (2147483647 : Int32)) % (7 : Int32)))), .val (.ref (P (own_s ((p1 &&& (2147483647 : Int32)) % (7 : Int32))))), .val (.ref (P (own_s ((p2 &&& (2147483647 : Int32)) % (7 : Int32))))), .val (.int (1 : Int32))] [(.int (1 : Int32))])) _
    refine XS.ifNo X9.here hx rfl (hb hby at_89) rfl ((if0 _ _).trans (feq hc89).1) ?_
    show Steps p.tables e below (T9.setTop (mkF m 92 #[.val (.int p1), .val (.int p2), .val (.int ((p1 &&& (2147483647 : Int32)) % (7 : Int32))), .val (.int ((p2 &&& (2147483647 : Int32)) % (7 : Int32))), .val (.ref (P ((p1 &&& (2147483647 : Int32)) % (7 : Int32)))), .val (.ref (P ((p2 &&& (2147483647 : Int32)) % (7 : Int32)))), .val (.ref (P (own_s ((p1 &&& (2147483647 : Int32)) % (7 : Int32))))), .val (.ref (P (own_s ((p2 &&& (2147483647 : Int32)) % (7 : Int32))))), .val (.int (1 : Int32))] [])) _
    refine XS.iloadN X9.here hx rfl (hb hby at_92) rfl ?_
    show Steps p.tables e below (T9.setTop (mkF m 93 #[.val (.int p1), .val (.int p2), .val (.int ((p1 &&& (2147483647 : Int32)) % (7 : Int32))), .val (.int ((p2 &&& (2147483647 : Int32)) % (7 : Int32))), .val (.ref (P ((p1 &&& (2147483647 : Int32)) % (7 : Int32)))), .val (.ref (P ((p2 &&& (2147483647 : Int32)) % (7 : Int32)))), .val (.ref (P (own_s ((p1 &&& (2147483647 : Int32)) % (7 : Int32))))), .val (.ref (P (own_s ((p2 &&& (2147483647 : Int32)) % (7 : Int32))))), .val (.int (1 : Int32))] [(.int ((p1 &&& (2147483647 : Int32)) % (7 : Int32)))])) _
    refine XS.bipush X9.here hx rfl (hb hby at_93) ?_
    show Steps p.tables e below (T9.setTop (mkF m 95 #[.val (.int p1), .val (.int p2), .val (.int ((p1 &&& (2147483647 : Int32)) % (7 : Int32))), .val (.int ((p2 &&& (2147483647 : Int32)) % (7 : Int32))), .val (.ref (P ((p1 &&& (2147483647 : Int32)) % (7 : Int32)))), .val (.ref (P ((p2 &&& (2147483647 : Int32)) % (7 : Int32)))), .val (.ref (P (own_s ((p1 &&& (2147483647 : Int32)) % (7 : Int32))))), .val (.ref (P (own_s ((p2 &&& (2147483647 : Int32)) % (7 : Int32))))), .val (.int (1 : Int32))] [(.int (6 : Int32)), (.int ((p1 &&& (2147483647 : Int32)) % (7 : Int32)))])) _
    refine XS.icmpNo X9.here hx rfl (hb hby at_95) rfl (feq hc95).1 ?_
    show Steps p.tables e below (T9.setTop (mkF m 98 #[.val (.int p1), .val (.int p2), .val (.int ((p1 &&& (2147483647 : Int32)) % (7 : Int32))), .val (.int ((p2 &&& (2147483647 : Int32)) % (7 : Int32))), .val (.ref (P ((p1 &&& (2147483647 : Int32)) % (7 : Int32)))), .val (.ref (P ((p2 &&& (2147483647 : Int32)) % (7 : Int32)))), .val (.ref (P (own_s ((p1 &&& (2147483647 : Int32)) % (7 : Int32))))), .val (.ref (P (own_s ((p2 &&& (2147483647 : Int32)) % (7 : Int32))))), .val (.int (1 : Int32))] [])) _
    refine XS.aload X9.here hx rfl (hb hby at_98) rfl rfl ?_
    show Steps p.tables e below (T9.setTop (mkF m 100 #[.val (.int p1), .val (.int p2), .val (.int ((p1 &&& (2147483647 : Int32)) % (7 : Int32))), .val (.int ((p2 &&& (2147483647 : Int32)) % (7 : Int32))), .val (.ref (P ((p1 &&& (2147483647 : Int32)) % (7 : Int32)))), .val (.ref (P ((p2 &&& (2147483647 : Int32)) % (7 : Int32)))), .val (.ref (P (own_s ((p1 &&& (2147483647 : Int32)) % (7 : Int32))))), .val (.ref (P (own_s ((p2 &&& (2147483647 : Int32)) % (7 : Int32))))), .val (.int (1 : Int32))] [(.ref (P (own_s ((p1 &&& (2147483647 : Int32)) % (7 : Int32)))))])) _
    refine XS.aload X9.here hx rfl (hb hby at_100) rfl rfl ?_
    show Steps p.tables e below (T9.setTop (mkF m 102 #[.val (.int p1), .val (.int p2), .val (.int ((p1 &&& (2147483647 : Int32)) % (7 : Int32))), .val (.int ((p2 &&& (2147483647 : Int32)) % (7 : Int32))), .val (.ref (P ((p1 &&& (2147483647 : Int32)) % (7 : Int32)))), .val (.ref (P ((p2 &&& (2147483647 : Int32)) % (7 : Int32)))), .val (.ref (P (own_s ((p1 &&& (2147483647 : Int32)) % (7 : Int32))))), .val (.ref (P (own_s ((p2 &&& (2147483647 : Int32)) % (7 : Int32))))), .val (.int (1 : Int32))] [(.ref (P ((p1 &&& (2147483647 : Int32)) % (7 : Int32)))), (.ref (P (own_s ((p1 &&& (2147483647 : Int32)) % (7 : Int32)))))])) _
    refine Jvm.RoadKit.acmp (g := (mkF m 102 #[.val (.int p1), .val (.int p2), .val (.int ((p1 &&& (2147483647 : Int32)) % (7 : Int32))), .val (.int ((p2 &&& (2147483647 : Int32)) % (7 : Int32))), .val (.ref (P ((p1 &&& (2147483647 : Int32)) % (7 : Int32)))), .val (.ref (P ((p2 &&& (2147483647 : Int32)) % (7 : Int32)))), .val (.ref (P (own_s ((p1 &&& (2147483647 : Int32)) % (7 : Int32))))), .val (.ref (P (own_s ((p2 &&& (2147483647 : Int32)) % (7 : Int32))))), .val (.int (1 : Int32))] [(.ref (P ((p1 &&& (2147483647 : Int32)) % (7 : Int32)))), (.ref (P (own_s ((p1 &&& (2147483647 : Int32)) % (7 : Int32)))))])) X9 hx rfl rfl rfl (pc0 := 102) (pc' := 105) (same := true) rfl (hb hby at_102) rfl (decide_eq_true (congrArg Value.ref ha102)) (by decide) (by decide) ?_
    show Steps p.tables e below (T9.setTop (mkF m 105 #[.val (.int p1), .val (.int p2), .val (.int ((p1 &&& (2147483647 : Int32)) % (7 : Int32))), .val (.int ((p2 &&& (2147483647 : Int32)) % (7 : Int32))), .val (.ref (P ((p1 &&& (2147483647 : Int32)) % (7 : Int32)))), .val (.ref (P ((p2 &&& (2147483647 : Int32)) % (7 : Int32)))), .val (.ref (P (own_s ((p1 &&& (2147483647 : Int32)) % (7 : Int32))))), .val (.ref (P (own_s ((p2 &&& (2147483647 : Int32)) % (7 : Int32))))), .val (.int (1 : Int32))] [])) _
    refine XS.iconst X9.here hx rfl (hb hby at_105) ?_
    show Steps p.tables e below (T9.setTop (mkF m 106 #[.val (.int p1), .val (.int p2), .val (.int ((p1 &&& (2147483647 : Int32)) % (7 : Int32))), .val (.int ((p2 &&& (2147483647 : Int32)) % (7 : Int32))), .val (.ref (P ((p1 &&& (2147483647 : Int32)) % (7 : Int32)))), .val (.ref (P ((p2 &&& (2147483647 : Int32)) % (7 : Int32)))), .val (.ref (P (own_s ((p1 &&& (2147483647 : Int32)) % (7 : Int32))))), .val (.ref (P (own_s ((p2 &&& (2147483647 : Int32)) % (7 : Int32))))), .val (.int (1 : Int32))] [(.int (1 : Int32))])) _
    refine XS.goto X9.here hx rfl (pc0 := 106) (pc' := 110) rfl (hb hby at_106) (by decide) (by decide) ?_
    show Steps p.tables e below (T9.setTop (mkF m 110 #[.val (.int p1), .val (.int p2), .val (.int ((p1 &&& (2147483647 : Int32)) % (7 : Int32))), .val (.int ((p2 &&& (2147483647 : Int32)) % (7 : Int32))), .val (.ref (P ((p1 &&& (2147483647 : Int32)) % (7 : Int32)))), .val (.ref (P ((p2 &&& (2147483647 : Int32)) % (7 : Int32)))), .val (.ref (P (own_s ((p1 &&& (2147483647 : Int32)) % (7 : Int32))))), .val (.ref (P (own_s ((p2 &&& (2147483647 : Int32)) % (7 : Int32))))), .val (.int (1 : Int32))] [(.int (1 : Int32))])) _
    refine XS.istore X9.here hx rfl (hb hby at_110) rfl (l' := #[.val (.int p1), .val (.int p2), .val (.int ((p1 &&& (2147483647 : Int32)) % (7 : Int32))), .val (.int ((p2 &&& (2147483647 : Int32)) % (7 : Int32))), .val (.ref (P ((p1 &&& (2147483647 : Int32)) % (7 : Int32)))), .val (.ref (P ((p2 &&& (2147483647 : Int32)) % (7 : Int32)))), .val (.ref (P (own_s ((p1 &&& (2147483647 : Int32)) % (7 : Int32))))), .val (.ref (P (own_s ((p2 &&& (2147483647 : Int32)) % (7 : Int32))))), .val (.int (1 : Int32))]) rfl ?_
    show Steps p.tables e below (T9.setTop (mkF m 112 #[.val (.int p1), .val (.int p2), .val (.int ((p1 &&& (2147483647 : Int32)) % (7 : Int32))), .val (.int ((p2 &&& (2147483647 : Int32)) % (7 : Int32))), .val (.ref (P ((p1 &&& (2147483647 : Int32)) % (7 : Int32)))), .val (.ref (P ((p2 &&& (2147483647 : Int32)) % (7 : Int32)))), .val (.ref (P (own_s ((p1 &&& (2147483647 : Int32)) % (7 : Int32))))), .val (.ref (P (own_s ((p2 &&& (2147483647 : Int32)) % (7 : Int32))))), .val (.int (1 : Int32))] [])) _
    refine XS.iload X9.here hx rfl (hb hby at_112) rfl ?_
    show Steps p.tables e below (T9.setTop (mkF m 114 #[.val (.int p1), .val (.int p2), .val (.int ((p1 &&& (2147483647 : Int32)) % (7 : Int32))), .val (.int ((p2 &&& (2147483647 : Int32)) % (7 : Int32))), .val (.ref (P ((p1 &&& (2147483647 : Int32)) % (7 : Int32)))), .val (.ref (P ((p2 &&& (2147483647 : Int32)) % (7 : Int32)))), .val (.ref (P (own_s ((p1 &&& (2147483647 : Int32)) % (7 : Int32))))), .val (.ref (P (own_s ((p2 &&& (2147483647 : Int32)) % (7 : Int32))))), .val (.int (1 : Int32))] [(.int (1 : Int32))])) _
    refine XS.ifNo X9.here hx rfl (hb hby at_114) rfl ((if0 _ _).trans (feq hc114).1) ?_
    show Steps p.tables e below (T9.setTop (mkF m 117 #[.val (.int p1), .val (.int p2), .val (.int ((p1 &&& (2147483647 : Int32)) % (7 : Int32))), .val (.int ((p2 &&& (2147483647 : Int32)) % (7 : Int32))), .val (.ref (P ((p1 &&& (2147483647 : Int32)) % (7 : Int32)))), .val (.ref (P ((p2 &&& (2147483647 : Int32)) % (7 : Int32)))), .val (.ref (P (own_s ((p1 &&& (2147483647 : Int32)) % (7 : Int32))))), .val (.ref (P (own_s ((p2 &&& (2147483647 : Int32)) % (7 : Int32))))), .val (.int (1 : Int32))] [])) _
    refine XS.iloadN X9.here hx rfl (hb hby at_117) rfl ?_
    show Steps p.tables e below (T9.setTop (mkF m 118 #[.val (.int p1), .val (.int p2), .val (.int ((p1 &&& (2147483647 : Int32)) % (7 : Int32))), .val (.int ((p2 &&& (2147483647 : Int32)) % (7 : Int32))), .val (.ref (P ((p1 &&& (2147483647 : Int32)) % (7 : Int32)))), .val (.ref (P ((p2 &&& (2147483647 : Int32)) % (7 : Int32)))), .val (.ref (P (own_s ((p1 &&& (2147483647 : Int32)) % (7 : Int32))))), .val (.ref (P (own_s ((p2 &&& (2147483647 : Int32)) % (7 : Int32))))), .val (.int (1 : Int32))] [(.int ((p2 &&& (2147483647 : Int32)) % (7 : Int32)))])) _
    refine XS.bipush X9.here hx rfl (hb hby at_118) ?_
    show Steps p.tables e below (T9.setTop (mkF m 120 #[.val (.int p1), .val (.int p2), .val (.int ((p1 &&& (2147483647 : Int32)) % (7 : Int32))), .val (.int ((p2 &&& (2147483647 : Int32)) % (7 : Int32))), .val (.ref (P ((p1 &&& (2147483647 : Int32)) % (7 : Int32)))), .val (.ref (P ((p2 &&& (2147483647 : Int32)) % (7 : Int32)))), .val (.ref (P (own_s ((p1 &&& (2147483647 : Int32)) % (7 : Int32))))), .val (.ref (P (own_s ((p2 &&& (2147483647 : Int32)) % (7 : Int32))))), .val (.int (1 : Int32))] [(.int (6 : Int32)), (.int ((p2 &&& (2147483647 : Int32)) % (7 : Int32)))])) _
    refine XS.icmpYes X9.here hx rfl (pc0 := 120) (pc' := 130) rfl (hb hby at_120) rfl (teq hc120).1 (by decide) (by decide) ?_
    show Steps p.tables e below (T9.setTop (mkF m 130 #[.val (.int p1), .val (.int p2), .val (.int ((p1 &&& (2147483647 : Int32)) % (7 : Int32))), .val (.int ((p2 &&& (2147483647 : Int32)) % (7 : Int32))), .val (.ref (P ((p1 &&& (2147483647 : Int32)) % (7 : Int32)))), .val (.ref (P ((p2 &&& (2147483647 : Int32)) % (7 : Int32)))), .val (.ref (P (own_s ((p1 &&& (2147483647 : Int32)) % (7 : Int32))))), .val (.ref (P (own_s ((p2 &&& (2147483647 : Int32)) % (7 : Int32))))), .val (.int (1 : Int32))] [])) _
    refine XS.iconst X9.here hx rfl (hb hby at_130) ?_
    show Steps p.tables e below (T9.setTop (mkF m 131 #[.val (.int p1), .val (.int p2), .val (.int ((p1 &&& (2147483647 : Int32)) % (7 : Int32))), .val (.int ((p2 &&& (2147483647 : Int32)) % (7 : Int32))), .val (.ref (P ((p1 &&& (2147483647 : Int32)) % (7 : Int32)))), .val (.ref (P ((p2 &&& (2147483647 : Int32)) % (7 : Int32)))), .val (.ref (P (own_s ((p1 &&& (2147483647 : Int32)) % (7 : Int32))))), .val (.ref (P (own_s ((p2 &&& (2147483647 : Int32)) % (7 : Int32))))), .val (.int (1 : Int32))] [(.int (1 : Int32))])) _
    refine XS.goto X9.here hx rfl (pc0 := 131) (pc' := 135) rfl (hb hby at_131) (by decide) (by decide) ?_
    show Steps p.tables e below (T9.setTop (mkF m 135 #[.val (.int p1), .val (.int p2), .val (.int ((p1 &&& (2147483647 : Int32)) % (7 : Int32))), .val (.int ((p2 &&& (2147483647 : Int32)) % (7 : Int32))), .val (.ref (P ((p1 &&& (2147483647 : Int32)) % (7 : Int32)))), .val (.ref (P ((p2 &&& (2147483647 : Int32)) % (7 : Int32)))), .val (.ref (P (own_s ((p1 &&& (2147483647 : Int32)) % (7 : Int32))))), .val (.ref (P (own_s ((p2 &&& (2147483647 : Int32)) % (7 : Int32))))), .val (.int (1 : Int32))] [(.int (1 : Int32))])) _
    refine XS.istore X9.here hx rfl (hb hby at_135) rfl (l' := #[.val (.int p1), .val (.int p2), .val (.int ((p1 &&& (2147483647 : Int32)) % (7 : Int32))), .val (.int ((p2 &&& (2147483647 : Int32)) % (7 : Int32))), .val (.ref (P ((p1 &&& (2147483647 : Int32)) % (7 : Int32)))), .val (.ref (P ((p2 &&& (2147483647 : Int32)) % (7 : Int32)))), .val (.ref (P (own_s ((p1 &&& (2147483647 : Int32)) % (7 : Int32))))), .val (.ref (P (own_s ((p2 &&& (2147483647 : Int32)) % (7 : Int32))))), .val (.int (1 : Int32))]) rfl ?_
    show Steps p.tables e below (T9.setTop (mkF m 137 #[.val (.int p1), .val (.int p2), .val (.int ((p1 &&& (2147483647 : Int32)) % (7 : Int32))), .val (.int ((p2 &&& (2147483647 : Int32)) % (7 : Int32))), .val (.ref (P ((p1 &&& (2147483647 : Int32)) % (7 : Int32)))), .val (.ref (P ((p2 &&& (2147483647 : Int32)) % (7 : Int32)))), .val (.ref (P (own_s ((p1 &&& (2147483647 : Int32)) % (7 : Int32))))), .val (.ref (P (own_s ((p2 &&& (2147483647 : Int32)) % (7 : Int32))))), .val (.int (1 : Int32))] [])) _
    refine XS.iload X9.here hx rfl (hb hby at_137) rfl ?_
    show Steps p.tables e below (T9.setTop (mkF m 139 #[.val (.int p1), .val (.int p2), .val (.int ((p1 &&& (2147483647 : Int32)) % (7 : Int32))), .val (.int ((p2 &&& (2147483647 : Int32)) % (7 : Int32))), .val (.ref (P ((p1 &&& (2147483647 : Int32)) % (7 : Int32)))), .val (.ref (P ((p2 &&& (2147483647 : Int32)) % (7 : Int32)))), .val (.ref (P (own_s ((p1 &&& (2147483647 : Int32)) % (7 : Int32))))), .val (.ref (P (own_s ((p2 &&& (2147483647 : Int32)) % (7 : Int32))))), .val (.int (1 : Int32))] [(.int (1 : Int32))])) _
    refine XS.ifNo X9.here hx rfl (hb hby at_139) rfl ((if0 _ _).trans (feq hc139).1) ?_
    show Steps p.tables e below (T9.setTop (mkF m 142 #[.val (.int p1), .val (.int p2), .val (.int ((p1 &&& (2147483647 : Int32)) % (7 : Int32))), .val (.int ((p2 &&& (2147483647 : Int32)) % (7 : Int32))), .val (.ref (P ((p1 &&& (2147483647 : Int32)) % (7 : Int32)))), .val (.ref (P ((p2 &&& (2147483647 : Int32)) % (7 : Int32)))), .val (.ref (P (own_s ((p1 &&& (2147483647 : Int32)) % (7 : Int32))))), .val (.ref (P (own_s ((p2 &&& (2147483647 : Int32)) % (7 : Int32))))), .val (.int (1 : Int32))] [])) _
    refine XS.aload X9.here hx rfl (hb hby at_142) rfl rfl ?_
    show Steps p.tables e below (T9.setTop (mkF m 144 #[.val (.int p1), .val (.int p2), .val (.int ((p1 &&& (2147483647 : Int32)) % (7 : Int32))), .val (.int ((p2 &&& (2147483647 : Int32)) % (7 : Int32))), .val (.ref (P ((p1 &&& (2147483647 : Int32)) % (7 : Int32)))), .val (.ref (P ((p2 &&& (2147483647 : Int32)) % (7 : Int32)))), .val (.ref (P (own_s ((p1 &&& (2147483647 : Int32)) % (7 : Int32))))), .val (.ref (P (own_s ((p2 &&& (2147483647 : Int32)) % (7 : Int32))))), .val (.int (1 : Int32))] [(.ref (P (own_s ((p1 &&& (2147483647 : Int32)) % (7 : Int32)))))])) _
    refine st10 _ ?_
    show Steps p.tables e below (T10.setTop (mkF m 147 #[.val (.int p1), .val (.int p2), .val (.int ((p1 &&& (2147483647 : Int32)) % (7 : Int32))), .val (.int ((p2 &&& (2147483647 : Int32)) % (7 : Int32))), .val (.ref (P ((p1 &&& (2147483647 : Int32)) % (7 : Int32)))), .val (.ref (P ((p2 &&& (2147483647 : Int32)) % (7 : Int32)))), .val (.ref (P (own_s ((p1 &&& (2147483647 : Int32)) % (7 : Int32))))), .val (.ref (P (own_s ((p2 &&& (2147483647 : Int32)) % (7 : Int32))))), .val (.int (1 : Int32))] [(.ref (P (own_s (own_s ((p1 &&& (2147483647 : Int32)) % (7 : Int32))))))])) _
    refine XS.aload X10.here hx rfl (hb hby at_147) rfl rfl ?_
    show Steps p.tables e below (T10.setTop (mkF m 149 #[.val (.int p1), .val (.int p2), .val (.int ((p1 &&& (2147483647 : Int32)) % (7 : Int32))), .val (.int ((p2 &&& (2147483647 : Int32)) % (7 : Int32))), .val (.ref (P ((p1 &&& (2147483647 : Int32)) % (7 : Int32)))), .val (.ref (P ((p2 &&& (2147483647 : Int32)) % (7 : Int32)))), .val (.ref (P (own_s ((p1 &&& (2147483647 : Int32)) % (7 : Int32))))), .val (.ref (P (own_s ((p2 &&& (2147483647 : Int32)) % (7 : Int32))))), .val (.int (1 : Int32))] [(.ref (P (own_s ((p1 &&& (2147483647 : Int32)) % (7 : Int32))))), (.ref (P (own_s (own_s ((p1 &&& (2147483647 : Int32)) % (7 : Int32))))))])) _
    refine Jvm.RoadKit.acmp (g := (mkF m 149 #[.val (.int p1), .val (.int p2), .val (.int ((p1 &&& (2147483647 : Int32)) % (7 : Int32))), .val (.int ((p2 &&& (2147483647 : Int32)) % (7 : Int32))), .val (.ref (P ((p1 &&& (2147483647 : Int32)) % (7 : Int32)))), .val (.ref (P ((p2 &&& (2147483647 : Int32)) % (7 : Int32)))), .val (.ref (P (own_s ((p1 &&& (2147483647 : Int32)) % (7 : Int32))))), .val (.ref (P (own_s ((p2 &&& (2147483647 : Int32)) % (7 : Int32))))), .val (.int (1 : Int32))] [(.ref (P (own_s ((p1 &&& (2147483647 : Int32)) % (7 : Int32))))), (.ref (P (own_s (own_s ((p1 &&& (2147483647 : Int32)) % (7 : Int32))))))])) X10 hx rfl rfl rfl (pc0 := 149) (pc' := 152) (same := true) rfl (hb hby at_149) rfl (decide_eq_true (congrArg Value.ref ha149)) (by decide) (by decide) ?_
    show Steps p.tables e below (T10.setTop (mkF m 152 #[.val (.int p1), .val (.int p2), .val (.int ((p1 &&& (2147483647 : Int32)) % (7 : Int32))), .val (.int ((p2 &&& (2147483647 : Int32)) % (7 : Int32))), .val (.ref (P ((p1 &&& (2147483647 : Int32)) % (7 : Int32)))), .val (.ref (P ((p2 &&& (2147483647 : Int32)) % (7 : Int32)))), .val (.ref (P (own_s ((p1 &&& (2147483647 : Int32)) % (7 : Int32))))), .val (.ref (P (own_s ((p2 &&& (2147483647 : Int32)) % (7 : Int32))))), .val (.int (1 : Int32))] [])) _
    refine XS.iconst X10.here hx rfl (hb hby at_152) ?_
    show Steps p.tables e below (T10.setTop (mkF m 153 #[.val (.int p1), .val (.int p2), .val (.int ((p1 &&& (2147483647 : Int32)) % (7 : Int32))), .val (.int ((p2 &&& (2147483647 : Int32)) % (7 : Int32))), .val (.ref (P ((p1 &&& (2147483647 : Int32)) % (7 : Int32)))), .val (.ref (P ((p2 &&& (2147483647 : Int32)) % (7 : Int32)))), .val (.ref (P (own_s ((p1 &&& (2147483647 : Int32)) % (7 : Int32))))), .val (.ref (P (own_s ((p2 &&& (2147483647 : Int32)) % (7 : Int32))))), .val (.int (1 : Int32))] [(.int (1 : Int32))])) _
    refine XS.goto X10.here hx rfl (pc0 := 153) (pc' := 157) rfl (hb hby at_153) (by decide) (by decide) ?_
    show Steps p.tables e below (T10.setTop (mkF m 157 #[.val (.int p1), .val (.int p2), .val (.int ((p1 &&& (2147483647 : Int32)) % (7 : Int32))), .val (.int ((p2 &&& (2147483647 : Int32)) % (7 : Int32))), .val (.ref (P ((p1 &&& (2147483647 : Int32)) % (7 : Int32)))), .val (.ref (P ((p2 &&& (2147483647 : Int32)) % (7 : Int32)))), .val (.ref (P (own_s ((p1 &&& (2147483647 : Int32)) % (7 : Int32))))), .val (.ref (P (own_s ((p2 &&& (2147483647 : Int32)) % (7 : Int32))))), .val (.int (1 : Int32))] [(.int (1 : Int32))])) _
    refine XS.istore X10.here hx rfl (hb hby at_157) rfl (l' := #[.val (.int p1), .val (.int p2), .val (.int ((p1 &&& (2147483647 : Int32)) % (7 : Int32))), .val (.int ((p2 &&& (2147483647 : Int32)) % (7 : Int32))), .val (.ref (P ((p1 &&& (2147483647 : Int32)) % (7 : Int32)))), .val (.ref (P ((p2 &&& (2147483647 : Int32)) % (7 : Int32)))), .val (.ref (P (own_s ((p1 &&& (2147483647 : Int32)) % (7 : Int32))))), .val (.ref (P (own_s ((p2 &&& (2147483647 : Int32)) % (7 : Int32))))), .val (.int (1 : Int32))]) rfl ?_
    show Steps p.tables e below (T10.setTop (mkF m 159 #[.val (.int p1), .val (.int p2), .val (.int ((p1 &&& (2147483647 : Int32)) % (7 : Int32))), .val (.int ((p2 &&& (2147483647 : Int32)) % (7 : Int32))), .val (.ref (P ((p1 &&& (2147483647 : Int32)) % (7 : Int32)))), .val (.ref (P ((p2 &&& (2147483647 : Int32)) % (7 : Int32)))), .val (.ref (P (own_s ((p1 &&& (2147483647 : Int32)) % (7 : Int32))))), .val (.ref (P (own_s ((p2 &&& (2147483647 : Int32)) % (7 : Int32))))), .val (.int (1 : Int32))] [])) _
    refine XS.iload X10.here hx rfl (hb hby at_159) rfl ?_
    show Steps p.tables e below (T10.setTop (mkF m 161 #[.val (.int p1), .val (.int p2), .val (.int ((p1 &&& (2147483647 : Int32)) % (7 : Int32))), .val (.int ((p2 &&& (2147483647 : Int32)) % (7 : Int32))), .val (.ref (P ((p1 &&& (2147483647 : Int32)) % (7 : Int32)))), .val (.ref (P ((p2 &&& (2147483647 : Int32)) % (7 : Int32)))), .val (.ref (P (own_s ((p1 &&& (2147483647 : Int32)) % (7 : Int32))))), .val (.ref (P (own_s ((p2 &&& (2147483647 : Int32)) % (7 : Int32))))), .val (.int (1 : Int32))] [(.int (1 : Int32))])) _
    refine XS.ifNo X10.here hx rfl (hb hby at_161) rfl ((if0 _ _).trans (feq hc161).1) ?_
    show Steps p.tables e below (T10.setTop (mkF m 164 #[.val (.int p1), .val (.int p2), .val (.int ((p1 &&& (2147483647 : Int32)) % (7 : Int32))), .val (.int ((p2 &&& (2147483647 : Int32)) % (7 : Int32))), .val (.ref (P ((p1 &&& (2147483647 : Int32)) % (7 : Int32)))), .val (.ref (P ((p2 &&& (2147483647 : Int32)) % (7 : Int32)))), .val (.ref (P (own_s ((p1 &&& (2147483647 : Int32)) % (7 : Int32))))), .val (.ref (P (own_s ((p2 &&& (2147483647 : Int32)) % (7 : Int32))))), .val (.int (1 : Int32))] [])) _
    refine XS.iloadN X10.here hx rfl (hb hby at_164) rfl ?_
    show Steps p.tables e below (T10.setTop (mkF m 165 #[.val (.int p1), .val (.int p2), .val (.int ((p1 &&& (2147483647 : Int32)) % (7 : Int32))), .val (.int ((p2 &&& (2147483647 : Int32)) % (7 : Int32))), .val (.ref (P ((p1 &&& (2147483647 : Int32)) % (7 : Int32)))), .val (.ref (P ((p2 &&& (2147483647 : Int32)) % (7 : Int32)))), .val (.ref (P (own_s ((p1 &&& (2147483647 : Int32)) % (7 : Int32))))), .val (.ref (P (own_s ((p2 &&& (2147483647 : Int32)) % (7 : Int32))))), .val (.int (1 : Int32))] [(.int ((p1 &&& (2147483647 : Int32)) % (7 : Int32)))])) _
    refine XS.bipush X10.here hx rfl (hb hby at_165) ?_
    show Steps p.tables e below (T10.setTop (mkF m 167 #[.val (.int p1), .val (.int p2), .val (.int ((p1 &&& (2147483647 : Int32)) % (7 : Int32))), .val (.int ((p2 &&& (2147483647 : Int32)) % (7 : Int32))), .val (.ref (P ((p1 &&& (2147483647 : Int32)) % (7 : Int32)))), .val (.ref (P ((p2 &&& (2147483647 : Int32)) % (7 : Int32)))), .val (.ref (P (own_s ((p1 &&& (2147483647 : Int32)) % (7 : Int32))))), .val (.ref (P (own_s ((p2 &&& (2147483647 : Int32)) % (7 : Int32))))), .val (.int (1 : Int32))] [(.int (6 : Int32)), (.int ((p1 &&& (2147483647 : Int32)) % (7 : Int32)))])) _
    refine XS.icmpYes X10.here hx rfl (pc0 := 167) (pc' := 181) rfl (hb hby at_167) rfl (feq hc167).2 (by decide) (by decide) ?_
    show Steps p.tables e below (T10.setTop (mkF m 181 #[.val (.int p1), .val (.int p2), .val (.int ((p1 &&& (2147483647 : Int32)) % (7 : Int32))), .val (.int ((p2 &&& (2147483647 : Int32)) % (7 : Int32))), .val (.ref (P ((p1 &&& (2147483647 : Int32)) % (7 : Int32)))), .val (.ref (P ((p2 &&& (2147483647 : Int32)) % (7 : Int32)))), .val (.ref (P (own_s ((p1 &&& (2147483647 : Int32)) % (7 : Int32))))), .val (.ref (P (own_s ((p2 &&& (2147483647 : Int32)) % (7 : Int32))))), .val (.int (1 : Int32))] [])) _
    refine XS.iconst X10.here hx rfl (hb hby at_181) ?_
    show Steps p.tables e below (T10.setTop (mkF m 182 #[.val (.int p1), .val (.int p2), .val (.int ((p1 &&& (2147483647 : Int32)) % (7 : Int32))), .val (.int ((p2 &&& (2147483647 : Int32)) % (7 : Int32))), .val (.ref (P ((p1 &&& (2147483647 : Int32)) % (7 : Int32)))), .val (.ref (P ((p2 &&& (2147483647 : Int32)) % (7 : Int32)))), .val (.ref (P (own_s ((p1 &&& (2147483647 : Int32)) % (7 : Int32))))), .val (.ref (P (own_s ((p2 &&& (2147483647 : Int32)) % (7 : Int32))))), .val (.int (1 : Int32))] [(.int (1 : Int32))])) _
    refine XS.goto X10.here hx rfl (pc0 := 182) (pc' := 186) rfl (hb hby at_182) (by decide) (by decide) ?_
    show Steps p.tables e below (T10.setTop (mkF m 186 #[.val (.int p1), .val (.int p2), .val (.int ((p1 &&& (2147483647 : Int32)) % (7 : Int32))), .val (.int ((p2 &&& (2147483647 : Int32)) % (7 : Int32))), .val (.ref (P ((p1 &&& (2147483647 : Int32)) % (7 : Int32)))), .val (.ref (P ((p2 &&& (2147483647 : Int32)) % (7 : Int32)))), .val (.ref (P (own_s ((p1 &&& (2147483647 : Int32)) % (7 : Int32))))), .val (.ref (P (own_s ((p2 &&& (2147483647 : Int32)) % (7 : Int32))))), .val (.int (1 : Int32))] [(.int (1 : Int32))])) _
    refine XS.istore X10.here hx rfl (hb hby at_186) rfl (l' := #[.val (.int p1), .val (.int p2), .val (.int ((p1 &&& (2147483647 : Int32)) % (7 : Int32))), .val (.int ((p2 &&& (2147483647 : Int32)) % (7 : Int32))), .val (.ref (P ((p1 &&& (2147483647 : Int32)) % (7 : Int32)))), .val (.ref (P ((p2 &&& (2147483647 : Int32)) % (7 : Int32)))), .val (.ref (P (own_s ((p1 &&& (2147483647 : Int32)) % (7 : Int32))))), .val (.ref (P (own_s ((p2 &&& (2147483647 : Int32)) % (7 : Int32))))), .val (.int (1 : Int32))]) rfl ?_
    show Steps p.tables e below (T10.setTop (mkF m 188 #[.val (.int p1), .val (.int p2), .val (.int ((p1 &&& (2147483647 : Int32)) % (7 : Int32))), .val (.int ((p2 &&& (2147483647 : Int32)) % (7 : Int32))), .val (.ref (P ((p1 &&& (2147483647 : Int32)) % (7 : Int32)))), .val (.ref (P ((p2 &&& (2147483647 : Int32)) % (7 : Int32)))), .val (.ref (P (own_s ((p1 &&& (2147483647 : Int32)) % (7 : Int32))))), .val (.ref (P (own_s ((p2 &&& (2147483647 : Int32)) % (7 : Int32))))), .val (.int (1 : Int32))] [])) _
    refine XS.iload X10.here hx rfl (hb hby at_188) rfl ?_
    show Steps p.tables e below (T10.setTop (mkF m 190 #[.val (.int p1), .val (.int p2), .val (.int ((p1 &&& (2147483647 : Int32)) % (7 : Int32))), .val (.int ((p2 &&& (2147483647 : Int32)) % (7 : Int32))), .val (.ref (P ((p1 &&& (2147483647 : Int32)) % (7 : Int32)))), .val (.ref (P ((p2 &&& (2147483647 : Int32)) % (7 : Int32)))), .val (.ref (P (own_s ((p1 &&& (2147483647 : Int32)) % (7 : Int32))))), .val (.ref (P (own_s ((p2 &&& (2147483647 : Int32)) % (7 : Int32))))), .val (.int (1 : Int32))] [(.int (1 : Int32))])) _
    refine XS.ifNo X10.here hx rfl (hb hby at_190) rfl ((if0 _ _).trans (feq hc190).1) ?_
    show Steps p.tables e below (T10.setTop (mkF m 193 #[.val (.int p1), .val (.int p2), .val (.int ((p1 &&& (2147483647 : Int32)) % (7 : Int32))), .val (.int ((p2 &&& (2147483647 : Int32)) % (7 : Int32))), .val (.ref (P ((p1 &&& (2147483647 : Int32)) % (7 : Int32)))), .val (.ref (P ((p2 &&& (2147483647 : Int32)) % (7 : Int32)))), .val (.ref (P (own_s ((p1 &&& (2147483647 : Int32)) % (7 : Int32))))), .val (.ref (P (own_s ((p2 &&& (2147483647 : Int32)) % (7 : Int32))))), .val (.int (1 : Int32))] [])) _
    refine XS.iloadN X10.here hx rfl (hb hby at_193) rfl ?_
    show Steps p.tables e below (T10.setTop (mkF m 194 #[.val (.int p1), .val (.int p2), .val (.int ((p1 &&& (2147483647 : Int32)) % (7 : Int32))), .val (.int ((p2 &&& (2147483647 : Int32)) % (7 : Int32))), .val (.ref (P ((p1 &&& (2147483647 : Int32)) % (7 : Int32)))), .val (.ref (P ((p2 &&& (2147483647 : Int32)) % (7 : Int32)))), .val (.ref (P (own_s ((p1 &&& (2147483647 : Int32)) % (7 : Int32))))), .val (.ref (P (own_s ((p2 &&& (2147483647 : Int32)) % (7 : Int32))))), .val (.int (1 : Int32))] [(.int ((p1 &&& (2147483647 : Int32)) % (7 : Int32)))])) _
    refine XS.iloadN X10.here hx rfl (hb hby at_194) rfl ?_
    show Steps p.tables e below (T10.setTop (mkF m 195 #[.val (.int p1), .val (.int p2), .val (.int ((p1 &&& (2147483647 : Int32)) % (7 : Int32))), .val (.int ((p2 &&& (2147483647 : Int32)) % (7 : Int32))), .val (.ref (P ((p1 &&& (2147483647 : Int32)) % (7 : Int32)))), .val (.ref (P ((p2 &&& (2147483647 : Int32)) % (7 : Int32)))), .val (.ref (P (own_s ((p1 &&& (2147483647 : Int32)) % (7 : Int32))))), .val (.ref (P (own_s ((p2 &&& (2147483647 : Int32)) % (7 : Int32))))), .val (.int (1 : Int32))] [(.int ((p2 &&& (2147483647 : Int32)) % (7 : Int32))), (.int ((p1 &&& (2147483647 : Int32)) % (7 : Int32)))])) _
    refine XS.icmpNo X10.here hx rfl (hb hby at_195) rfl (flt hc195).2.2.1 ?_
    show Steps p.tables e below (T10.setTop (mkF m 198 #[.val (.int p1), .val (.int p2), .val (.int ((p1 &&& (2147483647 : Int32)) % (7 : Int32))), .val (.int ((p2 &&& (2147483647 : Int32)) % (7 : Int32))), .val (.ref (P ((p1 &&& (2147483647 : Int32)) % (7 : Int32)))), .val (.ref (P ((p2 &&& (2147483647 : Int32)) % (7 : Int32)))), .val (.ref (P (own_s ((p1 &&& (2147483647 : Int32)) % (7 : Int32))))), .val (.ref (P (own_s ((p2 &&& (2147483647 : Int32)) % (7 : Int32))))), .val (.int (1 : Int32))] [])) _
    refine XS.aload X10.here hx rfl (hb hby at_198) rfl rfl ?_
    show Steps p.tables e below (T10.setTop (mkF m 200 #[.val (.int p1), .val (.int p2), .val (.int ((p1 &&& (2147483647 : Int32)) % (7 : Int32))), .val (.int ((p2 &&& (2147483647 : Int32)) % (7 : Int32))), .val (.ref (P ((p1 &&& (2147483647 : Int32)) % (7 : Int32)))), .val (.ref (P ((p2 &&& (2147483647 : Int32)) % (7 : Int32)))), .val (.ref (P (own_s ((p1 &&& (2147483647 : Int32)) % (7 : Int32))))), .val (.ref (P (own_s ((p2 &&& (2147483647 : Int32)) % (7 : Int32))))), .val (.int (1 : Int32))] [(.ref (P (own_s ((p1 &&& (2147483647 : Int32)) % (7 : Int32)))))])) _
    refine st11 _ ?_
    show Steps p.tables e below (T11.setTop (mkF m 203 #[.val (.int p1), .val (.int p2), .val (.int ((p1 &&& (2147483647 : Int32)) % (7 : Int32))), .val (.int ((p2 &&& (2147483647 : Int32)) % (7 : Int32))), .val (.ref (P ((p1 &&& (2147483647 : Int32)) % (7 : Int32)))), .val (.ref (P ((p2 &&& (2147483647 : Int32)) % (7 : Int32)))), .val (.ref (P (own_s ((p1 &&& (2147483647 : Int32)) % (7 : Int32))))), .val (.ref (P (own_s ((p2 &&& (2147483647 : Int32)) % (7 : Int32))))), .val (.int (1 : Int32))] [(.int (own_s ((p1 &&& (2147483647 : Int32)) % (7 : Int32))))])) _
    refine XS.aload X11.here hx rfl (hb hby at_203) rfl rfl ?_
    show Steps p.tables e below (T11.setTop (mkF m 205 #[.val (.int p1), .val (.int p2), .val (.int ((p1 &&& (2147483647 : Int32)) % (7 : Int32))), .val (.int ((p2 &&& (2147483647 : Int32)) % (7 : Int32))), .val (.ref (P ((p1 &&& (2147483647 : Int32)) % (7 : Int32)))), .val (.ref (P ((p2 &&& (2147483647 : Int32)) % (7 : Int32)))), .val (.ref (P (own_s ((p1 &&& (2147483647 : Int32)) % (7 : Int32))))), .val (.ref (P (own_s ((p2 &&& (2147483647 : Int32)) % (7 : Int32))))), .val (.int (1 : Int32))] [(.ref (P (own_s ((p2 &&& (2147483647 : Int32)) % (7 : Int32))))), (.int (own_s ((p1 &&& (2147483647 : Int32)) % (7 : Int32))))])) _
    refine st12 _ ?_
    show Steps p.tables e below (T12.setTop (mkF m 208 #[.val (.int p1), .val (.int p2), .val (.int ((p1 &&& (2147483647 : Int32)) % (7 : Int32))), .val (.int ((p2 &&& (2147483647 : Int32)) % (7 : Int32))), .val (.ref (P ((p1 &&& (2147483647 : Int32)) % (7 : Int32)))), .val (.ref (P ((p2 &&& (2147483647 : Int32)) % (7 : Int32)))), .val (.ref (P (own_s ((p1 &&& (2147483647 : Int32)) % (7 : Int32))))), .val (.ref (P (own_s ((p2 &&& (2147483647 : Int32)) % (7 : Int32))))), .val (.int (1 : Int32))] [(.int (own_s ((p2 &&& (2147483647 : Int32)) % (7 : Int32)))), (.int (own_s ((p1 &&& (2147483647 : Int32)) % (7 : Int32))))])) _
    refine XS.icmpNo X12.here hx rfl (hb hby at_208) rfl (flt (own_mono (own_in7 p1) (own_in7 p2) hc195 : ¬ ((own_s ((p2 &&& (2147483647 : Int32)) % (7 : Int32))) < (own_s ((p1 &&& (2147483647 : Int32)) % (7 : Int32)))))).2.2.1 ?_
    show Steps p.tables e below (T12.setTop (mkF m 211 #[.val (.int p1), .val (.int p2), .val (.int ((p1 &&& (2147483647 : Int32)) % (7 : Int32))), .val (.int ((p2 &&& (2147483647 : Int32)) % (7 : Int32))), .val (.ref (P ((p1 &&& (2147483647 : Int32)) % (7 : Int32)))), .val (.ref (P ((p2 &&& (2147483647 : Int32)) % (7 : Int32)))), .val (.ref (P (own_s ((p1 &&& (2147483647 : Int32)) % (7 : Int32))))), .val (.ref (P (own_s ((p2 &&& (2147483647 : Int32)) % (7 : Int32))))), .val (.int (1 : Int32))] [])) _
    refine XS.iconst X12.here hx rfl (hb hby at_211) ?_
    show Steps p.tables e below (T12.setTop (mkF m 212 #[.val (.int p1), .val (.int p2), .val (.int ((p1 &&& (2147483647 : Int32)) % (7 : Int32))), .val (.int ((p2 &&& (2147483647 : Int32)) % (7 : Int32))), .val (.ref (P ((p1 &&& (2147483647 : Int32)) % (7 : Int32)))), .val (.ref (P ((p2 &&& (2147483647 : Int32)) % (7 : Int32)))), .val (.ref (P (own_s ((p1 &&& (2147483647 : Int32)) % (7 : Int32))))), .val (.ref (P (own_s ((p2 &&& (2147483647 : Int32)) % (7 : Int32))))), .val (.int (1 : Int32))] [(.int (1 : Int32))])) _
    refine XS.goto X12.here hx rfl (pc0 := 212) (pc' := 216) rfl (hb hby at_212) (by decide) (by decide) ?_
    show Steps p.tables e below (T12.setTop (mkF m 216 #[.val (.int p1), .val (.int p2), .val (.int ((p1 &&& (2147483647 : Int32)) % (7 : Int32))), .val (.int ((p2 &&& (2147483647 : Int32)) % (7 : Int32))), .val (.ref (P ((p1 &&& (2147483647 : Int32)) % (7 : Int32)))), .val (.ref (P ((p2 &&& (2147483647 : Int32)) % (7 : Int32)))), .val (.ref (P (own_s ((p1 &&& (2147483647 : Int32)) % (7 : Int32))))), .val (.ref (P (own_s ((p2 &&& (2147483647 : Int32)) % (7 : Int32))))), .val (.int (1 : Int32))] [(.int (1 : Int32))])) _
    refine XS.istore X12.here hx rfl (hb hby at_216) rfl (l' := #[.val (.int p1), .val (.int p2), .val (.int ((p1 &&& (2147483647 : Int32)) % (7 : Int32))), .val (.int ((p2 &&& (2147483647 : Int32)) % (7 : Int32))), .val (.ref (P ((p1 &&& (2147483647 : Int32)) % (7 : Int32)))), .val (.ref (P ((p2 &&& (2147483647 : Int32)) % (7 : Int32)))), .val (.ref (P (own_s ((p1 &&& (2147483647 : Int32)) % (7 : Int32))))), .val (.ref (P (own_s ((p2 &&& (2147483647 : Int32)) % (7 : Int32))))), .val (.int (1 : Int32))]) rfl ?_
    show Steps p.tables e below (T12.setTop (mkF m 218 #[.val (.int p1), .val (.int p2), .val (.int ((p1 &&& (2147483647 : Int32)) % (7 : Int32))), .val (.int ((p2 &&& (2147483647 : Int32)) % (7 : Int32))), .val (.ref (P ((p1 &&& (2147483647 : Int32)) % (7 : Int32)))), .val (.ref (P ((p2 &&& (2147483647 : Int32)) % (7 : Int32)))), .val (.ref (P (own_s ((p1 &&& (2147483647 : Int32)) % (7 : Int32))))), .val (.ref (P (own_s ((p2 &&& (2147483647 : Int32)) % (7 : Int32))))), .val (.int (1 : Int32))] [])) _
    refine XS.iload X12.here hx rfl (hb hby at_218) rfl ?_
    show Steps p.tables e below (T12.setTop (mkF m 220 #[.val (.int p1), .val (.int p2), .val (.int ((p1 &&& (2147483647 : Int32)) % (7 : Int32))), .val (.int ((p2 &&& (2147483647 : Int32)) % (7 : Int32))), .val (.ref (P ((p1 &&& (2147483647 : Int32)) % (7 : Int32)))), .val (.ref (P ((p2 &&& (2147483647 : Int32)) % (7 : Int32)))), .val (.ref (P (own_s ((p1 &&& (2147483647 : Int32)) % (7 : Int32))))), .val (.ref (P (own_s ((p2 &&& (2147483647 : Int32)) % (7 : Int32))))), .val (.int (1 : Int32))] [(.int (1 : Int32))])) _
    exact retN X12 hx (t := .boolean) Bd.returns (by simp) (hb hby at_220) hr
  · show Qlaw n0 _ _
    exact ⟨rfl, N12⟩
set_option maxRecDepth 65536 in
set_option maxHeartbeats 40000000 in
theorem rm0D (l : Launch) (Z : State) (a0 : Array Value) (hw : ∀ d ∈ tables_1, d.before a0 Z = true) (ws : List Jvm.Cond) (p1 : Int32) (p2 : Int32) (P : Int32 → Addr) (h0 : Heap) (n0 : Nat) (Z0 : n0 ≤ h0.size) (K : Known Z h0 P) (S_MILLISECOND : Sta Z h0 "com/example/numerand/numerand/engine/Precision" "MILLISECOND" "Lcom/example/numerand/numerand/engine/Precision;" (.ref (P 6))) (hc61 : ¬ ((1 : Int32) = (0 : Int32))) (ha69 : ¬ ((P (own_s ((p1 &&& (2147483647 : Int32)) % (7 : Int32)))) = (P 6))) (ha77 : ¬ ((P (own_s ((p2 &&& (2147483647 : Int32)) % (7 : Int32)))) = (P 6))) (hc89 : ¬ ((1 : Int32) = (0 : Int32))) (hc95 : ¬ (((p1 &&& (2147483647 : Int32)) % (7 : Int32)) = (6 : Int32))) (ha102 : (P (own_s ((p1 &&& (2147483647 : Int32)) % (7 : Int32)))) = (P ((p1 &&& (2147483647 : Int32)) % (7 : Int32)))) (hc114 : ¬ ((1 : Int32) = (0 : Int32))) (hc120 : ¬ (((p2 &&& (2147483647 : Int32)) % (7 : Int32)) = (6 : Int32))) (ha127 : (P (own_s ((p2 &&& (2147483647 : Int32)) % (7 : Int32)))) = (P ((p2 &&& (2147483647 : Int32)) % (7 : Int32)))) (hc139 : ¬ ((1 : Int32) = (0 : Int32))) (ha149 : (P (own_s (own_s ((p1 &&& (2147483647 : Int32)) % (7 : Int32))))) = (P (own_s ((p1 &&& (2147483647 : Int32)) % (7 : Int32))))) (hc161 : ¬ ((1 : Int32) = (0 : Int32))) (hc167 : ¬ (((p1 &&& (2147483647 : Int32)) % (7 : Int32)) = (6 : Int32))) (hc190 : ¬ ((1 : Int32) = (0 : Int32))) (hc195 : ((p2 &&& (2147483647 : Int32)) % (7 : Int32)) < ((p1 &&& (2147483647 : Int32)) % (7 : Int32))) :
    MetFree l x (head1 (Jvm.Cond.code x code maxLocals ret :: ws) room_1) (fun a U => a = #[(.int p1), (.int p2)] ∧ Z.Warmed39 U.vm ∧ U.heap = h0) (fun _ _ _ _ _ => True) (fun _ U o U' => ∃ v L, o = .returned v ∧ Qlaw n0 v L ∧ FrameEnd U o U' L room_1.cells room_1.slots) := by
  refine MetFree.of_bodySF (plainFor_of_name pn_0) hisR ?_
  intro p e s m args below meth c s₁ Bd hml0 hP hK
  obtain ⟨rfl, hZ, hh⟩ := hP
  have hx := Bd.exec
  have hby := Bd.bytes
  have hml : c.maxLocals = 9 := hml0
  have hown : s.vm.findClass "com/example/numerand/numerand/engine/PrecisionSecondsPinLaw" = some m.cls := findClass_of_methodNamed Bd.named
  have hnm := (name_of_methodNamed Bd.named Bd.method).1
  have X0 : Stand p l e room_1 s m #[(.int p1), (.int p2)] below meth c s₁ [] 0 0 := Stand.of_body Bd
  have e0 : s₁.heap = h0 := by rw [← hh, Bd.state]; rfl
  have N0 := Fr.nil n0
  have pre0 : ∀ t, Steps p.tables e below (s₁.setTop (mkF m 0 #[.val (.int p1), .val (.int p2), .unset, .unset, .unset, .unset, .unset, .unset, .unset] [])) t → Steps p.tables e below (s₁.setTop (entryFrame m #[(.int p1), (.int p2)] maxLocals)) t := fun t k => castTop (ef_0 m p1 p2) k
  obtain ⟨_, _, ⟨T3, L3, k3, n3⟩, -, X3, ⟨Lc3, hQ3, l3, y3, z3⟩, st3⟩ := Jvm.LawKit.callS X0 hx (y := (⟨"com/example/numerand/numerand/engine/PrecisionSecondsPinLaw", "pick", "(I)Lcom/example/numerand/numerand/engine/Precision;"⟩ : MethodName)) hown (mvT hZ (hw _ (List.mem_of_getElem? (i := 1) rfl))) (mvT hZ (hw _ (List.mem_of_getElem? (i := 2) rfl))) (mvT hZ (hw _ (List.mem_of_getElem? (i := 3) rfl))) (mvT hZ (hw _ (List.mem_of_getElem? (i := 4) rfl))) (by decide) (backOf (W := 0) (rm1 l Z a0 hw [] ((p1 &&& (2147483647 : Int32)) % (7 : Int32)) P h0 n0 Z0 K (own_in7 p1)) hZ (hw _ (List.mem_of_getElem? (i := 4) rfl)) (hw _ (List.mem_of_getElem? (i := 3) rfl)) (by decide) (by decide)) (g := (mkF m 17 #[.val (.int p1), .val (.int p2), .val (.int ((p1 &&& (2147483647 : Int32)) % (7 : Int32))), .val (.int ((p2 &&& (2147483647 : Int32)) % (7 : Int32))), .unset, .unset, .unset, .unset, .unset] [(.int ((p1 &&& (2147483647 : Int32)) % (7 : Int32)))])) rfl (by rw [hml]; rfl) (argsL := [(.int ((p1 &&& (2147483647 : Int32)) % (7 : Int32)))]) (rest := []) (lenOf pd_0_0 rfl) rfl (by show 2 * 0 + _ ≤ _; exact Nat.le_of_eq rfl) (hb hby at_17) (fun _ _ => ⟨rfl, e0, (by decide : 0 + 0 ≤ _), (by decide : 0 + 0 ≤ _)⟩)
  dsimp only [Pt.U, Pt.locs, Pt.cells, Pt.slots] at X3 l3 y3 z3 st3 hQ3
  subst l3 y3 z3
  obtain ⟨rfl, N3q, e3⟩ := hQ3
  have N3 := Fr.app N0 N3q
  obtain ⟨_, _, ⟨T4, L4, k4, n4⟩, -, X4, ⟨Lc4, hQ4, l4, y4, z4⟩, st4⟩ := Jvm.LawKit.callS X3 hx (y := (⟨"com/example/numerand/numerand/engine/PrecisionSecondsPinLaw", "pick", "(I)Lcom/example/numerand/numerand/engine/Precision;"⟩ : MethodName)) hown (mvT hZ (hw _ (List.mem_of_getElem? (i := 1) rfl))) (mvT hZ (hw _ (List.mem_of_getElem? (i := 2) rfl))) (mvT hZ (hw _ (List.mem_of_getElem? (i := 3) rfl))) (mvT hZ (hw _ (List.mem_of_getElem? (i := 4) rfl))) (by decide) (backOf (W := 0) (rm1 l Z a0 hw [] ((p2 &&& (2147483647 : Int32)) % (7 : Int32)) P h0 n0 Z0 K (own_in7 p2)) hZ (hw _ (List.mem_of_getElem? (i := 4) rfl)) (hw _ (List.mem_of_getElem? (i := 3) rfl)) (by decide) (by decide)) (g := (mkF m 23 #[.val (.int p1), .val (.int p2), .val (.int ((p1 &&& (2147483647 : Int32)) % (7 : Int32))), .val (.int ((p2 &&& (2147483647 : Int32)) % (7 : Int32))), .val (.ref (P ((p1 &&& (2147483647 : Int32)) % (7 : Int32)))), .unset, .unset, .unset, .unset] [(.int ((p2 &&& (2147483647 : Int32)) % (7 : Int32)))])) rfl (by rw [hml]; rfl) (argsL := [(.int ((p2 &&& (2147483647 : Int32)) % (7 : Int32)))]) (rest := []) (lenOf pd_0_0 rfl) rfl (by show 2 * 0 + _ ≤ _; exact Nat.le_of_eq rfl) (hb hby at_23) (fun _ _ => ⟨rfl, e3, (by decide : 0 + 0 ≤ _), (by decide : 0 + 0 ≤ _)⟩)
  dsimp only [Pt.U, Pt.locs, Pt.cells, Pt.slots] at X4 l4 y4 z4 st4 hQ4
  subst l4 y4 z4
  obtain ⟨rfl, N4q, e4⟩ := hQ4
  have N4 := Fr.app N3 N4q
  obtain ⟨_, _, ⟨T5, L5, k5, n5⟩, -, X5, ⟨Lc5, hQ5, l5, y5, z5⟩, st5⟩ := Jvm.LawKit.callS X4 hx (y := (⟨"com/example/numerand/numerand/engine/Precision", "seconds", "(Lcom/example/numerand/numerand/engine/Precision;)Lcom/example/numerand/numerand/engine/Precision;"⟩ : MethodName)) hown (mvT hZ (hw _ (List.mem_of_getElem? (i := 10) rfl))) (mvT hZ (hw _ (List.mem_of_getElem? (i := 11) rfl))) (mvT hZ (hw _ (List.mem_of_getElem? (i := 6) rfl))) (mvT hZ (hw _ (List.mem_of_getElem? (i := 12) rfl))) (by decide) (backOf (W := 0) (rm2 l Z a0 hw [] ((p1 &&& (2147483647 : Int32)) % (7 : Int32)) P h0 n0 Z0 K (own_in7 p1)) hZ (hw _ (List.mem_of_getElem? (i := 12) rfl)) (hw _ (List.mem_of_getElem? (i := 6) rfl)) (by decide) (by decide)) (g := (mkF m 30 #[.val (.int p1), .val (.int p2), .val (.int ((p1 &&& (2147483647 : Int32)) % (7 : Int32))), .val (.int ((p2 &&& (2147483647 : Int32)) % (7 : Int32))), .val (.ref (P ((p1 &&& (2147483647 : Int32)) % (7 : Int32)))), .val (.ref (P ((p2 &&& (2147483647 : Int32)) % (7 : Int32)))), .unset, .unset, .unset] [(.ref (P ((p1 &&& (2147483647 : Int32)) % (7 : Int32))))])) rfl (by rw [hml]; rfl) (argsL := [(.ref (P ((p1 &&& (2147483647 : Int32)) % (7 : Int32))))]) (rest := []) (lenOf pd_0_1 rfl) rfl (by show 2 * 0 + _ ≤ _; exact Nat.le_of_eq rfl) (hb hby at_30) (fun _ _ => ⟨rfl, e4, (by decide : 0 + 0 ≤ _), (by decide : 0 + 0 ≤ _)⟩)
  dsimp only [Pt.U, Pt.locs, Pt.cells, Pt.slots] at X5 l5 y5 z5 st5 hQ5
  subst l5 y5 z5
  obtain ⟨rfl, N5q, e5⟩ := hQ5
  have N5 := Fr.app N4 N5q
  obtain ⟨_, _, ⟨T6, L6, k6, n6⟩, -, X6, ⟨Lc6, hQ6, l6, y6, z6⟩, st6⟩ := Jvm.LawKit.callS X5 hx (y := (⟨"com/example/numerand/numerand/engine/Precision", "seconds", "(Lcom/example/numerand/numerand/engine/Precision;)Lcom/example/numerand/numerand/engine/Precision;"⟩ : MethodName)) hown (mvT hZ (hw _ (List.mem_of_getElem? (i := 10) rfl))) (mvT hZ (hw _ (List.mem_of_getElem? (i := 11) rfl))) (mvT hZ (hw _ (List.mem_of_getElem? (i := 6) rfl))) (mvT hZ (hw _ (List.mem_of_getElem? (i := 12) rfl))) (by decide) (backOf (W := 0) (rm2 l Z a0 hw [] ((p2 &&& (2147483647 : Int32)) % (7 : Int32)) P h0 n0 Z0 K (own_in7 p2)) hZ (hw _ (List.mem_of_getElem? (i := 12) rfl)) (hw _ (List.mem_of_getElem? (i := 6) rfl)) (by decide) (by decide)) (g := (mkF m 37 #[.val (.int p1), .val (.int p2), .val (.int ((p1 &&& (2147483647 : Int32)) % (7 : Int32))), .val (.int ((p2 &&& (2147483647 : Int32)) % (7 : Int32))), .val (.ref (P ((p1 &&& (2147483647 : Int32)) % (7 : Int32)))), .val (.ref (P ((p2 &&& (2147483647 : Int32)) % (7 : Int32)))), .val (.ref (P (own_s ((p1 &&& (2147483647 : Int32)) % (7 : Int32))))), .unset, .unset] [(.ref (P ((p2 &&& (2147483647 : Int32)) % (7 : Int32))))])) rfl (by rw [hml]; rfl) (argsL := [(.ref (P ((p2 &&& (2147483647 : Int32)) % (7 : Int32))))]) (rest := []) (lenOf pd_0_1 rfl) rfl (by show 2 * 0 + _ ≤ _; exact Nat.le_of_eq rfl) (hb hby at_37) (fun _ _ => ⟨rfl, e5, (by decide : 0 + 0 ≤ _), (by decide : 0 + 0 ≤ _)⟩)
  dsimp only [Pt.U, Pt.locs, Pt.cells, Pt.slots] at X6 l6 y6 z6 st6 hQ6
  subst l6 y6 z6
  obtain ⟨rfl, N6q, e6⟩ := hQ6
  have N6 := Fr.app N5 N6q
  obtain ⟨T8, X8, e8, st8⟩ := getS2 X6 hx hZ hown (host := "") (Or.inl (hw _ (List.mem_of_getElem? (i := 15) rfl))) Via.refl e6 S_MILLISECOND (g := (mkF m 66 #[.val (.int p1), .val (.int p2), .val (.int ((p1 &&& (2147483647 : Int32)) % (7 : Int32))), .val (.int ((p2 &&& (2147483647 : Int32)) % (7 : Int32))), .val (.ref (P ((p1 &&& (2147483647 : Int32)) % (7 : Int32)))), .val (.ref (P ((p2 &&& (2147483647 : Int32)) % (7 : Int32)))), .val (.ref (P (own_s ((p1 &&& (2147483647 : Int32)) % (7 : Int32))))), .val (.ref (P (own_s ((p2 &&& (2147483647 : Int32)) % (7 : Int32))))), .val (.int (1 : Int32))] [(.ref (P (own_s ((p1 &&& (2147483647 : Int32)) % (7 : Int32)))))])) rfl (hb hby at_66)
  obtain ⟨T9, X9, e9, st9⟩ := getS2 X8 hx hZ hown (host := "") (Or.inl (hw _ (List.mem_of_getElem? (i := 15) rfl))) Via.refl e8 S_MILLISECOND (g := (mkF m 74 #[.val (.int p1), .val (.int p2), .val (.int ((p1 &&& (2147483647 : Int32)) % (7 : Int32))), .val (.int ((p2 &&& (2147483647 : Int32)) % (7 : Int32))), .val (.ref (P ((p1 &&& (2147483647 : Int32)) % (7 : Int32)))), .val (.ref (P ((p2 &&& (2147483647 : Int32)) % (7 : Int32)))), .val (.ref (P (own_s ((p1 &&& (2147483647 : Int32)) % (7 : Int32))))), .val (.ref (P (own_s ((p2 &&& (2147483647 : Int32)) % (7 : Int32))))), .val (.int (1 : Int32))] [(.ref (P (own_s ((p2 &&& (2147483647 : Int32)) % (7 : Int32)))))])) rfl (hb hby at_74)
  obtain ⟨_, _, ⟨T10, L10, k10, n10⟩, -, X10, ⟨Lc10, hQ10, l10, y10, z10⟩, st10⟩ := Jvm.LawKit.callS X9 hx (y := (⟨"com/example/numerand/numerand/engine/Precision", "seconds", "(Lcom/example/numerand/numerand/engine/Precision;)Lcom/example/numerand/numerand/engine/Precision;"⟩ : MethodName)) hown (mvT hZ (hw _ (List.mem_of_getElem? (i := 10) rfl))) (mvT hZ (hw _ (List.mem_of_getElem? (i := 11) rfl))) (mvT hZ (hw _ (List.mem_of_getElem? (i := 6) rfl))) (mvT hZ (hw _ (List.mem_of_getElem? (i := 12) rfl))) (by decide) (backOf (W := 0) (rm2 l Z a0 hw [] (own_s ((p1 &&& (2147483647 : Int32)) % (7 : Int32))) P h0 n0 Z0 K (own_s7 (own_in7 p1))) hZ (hw _ (List.mem_of_getElem? (i := 12) rfl)) (hw _ (List.mem_of_getElem? (i := 6) rfl)) (by decide) (by decide)) (g := (mkF m 144 #[.val (.int p1), .val (.int p2), .val (.int ((p1 &&& (2147483647 : Int32)) % (7 : Int32))), .val (.int ((p2 &&& (2147483647 : Int32)) % (7 : Int32))), .val (.ref (P ((p1 &&& (2147483647 : Int32)) % (7 : Int32)))), .val (.ref (P ((p2 &&& (2147483647 : Int32)) % (7 : Int32)))), .val (.ref (P (own_s ((p1 &&& (2147483647 : Int32)) % (7 : Int32))))), .val (.ref (P (own_s ((p2 &&& (2147483647 : Int32)) % (7 : Int32))))), .val (.int (1 : Int32))] [(.ref (P (own_s ((p1 &&& (2147483647 : Int32)) % (7 : Int32)))))])) rfl (by rw [hml]; rfl) (argsL := [(.ref (P (own_s ((p1 &&& (2147483647 : Int32)) % (7 : Int32)))))]) (rest := []) (lenOf pd_0_1 rfl) rfl (by show 2 * 0 + _ ≤ _; exact Nat.le_of_eq rfl) (hb hby at_144) (fun _ _ => ⟨rfl, e9, (by decide : 0 + 0 ≤ _), (by decide : 0 + 0 ≤ _)⟩)
  dsimp only [Pt.U, Pt.locs, Pt.cells, Pt.slots] at X10 l10 y10 z10 st10 hQ10
  subst l10 y10 z10
  obtain ⟨rfl, N10q, e10⟩ := hQ10
  have N10 := Fr.app N6 N10q
  obtain ⟨fs, hr, hrun, hended, hW, hsame⟩ := X10.leave (v := some (.int (1 : Int32))) (fun h => by rw [Bd.returns] at h; cases h)
  refine ⟨_, _, pre0 _ ?_, hrun, hended, _, _, rfl, ?_, ⟨_, rfl⟩, hW, hsame.mono (by decide) (by decide)⟩
  · show Steps p.tables e below (s₁.setTop (mkF m 0 #[.val (.int p1), .val (.int p2), .unset, .unset, .unset, .unset, .unset, .unset, .unset] [])) _
    refine XS.iloadN X0.here hx rfl (hb hby at_0) rfl ?_
    show Steps p.tables e below (s₁.setTop (mkF m 1 #[.val (.int p1), .val (.int p2), .unset, .unset, .unset, .unset, .unset, .unset, .unset] [(.int p1)])) _
    refine X0.ldcInt hx hown (mvT hZ (hw _ (List.mem_of_getElem? (i := 0) rfl))) (g := (mkF m 1 #[.val (.int p1), .val (.int p2), .unset, .unset, .unset, .unset, .unset, .unset, .unset] [(.int p1)])) rfl (hb hby at_1) _ ?_
    show Steps p.tables e below (s₁.setTop (mkF m 3 #[.val (.int p1), .val (.int p2), .unset, .unset, .unset, .unset, .unset, .unset, .unset] [(.int (2147483647 : Int32)), (.int p1)])) _
    refine XS.iand X0.here hx rfl (hb hby at_3) rfl ?_
    show Steps p.tables e below (s₁.setTop (mkF m 4 #[.val (.int p1), .val (.int p2), .unset, .unset, .unset, .unset, .unset, .unset, .unset] [(.int (p1 &&& (2147483647 : Int32)))])) _
    refine XS.bipush X0.here hx rfl (hb hby at_4) ?_
    show Steps p.tables e below (s₁.setTop (mkF m 6 #[.val (.int p1), .val (.int p2), .unset, .unset, .unset, .unset, .unset, .unset, .unset] [(.int (7 : Int32)), (.int (p1 &&& (2147483647 : Int32)))])) _
    refine iremM X0 hx rfl (hb hby at_6) rfl (by decide) ?_
    show Steps p.tables e below (s₁.setTop (mkF m 7 #[.val (.int p1), .val (.int p2), .unset, .unset, .unset, .unset, .unset, .unset, .unset] [(.int ((p1 &&& (2147483647 : Int32)) % (7 : Int32)))])) _
    refine XS.istoreN X0.here hx rfl (hb hby at_7) rfl (l' := #[.val (.int p1), .val (.int p2), .val (.int ((p1 &&& (2147483647 : Int32)) % (7 : Int32))), .unset, .unset, .unset, .unset, .unset, .unset]) rfl ?_
    show Steps p.tables e below (s₁.setTop (mkF m 8 #[.val (.int p1), .val (.int p2), .val (.int ((p1 &&& (2147483647 : Int32)) % (7 : Int32))), .unset, .unset, .unset, .unset, .unset, .unset] [])) _
    refine XS.iloadN X0.here hx rfl (hb hby at_8) rfl ?_
    show Steps p.tables e below (s₁.setTop (mkF m 9 #[.val (.int p1), .val (.int p2), .val (.int ((p1 &&& (2147483647 : Int32)) % (7 : Int32))), .unset, .unset, .unset, .unset, .unset, .unset] [(.int p2)])) _
    refine X0.ldcInt hx hown (mvT hZ (hw _ (List.mem_of_getElem? (i := 0) rfl))) (g := (mkF m 9 #[.val (.int p1), .val (.int p2), .val (.int ((p1 &&& (2147483647 : Int32)) % (7 : Int32))), .unset, .unset, .unset, .unset, .unset, .unset] [(.int p2)])) rfl (hb hby at_9) _ ?_
    show Steps p.tables e below (s₁.setTop (mkF m 11 #[.val (.int p1), .val (.int p2), .val (.int ((p1 &&& (2147483647 : Int32)) % (7 : Int32))), .unset, .unset, .unset, .unset, .unset, .unset] [(.int (2147483647 : Int32)), (.int p2)])) _
    refine XS.iand X0.here hx rfl (hb hby at_11) rfl ?_
    show Steps p.tables e below (s₁.setTop (mkF m 12 #[.val (.int p1), .val (.int p2), .val (.int ((p1 &&& (2147483647 : Int32)) % (7 : Int32))), .unset, .unset, .unset, .unset, .unset, .unset] [(.int (p2 &&& (2147483647 : Int32)))])) _
    refine XS.bipush X0.here hx rfl (hb hby at_12) ?_
    show Steps p.tables e below (s₁.setTop (mkF m 14 #[.val (.int p1), .val (.int p2), .val (.int ((p1 &&& (2147483647 : Int32)) % (7 : Int32))), .unset, .unset, .unset, .unset, .unset, .unset] [(.int (7 : Int32)), (.int (p2 &&& (2147483647 : Int32)))])) _
    refine iremM X0 hx rfl (hb hby at_14) rfl (by decide) ?_
    show Steps p.tables e below (s₁.setTop (mkF m 15 #[.val (.int p1), .val (.int p2), .val (.int ((p1 &&& (2147483647 : Int32)) % (7 : Int32))), .unset, .unset, .unset, .unset, .unset, .unset] [(.int ((p2 &&& (2147483647 : Int32)) % (7 : Int32)))])) _
    refine XS.istoreN X0.here hx rfl (hb hby at_15) rfl (l' := #[.val (.int p1), .val (.int p2), .val (.int ((p1 &&& (2147483647 : Int32)) % (7 : Int32))), .val (.int ((p2 &&& (2147483647 : Int32)) % (7 : Int32))), .unset, .unset, .unset, .unset, .unset]) rfl ?_
    show Steps p.tables e below (s₁.setTop (mkF m 16 #[.val (.int p1), .val (.int p2), .val (.int ((p1 &&& (2147483647 : Int32)) % (7 : Int32))), .val (.int ((p2 &&& (2147483647 : Int32)) % (7 : Int32))), .unset, .unset, .unset, .unset, .unset] [])) _
    refine XS.iloadN X0.here hx rfl (hb hby at_16) rfl ?_
    show Steps p.tables e below (s₁.setTop (mkF m 17 #[.val (.int p1), .val (.int p2), .val (.int ((p1 &&& (2147483647 : Int32)) % (7 : Int32))), .val (.int ((p2 &&& (2147483647 : Int32)) % (7 : Int32))), .unset, .unset, .unset, .unset, .unset] [(.int ((p1 &&& (2147483647 : Int32)) % (7 : Int32)))])) _
    refine st3 _ ?_
    show Steps p.tables e below (T3.setTop (mkF m 20 #[.val (.int p1), .val (.int p2), .val (.int ((p1 &&& (2147483647 : Int32)) % (7 : Int32))), .val (.int ((p2 &&& (2147483647 : Int32)) % (7 : Int32))), .unset, .unset, .unset, .unset, .unset] [(.ref (P ((p1 &&& (2147483647 : Int32)) % (7 : Int32))))])) _
    refine XS.astore X3.here hx rfl (hb hby at_20) rfl rfl (l' := #[.val (.int p1), .val (.int p2), .val (.int ((p1 &&& (2147483647 : Int32)) % (7 : Int32))), .val (.int ((p2 &&& (2147483647 : Int32)) % (7 : Int32))), .val (.ref (P ((p1 &&& (2147483647 : Int32)) % (7 : Int32)))), .unset, .unset, .unset, .unset]) rfl ?_
    show Steps p.tables e below (T3.setTop (mkF m 22 #[.val (.int p1), .val (.int p2), .val (.int ((p1 &&& (2147483647 : Int32)) % (7 : Int32))), .val (.int ((p2 &&& (2147483647 : Int32)) % (7 : Int32))), .val (.ref (P ((p1 &&& (2147483647 : Int32)) % (7 : Int32)))), .unset, .unset, .unset, .unset] [])) _
    refine XS.iloadN X3.here hx rfl (hb hby at_22) rfl ?_
    show Steps p.tables e below (T3.setTop (mkF m 23 #[.val (.int p1), .val (.int p2), .val (.int ((p1 &&& (2147483647 : Int32)) % (7 : Int32))), .val (.int ((p2 &&& (2147483647 : Int32)) % (7 : Int32))), .val (.ref (P ((p1 &&& (2147483647 : Int32)) % (7 : Int32)))), .unset, .unset, .unset, .unset] [(.int ((p2 &&& (2147483647 : Int32)) % (7 : Int32)))])) _
    refine st4 _ ?_
    show Steps p.tables e below (T4.setTop (mkF m 26 #[.val (.int p1), .val (.int p2), .val (.int ((p1 &&& (2147483647 : Int32)) % (7 : Int32))), .val (.int ((p2 &&& (2147483647 : Int32)) % (7 : Int32))), .val (.ref (P ((p1 &&& (2147483647 : Int32)) % (7 : Int32)))), .unset, .unset, .unset, .unset] [(.ref (P ((p2 &&& (2147483647 : Int32)) % (7 : Int32))))])) _
    refine XS.astore X4.here hx rfl (hb hby at_26) rfl rfl (l' := #[.val (.int p1), .val (.int p2), .val (.int ((p1 &&& (2147483647 : Int32)) % (7 : Int32))), .val (.int ((p2 &&& (2147483647 : Int32)) % (7 : Int32))), .val (.ref (P ((p1 &&& (2147483647 : Int32)) % (7 : Int32)))), .val (.ref (P ((p2 &&& (2147483647 : Int32)) % (7 : Int32)))), .unset, .unset, .unset]) rfl ?_
    show Steps p.tables e below (T4.setTop (mkF m 28 #[.val (.int p1), .val (.int p2), .val (.int ((p1 &&& (2147483647 : Int32)) % (7 : Int32))), .val (.int ((p2 &&& (2147483647 : Int32)) % (7 : Int32))), .val (.ref (P ((p1 &&& (2147483647 : Int32)) % (7 : Int32)))), .val (.ref (P ((p2 &&& (2147483647 : Int32)) % (7 : Int32)))), .unset, .unset, .unset] [])) _
    refine XS.aload X4.here hx rfl (hb hby at_28) rfl rfl ?_
    show Steps p.tables e below (T4.setTop (mkF m 30 #[.val (.int p1), .val (.int p2), .val (.int ((p1 &&& (2147483647 : Int32)) % (7 : Int32))), .val (.int ((p2 &&& (2147483647 : Int32)) % (7 : Int32))), .val (.ref (P ((p1 &&& (2147483647 : Int32)) % (7 : Int32)))), .val (.ref (P ((p2 &&& (2147483647 : Int32)) % (7 : Int32)))), .unset, .unset, .unset] [(.ref (P ((p1 &&& (2147483647 : Int32)) % (7 : Int32))))])) _
    refine st5 _ ?_
    show Steps p.tables e below (T5.setTop (mkF m 33 #[.val (.int p1), .val (.int p2), .val (.int ((p1 &&& (2147483647 : Int32)) % (7 : Int32))), .val (.int ((p2 &&& (2147483647 : Int32)) % (7 : Int32))), .val (.ref (P ((p1 &&& (2147483647 : Int32)) % (7 : Int32)))), .val (.ref (P ((p2 &&& (2147483647 : Int32)) % (7 : Int32)))), .unset, .unset, .unset] [(.ref (P (own_s ((p1 &&& (2147483647 : Int32)) % (7 : Int32)))))])) _
    refine XS.astore X5.here hx rfl (hb hby at_33) rfl rfl (l' := #[.val (.int p1), .val (.int p2), .val (.int ((p1 &&& (2147483647 : Int32)) % (7 : Int32))), .val (.int ((p2 &&& (2147483647 : Int32)) % (7 : Int32))), .val (.ref (P ((p1 &&& (2147483647 : Int32)) % (7 : Int32)))), .val (.ref (P ((p2 &&& (2147483647 : Int32)) % (7 : Int32)))), .val (.ref (P (own_s ((p1 &&& (2147483647 : Int32)) % (7 : Int32))))), .unset, .unset]) rfl ?_
    show Steps p.tables e below (T5.setTop (mkF m 35 #[.val (.int p1), .val (.int p2), .val (.int ((p1 &&& (2147483647 : Int32)) % (7 : Int32))), .val (.int ((p2 &&& (2147483647 : Int32)) % (7 : Int32))), .val (.ref (P ((p1 &&& (2147483647 : Int32)) % (7 : Int32)))), .val (.ref (P ((p2 &&& (2147483647 : Int32)) % (7 : Int32)))), .val (.ref (P (own_s ((p1 &&& (2147483647 : Int32)) % (7 : Int32))))), .unset, .unset] [])) _
    refine XS.aload X5.here hx rfl (hb hby at_35) rfl rfl ?_
    show Steps p.tables e below (T5.setTop (mkF m 37 #[.val (.int p1), .val (.int p2), .val (.int ((p1 &&& (2147483647 : Int32)) % (7 : Int32))), .val (.int ((p2 &&& (2147483647 : Int32)) % (7 : Int32))), .val (.ref (P ((p1 &&& (2147483647 : Int32)) % (7 : Int32)))), .val (.ref (P ((p2 &&& (2147483647 : Int32)) % (7 : Int32)))), .val (.ref (P (own_s ((p1 &&& (2147483647 : Int32)) % (7 : Int32))))), .unset, .unset] [(.ref (P ((p2 &&& (2147483647 : Int32)) % (7 : Int32))))])) _
    refine st6 _ ?_
    show Steps p.tables e below (T6.setTop (mkF m 40 #[.val (.int p1), .val (.int p2), .val (.int ((p1 &&& (2147483647 : Int32)) % (7 : Int32))), .val (.int ((p2 &&& (2147483647 : Int32)) % (7 : Int32))), .val (.ref (P ((p1 &&& (2147483647 : Int32)) % (7 : Int32)))), .val (.ref (P ((p2 &&& (2147483647 : Int32)) % (7 : Int32)))), .val (.ref (P (own_s ((p1 &&& (2147483647 : Int32)) % (7 : Int32))))), .unset, .unset] [(.ref (P (own_s ((p2 &&& (2147483647 : Int32)) % (7 : Int32)))))])) _
    refine XS.astore X6.here hx rfl (hb hby at_40) rfl rfl (l' := #[.val (.int p1), .val (.int p2), .val (.int ((p1 &&& (2147483647 : Int32)) % (7 : Int32))), .val (.int ((p2 &&& (2147483647 : Int32)) % (7 : Int32))), .val (.ref (P ((p1 &&& (2147483647 : Int32)) % (7 : Int32)))), .val (.ref (P ((p2 &&& (2147483647 : Int32)) % (7 : Int32)))), .val (.ref (P (own_s ((p1 &&& (2147483647 : Int32)) % (7 : Int32))))), .val (.ref (P (own_s ((p2 &&& (2147483647 : Int32)) % (7 : Int32))))), .unset]) rfl ?_
    show Steps p.tables e below (T6.setTop (mkF m 42 #[.val (.int p1), .val (.int p2), .val (.int ((p1 &&& (2147483647 : Int32)) % (7 : Int32))), .val (.int ((p2 &&& (2147483647 : Int32)) % (7 : Int32))), .val (.ref (P ((p1 &&& (2147483647 : Int32)) % (7 : Int32)))), .val (.ref (P ((p2 &&& (2147483647 : Int32)) % (7 : Int32)))), .val (.ref (P (own_s ((p1 &&& (2147483647 : Int32)) % (7 : Int32))))), .val (.ref (P (own_s ((p2 &&& (2147483647 : Int32)) % (7 : Int32))))), .unset] [])) _
    refine XS.aload X6.here hx rfl (hb hby at_42) rfl rfl ?_
    show Steps p.tables e below (T6.setTop (mkF m 44 #[.val (.int p1), .val (.int p2), .val (.int ((p1 &&& (2147483647 : Int32)) % (7 : Int32))), .val (.int ((p2 &&& (2147483647 : Int32)) % (7 : Int32))), .val (.ref (P ((p1 &&& (2147483647 : Int32)) % (7 : Int32)))), .val (.ref (P ((p2 &&& (2147483647 : Int32)) % (7 : Int32)))), .val (.ref (P (own_s ((p1 &&& (2147483647 : Int32)) % (7 : Int32))))), .val (.ref (P (own_s ((p2 &&& (2147483647 : Int32)) % (7 : Int32))))), .unset] [(.ref (P (own_s ((p1 &&& (2147483647 : Int32)) % (7 : Int32)))))])) _
    refine XS.ifnullNo X6.here hx rfl (hb hby at_44) rfl ?_
    show Steps p.tables e below (T6.setTop (mkF m 47 #[.val (.int p1), .val (.int p2), .val (.int ((p1 &&& (2147483647 : Int32)) % (7 : Int32))), .val (.int ((p2 &&& (2147483647 : Int32)) % (7 : Int32))), .val (.ref (P ((p1 &&& (2147483647 : Int32)) % (7 : Int32)))), .val (.ref (P ((p2 &&& (2147483647 : Int32)) % (7 : Int32)))), .val (.ref (P (own_s ((p1 &&& (2147483647 : Int32)) % (7 : Int32))))), .val (.ref (P (own_s ((p2 &&& (2147483647 : Int32)) % (7 : Int32))))), .unset] [])) _
    refine XS.aload X6.here hx rfl (hb hby at_47) rfl rfl ?_
    show Steps p.tables e below (T6.setTop (mkF m 49 #[.val (.int p1), .val (.int p2), .val (.int ((p1 &&& (2147483647 : Int32)) % (7 : Int32))), .val (.int ((p2 &&& (2147483647 : Int32)) % (7 : Int32))), .val (.ref (P ((p1 &&& (2147483647 : Int32)) % (7 : Int32)))), .val (.ref (P ((p2 &&& (2147483647 : Int32)) % (7 : Int32)))), .val (.ref (P (own_s ((p1 &&& (2147483647 : Int32)) % (7 : Int32))))), .val (.ref (P (own_s ((p2 &&& (2147483647 : Int32)) % (7 : Int32))))), .unset] [(.ref (P (own_s ((p2 &&& (2147483647 : Int32)) % (7 : Int32)))))])) _
    refine XS.ifnullNo X6.here hx rfl (hb hby at_49) rfl ?_
    show Steps p.tables e below (T6.setTop (mkF m 52 #[.val (.int p1), .val (.int p2), .val (.int ((p1 &&& (2147483647 : Int32)) % (7 : Int32))), .val (.int ((p2 &&& (2147483647 : Int32)) % (7 : Int32))), .val (.ref (P ((p1 &&& (2147483647 : Int32)) % (7 : Int32)))), .val (.ref (P ((p2 &&& (2147483647 : Int32)) % (7 : Int32)))), .val (.ref (P (own_s ((p1 &&& (2147483647 : Int32)) % (7 : Int32))))), .val (.ref (P (own_s ((p2 &&& (2147483647 : Int32)) % (7 : Int32))))), .unset] [])) _
    refine XS.iconst X6.here hx rfl (hb hby at_52) ?_
    show Steps p.tables e below (T6.setTop (mkF m 53 #[.val (.int p1), .val (.int p2), .val (.int ((p1 &&& (2147483647 : Int32)) % (7 : Int32))), .val (.int ((p2 &&& (2147483647 : Int32)) % (7 : Int32))), .val (.ref (P ((p1 &&& (2147483647 : Int32)) % (7 : Int32)))), .val (.ref (P ((p2 &&& (2147483647 : Int32)) % (7 : Int32)))), .val (.ref (P (own_s ((p1 &&& (2147483647 : Int32)) % (7 : Int32))))), .val (.ref (P (own_s ((p2 &&& (2147483647 : Int32)) % (7 : Int32))))), .unset] [(.int (1 : Int32))])) _
    refine XS.goto X6.here hx rfl (pc0 := 53) (pc' := 57) rfl (hb hby at_53) (by decide) (by decide) ?_
    show Steps p.tables e below (T6.setTop (mkF m 57 #[.val (.int p1), .val (.int p2), .val (.int ((p1 &&& (2147483647 : Int32)) % (7 : Int32))), .val (.int ((p2 &&& (2147483647 : Int32)) % (7 : Int32))), .val (.ref (P ((p1 &&& (2147483647 : Int32)) % (7 : Int32)))), .val (.ref (P ((p2 &&& (2147483647 : Int32)) % (7 : Int32)))), .val (.ref (P (own_s ((p1 &&& (2147483647 : Int32)) % (7 : Int32))))), .val (.ref (P (own_s ((p2 &&& (2147483647 : Int32)) % (7 : Int32))))), .unset] [(.int (1 : Int32))])) _
    refine XS.istore X6.here hx rfl (hb hby at_57) rfl (l' := #[.val (.int p1), .val (.int p2), .val (.int ((p1 &&& (2147483647 : Int32)) % (7 : Int32))), .val (.int ((p2 &&& (2147483647 : Int32)) % (7 : Int32))), .val (.ref (P ((p1 &&& (2147483647 : Int32)) % (7 : Int32)))), .val (.ref (P ((p2 &&& (2147483647 : Int32)) % (7 : Int32)))), .val (.ref (P (own_s ((p1 &&& (2147483647 : Int32)) % (7 : Int32))))), .val (.ref (P (own_s ((p2 &&& (2147483647 : Int32)) % (7 : Int32))))), .val (.int (1 : Int32))]) rfl ?_
    show Steps p.tables e below (T6.setTop (mkF m 59 #[.val (.int p1), .val (.int p2), .val (.int ((p1 &&& (2147483647 : Int32)) % (7 : Int32))), .val (.int ((p2 &&& (2147483647 : Int32)) % (7 : Int32))), .val (.ref (P ((p1 &&& (2147483647 : Int32)) % (7 : Int32)))), .val (.ref (P ((p2 &&& (2147483647 : Int32)) % (7 : Int32)))), .val (.ref (P (own_s ((p1 &&& (2147483647 : Int32)) % (7 : Int32))))), .val (.ref (P (own_s ((p2 &&& (2147483647 : Int32)) % (7 : Int32))))), .val (.int (1 : Int32))] [])) _
    refine XS.iload X6.here hx rfl (hb hby at_59) rfl ?_
    show Steps p.tables e below (T6.setTop (mkF m 61 #[.val (.int p1), .val (.int p2), .val (.int ((p1 &&& (2147483647 : Int32)) % (7 : Int32))), .val (.int ((p2 &&& (2147483647 : Int32)) % (7 : Int32))), .val (.ref (P ((p1 &&& (2147483647 : Int32)) % (7 : Int32)))), .val (.ref (P ((p2 &&& (2147483647 : Int32)) % (7 : Int32)))), .val (.ref (P (own_s ((p1 &&& (2147483647 : Int32)) % (7 : Int32))))), .val (.ref (P (own_s ((p2 &&& (2147483647 : Int32)) % (7 : Int32))))), .val (.int (1 : Int32))] [(.int (1 : Int32))])) _
    refine XS.ifNo X6.here hx rfl (hb hby at_61) rfl ((if0 _ _).trans (feq hc61).1) ?_
    show Steps p.tables e below (T6.setTop (mkF m 64 #[.val (.int p1), .val (.int p2), .val (.int ((p1 &&& (2147483647 : Int32)) % (7 : Int32))), .val (.int ((p2 &&& (2147483647 : Int32)) % (7 : Int32))), .val (.ref (P ((p1 &&& (2147483647 : Int32)) % (7 : Int32)))), .val (.ref (P ((p2 &&& (2147483647 : Int32)) % (7 : Int32)))), .val (.ref (P (own_s ((p1 &&& (2147483647 : Int32)) % (7 : Int32))))), .val (.ref (P (own_s ((p2 &&& (2147483647 : Int32)) % (7 : Int32))))), .val (.int (1 : Int32))] [])) _
    refine XS.aload X6.here hx rfl (hb hby at_64) rfl rfl ?_
    show Steps p.tables e below (T6.setTop (mkF m 66 #[.val (.int p1), .val (.int p2), .val (.int ((p1 &&& (2147483647 : Int32)) % (7 : Int32))), .val (.int ((p2 &&& (2147483647 : Int32)) % (7 : Int32))), .val (.ref (P ((p1 &&& (2147483647 : Int32)) % (7 : Int32)))), .val (.ref (P ((p2 &&& (2147483647 : Int32)) % (7 : Int32)))), .val (.ref (P (own_s ((p1 &&& (2147483647 : Int32)) % (7 : Int32))))), .val (.ref (P (own_s ((p2 &&& (2147483647 : Int32)) % (7 : Int32))))), .val (.int (1 : Int32))] [(.ref (P (own_s ((p1 &&& (2147483647 : Int32)) % (7 : Int32)))))])) _
    refine st8 _ ?_
    show Steps p.tables e below (T8.setTop (mkF m 69 #[.val (.int p1), .val (.int p2), .val (.int ((p1 &&& (2147483647 : Int32)) % (7 : Int32))), .val (.int ((p2 &&& (2147483647 : Int32)) % (7 : Int32))), .val (.ref (P ((p1 &&& (2147483647 : Int32)) % (7 : Int32)))), .val (.ref (P ((p2 &&& (2147483647 : Int32)) % (7 : Int32)))), .val (.ref (P (own_s ((p1 &&& (2147483647 : Int32)) % (7 : Int32))))), .val (.ref (P (own_s ((p2 &&& (2147483647 : Int32)) % (7 : Int32))))), .val (.int (1 : Int32))] [(.ref (P 6)), (.ref (P (own_s ((p1 &&& (2147483647 : Int32)) % (7 : Int32)))))])) _
    refine Jvm.RoadKit.acmp (g := (mkF m 69 #[.val (.int p1), .val (.int p2), .val (.int ((p1 &&& (2147483647 : Int32)) % (7 : Int32))), .val (.int ((p2 &&& (2147483647 : Int32)) % (7 : Int32))), .val (.ref (P ((p1 &&& (2147483647 : Int32)) % (7 : Int32)))), .val (.ref (P ((p2 &&& (2147483647 : Int32)) % (7 : Int32)))), .val (.ref (P (own_s ((p1 &&& (2147483647 : Int32)) % (7 : Int32))))), .val (.ref (P (own_s ((p2 &&& (2147483647 : Int32)) % (7 : Int32))))), .val (.int (1 : Int32))] [(.ref (P 6)), (.ref (P (own_s ((p1 &&& (2147483647 : Int32)) % (7 : Int32)))))])) X8 hx rfl rfl rfl (pc0 := 69) (pc' := 72) (same := false) rfl (hb hby at_69) rfl (decide_eq_false fun q => ha69 (Value.ref.inj q)) (by decide) (by decide) ?_
    show Steps p.tables e below (T8.setTop (mkF m 72 #[.val (.int p1), .val (.int p2), .val (.int ((p1 &&& (2147483647 : Int32)) % (7 : Int32))), .val (.int ((p2 &&& (2147483647 : Int32)) % (7 : Int32))), .val (.ref (P ((p1 &&& (2147483647 : Int32)) % (7 : Int32)))), .val (.ref (P ((p2 &&& (2147483647 : Int32)) % (7 : Int32)))), .val (.ref (P (own_s ((p1 &&& (2147483647 : Int32)) % (7 : Int32))))), .val (.ref (P (own_s ((p2 &&& (2147483647 : Int32)) % (7 : Int32))))), .val (.int (1 : Int32))] [])) _
    refine XS.aload X8.here hx rfl (hb hby at_72) rfl rfl ?_
    show Steps p.tables e below (T8.setTop (mkF m 74 #[.val (.int p1), .val (.int p2), .val (.int ((p1 &&& (2147483647 : Int32)) % (7 : Int32))), .val (.int ((p2 &&& (2147483647 : Int32)) % (7 : Int32))), .val (.ref (P ((p1 &&& (2147483647 : Int32)) % (7 : Int32)))), .val (.ref (P ((p2 &&& (2147483647 : Int32)) % (7 : Int32)))), .val (.ref (P (own_s ((p1 &&& (2147483647 : Int32)) % (7 : Int32))))), .val (.ref (P (own_s ((p2 &&& (2147483647 : Int32)) % (7 : Int32))))), .val (.int (1 : Int32))] [(.ref (P (own_s ((p2 &&& (2147483647 : Int32)) % (7 : Int32)))))])) _
    refine st9 _ ?_
    show Steps p.tables e below (T9.setTop (mkF m 77 #[.val (.int p1), .val (.int p2), .val (.int ((p1 &&& (2147483647 : Int32)) % (7 : Int32))), .val (.int ((p2 &&& (2147483647 : Int32)) % (7 : Int32))), .val (.ref (P ((p1 &&& (2147483647 : Int32)) % (7 : Int32)))), .val (.ref (P ((p2 &&& (2147483647 : Int32)) % (7 : Int32)))), .val (.ref (P (own_s ((p1 &&& (2147483647 : Int32)) % (7 : Int32))))), .val (.ref (P (own_s ((p2 &&& (2147483647 : Int32)) % (7 : Int32))))), .val (.int (1 : Int32))] [(.ref (P 6)), (.ref (P (own_s ((p2 &&& (2147483647 : Int32)) % (7 : Int32)))))])) _
    refine Jvm.RoadKit.acmp (g := (mkF m 77 #[.val (.int p1), .val (.int p2), .val (.int ((p1 &&& (2147483647 : Int32)) % (7 : Int32))), .val (.int ((p2 &&& (2147483647 : Int32)) % (7 : Int32))), .val (.ref (P ((p1 &&& (2147483647 : Int32)) % (7 : Int32)))), .val (.ref (P ((p2 &&& (2147483647 : Int32)) % (7 : Int32)))), .val (.ref (P (own_s ((p1 &&& (2147483647 : Int32)) % (7 : Int32))))), .val (.ref (P (own_s ((p2 &&& (2147483647 : Int32)) % (7 : Int32))))), .val (.int (1 : Int32))] [(.ref (P 6)), (.ref (P (own_s ((p2 &&& (2147483647 : Int32)) % (7 : Int32)))))])) X9 hx rfl rfl rfl (pc0 := 77) (pc' := 80) (same := false) rfl (hb hby at_77) rfl (decide_eq_false fun q => ha77 (Value.ref.inj q)) (by decide) (by decide) ?_
    show Steps p.tables e below (T9.setTop (mkF m 80 #[.val (.int p1), .val (.int p2), .val (.int ((p1 &&& (2147483647 : Int32)) % (7 : Int32))), .val (.int ((p2 &&& (2147483647 : Int32)) % (7 : Int32))), .val (.ref (P ((p1 &&& (2147483647 : Int32)) % (7 : Int32)))), .val (.ref (P ((p2 &&& (2147483647 : Int32)) % (7 : Int32)))), .val (.ref (P (own_s ((p1 &&& (2147483647 : Int32)) % (7 : Int32))))), .val (.ref (P (own_s ((p2 &&& (2147483647 : Int32)) % (7 : Int32))))), .val (.int (1 : Int32))] [])) _
    refine XS.iconst X9.here hx rfl (hb hby at_80) ?_
    show Steps p.tables e below (T9.setTop (mkF m 81 #[.val (.int p1), .val (.int p2), .val (.int ((p1 &&& (2147483647 : Int32)) % (7 : Int32))), .val (.int ((p2 &&& (2147483647 : Int32)) % (7 : Int32))), .val (.ref (P ((p1 &&& (2147483647 : Int32)) % (7 : Int32)))), .val (.ref (P ((p2 &&& (2147483647 : Int32)) % (7 : Int32)))), .val (.ref (P (own_s ((p1 &&& (2147483647 : Int32)) % (7 : Int32))))), .val (.ref (P (own_s ((p2 &&& (2147483647 : Int32)) % (7 : Int32))))), .val (.int (1 : Int32))] [(.int (1 : Int32))])) _
    refine XS.goto X9.here hx rfl (pc0 := 81) (pc' := 85) rfl (hb hby at_81) (by decide) (by decide) ?_
    show Steps p.tables e below (T9.setTop (mkF m 85 #[.val (.int p1), .val (.int p2), .val (.int ((p1 &&& (2147483647 : Int32)) % (7 : Int32))), .val (.int ((p2 &&& (2147483647 : Int32)) % (7 : Int32))), .val (.ref (P ((p1 &&& (2147483647 : Int32)) % (7 : Int32)))), .val (.ref (P ((p2 &&& (2147483647 : Int32)) % (7 : Int32)))), .val (.ref (P (own_s ((p1 &&& (2147483647 : Int32)) % (7 : Int32))))), .val (.ref (P (own_s ((p2 &&& (2147483647 : Int32)) % (7 : Int32))))), .val (.int (1 : Int32))] [(.int (1 : Int32))])) _
    refine XS.istore X9.here hx rfl (hb hby at_85) rfl (l' := #[.val (.int p1), .val (.int p2), .val (.int ((p1 &&& (2147483647 : Int32)) % (7 : Int32))), .val (.int ((p2 &&& (2147483647 : Int32)) % (7 : Int32))), .val (.ref (P ((p1 &&& (2147483647 : Int32)) % (7 : Int32)))), .val (.ref (P ((p2 &&& (2147483647 : Int32)) % (7 : Int32)))), .val (.ref (P (own_s ((p1 &&& (2147483647 : Int32)) % (7 : Int32))))), .val (.ref (P (own_s ((p2 &&& (2147483647 : Int32)) % (7 : Int32))))), .val (.int (1 : Int32))]) rfl ?_
    show Steps p.tables e below (T9.setTop (mkF m 87 #[.val (.int p1), .val (.int p2), .val (.int ((p1 &&& (2147483647 : Int32)) % (7 : Int32))), .val (.int ((p2 &&& (2147483647 : Int32)) % (7 : Int32))), .val (.ref (P ((p1 &&& (2147483647 : Int32)) % (7 : Int32)))), .val (.ref (P ((p2 &&& (2147483647 : Int32)) % (7 : Int32)))), .val (.ref (P (own_s ((p1 &&& (2147483647 : Int32)) % (7 : Int32))))), .val (.ref (P (own_s ((p2 &&& (2147483647 : Int32)) % (7 : Int32))))), .val (.int (1 : Int32))] [])) _
    refine XS.iload X9.here hx rfl (hb hby at_87) rfl ?_
    show Steps p.tables e below (T9.setTop (mkF m 89 #[.val (.int p1), .val (.int p2), .val (.int ((p1 &&& (2147483647 : Int32)) % (7 : Int32))), .val (.int ((p2 &&& (2147483647 : Int32)) % (7 : Int32))), .val (.ref (P ((p1 &&& (2147483647 : Int32)) % (7 : Int32)))), .val (.ref (P ((p2 &&& (2147483647 : Int32)) % (7 : Int32)))), .val (.ref (P (own_s ((p1 &&& (2147483647 : Int32)) % (7 : Int32))))), .val (.ref (P (own_s ((p2 &&& (2147483647 : Int32)) % (7 : Int32))))), .val (.int (1 : Int32))] [(.int (1 : Int32))])) _
    refine XS.ifNo X9.here hx rfl (hb hby at_89) rfl ((if0 _ _).trans (feq hc89).1) ?_
    show Steps p.tables e below (T9.setTop (mkF m 92 #[.val (.int p1), .val (.int p2), .val (.int ((p1 &&& (2147483647 : Int32)) % (7 : Int32))), .val (.int ((p2 &&& (2147483647 : Int32)) % (7 : Int32))), .val (.ref (P ((p1 &&& (2147483647 : Int32)) % (7 : Int32)))), .val (.ref (P ((p2 &&& (2147483647 : Int32)) % (7 : Int32)))), .val (.ref (P (own_s ((p1 &&& (2147483647 : Int32)) % (7 : Int32))))), .val (.ref (P (own_s ((p2 &&& (2147483647 : Int32)) % (7 : Int32))))), .val (.int (1 : Int32))] [])) _
    refine XS.iloadN X9.here hx rfl (hb hby at_92) rfl ?_
    show Steps p.tables e below (T9.setTop (mkF m 93 #[.val (.int p1), .val (.int p2), .val (.int ((p1 &&& (2147483647 : Int32)) % (7 : Int32))), .val (.int ((p2 &&& (2147483647 : Int32)) % (7 : Int32))), .val (.ref (P ((p1 &&& (2147483647 : Int32)) % (7 : Int32)))), .val (.ref (P ((p2 &&& (2147483647 : Int32)) % (7 : Int32)))), .val (.ref (P (own_s ((p1 &&& (2147483647 : Int32)) % (7 : Int32))))), .val (.ref (P (own_s ((p2 &&& (2147483647 : Int32)) % (7 : Int32))))), .val (.int (1 : Int32))] [(.int ((p1 &&& (2147483647 : Int32)) % (7 : Int32)))])) _
    refine XS.bipush X9.here hx rfl (hb hby at_93) ?_
    show Steps p.tables e below (T9.setTop (mkF m 95 #[.val (.int p1), .val (.int p2), .val (.int ((p1 &&& (2147483647 : Int32)) % (7 : Int32))), .val (.int ((p2 &&& (2147483647 : Int32)) % (7 : Int32))), .val (.ref (P ((p1 &&& (2147483647 : Int32)) % (7 : Int32)))), .val (.ref (P ((p2 &&& (2147483647 : Int32)) % (7 : Int32)))), .val (.ref (P (own_s ((p1 &&& (2147483647 : Int32)) % (7 : Int32))))), .val (.ref (P (own_s ((p2 &&& (2147483647 : Int32)) % (7 : Int32))))), .val (.int (1 : Int32))] [(.int (6 : Int32)), (.int ((p1 &&& (2147483647 : Int32)) % (7 : Int32)))])) _
    refine XS.icmpNo X9.here hx rfl (hb hby at_95) rfl (feq hc95).1 ?_
    show Steps p.tables e below (T9.setTop (mkF m 98 #[.val (.int p1), .val (.int p2), .val (.int ((p1 &&& (2147483647 : Int32)) % (7 : Int32))), .val (.int ((p2 &&& (2147483647 : Int32)) % (7 : Int32))), .val (.ref (P ((p1 &&& (2147483647 : Int32)) % (7 : Int32)))), .val (.ref (P ((p2 &&& (2147483647 : Int32)) % (7 : Int32)))), .val (.ref (P (own_s ((p1 &&& (2147483647 : Int32)) % (7 : Int32))))), .val (.ref (P (own_s ((p2 &&& (2147483647 : Int32)) % (7 : Int32))))), .val (.int (1 : Int32))] [])) _
    refine XS.aload X9.here hx rfl (hb hby at_98) rfl rfl ?_
    show Steps p.tables e below (T9.setTop (mkF m 100 #[.val (.int p1), .val (.int p2), .val (.int ((p1 &&& (2147483647 : Int32)) % (7 : Int32))), .val (.int ((p2 &&& (2147483647 : Int32)) % (7 : Int32))), .val (.ref (P ((p1 &&& (2147483647 : Int32)) % (7 : Int32)))), .val (.ref (P ((p2 &&& (2147483647 : Int32)) % (7 : Int32)))), .val (.ref (P (own_s ((p1 &&& (2147483647 : Int32)) % (7 : Int32))))), .val (.ref (P (own_s ((p2 &&& (2147483647 : Int32)) % (7 : Int32))))), .val (.int (1 : Int32))] [(.ref (P (own_s ((p1 &&& (2147483647 : Int32)) % (7 : Int32)))))])) _
    refine XS.aload X9.here hx rfl (hb hby at_100) rfl rfl ?_
    show Steps p.tables e below (T9.setTop (mkF m 102 #[.val (.int p1), .val (.int p2), .val (.int ((p1 &&& (2147483647 : Int32)) % (7 : Int32))), .val (.int ((p2 &&& (2147483647 : Int32)) % (7 : Int32))), .val (.ref (P ((p1 &&& (2147483647 : Int32)) % (7 : Int32)))), .val (.ref (P ((p2 &&& (2147483647 : Int32)) % (7 : Int32)))), .val (.ref (P (own_s ((p1 &&& (2147483647 : Int32)) % (7 : Int32))))), .val (.ref (P (own_s ((p2 &&& (2147483647 : Int32)) % (7 : Int32))))), .val (.int (1 : Int32))] [(.ref (P ((p1 &&& (2147483647 : Int32)) % (7 : Int32)))), (.ref (P (own_s ((p1 &&& (2147483647 : Int32)) % (7 : Int32)))))])) _
    refine Jvm.RoadKit.acmp (g := (mkF m 102 #[.val (.int p1), .val (.int p2), .val (.int ((p1 &&& (2147483647 : Int32)) % (7 : Int32))), .val (.int ((p2 &&& (2147483647 : Int32)) % (7 : Int32))), .val (.ref (P ((p1 &&& (2147483647 : Int32)) % (7 : Int32)))), .val (.ref (P ((p2 &&& (2147483647 : Int32)) % (7 : Int32)))), .val (.ref (P (own_s ((p1 &&& (2147483647 : Int32)) % (7 : Int32))))), .val (.ref (P (own_s ((p2 &&& (2147483647 : Int32)) % (7 : Int32))))), .val (.int (1 : Int32))] [(.ref (P ((p1 &&& (2147483647 : Int32)) % (7 : Int32)))), (.ref (P (own_s ((p1 &&& (2147483647 : Int32)) % (7 : Int32)))))])) X9 hx rfl rfl rfl (pc0 := 102) (pc' := 105) (same := true) rfl (hb hby at_102) rfl (decide_eq_true (congrArg Value.ref ha102)) (by decide) (by decide) ?_
    show Steps p.tables e below (T9.setTop (mkF m 105 #[.val (.int p1), .val (.int p2), .val (.int ((p1 &&& (2147483647 : Int32)) % (7 : Int32))), .val (.int ((p2 &&& (2147483647 : Int32)) % (7 : Int32))), .val (.ref (P ((p1 &&& (2147483647 : Int32)) % (7 : Int32)))), .val (.ref (P ((p2 &&& (2147483647 : Int32)) % (7 : Int32)))), .val (.ref (P (own_s ((p1 &&& (2147483647 : Int32)) % (7 : Int32))))), .val (.ref (P (own_s ((p2 &&& (2147483647 : Int32)) % (7 : Int32))))), .val (.int (1 : Int32))] [])) _
    refine XS.iconst X9.here hx rfl (hb hby at_105) ?_
    show Steps p.tables e below (T9.setTop (mkF m 106 #[.val (.int p1), .val (.int p2), .val (.int ((p1 &&& (2147483647 : Int32)) % (7 : Int32))), .val (.int ((p2 &&& (2147483647 : Int32)) % (7 : Int32))), .val (.ref (P ((p1 &&& (2147483647 : Int32)) % (7 : Int32)))), .val (.ref (P ((p2 &&& (2147483647 : Int32)) % (7 : Int32)))), .val (.ref (P (own_s ((p1 &&& (2147483647 : Int32)) % (7 : Int32))))), .val (.ref (P (own_s ((p2 &&& (2147483647 : Int32)) % (7 : Int32))))), .val (.int (1 : Int32))] [(.int (1 : Int32))])) _
    refine XS.goto X9.here hx rfl (pc0 := 106) (pc' := 110) rfl (hb hby at_106) (by decide) (by decide) ?_
    show Steps p.tables e below (T9.setTop (mkF m 110 #[.val (.int p1), .val (.int p2), .val (.int ((p1 &&& (2147483647 : Int32)) % (7 : Int32))), .val (.int ((p2 &&& (2147483647 : Int32)) % (7 : Int32))), .val (.ref (P ((p1 &&& (2147483647 : Int32)) % (7 : Int32)))), .val (.ref (P ((p2 &&& (2147483647 : Int32)) % (7 : Int32)))), .val (.ref (P (own_s ((p1 &&& (2147483647 : Int32)) % (7 : Int32))))), .val (.ref (P (own_s ((p2 &&& (2147483647 : Int32)) % (7 : Int32))))), .val (.int (1 : Int32))] [(.int (1 : Int32))])) _
    refine XS.istore X9.here hx rfl (hb hby at_110) rfl (l' := #[.val (.int p1), .val (.int p2), .val (.int ((p1 &&& (2147483647 : Int32)) % (7 : Int32))), .val (.int ((p2 &&& (2147483647 : Int32)) % (7 : Int32))), .val (.ref (P ((p1 &&& (2147483647 : Int32)) % (7 : Int32)))), .val (.ref (P ((p2 &&& (2147483647 : Int32)) % (7 : Int32)))), .val (.ref (P (own_s ((p1 &&& (2147483647 : Int32)) % (7 : Int32))))), .val (.ref (P (own_s ((p2 &&& (2147483647 : Int32)) % (7 : Int32))))), .val (.int (1 : Int32))]) rfl ?_
    show Steps p.tables e below (T9.setTop (mkF m 112 #[.val (.int p1), .val (.int p2), .val (.int ((p1 &&& (2147483647 : Int32)) % (7 : Int32))), .val (.int ((p2 &&& (2147483647 : Int32)) % (7 : Int32))), .val (.ref (P ((p1 &&& (2147483647 : Int32)) % (7 : Int32)))), .val (.ref (P ((p2 &&& (2147483647 : Int32)) % (7 : Int32)))), .val (.ref (P (own_s ((p1 &&& (2147483647 : Int32)) % (7 : Int32))))), .val (.ref (P (own_s ((p2 &&& (2147483647 : Int32)) % (7 : Int32))))), .val (.int (1 : Int32))] [])) _
    refine XS.iload X9.here hx rfl (hb hby at_112) rfl ?_
    show Steps p.tables e below (T9.setTop (mkF m 114 #[.val (.int p1), .val (.int p2), .val (.int ((p1 &&& (2147483647 : Int32)) % (7 : Int32))), .val (.int ((p2 &&& (2147483647 : Int32)) % (7 : Int32))), .val (.ref (P ((p1 &&& (2147483647 : Int32)) % (7 : Int32)))), .val (.ref (P ((p2 &&& (2147483647 : Int32)) % (7 : Int32)))), .val (.ref (P (own_s ((p1 &&& (2147483647 : Int32)) % (7 : Int32))))), .val (.ref (P (own_s ((p2 &&& (2147483647 : Int32)) % (7 : Int32))))), .val (.int (1 : Int32))] [(.int (1 : Int32))])) _
    refine XS.ifNo X9.here hx rfl (hb hby at_114) rfl ((if0 _ _).trans (feq hc114).1) ?_
    show Steps p.tables e below (T9.setTop (mkF m 117 #[.val (.int p1), .val (.int p2), .val (.int ((p1 &&& (2147483647 : Int32)) % (7 : Int32))), .val (.int ((p2 &&& (2147483647 : Int32)) % (7 : Int32))), .val (.ref (P ((p1 &&& (2147483647 : Int32)) % (7 : Int32)))), .val (.ref (P ((p2 &&& (2147483647 : Int32)) % (7 : Int32)))), .val (.ref (P (own_s ((p1 &&& (2147483647 : Int32)) % (7 : Int32))))), .val (.ref (P (own_s ((p2 &&& (2147483647 : Int32)) % (7 : Int32))))), .val (.int (1 : Int32))] [])) _
    refine XS.iloadN X9.here hx rfl (hb hby at_117) rfl ?_
    show Steps p.tables e below (T9.setTop (mkF m 118 #[.val (.int p1), .val (.int p2), .val (.int ((p1 &&& (2147483647 : Int32)) % (7 : Int32))), .val (.int ((p2 &&& (2147483647 : Int32)) % (7 : Int32))), .val (.ref (P ((p1 &&& (2147483647 : Int32)) % (7 : Int32)))), .val (.ref (P ((p2 &&& (2147483647 : Int32)) % (7 : Int32)))), .val (.ref (P (own_s ((p1 &&& (2147483647 : Int32)) % (7 : Int32))))), .val (.ref (P (own_s ((p2 &&& (2147483647 : Int32)) % (7 : Int32))))), .val (.int (1 : Int32))] [(.int ((p2 &&& (2147483647 : Int32)) % (7 : Int32)))])) _
    refine XS.bipush X9.here hx rfl (hb hby at_118) ?_
    show Steps p.tables e below (T9.setTop (mkF m 120 #[.val (.int p1), .val (.int p2), .val (.int ((p1 &&& (2147483647 : Int32)) % (7 : Int32))), .val (.int ((p2 &&& (2147483647 : Int32)) % (7 : Int32))), .val (.ref (P ((p1 &&& (2147483647 : Int32)) % (7 : Int32)))), .val (.ref (P ((p2 &&& (2147483647 : Int32)) % (7 : Int32)))), .val (.ref (P (own_s ((p1 &&& (2147483647 : Int32)) % (7 : Int32))))), .val (.ref (P (own_s ((p2 &&& (2147483647 : Int32)) % (7 : Int32))))), .val (.int (1 : Int32))] [(.int (6 : Int32)), (.int ((p2 &&& (2147483647 : Int32)) % (7 : Int32)))])) _
    refine XS.icmpNo X9.here hx rfl (hb hby at_120) rfl (feq hc120).1 ?_
    show Steps p.tables e below (T9.setTop (mkF m 123 #[.val (.int p1), .val (.int p2), .val (.int ((p1 &&& (2147483647 : Int32)) % (7 : Int32))), .val (.int ((p2 &&& (2147483647 : Int32)) % (7 : Int32))), .val (.ref (P ((p1 &&& (2147483647 : Int32)) % (7 : Int32)))), .val (.ref (P ((p2 &&& (2147483647 : Int32)) % (7 : Int32)))), .val (.ref (P (own_s ((p1 &&& (2147483647 : Int32)) % (7 : Int32))))), .val (.ref (P (own_s ((p2 &&& (2147483647 : Int32)) % (7 : Int32))))), .val (.int (1 : Int32))] [])) _
    refine XS.aload X9.here hx rfl (hb hby at_123) rfl rfl ?_
    show Steps p.tables e below (T9.setTop (mkF m 125 #[.val (.int p1), .val (.int p2), .val (.int ((p1 &&& (2147483647 : Int32)) % (7 : Int32))), .val (.int ((p2 &&& (2147483647 : Int32)) % (7 : Int32))), .val (.ref (P ((p1 &&& (2147483647 : Int32)) % (7 : Int32)))), .val (.ref (P ((p2 &&& (2147483647 : Int32)) % (7 : Int32)))), .val (.ref (P (own_s ((p1 &&& (2147483647 : Int32)) % (7 : Int32))))), .val (.ref (P (own_s ((p2 &&& (2147483647 : Int32)) % (7 : Int32))))), .val (.int (1 : Int32))] [(.ref (P (own_s ((p2 &&& (2147483647 : Int32)) % (7 : Int32)))))])) _
    refine XS.aload X9.here hx rfl (hb hby at_125) rfl rfl ?_
    show Steps p.tables e below (T9.setTop (mkF m 127 #[.val (.int p1), .val (.int p2), .val (.int ((p1 &&& (2147483647 : Int32)) % (7 : Int32))), .val (.int ((p2 &&& (2147483647 : Int32)) % (7 : Int32))), .val (.ref (P ((p1 &&& (2147483647 : Int32)) % (7 : Int32)))), .val (.ref (P ((p2 &&& (2147483647 : Int32)) % (7 : Int32)))), .val (.ref (P (own_s ((p1 &&& (2147483647 : Int32)) % (7 : Int32))))), .val (.ref (P (own_s ((p2 &&& (2147483647 : Int32)) % (7 : Int32))))), .val (.int (1 : Int32))] [(.ref (P ((p2 &&& (2147483647 : Int32)) % (7 : Int32)))), (.ref (P (own_s ((p2 &&& (2147483647 : Int32)) % (7 : Int32)))))])) _
    refine Jvm.RoadKit.acmp (g := (mkF m 127 #[.val (.int p1), .val (.int p2), .val (.int ((p1 &&& (2147483647 : Int32)) % (7 : Int32))), .val (.int ((p2 &&& (2147483647 : Int32)) % (7 : Int32))), .val (.ref (P ((p1 &&& (2147483647 : Int32)) % (7 : Int32)))), .val (.ref (P ((p2 &&& (2147483647 : Int32)) % (7 : Int32)))), .val (.ref (P (own_s ((p1 &&& (2147483647 : Int32)) % (7 : Int32))))), .val (.ref (P (own_s ((p2 &&& (2147483647 : Int32)) % (7 : Int32))))), .val (.int (1 : Int32))] [(.ref (P ((p2 &&& (2147483647 : Int32)) % (7 : Int32)))), (.ref (P (own_s ((p2 &&& (2147483647 : Int32)) % (7 : Int32)))))])) X9 hx rfl rfl rfl (pc0 := 127) (pc' := 130) (same := true) rfl (hb hby at_127) rfl (decide_eq_true (congrArg Value.ref ha127)) (by decide) (by decide) ?_
    show Steps p.tables e below (T9.setTop (mkF m 130 #[.val (.int p1), .val (.int p2), .val (.int ((p1 &&& (2147483647 : Int32)) % (7 : Int32))), .val (.int ((p2 &&& (2147483647 : Int32)) % (7 : Int32))), .val (.ref (P ((p1 &&& (2147483647 : Int32)) % (7 : Int32)))), .val (.ref (P ((p2 &&& (2147483647 : Int32)) % (7 : Int32)))), .val (.ref (P (own_s ((p1 &&& (2147483647 : Int32)) % (7 : Int32))))), .val (.ref (P (own_s ((p2 &&& (2147483647 : Int32)) % (7 : Int32))))), .val (.int (1 : Int32))] [])) _
    refine XS.iconst X9.here hx rfl (hb hby at_130) ?_
    show Steps p.tables e below (T9.setTop (mkF m 131 #[.val (.int p1), .val (.int p2), .val (.int ((p1 &&& (2147483647 : Int32)) % (7 : Int32))), .val (.int ((p2 &&& (2147483647 : Int32)) % (7 : Int32))), .val (.ref (P ((p1 &&& (2147483647 : Int32)) % (7 : Int32)))), .val (.ref (P ((p2 &&& (2147483647 : Int32)) % (7 : Int32)))), .val (.ref (P (own_s ((p1 &&& (2147483647 : Int32)) % (7 : Int32))))), .val (.ref (P (own_s ((p2 &&& (2147483647 : Int32)) % (7 : Int32))))), .val (.int (1 : Int32))] [(.int (1 : Int32))])) _
    refine XS.goto X9.here hx rfl (pc0 := 131) (pc' := 135) rfl (hb hby at_131) (by decide) (by decide) ?_
    show Steps p.tables e below (T9.setTop (mkF m 135 #[.val (.int p1), .val (.int p2), .val (.int ((p1 &&& (2147483647 : Int32)) % (7 : Int32))), .val (.int ((p2 &&& (2147483647 : Int32)) % (7 : Int32))), .val (.ref (P ((p1 &&& (2147483647 : Int32)) % (7 : Int32)))), .val (.ref (P ((p2 &&& (2147483647 : Int32)) % (7 : Int32)))), .val (.ref (P (own_s ((p1 &&& (2147483647 : Int32)) % (7 : Int32))))), .val (.ref (P (own_s ((p2 &&& (2147483647 : Int32)) % (7 : Int32))))), .val (.int (1 : Int32))] [(.int (1 : Int32))])) _
    refine XS.istore X9.here hx rfl (hb hby at_135) rfl (l' := #[.val (.int p1), .val (.int p2), .val (.int ((p1 &&& (2147483647 : Int32)) % (7 : Int32))), .val (.int ((p2 &&& (2147483647 : Int32)) % (7 : Int32))), .val (.ref (P ((p1 &&& (2147483647 : Int32)) % (7 : Int32)))), .val (.ref (P ((p2 &&& (2147483647 : Int32)) % (7 : Int32)))), .val (.ref (P (own_s ((p1 &&& (2147483647 : Int32)) % (7 : Int32))))), .val (.ref (P (own_s ((p2 &&& (2147483647 : Int32)) % (7 : Int32))))), .val (.int (1 : Int32))]) rfl ?_
    show Steps p.tables e below (T9.setTop (mkF m 137 #[.val (.int p1), .val (.int p2), .val (.int ((p1 &&& (2147483647 : Int32)) % (7 : Int32))), .val (.int ((p2 &&& (2147483647 : Int32)) % (7 : Int32))), .val (.ref (P ((p1 &&& (2147483647 : Int32)) % (7 : Int32)))), .val (.ref (P ((p2 &&& (2147483647 : Int32)) % (7 : Int32)))), .val (.ref (P (own_s ((p1 &&& (2147483647 : Int32)) % (7 : Int32))))), .val (.ref (P (own_s ((p2 &&& (2147483647 : Int32)) % (7 : Int32))))), .val (.int (1 : Int32))] [])) _
    refine XS.iload X9.here hx rfl (hb hby at_137) rfl ?_
    show Steps p.tables e below (T9.setTop (mkF m 139 #[.val (.int p1), .val (.int p2), .val (.int ((p1 &&& (2147483647 : Int32)) % (7 : Int32))), .val (.int ((p2 &&& (2147483647 : Int32)) % (7 : Int32))), .val (.ref (P ((p1 &&& (2147483647 : Int32)) % (7 : Int32)))), .val (.ref (P ((p2 &&& (2147483647 : Int32)) % (7 : Int32)))), .val (.ref (P (own_s ((p1 &&& (2147483647 : Int32)) % (7 : Int32))))), .val (.ref (P (own_s ((p2 &&& (2147483647 : Int32)) % (7 : Int32))))), .val (.int (1 : Int32))] [(.int (1 : Int32))])) _
    refine XS.ifNo X9.here hx rfl (hb hby at_139) rfl ((if0 _ _).trans (feq hc139).1) ?_
    show Steps p.tables e below (T9.setTop (mkF m 142 #[.val (.int p1), .val (.int p2), .val (.int ((p1 &&& (2147483647 : Int32)) % (7 : Int32))), .val (.int ((p2 &&& (2147483647 : Int32)) % (7 : Int32))), .val (.ref (P ((p1 &&& (2147483647 : Int32)) % (7 : Int32)))), .val (.ref (P ((p2 &&& (2147483647 : Int32)) % (7 : Int32)))), .val (.ref (P (own_s ((p1 &&& (2147483647 : Int32)) % (7 : Int32))))), .val (.ref (P (own_s ((p2 &&& (2147483647 : Int32)) % (7 : Int32))))), .val (.int (1 : Int32))] [])) _
    refine XS.aload X9.here hx rfl (hb hby at_142) rfl rfl ?_
    show Steps p.tables e below (T9.setTop (mkF m 144 #[.val (.int p1), .val (.int p2), .val (.int ((p1 &&& (2147483647 : Int32)) % (7 : Int32))), .val (.int ((p2 &&& (2147483647 : Int32)) % (7 : Int32))), .val (.ref (P ((p1 &&& (2147483647 : Int32)) % (7 : Int32)))), .val (.ref (P ((p2 &&& (2147483647 : Int32)) % (7 : Int32)))), .val (.ref (P (own_s ((p1 &&& (2147483647 : Int32)) % (7 : Int32))))), .val (.ref (P (own_s ((p2 &&& (2147483647 : Int32)) % (7 : Int32))))), .val (.int (1 : Int32))] [(.ref (P (own_s ((p1 &&& (2147483647 : Int32)) % (7 : Int32)))))])) _
    refine st10 _ ?_
    show Steps p.tables e below (T10.setTop (mkF m 147 #[.val (.int p1), .val (.int p2), .val (.int ((p1 &&& (2147483647 : Int32)) % (7 : Int32))), .val (.int ((p2 &&& (2147483647 : Int32)) % (7 : Int32))), .val (.ref (P ((p1 &&& (2147483647 : Int32)) % (7 : Int32)))), .val (.ref (P ((p2 &&& (2147483647 : Int32)) % (7 : Int32)))), .val (.ref (P (own_s ((p1 &&& (2147483647 : Int32)) % (7 : Int32))))), .val (.ref (P (own_s ((p2 &&& (2147483647 : Int32)) % (7 : Int32))))), .val (.int (1 : Int32))] [(.ref (P (own_s (own_s ((p1 &&& (2147483647 : Int32)) % (7 : Int32))))))])) _
    refine XS.aload X10.here hx rfl (hb hby at_147) rfl rfl ?_
    show Steps p.tables e below (T10.setTop (mkF m 149 #[.val (.int p1), .val (.int p2), .val (.int ((p1 &&& (2147483647 : Int32)) % (7 : Int32))), .val (.int ((p2 &&& (2147483647 : Int32)) % (7 : Int32))), .val (.ref (P ((p1 &&& (2147483647 : Int32)) % (7 : Int32)))), .val (.ref (P ((p2 &&& (2147483647 : Int32)) % (7 : Int32)))), .val (.ref (P (own_s ((p1 &&& (2147483647 : Int32)) % (7 : Int32))))), .val (.ref (P (own_s ((p2 &&& (2147483647 : Int32)) % (7 : Int32))))), .val (.int (1 : Int32))] [(.ref (P (own_s ((p1 &&& (2147483647 : Int32)) % (7 : Int32))))), (.ref (P (own_s (own_s ((p1 &&& (2147483647 : Int32)) % (7 : Int32))))))])) _
    refine Jvm.RoadKit.acmp (g := (mkF m 149 #[.val (.int p1), .val (.int p2), .val (.int ((p1 &&& (2147483647 : Int32)) % (7 : Int32))), .val (.int ((p2 &&& (2147483647 : Int32)) % (7 : Int32))), .val (.ref (P ((p1 &&& (2147483647 : Int32)) % (7 : Int32)))), .val (.ref (P ((p2 &&& (2147483647 : Int32)) % (7 : Int32)))), .val (.ref (P (own_s ((p1 &&& (2147483647 : Int32)) % (7 : Int32))))), .val (.ref (P (own_s ((p2 &&& (2147483647 : Int32)) % (7 : Int32))))), .val (.int (1 : Int32))] [(.ref (P (own_s ((p1 &&& (2147483647 : Int32)) % (7 : Int32))))), (.ref (P (own_s (own_s ((p1 &&& (2147483647 : Int32)) % (7 : Int32))))))])) X10 hx rfl rfl rfl (pc0 := 149) (pc' := 152) (same := true) rfl (hb hby at_149) rfl (decide_eq_true (congrArg Value.ref ha149)) (by decide) (by decide) ?_
    show Steps p.tables e below (T10.setTop (mkF m 152 #[.val (.int p1), .val (.int p2), .val (.int ((p1 &&& (2147483647 : Int32)) % (7 : Int32))), .val (.int ((p2 &&& (2147483647 : Int32)) % (7 : Int32))), .val (.ref (P ((p1 &&& (2147483647 : Int32)) % (7 : Int32)))), .val (.ref (P ((p2 &&& (2147483647 : Int32)) % (7 : Int32)))), .val (.ref (P (own_s ((p1 &&& (2147483647 : Int32)) % (7 : Int32))))), .val (.ref (P (own_s ((p2 &&& (2147483647 : Int32)) % (7 : Int32))))), .val (.int (1 : Int32))] [])) _
    refine XS.iconst X10.here hx rfl (hb hby at_152) ?_
    show Steps p.tables e below (T10.setTop (mkF m 153 #[.val (.int p1), .val (.int p2), .val (.int ((p1 &&& (2147483647 : Int32)) % (7 : Int32))), .val (.int ((p2 &&& (2147483647 : Int32)) % (7 : Int32))), .val (.ref (P ((p1 &&& (2147483647 : Int32)) % (7 : Int32)))), .val (.ref (P ((p2 &&& (2147483647 : Int32)) % (7 : Int32)))), .val (.ref (P (own_s ((p1 &&& (2147483647 : Int32)) % (7 : Int32))))), .val (.ref (P (own_s ((p2 &&& (2147483647 : Int32)) % (7 : Int32))))), .val (.int (1 : Int32))] [(.int (1 : Int32))])) _
    refine XS.goto X10.here hx rfl (pc0 := 153) (pc' := 157) rfl (hb hby at_153) (by decide) (by decide) ?_
    show Steps p.tables e below (T10.setTop (mkF m 157 #[.val (.int p1), .val (.int p2), .val (.int ((p1 &&& (2147483647 : Int32)) % (7 : Int32))), .val (.int ((p2 &&& (2147483647 : Int32)) % (7 : Int32))), .val (.ref (P ((p1 &&& (2147483647 : Int32)) % (7 : Int32)))), .val (.ref (P ((p2 &&& (2147483647 : Int32)) % (7 : Int32)))), .val (.ref (P (own_s ((p1 &&& (2147483647 : Int32)) % (7 : Int32))))), .val (.ref (P (own_s ((p2 &&& (2147483647 : Int32)) % (7 : Int32))))), .val (.int (1 : Int32))] [(.int (1 : Int32))])) _
    refine XS.istore X10.here hx rfl (hb hby at_157) rfl (l' := #[.val (.int p1), .val (.int p2), .val (.int ((p1 &&& (2147483647 : Int32)) % (7 : Int32))), .val (.int ((p2 &&& (2147483647 : Int32)) % (7 : Int32))), .val (.ref (P ((p1 &&& (2147483647 : Int32)) % (7 : Int32)))), .val (.ref (P ((p2 &&& (2147483647 : Int32)) % (7 : Int32)))), .val (.ref (P (own_s ((p1 &&& (2147483647 : Int32)) % (7 : Int32))))), .val (.ref (P (own_s ((p2 &&& (2147483647 : Int32)) % (7 : Int32))))), .val (.int (1 : Int32))]) rfl ?_
    show Steps p.tables e below (T10.setTop (mkF m 159 #[.val (.int p1), .val (.int p2), .val (.int ((p1 &&& (2147483647 : Int32)) % (7 : Int32))), .val (.int ((p2 &&& (2147483647 : Int32)) % (7 : Int32))), .val (.ref (P ((p1 &&& (2147483647 : Int32)) % (7 : Int32)))), .val (.ref (P ((p2 &&& (2147483647 : Int32)) % (7 : Int32)))), .val (.ref (P (own_s ((p1 &&& (2147483647 : Int32)) % (7 : Int32))))), .val (.ref (P (own_s ((p2 &&& (2147483647 : Int32)) % (7 : Int32))))), .val (.int (1 : Int32))] [])) _
    refine XS.iload X10.here hx rfl (hb hby at_159) rfl ?_
    show Steps p.tables e below (T10.setTop (mkF m 161 #[.val (.int p1), .val (.int p2), .val (.int ((p1 &&& (2147483647 : Int32)) % (7 : Int32))), .val (.int ((p2 &&& (2147483647 : Int32)) % (7 : Int32))), .val (.ref (P ((p1 &&& (2147483647 : Int32)) % (7 : Int32)))), .val (.ref (P ((p2 &&& (2147483647 : Int32)) % (7 : Int32)))), .val (.ref (P (own_s ((p1 &&& (2147483647 : Int32)) % (7 : Int32))))), .val (.ref (P (own_s ((p2 &&& (2147483647 : Int32)) % (7 : Int32))))), .val (.int (1 : Int32))] [(.int (1 : Int32))])) _
    refine XS.ifNo X10.here hx rfl (hb hby at_161) rfl ((if0 _ _).trans (feq hc161).1) ?_
    show Steps p.tables e below (T10.setTop (mkF m 164 #[.val (.int p1), .val (.int p2), .val (.int ((p1 &&& (2147483647 : Int32)) % (7 : Int32))), .val (.int ((p2 &&& (2147483647 : Int32)) % (7 : Int32))), .val (.ref (P ((p1 &&& (2147483647 : Int32)) % (7 : Int32)))), .val (.ref (P ((p2 &&& (2147483647 : Int32)) % (7 : Int32)))), .val (.ref (P (own_s ((p1 &&& (2147483647 : Int32)) % (7 : Int32))))), .val (.ref (P (own_s ((p2 &&& (2147483647 : Int32)) % (7 : Int32))))), .val (.int (1 : Int32))] [])) _
    refine XS.iloadN X10.here hx rfl (hb hby at_164) rfl ?_
    show Steps p.tables e below (T10.setTop (mkF m 165 #[.val (.int p1), .val (.int p2), .val (.int ((p1 &&& (2147483647 : Int32)) % (7 : Int32))), .val (.int ((p2 &&& (2147483647 : Int32)) % (7 : Int32))), .val (.ref (P ((p1 &&& (2147483647 : Int32)) % (7 : Int32)))), .val (.ref (P ((p2 &&& (2147483647 : Int32)) % (7 : Int32)))), .val (.ref (P (own_s ((p1 &&& (2147483647 : Int32)) % (7 : Int32))))), .val (.ref (P (own_s ((p2 &&& (2147483647 : Int32)) % (7 : Int32))))), .val (.int (1 : Int32))] [(.int ((p1 &&& (2147483647 : Int32)) % (7 : Int32)))])) _
    refine XS.bipush X10.here hx rfl (hb hby at_165) ?_
    show Steps p.tables e below (T10.setTop (mkF m 167 #[.val (.int p1), .val (.int p2), .val (.int ((p1 &&& (2147483647 : Int32)) % (7 : Int32))), .val (.int ((p2 &&& (2147483647 : Int32)) % (7 : Int32))), .val (.ref (P ((p1 &&& (2147483647 : Int32)) % (7 : Int32)))), .val (.ref (P ((p2 &&& (2147483647 : Int32)) % (7 : Int32)))), .val (.ref (P (own_s ((p1 &&& (2147483647 : Int32)) % (7 : Int32))))), .val (.ref (P (own_s ((p2 &&& (2147483647 : Int32)) % (7 : Int32))))), .val (.int (1 : Int32))] [(.int (6 : Int32)), (.int ((p1 &&& (2147483647 : Int32)) % (7 : Int32)))])) _
    refine XS.icmpYes X10.here hx rfl (pc0 := 167) (pc' := 181) rfl (hb hby at_167) rfl (feq hc167).2 (by decide) (by decide) ?_
    show Steps p.tables e below (T10.setTop (mkF m 181 #[.val (.int p1), .val (.int p2), .val (.int ((p1 &&& (2147483647 : Int32)) % (7 : Int32))), .val (.int ((p2 &&& (2147483647 : Int32)) % (7 : Int32))), .val (.ref (P ((p1 &&& (2147483647 : Int32)) % (7 : Int32)))), .val (.ref (P ((p2 &&& (2147483647 : Int32)) % (7 : Int32)))), .val (.ref (P (own_s ((p1 &&& (2147483647 : Int32)) % (7 : Int32))))), .val (.ref (P (own_s ((p2 &&& (2147483647 : Int32)) % (7 : Int32))))), .val (.int (1 : Int32))] [])) _
    refine XS.iconst X10.here hx rfl (hb hby at_181) ?_
    show Steps p.tables e below (T10.setTop (mkF m 182 #[.val (.int p1), .val (.int p2), .val (.int ((p1 &&& (2147483647 : Int32)) % (7 : Int32))), .val (.int ((p2 &&& (2147483647 : Int32)) % (7 : Int32))), .val (.ref (P ((p1 &&& (2147483647 : Int32)) % (7 : Int32)))), .val (.ref (P ((p2 &&& (2147483647 : Int32)) % (7 : Int32)))), .val (.ref (P (own_s ((p1 &&& (2147483647 : Int32)) % (7 : Int32))))), .val (.ref (P (own_s ((p2 &&& (2147483647 : Int32)) % (7 : Int32))))), .val (.int (1 : Int32))] [(.int (1 : Int32))])) _
    refine XS.goto X10.here hx rfl (pc0 := 182) (pc' := 186) rfl (hb hby at_182) (by decide) (by decide) ?_
    show Steps p.tables e below (T10.setTop (mkF m 186 #[.val (.int p1), .val (.int p2), .val (.int ((p1 &&& (2147483647 : Int32)) % (7 : Int32))), .val (.int ((p2 &&& (2147483647 : Int32)) % (7 : Int32))), .val (.ref (P ((p1 &&& (2147483647 : Int32)) % (7 : Int32)))), .val (.ref (P ((p2 &&& (2147483647 : Int32)) % (7 : Int32)))), .val (.ref (P (own_s ((p1 &&& (2147483647 : Int32)) % (7 : Int32))))), .val (.ref (P (own_s ((p2 &&& (2147483647 : Int32)) % (7 : Int32))))), .val (.int (1 : Int32))] [(.int (1 : Int32))])) _
    refine XS.istore X10.here hx rfl (hb hby at_186) rfl (l' := #[.val (.int p1), .val (.int p2), .val (.int ((p1 &&& (2147483647 : Int32)) % (7 : Int32))), .val (.int ((p2 &&& (2147483647 : Int32)) % (7 : Int32))), .val (.ref (P ((p1 &&& (2147483647 : Int32)) % (7 : Int32)))), .val (.ref (P ((p2 &&& (2147483647 : Int32)) % (7 : Int32)))), .val (.ref (P (own_s ((p1 &&& (2147483647 : Int32)) % (7 : Int32))))), .val (.ref (P (own_s ((p2 &&& (2147483647 : Int32)) % (7 : Int32))))), .val (.int (1 : Int32))]) rfl ?_
    show Steps p.tables e below (T10.setTop (mkF m 188 #[.val (.int p1), .val (.int p2), .val (.int ((p1 &&& (2147483647 : Int32)) % (7 : Int32))), .val (.int ((p2 &&& (2147483647 : Int32)) % (7 : Int32))), .val (.ref (P ((p1 &&& (2147483647 : Int32)) % (7 : Int32)))), .val (.ref (P ((p2 &&& (2147483647 : Int32)) % (7 : Int32)))), .val (.ref (P (own_s ((p1 &&& (2147483647 : Int32)) % (7 : Int32))))), .val (.ref (P (own_s ((p2 &&& (2147483647 : Int32)) % (7 : Int32))))), .val (.int (1 : Int32))] [])) _
    refine XS.iload X10.here hx rfl (hb hby at_188) rfl ?_
    show Steps p.tables e below (T10.setTop (mkF m 190 #[.val (.int p1), .val (.int p2), .val (.int ((p1 &&& (2147483647 : Int32)) % (7 : Int32))), .val (.int ((p2 &&& (2147483647 : Int32)) % (7 : Int32))), .val (.ref (P ((p1 &&& (2147483647 : Int32)) % (7 : Int32)))), .val (.ref (P ((p2 &&& (2147483647 : Int32)) % (7 : Int32)))), .val (.ref (P (own_s ((p1 &&& (2147483647 : Int32)) % (7 : Int32))))), .val (.ref (P (own_s ((p2 &&& (2147483647 : Int32)) % (7 : Int32))))), .val (.int (1 : Int32))] [(.int (1 : Int32))])) _
    refine XS.ifNo X10.here hx rfl (hb hby at_190) rfl ((if0 _ _).trans (feq hc190).1) ?_
    show Steps p.tables e below (T10.setTop (mkF m 193 #[.val (.int p1), .val (.int p2), .val (.int ((p1 &&& (2147483647 : Int32)) % (7 : Int32))), .val (.int ((p2 &&& (2147483647 : Int32)) % (7 : Int32))), .val (.ref (P ((p1 &&& (2147483647 : Int32)) % (7 : Int32)))), .val (.ref (P ((p2 &&& (2147483647 : Int32)) % (7 : Int32)))), .val (.ref (P (own_s ((p1 &&& (2147483647 : Int32)) % (7 : Int32))))), .val (.ref (P (own_s ((p2 &&& (2147483647 : Int32)) % (7 : Int32))))), .val (.int (1 : Int32))] [])) _
    refine XS.iloadN X10.here hx rfl (hb hby at_193) rfl ?_
    show Steps p.tables e below (T10.setTop (mkF m 194 #[.val (.int p1), .val (.int p2), .val (.int ((p1 &&& (2147483647 : Int32)) % (7 : Int32))), .val (.int ((p2 &&& (2147483647 : Int32)) % (7 : Int32))), .val (.ref (P ((p1 &&& (2147483647 : Int32)) % (7 : Int32)))), .val (.ref (P ((p2 &&& (2147483647 : Int32)) % (7 : Int32)))), .val (.ref (P (own_s ((p1 &&& (2147483647 : Int32)) % (7 : Int32))))), .val (.ref (P (own_s ((p2 &&& (2147483647 : Int32)) % (7 : Int32))))), .val (.int (1 : Int32))] [(.int ((p1 &&& (2147483647 : Int32)) % (7 : Int32)))])) _
    refine XS.iloadN X10.here hx rfl (hb hby at_194) rfl ?_
    show Steps p.tables e below (T10.setTop (mkF m 195 #[.val (.int p1), .val (.int p2), .val (.int ((p1 &&& (2147483647 : Int32)) % (7 : Int32))), .val (.int ((p2 &&& (2147483647 : Int32)) % (7 : Int32))), .val (.ref (P ((p1 &&& (2147483647 : Int32)) % (7 : Int32)))), .val (.ref (P ((p2 &&& (2147483647 : Int32)) % (7 : Int32)))), .val (.ref (P (own_s ((p1 &&& (2147483647 : Int32)) % (7 : Int32))))), .val (.ref (P (own_s ((p2 &&& (2147483647 : Int32)) % (7 : Int32))))), .val (.int (1 : Int32))] [(.int ((p2 &&& (2147483647 : Int32)) % (7 : Int32))), (.int ((p1 &&& (2147483647 : Int32)) % (7 : Int32)))])) _
    refine XS.icmpYes X10.here hx rfl (pc0 := 195) (pc' := 211) rfl (hb hby at_195) rfl (tlt hc195).2.2.1 (by decide) (by decide) ?_
    show Steps p.tables e below (T10.setTop (mkF m 211 #[.val (.int p1), .val (.int p2), .val (.int ((p1 &&& (2147483647 : Int32)) % (7 : Int32))), .val (.int ((p2 &&& (2147483647 : Int32)) % (7 : Int32))), .val (.ref (P ((p1 &&& (2147483647 : Int32)) % (7 : Int32)))), .val (.ref (P ((p2 &&& (2147483647 : Int32)) % (7 : Int32)))), .val (.ref (P (own_s ((p1 &&& (2147483647 : Int32)) % (7 : Int32))))), .val (.ref (P (own_s ((p2 &&& (2147483647 : Int32)) % (7 : Int32))))), .val (.int (1 : Int32))] [])) _
    refine XS.iconst X10.here hx rfl (hb hby at_211) ?_
    show Steps p.tables e below (T10.setTop (mkF m 212 #[.val (.int p1), .val (.int p2), .val (.int ((p1 &&& (2147483647 : Int32)) % (7 : Int32))), .val (.int ((p2 &&& (2147483647 : Int32)) % (7 : Int32))), .val (.ref (P ((p1 &&& (2147483647 : Int32)) % (7 : Int32)))), .val (.ref (P ((p2 &&& (2147483647 : Int32)) % (7 : Int32)))), .val (.ref (P (own_s ((p1 &&& (2147483647 : Int32)) % (7 : Int32))))), .val (.ref (P (own_s ((p2 &&& (2147483647 : Int32)) % (7 : Int32))))), .val (.int (1 : Int32))] [(.int (1 : Int32))])) _
    refine XS.goto X10.here hx rfl (pc0 := 212) (pc' := 216) rfl (hb hby at_212) (by decide) (by decide) ?_
    show Steps p.tables e below (T10.setTop (mkF m 216 #[.val (.int p1), .val (.int p2), .val (.int ((p1 &&& (2147483647 : Int32)) % (7 : Int32))), .val (.int ((p2 &&& (2147483647 : Int32)) % (7 : Int32))), .val (.ref (P ((p1 &&& (2147483647 : Int32)) % (7 : Int32)))), .val (.ref (P ((p2 &&& (2147483647 : Int32)) % (7 : Int32)))), .val (.ref (P (own_s ((p1 &&& (2147483647 : Int32)) % (7 : Int32))))), .val (.ref (P (own_s ((p2 &&& (2147483647 : Int32)) % (7 : Int32))))), .val (.int (1 : Int32))] [(.int (1 : Int32))])) _
    refine XS.istore X10.here hx rfl (hb hby at_216) rfl (l' := #[.val (.int p1), .val (.int p2), .val (.int ((p1 &&& (2147483647 : Int32)) % (7 : Int32))), .val (.int ((p2 &&& (2147483647 : Int32)) % (7 : Int32))), .val (.ref (P ((p1 &&& (2147483647 : Int32)) % (7 : Int32)))), .val (.ref (P ((p2 &&& (2147483647 : Int32)) % (7 : Int32)))), .val (.ref (P (own_s ((p1 &&& (2147483647 : Int32)) % (7 : Int32))))), .val (.ref (P (own_s ((p2 &&& (2147483647 : Int32)) % (7 : Int32))))), .val (.int (1 : Int32))]) rfl ?_
    show Steps p.tables e below (T10.setTop (mkF m 218 #[.val (.int p1), .val (.int p2), .val (.int ((p1 &&& (2147483647 : Int32)) % (7 : Int32))), .val (.int ((p2 &&& (2147483647 : Int32)) % (7 : Int32))), .val (.ref (P ((p1 &&& (2147483647 : Int32)) % (7 : Int32)))), .val (.ref (P ((p2 &&& (2147483647 : Int32)) % (7 : Int32)))), .val (.ref (P (own_s ((p1 &&& (2147483647 : Int32)) % (7 : Int32))))), .val (.ref (P (own_s ((p2 &&& (2147483647 : Int32)) % (7 : Int32))))), .val (.int (1 : Int32))] [])) _
    refine XS.iload X10.here hx rfl (hb hby at_218) rfl ?_
    show Steps p.tables e below (T10.setTop (mkF m 220 #[.val (.int p1), .val (.int p2), .val (.int ((p1 &&& (2147483647 : Int32)) % (7 : Int32))), .val (.int ((p2 &&& (2147483647 : Int32)) % (7 : Int32))), .val (.ref (P ((p1 &&& (2147483647 : Int32)) % (7 : Int32)))), .val (.ref (P ((p2 &&& (2147483647 : Int32)) % (7 : Int32)))), .val (.ref (P (own_s ((p1 &&& (2147483647 : Int32)) % (7 : Int32))))), .val (.ref (P (own_s ((p2 &&& (2147483647 : Int32)) % (7 : Int32))))), .val (.int (1 : Int32))] [(.int (1 : Int32))])) _
    exact retN X10 hx (t := .boolean) Bd.returns (by simp) (hb hby at_220) hr
  · show Qlaw n0 _ _
    exact ⟨rfl, N10⟩
set_option maxRecDepth 65536 in
set_option maxHeartbeats 40000000 in
theorem rm0E (l : Launch) (Z : State) (a0 : Array Value) (hw : ∀ d ∈ tables_1, d.before a0 Z = true) (ws : List Jvm.Cond) (p1 : Int32) (p2 : Int32) (P : Int32 → Addr) (h0 : Heap) (n0 : Nat) (Z0 : n0 ≤ h0.size) (K : Known Z h0 P) (S_MILLISECOND : Sta Z h0 "com/example/numerand/numerand/engine/Precision" "MILLISECOND" "Lcom/example/numerand/numerand/engine/Precision;" (.ref (P 6))) (hc61 : ¬ ((1 : Int32) = (0 : Int32))) (ha69 : ¬ ((P (own_s ((p1 &&& (2147483647 : Int32)) % (7 : Int32)))) = (P 6))) (ha77 : ¬ ((P (own_s ((p2 &&& (2147483647 : Int32)) % (7 : Int32)))) = (P 6))) (hc89 : ¬ ((1 : Int32) = (0 : Int32))) (hc95 : ¬ (((p1 &&& (2147483647 : Int32)) % (7 : Int32)) = (6 : Int32))) (ha102 : (P (own_s ((p1 &&& (2147483647 : Int32)) % (7 : Int32)))) = (P ((p1 &&& (2147483647 : Int32)) % (7 : Int32)))) (hc114 : ¬ ((1 : Int32) = (0 : Int32))) (hc120 : ¬ (((p2 &&& (2147483647 : Int32)) % (7 : Int32)) = (6 : Int32))) (ha127 : (P (own_s ((p2 &&& (2147483647 : Int32)) % (7 : Int32)))) = (P ((p2 &&& (2147483647 : Int32)) % (7 : Int32)))) (hc139 : ¬ ((1 : Int32) = (0 : Int32))) (ha149 : (P (own_s (own_s ((p1 &&& (2147483647 : Int32)) % (7 : Int32))))) = (P (own_s ((p1 &&& (2147483647 : Int32)) % (7 : Int32))))) (hc161 : ¬ ((1 : Int32) = (0 : Int32))) (hc167 : ¬ (((p1 &&& (2147483647 : Int32)) % (7 : Int32)) = (6 : Int32))) (hc190 : ¬ ((1 : Int32) = (0 : Int32))) (hc195 : ¬ (((p2 &&& (2147483647 : Int32)) % (7 : Int32)) < ((p1 &&& (2147483647 : Int32)) % (7 : Int32)))) :
    MetFree l x (head1 (Jvm.Cond.code x code maxLocals ret :: ws) room_1) (fun a U => a = #[(.int p1), (.int p2)] ∧ Z.Warmed39 U.vm ∧ U.heap = h0) (fun _ _ _ _ _ => True) (fun _ U o U' => ∃ v L, o = .returned v ∧ Qlaw n0 v L ∧ FrameEnd U o U' L room_1.cells room_1.slots) := by
  refine MetFree.of_bodySF (plainFor_of_name pn_0) hisR ?_
  intro p e s m args below meth c s₁ Bd hml0 hP hK
  obtain ⟨rfl, hZ, hh⟩ := hP
  have hx := Bd.exec
  have hby := Bd.bytes
  have hml : c.maxLocals = 9 := hml0
  have hown : s.vm.findClass "com/example/numerand/numerand/engine/PrecisionSecondsPinLaw" = some m.cls := findClass_of_methodNamed Bd.named
  have hnm := (name_of_methodNamed Bd.named Bd.method).1
  have X0 : Stand p l e room_1 s m #[(.int p1), (.int p2)] below meth c s₁ [] 0 0 := Stand.of_body Bd
  have e0 : s₁.heap = h0 := by rw [← hh, Bd.state]; rfl
  have N0 := Fr.nil n0
  have pre0 : ∀ t, Steps p.tables e below (s₁.setTop (mkF m 0 #[.val (.int p1), .val (.int p2), .unset, .unset, .unset, .unset, .unset, .unset, .unset] [])) t → Steps p.tables e below (s₁.setTop (entryFrame m #[(.int p1), (.int p2)] maxLocals)) t := fun t k => castTop (ef_0 m p1 p2) k
  obtain ⟨_, _, ⟨T3, L3, k3, n3⟩, -, X3, ⟨Lc3, hQ3, l3, y3, z3⟩, st3⟩ := Jvm.LawKit.callS X0 hx (y := (⟨"com/example/numerand/numerand/engine/PrecisionSecondsPinLaw", "pick", "(I)Lcom/example/numerand/numerand/engine/Precision;"⟩ : MethodName)) hown (mvT hZ (hw _ (List.mem_of_getElem? (i := 1) rfl))) (mvT hZ (hw _ (List.mem_of_getElem? (i := 2) rfl))) (mvT hZ (hw _ (List.mem_of_getElem? (i := 3) rfl))) (mvT hZ (hw _ (List.mem_of_getElem? (i := 4) rfl))) (by decide) (backOf (W := 0) (rm1 l Z a0 hw [] ((p1 &&& (2147483647 : Int32)) % (7 : Int32)) P h0 n0 Z0 K (own_in7 p1)) hZ (hw _ (List.mem_of_getElem? (i := 4) rfl)) (hw _ (List.mem_of_getElem? (i := 3) rfl)) (by decide) (by decide)) (g := (mkF m 17 #[.val (.int p1), .val (.int p2), .val (.int ((p1 &&& (2147483647 : Int32)) % (7 : Int32))), .val (.int ((p2 &&& (2147483647 : Int32)) % (7 : Int32))), .unset, .unset, .unset, .unset, .unset] [(.int ((p1 &&& (2147483647 : Int32)) % (7 : Int32)))])) rfl (by rw [hml]; rfl) (argsL := [(.int ((p1 &&& (2147483647 : Int32)) % (7 : Int32)))]) (rest := []) (lenOf pd_0_0 rfl) rfl (by show 2 * 0 + _ ≤ _; exact Nat.le_of_eq rfl) (hb hby at_17) (fun _ _ => ⟨rfl, e0, (by decide : 0 + 0 ≤ _), (by decide : 0 + 0 ≤ _)⟩)
  dsimp only [Pt.U, Pt.locs, Pt.cells, Pt.slots] at X3 l3 y3 z3 st3 hQ3
  subst l3 y3 z3
  obtain ⟨rfl, N3q, e3⟩ := hQ3
  have N3 := Fr.app N0 N3q
  obtain ⟨_, _, ⟨T4, L4, k4, n4⟩, -, X4, ⟨Lc4, hQ4, l4, y4, z4⟩, st4⟩ := Jvm.LawKit.callS X3 hx (y := (⟨"com/example/numerand/numerand/engine/PrecisionSecondsPinLaw", "pick", "(I)Lcom/example/numerand/numerand/engine/Precision;"⟩ : MethodName)) hown (mvT hZ (hw _ (List.mem_of_getElem? (i := 1) rfl))) (mvT hZ (hw _ (List.mem_of_getElem? (i := 2) rfl))) (mvT hZ (hw _ (List.mem_of_getElem? (i := 3) rfl))) (mvT hZ (hw _ (List.mem_of_getElem? (i := 4) rfl))) (by decide) (backOf (W := 0) (rm1 l Z a0 hw [] ((p2 &&& (2147483647 : Int32)) % (7 : Int32)) P h0 n0 Z0 K (own_in7 p2)) hZ (hw _ (List.mem_of_getElem? (i := 4) rfl)) (hw _ (List.mem_of_getElem? (i := 3) rfl)) (by decide) (by decide)) (g := (mkF m 23 #[.val (.int p1), .val (.int p2), .val (.int ((p1 &&& (2147483647 : Int32)) % (7 : Int32))), .val (.int ((p2 &&& (2147483647 : Int32)) % (7 : Int32))), .val (.ref (P ((p1 &&& (2147483647 : Int32)) % (7 : Int32)))), .unset, .unset, .unset, .unset] [(.int ((p2 &&& (2147483647 : Int32)) % (7 : Int32)))])) rfl (by rw [hml]; rfl) (argsL := [(.int ((p2 &&& (2147483647 : Int32)) % (7 : Int32)))]) (rest := []) (lenOf pd_0_0 rfl) rfl (by show 2 * 0 + _ ≤ _; exact Nat.le_of_eq rfl) (hb hby at_23) (fun _ _ => ⟨rfl, e3, (by decide : 0 + 0 ≤ _), (by decide : 0 + 0 ≤ _)⟩)
  dsimp only [Pt.U, Pt.locs, Pt.cells, Pt.slots] at X4 l4 y4 z4 st4 hQ4
  subst l4 y4 z4
  obtain ⟨rfl, N4q, e4⟩ := hQ4
  have N4 := Fr.app N3 N4q
  obtain ⟨_, _, ⟨T5, L5, k5, n5⟩, -, X5, ⟨Lc5, hQ5, l5, y5, z5⟩, st5⟩ := Jvm.LawKit.callS X4 hx (y := (⟨"com/example/numerand/numerand/engine/Precision", "seconds", "(Lcom/example/numerand/numerand/engine/Precision;)Lcom/example/numerand/numerand/engine/Precision;"⟩ : MethodName)) hown (mvT hZ (hw _ (List.mem_of_getElem? (i := 10) rfl))) (mvT hZ (hw _ (List.mem_of_getElem? (i := 11) rfl))) (mvT hZ (hw _ (List.mem_of_getElem? (i := 6) rfl))) (mvT hZ (hw _ (List.mem_of_getElem? (i := 12) rfl))) (by decide) (backOf (W := 0) (rm2 l Z a0 hw [] ((p1 &&& (2147483647 : Int32)) % (7 : Int32)) P h0 n0 Z0 K (own_in7 p1)) hZ (hw _ (List.mem_of_getElem? (i := 12) rfl)) (hw _ (List.mem_of_getElem? (i := 6) rfl)) (by decide) (by decide)) (g := (mkF m 30 #[.val (.int p1), .val (.int p2), .val (.int ((p1 &&& (2147483647 : Int32)) % (7 : Int32))), .val (.int ((p2 &&& (2147483647 : Int32)) % (7 : Int32))), .val (.ref (P ((p1 &&& (2147483647 : Int32)) % (7 : Int32)))), .val (.ref (P ((p2 &&& (2147483647 : Int32)) % (7 : Int32)))), .unset, .unset, .unset] [(.ref (P ((p1 &&& (2147483647 : Int32)) % (7 : Int32))))])) rfl (by rw [hml]; rfl) (argsL := [(.ref (P ((p1 &&& (2147483647 : Int32)) % (7 : Int32))))]) (rest := []) (lenOf pd_0_1 rfl) rfl (by show 2 * 0 + _ ≤ _; exact Nat.le_of_eq rfl) (hb hby at_30) (fun _ _ => ⟨rfl, e4, (by decide : 0 + 0 ≤ _), (by decide : 0 + 0 ≤ _)⟩)
  dsimp only [Pt.U, Pt.locs, Pt.cells, Pt.slots] at X5 l5 y5 z5 st5 hQ5
  subst l5 y5 z5
  obtain ⟨rfl, N5q, e5⟩ := hQ5
  have N5 := Fr.app N4 N5q
  obtain ⟨_, _, ⟨T6, L6, k6, n6⟩, -, X6, ⟨Lc6, hQ6, l6, y6, z6⟩, st6⟩ := Jvm.LawKit.callS X5 hx (y := (⟨"com/example/numerand/numerand/engine/Precision", "seconds", "(Lcom/example/numerand/numerand/engine/Precision;)Lcom/example/numerand/numerand/engine/Precision;"⟩ : MethodName)) hown (mvT hZ (hw _ (List.mem_of_getElem? (i := 10) rfl))) (mvT hZ (hw _ (List.mem_of_getElem? (i := 11) rfl))) (mvT hZ (hw _ (List.mem_of_getElem? (i := 6) rfl))) (mvT hZ (hw _ (List.mem_of_getElem? (i := 12) rfl))) (by decide) (backOf (W := 0) (rm2 l Z a0 hw [] ((p2 &&& (2147483647 : Int32)) % (7 : Int32)) P h0 n0 Z0 K (own_in7 p2)) hZ (hw _ (List.mem_of_getElem? (i := 12) rfl)) (hw _ (List.mem_of_getElem? (i := 6) rfl)) (by decide) (by decide)) (g := (mkF m 37 #[.val (.int p1), .val (.int p2), .val (.int ((p1 &&& (2147483647 : Int32)) % (7 : Int32))), .val (.int ((p2 &&& (2147483647 : Int32)) % (7 : Int32))), .val (.ref (P ((p1 &&& (2147483647 : Int32)) % (7 : Int32)))), .val (.ref (P ((p2 &&& (2147483647 : Int32)) % (7 : Int32)))), .val (.ref (P (own_s ((p1 &&& (2147483647 : Int32)) % (7 : Int32))))), .unset, .unset] [(.ref (P ((p2 &&& (2147483647 : Int32)) % (7 : Int32))))])) rfl (by rw [hml]; rfl) (argsL := [(.ref (P ((p2 &&& (2147483647 : Int32)) % (7 : Int32))))]) (rest := []) (lenOf pd_0_1 rfl) rfl (by show 2 * 0 + _ ≤ _; exact Nat.le_of_eq rfl) (hb hby at_37) (fun _ _ => ⟨rfl, e5, (by decide : 0 + 0 ≤ _), (by decide : 0 + 0 ≤ _)⟩)
  dsimp only [Pt.U, Pt.locs, Pt.cells, Pt.slots] at X6 l6 y6 z6 st6 hQ6
  subst l6 y6 z6
  obtain ⟨rfl, N6q, e6⟩ := hQ6
  have N6 := Fr.app N5 N6q
  obtain ⟨T8, X8, e8, st8⟩ := getS2 X6 hx hZ hown (host := "") (Or.inl (hw _ (List.mem_of_getElem? (i := 15) rfl))) Via.refl e6 S_MILLISECOND (g := (mkF m 66 #[.val (.int p1), .val (.int p2), .val (.int ((p1 &&& (2147483647 : Int32)) % (7 : Int32))), .val (.int ((p2 &&& (2147483647 : Int32)) % (7 : Int32))), .val (.ref (P ((p1 &&& (2147483647 : Int32)) % (7 : Int32)))), .val (.ref (P ((p2 &&& (2147483647 : Int32)) % (7 : Int32)))), .val (.ref (P (own_s ((p1 &&& (2147483647 : Int32)) % (7 : Int32))))), .val (.ref (P (own_s ((p2 &&& (2147483647 : Int32)) % (7 : Int32))))), .val (.int (1 : Int32))] [(.ref (P (own_s ((p1 &&& (2147483647 : Int32)) % (7 : Int32)))))])) rfl (hb hby at_66)
  obtain ⟨T9, X9, e9, st9⟩ := getS2 X8 hx hZ hown (host := "") (Or.inl (hw _ (List.mem_of_getElem? (i := 15) rfl))) Via.refl e8 S_MILLISECOND (g := (mkF m 74 #[.val (.int p1), .val (.int p2), .val (.int ((p1 &&& (2147483647 : Int32)) % (7 : Int32))), .val (.int ((p2 &&& (2147483647 : Int32)) % (7 : Int32))), .val (.ref (P ((p1 &&& (2147483647 : Int32)) % (7 : Int32)))), .val (.ref (P ((p2 &&& (2147483647 : Int32)) % (7 : Int32)))), .val (.ref (P (own_s ((p1 &&& (2147483647 : Int32)) % (7 : Int32))))), .val (.ref (P (own_s ((p2 &&& (2147483647 : Int32)) % (7 : Int32))))), .val (.int (1 : Int32))] [(.ref (P (own_s ((p2 &&& (2147483647 : Int32)) % (7 : Int32)))))])) rfl (hb hby at_74)
  obtain ⟨_, _, ⟨T10, L10, k10, n10⟩, -, X10, ⟨Lc10, hQ10, l10, y10, z10⟩, st10⟩ := Jvm.LawKit.callS X9 hx (y := (⟨"com/example/numerand/numerand/engine/Precision", "seconds", "(Lcom/example/numerand/numerand/engine/Precision;)Lcom/example/numerand/numerand/engine/Precision;"⟩ : MethodName)) hown (mvT hZ (hw _ (List.mem_of_getElem? (i := 10) rfl))) (mvT hZ (hw _ (List.mem_of_getElem? (i := 11) rfl))) (mvT hZ (hw _ (List.mem_of_getElem? (i := 6) rfl))) (mvT hZ (hw _ (List.mem_of_getElem? (i := 12) rfl))) (by decide) (backOf (W := 0) (rm2 l Z a0 hw [] (own_s ((p1 &&& (2147483647 : Int32)) % (7 : Int32))) P h0 n0 Z0 K (own_s7 (own_in7 p1))) hZ (hw _ (List.mem_of_getElem? (i := 12) rfl)) (hw _ (List.mem_of_getElem? (i := 6) rfl)) (by decide) (by decide)) (g := (mkF m 144 #[.val (.int p1), .val (.int p2), .val (.int ((p1 &&& (2147483647 : Int32)) % (7 : Int32))), .val (.int ((p2 &&& (2147483647 : Int32)) % (7 : Int32))), .val (.ref (P ((p1 &&& (2147483647 : Int32)) % (7 : Int32)))), .val (.ref (P ((p2 &&& (2147483647 : Int32)) % (7 : Int32)))), .val (.ref (P (own_s ((p1 &&& (2147483647 : Int32)) % (7 : Int32))))), .val (.ref (P (own_s ((p2 &&& (2147483647 : Int32)) % (7 : Int32))))), .val (.int (1 : Int32))] [(.ref (P (own_s ((p1 &&& (2147483647 : Int32)) % (7 : Int32)))))])) rfl (by rw [hml]; rfl) (argsL := [(.ref (P (own_s ((p1 &&& (2147483647 : Int32)) % (7 : Int32)))))]) (rest := []) (lenOf pd_0_1 rfl) rfl (by show 2 * 0 + _ ≤ _; exact Nat.le_of_eq rfl) (hb hby at_144) (fun _ _ => ⟨rfl, e9, (by decide : 0 + 0 ≤ _), (by decide : 0 + 0 ≤ _)⟩)
  dsimp only [Pt.U, Pt.locs, Pt.cells, Pt.slots] at X10 l10 y10 z10 st10 hQ10
  subst l10 y10 z10
  obtain ⟨rfl, N10q, e10⟩ := hQ10
  have N10 := Fr.app N6 N10q
  obtain ⟨_, _, ⟨T11, L11, k11, n11⟩, -, X11, ⟨Lc11, hQ11, l11, y11, z11⟩, st11⟩ := Jvm.LawKit.callS X10 hx (y := (⟨"com/example/numerand/numerand/engine/PrecisionSecondsPinLaw", "idx", "(Lcom/example/numerand/numerand/engine/Precision;)I"⟩ : MethodName)) hown (mvT hZ (hw _ (List.mem_of_getElem? (i := 16) rfl))) (mvT hZ (hw _ (List.mem_of_getElem? (i := 17) rfl))) (mvT hZ (hw _ (List.mem_of_getElem? (i := 3) rfl))) (mvT hZ (hw _ (List.mem_of_getElem? (i := 18) rfl))) (by decide) (backOf (W := 0) (rm3 l Z a0 hw [] (own_s ((p1 &&& (2147483647 : Int32)) % (7 : Int32))) P h0 n0 Z0 K (own_s7 (own_in7 p1))) hZ (hw _ (List.mem_of_getElem? (i := 18) rfl)) (hw _ (List.mem_of_getElem? (i := 3) rfl)) (by decide) (by decide)) (g := (mkF m 200 #[.val (.int p1), .val (.int p2), .val (.int ((p1 &&& (2147483647 : Int32)) % (7 : Int32))), .val (.int ((p2 &&& (2147483647 : Int32)) % (7 : Int32))), .val (.ref (P ((p1 &&& (2147483647 : Int32)) % (7 : Int32)))), .val (.ref (P ((p2 &&& (2147483647 : Int32)) % (7 : Int32)))), .val (.ref (P (own_s ((p1 &&& (2147483647 : Int32)) % (7 : Int32))))), .val (.ref (P (own_s ((p2 &&& (2147483647 : Int32)) % (7 : Int32))))), .val (.int (1 : Int32))] [(.ref (P (own_s ((p1 &&& (2147483647 : Int32)) % (7 : Int32)))))])) rfl (by rw [hml]; rfl) (argsL := [(.ref (P (own_s ((p1 &&& (2147483647 : Int32)) % (7 : Int32)))))]) (rest := []) (lenOf pd_0_2 rfl) rfl (by show 2 * 0 + _ ≤ _; exact Nat.le_of_eq rfl) (hb hby at_200) (fun _ _ => ⟨rfl, e10, (by decide : 0 + 0 ≤ _), (by decide : 0 + 0 ≤ _)⟩)
  dsimp only [Pt.U, Pt.locs, Pt.cells, Pt.slots] at X11 l11 y11 z11 st11 hQ11
  subst l11 y11 z11
  obtain ⟨rfl, N11q, e11⟩ := hQ11
  have N11 := Fr.app N10 N11q
  obtain ⟨_, _, ⟨T12, L12, k12, n12⟩, -, X12, ⟨Lc12, hQ12, l12, y12, z12⟩, st12⟩ := Jvm.LawKit.callS X11 hx (y := (⟨"com/example/numerand/numerand/engine/PrecisionSecondsPinLaw", "idx", "(Lcom/example/numerand/numerand/engine/Precision;)I"⟩ : MethodName)) hown (mvT hZ (hw _ (List.mem_of_getElem? (i := 16) rfl))) (mvT hZ (hw _ (List.mem_of_getElem? (i := 17) rfl))) (mvT hZ (hw _ (List.mem_of_getElem? (i := 3) rfl))) (mvT hZ (hw _ (List.mem_of_getElem? (i := 18) rfl))) (by decide) (backOf (W := 1) (rm3 l Z a0 hw [] (own_s ((p2 &&& (2147483647 : Int32)) % (7 : Int32))) P h0 n0 Z0 K (own_s7 (own_in7 p2))) hZ (hw _ (List.mem_of_getElem? (i := 18) rfl)) (hw _ (List.mem_of_getElem? (i := 3) rfl)) (by decide) (by decide)) (g := (mkF m 205 #[.val (.int p1), .val (.int p2), .val (.int ((p1 &&& (2147483647 : Int32)) % (7 : Int32))), .val (.int ((p2 &&& (2147483647 : Int32)) % (7 : Int32))), .val (.ref (P ((p1 &&& (2147483647 : Int32)) % (7 : Int32)))), .val (.ref (P ((p2 &&& (2147483647 : Int32)) % (7 : Int32)))), .val (.ref (P (own_s ((p1 &&& (2147483647 : Int32)) % (7 : Int32))))), .val (.ref (P (own_s ((p2 &&& (2147483647 : Int32)) % (7 : Int32))))), .val (.int (1 : Int32))] [(.ref (P (own_s ((p2 &&& (2147483647 : Int32)) % (7 : Int32))))), (.int (own_s ((p1 &&& (2147483647 : Int32)) % (7 : Int32))))])) rfl (by rw [hml]; rfl) (argsL := [(.ref (P (own_s ((p2 &&& (2147483647 : Int32)) % (7 : Int32)))))]) (rest := [(.int (own_s ((p1 &&& (2147483647 : Int32)) % (7 : Int32))))]) (lenOf pd_0_2 rfl) rfl (by show 2 * 0 + _ ≤ _; exact Nat.le_of_eq rfl) (hb hby at_205) (fun _ _ => ⟨rfl, e11, (by decide : 0 + 0 ≤ _), (by decide : 0 + 0 ≤ _)⟩)
  dsimp only [Pt.U, Pt.locs, Pt.cells, Pt.slots] at X12 l12 y12 z12 st12 hQ12
  subst l12 y12 z12
  obtain ⟨rfl, N12q, e12⟩ := hQ12
  have N12 := Fr.app N11 N12q
  obtain ⟨fs, hr, hrun, hended, hW, hsame⟩ := X12.leave (v := some (.int (1 : Int32))) (fun h => by rw [Bd.returns] at h; cases h)
  refine ⟨_, _, pre0 _ ?_, hrun, hended, _, _, rfl, ?_, ⟨_, rfl⟩, hW, hsame.mono (by decide) (by decide)⟩
  · show Steps p.tables e below (s₁.setTop (mkF m 0 #[.val (.int p1), .val (.int p2), .unset, .unset, .unset, .unset, .unset, .unset, .unset] [])) _
    refine XS.iloadN X0.here hx rfl (hb hby at_0) rfl ?_
    show Steps p.tables e below (s₁.setTop (mkF m 1 #[.val (.int p1), .val (.int p2), .unset, .unset, .unset, .unset, .unset, .unset, .unset] [(.int p1)])) _
    refine X0.ldcInt hx hown (mvT hZ (hw _ (List.mem_of_getElem? (i := 0) rfl))) (g := (mkF m 1 #[.val (.int p1), .val (.int p2), .unset, .unset, .unset, .unset, .unset, .unset, .unset] [(.int p1)])) rfl (hb hby at_1) _ ?_
    show Steps p.tables e below (s₁.setTop (mkF m 3 #[.val (.int p1), .val (.int p2), .unset, .unset, .unset, .unset, .unset, .unset, .unset] [(.int (2147483647 : Int32)), (.int p1)])) _
    refine XS.iand X0.here hx rfl (hb hby at_3) rfl ?_
    show Steps p.tables e below (s₁.setTop (mkF m 4 #[.val (.int p1), .val (.int p2), .unset, .unset, .unset, .unset, .unset, .unset, .unset] [(.int (p1 &&& (2147483647 : Int32)))])) _
    refine XS.bipush X0.here hx rfl (hb hby at_4) ?_
    show Steps p.tables e below (s₁.setTop (mkF m 6 #[.val (.int p1), .val (.int p2), .unset, .unset, .unset, .unset, .unset, .unset, .unset] [(.int (7 : Int32)), (.int (p1 &&& (2147483647 : Int32)))])) _
    refine iremM X0 hx rfl (hb hby at_6) rfl (by decide) ?_
    show Steps p.tables e below (s₁.setTop (mkF m 7 #[.val (.int p1), .val (.int p2), .unset, .unset, .unset, .unset, .unset, .unset, .unset] [(.int ((p1 &&& (2147483647 : Int32)) % (7 : Int32)))])) _
    refine XS.istoreN X0.here hx rfl (hb hby at_7) rfl (l' := #[.val (.int p1), .val (.int p2), .val (.int ((p1 &&& (2147483647 : Int32)) % (7 : Int32))), .unset, .unset, .unset, .unset, .unset, .unset]) rfl ?_
    show Steps p.tables e below (s₁.setTop (mkF m 8 #[.val (.int p1), .val (.int p2), .val (.int ((p1 &&& (2147483647 : Int32)) % (7 : Int32))), .unset, .unset, .unset, .unset, .unset, .unset] [])) _
    refine XS.iloadN X0.here hx rfl (hb hby at_8) rfl ?_
    show Steps p.tables e below (s₁.setTop (mkF m 9 #[.val (.int p1), .val (.int p2), .val (.int ((p1 &&& (2147483647 : Int32)) % (7 : Int32))), .unset, .unset, .unset, .unset, .unset, .unset] [(.int p2)])) _
    refine X0.ldcInt hx hown (mvT hZ (hw _ (List.mem_of_getElem? (i := 0) rfl))) (g := (mkF m 9 #[.val (.int p1), .val (.int p2), .val (.int ((p1 &&& (2147483647 : Int32)) % (7 : Int32))), .unset, .unset, .unset, .unset, .unset, .unset] [(.int p2)])) rfl (hb hby at_9) _ ?_
    show Steps p.tables e below (s₁.setTop (mkF m 11 #[.val (.int p1), .val (.int p2), .val (.int ((p1 &&& (2147483647 : Int32)) % (7 : Int32))), .unset, .unset, .unset, .unset, .unset, .unset] [(.int (2147483647 : Int32)), (.int p2)])) _
    refine XS.iand X0.here hx rfl (hb hby at_11) rfl ?_
    show Steps p.tables e below (s₁.setTop (mkF m 12 #[.val (.int p1), .val (.int p2), .val (.int ((p1 &&& (2147483647 : Int32)) % (7 : Int32))), .unset, .unset, .unset, .unset, .unset, .unset] [(.int (p2 &&& (2147483647 : Int32)))])) _
    refine XS.bipush X0.here hx rfl (hb hby at_12) ?_
    show Steps p.tables e below (s₁.setTop (mkF m 14 #[.val (.int p1), .val (.int p2), .val (.int ((p1 &&& (2147483647 : Int32)) % (7 : Int32))), .unset, .unset, .unset, .unset, .unset, .unset] [(.int (7 : Int32)), (.int (p2 &&& (2147483647 : Int32)))])) _
    refine iremM X0 hx rfl (hb hby at_14) rfl (by decide) ?_
    show Steps p.tables e below (s₁.setTop (mkF m 15 #[.val (.int p1), .val (.int p2), .val (.int ((p1 &&& (2147483647 : Int32)) % (7 : Int32))), .unset, .unset, .unset, .unset, .unset, .unset] [(.int ((p2 &&& (2147483647 : Int32)) % (7 : Int32)))])) _
    refine XS.istoreN X0.here hx rfl (hb hby at_15) rfl (l' := #[.val (.int p1), .val (.int p2), .val (.int ((p1 &&& (2147483647 : Int32)) % (7 : Int32))), .val (.int ((p2 &&& (2147483647 : Int32)) % (7 : Int32))), .unset, .unset, .unset, .unset, .unset]) rfl ?_
    show Steps p.tables e below (s₁.setTop (mkF m 16 #[.val (.int p1), .val (.int p2), .val (.int ((p1 &&& (2147483647 : Int32)) % (7 : Int32))), .val (.int ((p2 &&& (2147483647 : Int32)) % (7 : Int32))), .unset, .unset, .unset, .unset, .unset] [])) _
    refine XS.iloadN X0.here hx rfl (hb hby at_16) rfl ?_
    show Steps p.tables e below (s₁.setTop (mkF m 17 #[.val (.int p1), .val (.int p2), .val (.int ((p1 &&& (2147483647 : Int32)) % (7 : Int32))), .val (.int ((p2 &&& (2147483647 : Int32)) % (7 : Int32))), .unset, .unset, .unset, .unset, .unset] [(.int ((p1 &&& (2147483647 : Int32)) % (7 : Int32)))])) _
    refine st3 _ ?_
    show Steps p.tables e below (T3.setTop (mkF m 20 #[.val (.int p1), .val (.int p2), .val (.int ((p1 &&& (2147483647 : Int32)) % (7 : Int32))), .val (.int ((p2 &&& (2147483647 : Int32)) % (7 : Int32))), .unset, .unset, .unset, .unset, .unset] [(.ref (P ((p1 &&& (2147483647 : Int32)) % (7 : Int32))))])) _
    refine XS.astore X3.here hx rfl (hb hby at_20) rfl rfl (l' := #[.val (.int p1), .val (.int p2), .val (.int ((p1 &&& (2147483647 : Int32)) % (7 : Int32))), .val (.int ((p2 &&& (2147483647 : Int32)) % (7 : Int32))), .val (.ref (P ((p1 &&& (2147483647 : Int32)) % (7 : Int32)))), .unset, .unset, .unset, .unset]) rfl ?_
    show Steps p.tables e below (T3.setTop (mkF m 22 #[.val (.int p1), .val (.int p2), .val (.int ((p1 &&& (2147483647 : Int32)) % (7 : Int32))), .val (.int ((p2 &&& (2147483647 : Int32)) % (7 : Int32))), .val (.ref (P ((p1 &&& (2147483647 : Int32)) % (7 : Int32)))), .unset, .unset, .unset, .unset] [])) _
    refine XS.iloadN X3.here hx rfl (hb hby at_22) rfl ?_
    show Steps p.tables e below (T3.setTop (mkF m 23 #[.val (.int p1), .val (.int p2), .val (.int ((p1 &&& (2147483647 : Int32)) % (7 : Int32))), .val (.int ((p2 &&& (2147483647 : Int32)) % (7 : Int32))), .val (.ref (P ((p1 &&& (2147483647 : Int32)) % (7 : Int32)))), .unset, .unset, .unset, .unset] [(.int ((p2 &&& (2147483647 : Int32)) % (7 : Int32)))])) _
    refine st4 _ ?_
    show Steps p.tables e below (T4.setTop (mkF m 26 #[.val (.int p1), .val (.int p2), .val (.int ((p1 &&& (2147483647 : Int32)) % (7 : Int32))), .val (.int ((p2 &&& (2147483647 : Int32)) % (7 : Int32))), .val (.ref (P ((p1 &&& (2147483647 : Int32)) % (7 : Int32)))), .unset, .unset, .unset, .unset] [(.ref (P ((p2 &&& (2147483647 : Int32)) % (7 : Int32))))])) _
    refine XS.astore X4.here hx rfl (hb hby at_26) rfl rfl (l' := #[.val (.int p1), .val (.int p2), .val (.int ((p1 &&& (2147483647 : Int32)) % (7 : Int32))), .val (.int ((p2 &&& (2147483647 : Int32)) % (7 : Int32))), .val (.ref (P ((p1 &&& (2147483647 : Int32)) % (7 : Int32)))), .val (.ref (P ((p2 &&& (2147483647 : Int32)) % (7 : Int32)))), .unset, .unset, .unset]) rfl ?_
    show Steps p.tables e below (T4.setTop (mkF m 28 #[.val (.int p1), .val (.int p2), .val (.int ((p1 &&& (2147483647 : Int32)) % (7 : Int32))), .val (.int ((p2 &&& (2147483647 : Int32)) % (7 : Int32))), .val (.ref (P ((p1 &&& (2147483647 : Int32)) % (7 : Int32)))), .val (.ref (P ((p2 &&& (2147483647 : Int32)) % (7 : Int32)))), .unset, .unset, .unset] [])) _
    refine XS.aload X4.here hx rfl (hb hby at_28) rfl rfl ?_
    show Steps p.tables e below (T4.setTop (mkF m 30 #[.val (.int p1), .val (.int p2), .val (.int ((p1 &&& (2147483647 : Int32)) % (7 : Int32))), .val (.int ((p2 &&& (2147483647 : Int32)) % (7 : Int32))), .val (.ref (P ((p1 &&& (2147483647 : Int32)) % (7 : Int32)))), .val (.ref (P ((p2 &&& (2147483647 : Int32)) % (7 : Int32)))), .unset, .unset, .unset] [(.ref (P ((p1 &&& (2147483647 : Int32)) % (7 : Int32))))])) _
    refine st5 _ ?_
    show Steps p.tables e below (T5.setTop (mkF m 33 #[.val (.int p1), .val (.int p2), .val (.int ((p1 &&& (2147483647 : Int32)) % (7 : Int32))), .val (.int ((p2 &&& (2147483647 : Int32)) % (7 : Int32))), .val (.ref (P ((p1 &&& (2147483647 : Int32)) % (7 : Int32)))), .val (.ref (P ((p2 &&& (2147483647 : Int32)) % (7 : Int32)))), .unset, .unset, .unset] [(.ref (P (own_s ((p1 &&& (2147483647 : Int32)) % (7 : Int32)))))])) _
    refine XS.astore X5.here hx rfl (hb hby at_33) rfl rfl (l' := #[.val (.int p1), .val (.int p2), .val (.int ((p1 &&& (2147483647 : Int32)) % (7 : Int32))), .val (.int ((p2 &&& (2147483647 : Int32)) % (7 : Int32))), .val (.ref (P ((p1 &&& (2147483647 : Int32)) % (7 : Int32)))), .val (.ref (P ((p2 &&& (2147483647 : Int32)) % (7 : Int32)))), .val (.ref (P (own_s ((p1 &&& (2147483647 : Int32)) % (7 : Int32))))), .unset, .unset]) rfl ?_
    show Steps p.tables e below (T5.setTop (mkF m 35 #[.val (.int p1), .val (.int p2), .val (.int ((p1 &&& (2147483647 : Int32)) % (7 : Int32))), .val (.int ((p2 &&& (2147483647 : Int32)) % (7 : Int32))), .val (.ref (P ((p1 &&& (2147483647 : Int32)) % (7 : Int32)))), .val (.ref (P ((p2 &&& (2147483647 : Int32)) % (7 : Int32)))), .val (.ref (P (own_s ((p1 &&& (2147483647 : Int32)) % (7 : Int32))))), .unset, .unset] [])) _
    refine XS.aload X5.here hx rfl (hb hby at_35) rfl rfl ?_
    show Steps p.tables e below (T5.setTop (mkF m 37 #[.val (.int p1), .val (.int p2), .val (.int ((p1 &&& (2147483647 : Int32)) % (7 : Int32))), .val (.int ((p2 &&& (2147483647 : Int32)) % (7 : Int32))), .val (.ref (P ((p1 &&& (2147483647 : Int32)) % (7 : Int32)))), .val (.ref (P ((p2 &&& (2147483647 : Int32)) % (7 : Int32)))), .val (.ref (P (own_s ((p1 &&& (2147483647 : Int32)) % (7 : Int32))))), .unset, .unset] [(.ref (P ((p2 &&& (2147483647 : Int32)) % (7 : Int32))))])) _
    refine st6 _ ?_
    show Steps p.tables e below (T6.setTop (mkF m 40 #[.val (.int p1), .val (.int p2), .val (.int ((p1 &&& (2147483647 : Int32)) % (7 : Int32))), .val (.int ((p2 &&& (2147483647 : Int32)) % (7 : Int32))), .val (.ref (P ((p1 &&& (2147483647 : Int32)) % (7 : Int32)))), .val (.ref (P ((p2 &&& (2147483647 : Int32)) % (7 : Int32)))), .val (.ref (P (own_s ((p1 &&& (2147483647 : Int32)) % (7 : Int32))))), .unset, .unset] [(.ref (P (own_s ((p2 &&& (2147483647 : Int32)) % (7 : Int32)))))])) _
    refine XS.astore X6.here hx rfl (hb hby at_40) rfl rfl (l' := #[.val (.int p1), .val (.int p2), .val (.int ((p1 &&& (2147483647 : Int32)) % (7 : Int32))), .val (.int ((p2 &&& (2147483647 : Int32)) % (7 : Int32))), .val (.ref (P ((p1 &&& (2147483647 : Int32)) % (7 : Int32)))), .val (.ref (P ((p2 &&& (2147483647 : Int32)) % (7 : Int32)))), .val (.ref (P (own_s ((p1 &&& (2147483647 : Int32)) % (7 : Int32))))), .val (.ref (P (own_s ((p2 &&& (2147483647 : Int32)) % (7 : Int32))))), .unset]) rfl ?_
    show Steps p.tables e below (T6.setTop (mkF m 42 #[.val (.int p1), .val (.int p2), .val (.int ((p1 &&& (2147483647 : Int32)) % (7 : Int32))), .val (.int ((p2 &&& (2147483647 : Int32)) % (7 : Int32))), .val (.ref (P ((p1 &&& (2147483647 : Int32)) % (7 : Int32)))), .val (.ref (P ((p2 &&& (2147483647 : Int32)) % (7 : Int32)))), .val (.ref (P (own_s ((p1 &&& (2147483647 : Int32)) % (7 : Int32))))), .val (.ref (P (own_s ((p2 &&& (2147483647 : Int32)) % (7 : Int32))))), .unset] [])) _
    refine XS.aload X6.here hx rfl (hb hby at_42) rfl rfl ?_
    show Steps p.tables e below (T6.setTop (mkF m 44 #[.val (.int p1), .val (.int p2), .val (.int ((p1 &&& (2147483647 : Int32)) % (7 : Int32))), .val (.int ((p2 &&& (2147483647 : Int32)) % (7 : Int32))), .val (.ref (P ((p1 &&& (2147483647 : Int32)) % (7 : Int32)))), .val (.ref (P ((p2 &&& (2147483647 : Int32)) % (7 : Int32)))), .val (.ref (P (own_s ((p1 &&& (2147483647 : Int32)) % (7 : Int32))))), .val (.ref (P (own_s ((p2 &&& (2147483647 : Int32)) % (7 : Int32))))), .unset] [(.ref (P (own_s ((p1 &&& (2147483647 : Int32)) % (7 : Int32)))))])) _
    refine XS.ifnullNo X6.here hx rfl (hb hby at_44) rfl ?_
    show Steps p.tables e below (T6.setTop (mkF m 47 #[.val (.int p1), .val (.int p2), .val (.int ((p1 &&& (2147483647 : Int32)) % (7 : Int32))), .val (.int ((p2 &&& (2147483647 : Int32)) % (7 : Int32))), .val (.ref (P ((p1 &&& (2147483647 : Int32)) % (7 : Int32)))), .val (.ref (P ((p2 &&& (2147483647 : Int32)) % (7 : Int32)))), .val (.ref (P (own_s ((p1 &&& (2147483647 : Int32)) % (7 : Int32))))), .val (.ref (P (own_s ((p2 &&& (2147483647 : Int32)) % (7 : Int32))))), .unset] [])) _
    refine XS.aload X6.here hx rfl (hb hby at_47) rfl rfl ?_
    show Steps p.tables e below (T6.setTop (mkF m 49 #[.val (.int p1), .val (.int p2), .val (.int ((p1 &&& (2147483647 : Int32)) % (7 : Int32))), .val (.int ((p2 &&& (2147483647 : Int32)) % (7 : Int32))), .val (.ref (P ((p1 &&& (2147483647 : Int32)) % (7 : Int32)))), .val (.ref (P ((p2 &&& (2147483647 : Int32)) % (7 : Int32)))), .val (.ref (P (own_s ((p1 &&& (2147483647 : Int32)) % (7 : Int32))))), .val (.ref (P (own_s ((p2 &&& (2147483647 : Int32)) % (7 : Int32))))), .unset] [(.ref (P (own_s ((p2 &&& (2147483647 : Int32)) % (7 : Int32)))))])) _
    refine XS.ifnullNo X6.here hx rfl (hb hby at_49) rfl ?_
    show Steps p.tables e below (T6.setTop (mkF m 52 #[.val (.int p1), .val (.int p2), .val (.int ((p1 &&& (2147483647 : Int32)) % (7 : Int32))), .val (.int ((p2 &&& (2147483647 : Int32)) % (7 : Int32))), .val (.ref (P ((p1 &&& (2147483647 : Int32)) % (7 : Int32)))), .val (.ref (P ((p2 &&& (2147483647 : Int32)) % (7 : Int32)))), .val (.ref (P (own_s ((p1 &&& (2147483647 : Int32)) % (7 : Int32))))), .val (.ref (P (own_s ((p2 &&& (2147483647 : Int32)) % (7 : Int32))))), .unset] [])) _
    refine XS.iconst X6.here hx rfl (hb hby at_52) ?_
    show Steps p.tables e below (T6.setTop (mkF m 53 #[.val (.int p1), .val (.int p2), .val (.int ((p1 &&& (2147483647 : Int32)) % (7 : Int32))), .val (.int ((p2 &&& (2147483647 : Int32)) % (7 : Int32))), .val (.ref (P ((p1 &&& (2147483647 : Int32)) % (7 : Int32)))), .val (.ref (P ((p2 &&& (2147483647 : Int32)) % (7 : Int32)))), .val (.ref (P (own_s ((p1 &&& (2147483647 : Int32)) % (7 : Int32))))), .val (.ref (P (own_s ((p2 &&& (2147483647 : Int32)) % (7 : Int32))))), .unset] [(.int (1 : Int32))])) _
    refine XS.goto X6.here hx rfl (pc0 := 53) (pc' := 57) rfl (hb hby at_53) (by decide) (by decide) ?_
    show Steps p.tables e below (T6.setTop (mkF m 57 #[.val (.int p1), .val (.int p2), .val (.int ((p1 &&& (2147483647 : Int32)) % (7 : Int32))), .val (.int ((p2 &&& (2147483647 : Int32)) % (7 : Int32))), .val (.ref (P ((p1 &&& (2147483647 : Int32)) % (7 : Int32)))), .val (.ref (P ((p2 &&& (2147483647 : Int32)) % (7 : Int32)))), .val (.ref (P (own_s ((p1 &&& (2147483647 : Int32)) % (7 : Int32))))), .val (.ref (P (own_s ((p2 &&& (2147483647 : Int32)) % (7 : Int32))))), .unset] [(.int (1 : Int32))])) _
    refine XS.istore X6.here hx rfl (hb hby at_57) rfl (l' := #[.val (.int p1), .val (.int p2), .val (.int ((p1 &&& (2147483647 : Int32)) % (7 : Int32))), .val (.int ((p2 &&& (2147483647 : Int32)) % (7 : Int32))), .val (.ref (P ((p1 &&& (2147483647 : Int32)) % (7 : Int32)))), .val (.ref (P ((p2 &&& (2147483647 : Int32)) % (7 : Int32)))), .val (.ref (P (own_s ((p1 &&& (2147483647 : Int32)) % (7 : Int32))))), .val (.ref (P (own_s ((p2 &&& (2147483647 : Int32)) % (7 : Int32))))), .val (.int (1 : Int32))]) rfl ?_
    show Steps p.tables e below (T6.setTop (mkF m 59 #[.val (.int p1), .val (.int p2), .val (.int ((p1 &&& (2147483647 : Int32)) % (7 : Int32))), .val (.int ((p2 &&& (2147483647 : Int32)) % (7 : Int32))), .val (.ref (P ((p1 &&& (2147483647 : Int32)) % (7 : Int32)))), .val (.ref (P ((p2 &&& (2147483647 : Int32)) % (7 : Int32)))), .val (.ref (P (own_s ((p1 &&& (2147483647 : Int32)) % (7 : Int32))))), .val (.ref (P (own_s ((p2 &&& (2147483647 : Int32)) % (7 : Int32))))), .val (.int (1 : Int32))] [])) _
    refine XS.iload X6.here hx rfl (hb hby at_59) rfl ?_
    show Steps p.tables e below (T6.setTop (mkF m 61 #[.val (.int p1), .val (.int p2), .val (.int ((p1 &&& (2147483647 : Int32)) % (7 : Int32))), .val (.int ((p2 &&& (2147483647 : Int32)) % (7 : Int32))), .val (.ref (P ((p1 &&& (2147483647 : Int32)) % (7 : Int32)))), .val (.ref (P ((p2 &&& (2147483647 : Int32)) % (7 : Int32)))), .val (.ref (P (own_s ((p1 &&& (2147483647 : Int32)) % (7 : Int32))))), .val (.ref (P (own_s ((p2 &&& (2147483647 : Int32)) % (7 : Int32))))), .val (.int (1 : Int32))] [(.int (1 : Int32))])) _
    refine XS.ifNo X6.here hx rfl (hb hby at_61) rfl ((if0 _ _).trans (feq hc61).1) ?_
    show Steps p.tables e below (T6.setTop (mkF m 64 #[.val (.int p1), .val (.int p2), .val (.int ((p1 &&& (2147483647 : Int32)) % (7 : Int32))), .val (.int ((p2 &&& (2147483647 : Int32)) % (7 : Int32))), .val (.ref (P ((p1 &&& (2147483647 : Int32)) % (7 : Int32)))), .val (.ref (P ((p2 &&& (2147483647 : Int32)) % (7 : Int32)))), .val (.ref (P (own_s ((p1 &&& (2147483647 : Int32)) % (7 : Int32))))), .val (.ref (P (own_s ((p2 &&& (2147483647 : Int32)) % (7 : Int32))))), .val (.int (1 : Int32))] [])) _
    refine XS.aload X6.here hx rfl (hb hby at_64) rfl rfl ?_
    show Steps p.tables e below (T6.setTop (mkF m 66 #[.val (.int p1), .val (.int p2), .val (.int ((p1 &&& (2147483647 : Int32)) % (7 : Int32))), .val (.int ((p2 &&& (2147483647 : Int32)) % (7 : Int32))), .val (.ref (P ((p1 &&& (2147483647 : Int32)) % (7 : Int32)))), .val (.ref (P ((p2 &&& (2147483647 : Int32)) % (7 : Int32)))), .val (.ref (P (own_s ((p1 &&& (2147483647 : Int32)) % (7 : Int32))))), .val (.ref (P (own_s ((p2 &&& (2147483647 : Int32)) % (7 : Int32))))), .val (.int (1 : Int32))] [(.ref (P (own_s ((p1 &&& (2147483647 : Int32)) % (7 : Int32)))))])) _
    refine st8 _ ?_
    show Steps p.tables e below (T8.setTop (mkF m 69 #[.val (.int p1), .val (.int p2), .val (.int ((p1 &&& (2147483647 : Int32)) % (7 : Int32))), .val (.int ((p2 &&& (2147483647 : Int32)) % (7 : Int32))), .val (.ref (P ((p1 &&& (2147483647 : Int32)) % (7 : Int32)))), .val (.ref (P ((p2 &&& (2147483647 : Int32)) % (7 : Int32)))), .val (.ref (P (own_s ((p1 &&& (2147483647 : Int32)) % (7 : Int32))))), .val (.ref (P (own_s ((p2 &&& (2147483647 : Int32)) % (7 : Int32))))), .val (.int (1 : Int32))] [(.ref (P 6)), (.ref (P (own_s ((p1 &&& (2147483647 : Int32)) % (7 : Int32)))))])) _
    refine Jvm.RoadKit.acmp (g := (mkF m 69 #[.val (.int p1), .val (.int p2), .val (.int ((p1 &&& (2147483647 : Int32)) % (7 : Int32))), .val (.int ((p2 &&& (2147483647 : Int32)) % (7 : Int32))), .val (.ref (P ((p1 &&& (2147483647 : Int32)) % (7 : Int32)))), .val (.ref (P ((p2 &&& (2147483647 : Int32)) % (7 : Int32)))), .val (.ref (P (own_s ((p1 &&& (2147483647 : Int32)) % (7 : Int32))))), .val (.ref (P (own_s ((p2 &&& (2147483647 : Int32)) % (7 : Int32))))), .val (.int (1 : Int32))] [(.ref (P 6)), (.ref (P (own_s ((p1 &&& (2147483647 : Int32)) % (7 : Int32)))))])) X8 hx rfl rfl rfl (pc0 := 69) (pc' := 72) (same := false) rfl (hb hby at_69) rfl (decide_eq_false fun q => ha69 (Value.ref.inj q)) (by decide) (by decide) ?_
    show Steps p.tables e below (T8.setTop (mkF m 72 #[.val (.int p1), .val (.int p2), .val (.int ((p1 &&& (2147483647 : Int32)) % (7 : Int32))), .val (.int ((p2 &&& (2147483647 : Int32)) % (7 : Int32))), .val (.ref (P ((p1 &&& (2147483647 : Int32)) % (7 : Int32)))), .val (.ref (P ((p2 &&& (2147483647 : Int32)) % (7 : Int32)))), .val (.ref (P (own_s ((p1 &&& (2147483647 : Int32)) % (7 : Int32))))), .val (.ref (P (own_s ((p2 &&& (2147483647 : Int32)) % (7 : Int32))))), .val (.int (1 : Int32))] [])) _
    refine XS.aload X8.here hx rfl (hb hby at_72) rfl rfl ?_
    show Steps p.tables e below (T8.setTop (mkF m 74 #[.val (.int p1), .val (.int p2), .val (.int ((p1 &&& (2147483647 : Int32)) % (7 : Int32))), .val (.int ((p2 &&& (2147483647 : Int32)) % (7 : Int32))), .val (.ref (P ((p1 &&& (2147483647 : Int32)) % (7 : Int32)))), .val (.ref (P ((p2 &&& (2147483647 : Int32)) % (7 : Int32)))), .val (.ref (P (own_s ((p1 &&& (2147483647 : Int32)) % (7 : Int32))))), .val (.ref (P (own_s ((p2 &&& (2147483647 : Int32)) % (7 : Int32))))), .val (.int (1 : Int32))] [(.ref (P (own_s ((p2 &&& (2147483647 : Int32)) % (7 : Int32)))))])) _
    refine st9 _ ?_
    show Steps p.tables e below (T9.setTop (mkF m 77 #[.val (.int p1), .val (.int p2), .val (.int ((p1 &&& (2147483647 : Int32)) % (7 : Int32))), .val (.int ((p2 &&& (2147483647 : Int32)) % (7 : Int32))), .val (.ref (P ((p1 &&& (2147483647 : Int32)) % (7 : Int32)))), .val (.ref (P ((p2 &&& (2147483647 : Int32)) % (7 : Int32)))), .val (.ref (P (own_s ((p1 &&& (2147483647 : Int32)) % (7 : Int32))))), .val (.ref (P (own_s ((p2 &&& (2147483647 : Int32)) % (7 : Int32))))), .val (.int (1 : Int32))] [(.ref (P 6)), (.ref (P (own_s ((p2 &&& (2147483647 : Int32)) % (7 : Int32)))))])) _
    refine Jvm.RoadKit.acmp (g := (mkF m 77 #[.val (.int p1), .val (.int p2), .val (.int ((p1 &&& (2147483647 : Int32)) % (7 : Int32))), .val (.int ((p2 &&& (2147483647 : Int32)) % (7 : Int32))), .val (.ref (P ((p1 &&& (2147483647 : Int32)) % (7 : Int32)))), .val (.ref (P ((p2 &&& (2147483647 : Int32)) % (7 : Int32)))), .val (.ref (P (own_s ((p1 &&& (2147483647 : Int32)) % (7 : Int32))))), .val (.ref (P (own_s ((p2 &&& (2147483647 : Int32)) % (7 : Int32))))), .val (.int (1 : Int32))] [(.ref (P 6)), (.ref (P (own_s ((p2 &&& (2147483647 : Int32)) % (7 : Int32)))))])) X9 hx rfl rfl rfl (pc0 := 77) (pc' := 80) (same := false) rfl (hb hby at_77) rfl (decide_eq_false fun q => ha77 (Value.ref.inj q)) (by decide) (by decide) ?_
    show Steps p.tables e below (T9.setTop (mkF m 80 #[.val (.int p1), .val (.int p2), .val (.int ((p1 &&& (2147483647 : Int32)) % (7 : Int32))), .val (.int ((p2 &&& (2147483647 : Int32)) % (7 : Int32))), .val (.ref (P ((p1 &&& (2147483647 : Int32)) % (7 : Int32)))), .val (.ref (P ((p2 &&& (2147483647 : Int32)) % (7 : Int32)))), .val (.ref (P (own_s ((p1 &&& (2147483647 : Int32)) % (7 : Int32))))), .val (.ref (P (own_s ((p2 &&& (2147483647 : Int32)) % (7 : Int32))))), .val (.int (1 : Int32))] [])) _
    refine XS.iconst X9.here hx rfl (hb hby at_80) ?_
    show Steps p.tables e below (T9.setTop (mkF m 81 #[.val (.int p1), .val (.int p2), .val (.int ((p1 &&& (2147483647 : Int32)) % (7 : Int32))), .val (.int ((p2 &&& (2147483647 : Int32)) % (7 : Int32))), .val (.ref (P ((p1 &&& (2147483647 : Int32)) % (7 : Int32)))), .val (.ref (P ((p2 &&& (2147483647 : Int32)) % (7 : Int32)))), .val (.ref (P (own_s ((p1 &&& (2147483647 : Int32)) % (7 : Int32))))), .val (.ref (P (own_s ((p2 &&& (2147483647 : Int32)) % (7 : Int32))))), .val (.int (1 : Int32))] [(.int (1 : Int32))])) _
    refine XS.goto X9.here hx rfl (pc0 := 81) (pc' := 85) rfl (hb hby at_81) (by decide) (by decide) ?_
    show Steps p.tables e below (T9.setTop (mkF m 85 #[.val (.int p1), .val (.int p2), .val (.int ((p1 &&& (2147483647 : Int32)) % (7 : Int32))), .val (.int ((p2 &&& (2147483647 : Int32)) % (7 : Int32))), .val (.ref (P ((p1 &&& (2147483647 : Int32)) % (7 : Int32)))), .val (.ref (P ((p2 &&& (2147483647 : Int32)) % (7 : Int32)))), .val (.ref (P (own_s ((p1 &&& (2147483647 : Int32)) % (7 : Int32))))), .val (.ref (P (own_s ((p2 &&& (2147483647 : Int32)) % (7 : Int32))))), .val (.int (1 : Int32))] [(.int (1 : Int32))])) _
    refine XS.istore X9.here hx rfl (hb hby at_85) rfl (l' := #[.val (.int p1), .val (.int p2), .val (.int ((p1 &&& (2147483647 : Int32)) % (7 : Int32))), .val (.int ((p2 &&& (2147483647 : Int32)) % (7 : Int32))), .val (.ref (P ((p1 &&& (2147483647 : Int32)) % (7 : Int32)))), .val (.ref (P ((p2 &&& (2147483647 : Int32)) % (7 : Int32)))), .val (.ref (P (own_s ((p1 &&& (2147483647 : Int32)) % (7 : Int32))))), .val (.ref (P (own_s ((p2 &&& (2147483647 : Int32)) % (7 : Int32))))), .val (.int (1 : Int32))]) rfl ?_
    show Steps p.tables e below (T9.setTop (mkF m 87 #[.val (.int p1), .val (.int p2), .val (.int ((p1 &&& (2147483647 : Int32)) % (7 : Int32))), .val (.int ((p2 &&& (2147483647 : Int32)) % (7 : Int32))), .val (.ref (P ((p1 &&& (2147483647 : Int32)) % (7 : Int32)))), .val (.ref (P ((p2 &&& (2147483647 : Int32)) % (7 : Int32)))), .val (.ref (P (own_s ((p1 &&& (2147483647 : Int32)) % (7 : Int32))))), .val (.ref (P (own_s ((p2 &&& (2147483647 : Int32)) % (7 : Int32))))), .val (.int (1 : Int32))] [])) _
    refine XS.iload X9.here hx rfl (hb hby at_87) rfl ?_
    show Steps p.tables e below (T9.setTop (mkF m 89 #[.val (.int p1), .val (.int p2), .val (.int ((p1 &&& (2147483647 : Int32)) % (7 : Int32))), .val (.int ((p2 &&& (2147483647 : Int32)) % (7 : Int32))), .val (.ref (P ((p1 &&& (2147483647 : Int32)) % (7 : Int32)))), .val (.ref (P ((p2 &&& (2147483647 : Int32)) % (7 : Int32)))), .val (.ref (P (own_s ((p1 &&& (2147483647 : Int32)) % (7 : Int32))))), .val (.ref (P (own_s ((p2 &&& (2147483647 : Int32)) % (7 : Int32))))), .val (.int (1 : Int32))] [(.int (1 : Int32))])) _
    refine XS.ifNo X9.here hx rfl (hb hby at_89) rfl ((if0 _ _).trans (feq hc89).1) ?_
    show Steps p.tables e below (T9.setTop (mkF m 92 #[.val (.int p1), .val (.int p2), .val (.int ((p1 &&& (2147483647 : Int32)) % (7 : Int32))), .val (.int ((p2 &&& (2147483647 : Int32)) % (7 : Int32))), .val (.ref (P ((p1 &&& (2147483647 : Int32)) % (7 : Int32)))), .val (.ref (P ((p2 &&& (2147483647 : Int32)) % (7 : Int32)))), .val (.ref (P (own_s ((p1 &&& (2147483647 : Int32)) % (7 : Int32))))), .val (.ref (P (own_s ((p2 &&& (2147483647 : Int32)) % (7 : Int32))))), .val (.int (1 : Int32))] [])) _
    refine XS.iloadN X9.here hx rfl (hb hby at_92) rfl ?_
    show Steps p.tables e below (T9.setTop (mkF m 93 #[.val (.int p1), .val (.int p2), .val (.int ((p1 &&& (2147483647 : Int32)) % (7 : Int32))), .val (.int ((p2 &&& (2147483647 : Int32)) % (7 : Int32))), .val (.ref (P ((p1 &&& (2147483647 : Int32)) % (7 : Int32)))), .val (.ref (P ((p2 &&& (2147483647 : Int32)) % (7 : Int32)))), .val (.ref (P (own_s ((p1 &&& (2147483647 : Int32)) % (7 : Int32))))), .val (.ref (P (own_s ((p2 &&& (2147483647 : Int32)) % (7 : Int32))))), .val (.int (1 : Int32))] [(.int ((p1 &&& (2147483647 : Int32)) % (7 : Int32)))])) _
    refine XS.bipush X9.here hx rfl (hb hby at_93) ?_
    show Steps p.tables e below (T9.setTop (mkF m 95 #[.val (.int p1), .val (.int p2), .val (.int ((p1 &&& (2147483647 : Int32)) % (7 : Int32))), .val (.int ((p2 &&& (2147483647 : Int32)) % (7 : Int32))), .val (.ref (P ((p1 &&& (2147483647 : Int32)) % (7 : Int32)))), .val (.ref (P ((p2 &&& (2147483647 : Int32)) % (7 : Int32)))), .val (.ref (P (own_s ((p1 &&& (2147483647 : Int32)) % (7 : Int32))))), .val (.ref (P (own_s ((p2 &&& (2147483647 : Int32)) % (7 : Int32))))), .val (.int (1 : Int32))] [(.int (6 : Int32)), (.int ((p1 &&& (2147483647 : Int32)) % (7 : Int32)))])) _
    refine XS.icmpNo X9.here hx rfl (hb hby at_95) rfl (feq hc95).1 ?_
    show Steps p.tables e below (T9.setTop (mkF m 98 #[.val (.int p1), .val (.int p2), .val (.int ((p1 &&& (2147483647 : Int32)) % (7 : Int32))), .val (.int ((p2 &&& (2147483647 : Int32)) % (7 : Int32))), .val (.ref (P ((p1 &&& (2147483647 : Int32)) % (7 : Int32)))), .val (.ref (P ((p2 &&& (2147483647 : Int32)) % (7 : Int32)))), .val (.ref (P (own_s ((p1 &&& (2147483647 : Int32)) % (7 : Int32))))), .val (.ref (P (own_s ((p2 &&& (2147483647 : Int32)) % (7 : Int32))))), .val (.int (1 : Int32))] [])) _
    refine XS.aload X9.here hx rfl (hb hby at_98) rfl rfl ?_
    show Steps p.tables e below (T9.setTop (mkF m 100 #[.val (.int p1), .val (.int p2), .val (.int ((p1 &&& (2147483647 : Int32)) % (7 : Int32))), .val (.int ((p2 &&& (2147483647 : Int32)) % (7 : Int32))), .val (.ref (P ((p1 &&& (2147483647 : Int32)) % (7 : Int32)))), .val (.ref (P ((p2 &&& (2147483647 : Int32)) % (7 : Int32)))), .val (.ref (P (own_s ((p1 &&& (2147483647 : Int32)) % (7 : Int32))))), .val (.ref (P (own_s ((p2 &&& (2147483647 : Int32)) % (7 : Int32))))), .val (.int (1 : Int32))] [(.ref (P (own_s ((p1 &&& (2147483647 : Int32)) % (7 : Int32)))))])) _
    refine XS.aload X9.here hx rfl (hb hby at_100) rfl rfl ?_
    show Steps p.tables e below (T9.setTop (mkF m 102 #[.val (.int p1), .val (.int p2), .val (.int ((p1 &&& (2147483647 : Int32)) % (7 : Int32))), .val (.int ((p2 &&& (2147483647 : Int32)) % (7 : Int32))), .val (.ref (P ((p1 &&& (2147483647 : Int32)) % (7 : Int32)))), .val (.ref (P ((p2 &&& (2147483647 : Int32)) % (7 : Int32)))), .val (.ref (P (own_s ((p1 &&& (2147483647 : Int32)) % (7 : Int32))))), .val (.ref (P (own_s ((p2 &&& (2147483647 : Int32)) % (7 : Int32))))), .val (.int (1 : Int32))] [(.ref (P ((p1 &&& (2147483647 : Int32)) % (7 : Int32)))), (.ref (P (own_s ((p1 &&& (2147483647 : Int32)) % (7 : Int32)))))])) _
    refine Jvm.RoadKit.acmp (g := (mkF m 102 #[.val (.int p1), .val (.int p2), .val (.int ((p1 &&& (2147483647 : Int32)) % (7 : Int32))), .val (.int ((p2 &&& (2147483647 : Int32)) % (7 : Int32))), .val (.ref (P ((p1 &&& (2147483647 : Int32)) % (7 : Int32)))), .val (.ref (P ((p2 &&& (2147483647 : Int32)) % (7 : Int32)))), .val (.ref (P (own_s ((p1 &&& (2147483647 : Int32)) % (7 : Int32))))), .val (.ref (P (own_s ((p2 &&& (2147483647 : Int32)) % (7 : Int32))))), .val (.int (1 : Int32))] [(.ref (P ((p1 &&& (2147483647 : Int32)) % (7 : Int32)))), (.ref (P (own_s ((p1 &&& (2147483647 : Int32)) % (7 : Int32)))))])) X9 hx rfl rfl rfl (pc0 := 102) (pc' := 105) (same := true) rfl (hb hby at_102) rfl (decide_eq_true (congrArg Value.ref ha102)) (by decide) (by decide) ?_
    show Steps p.tables e below (T9.setTop (mkF m 105 #[.val (.int p1), .val (.int p2), .val (.int ((p1 &&& (2147483647 : Int32)) % (7 : Int32))), .val (.int ((p2 &&& (2147483647 : Int32)) % (7 : Int32))), .val (.ref (P ((p1 &&& (2147483647 : Int32)) % (7 : Int32)))), .val (.ref (P ((p2 &&& (2147483647 : Int32)) % (7 : Int32)))), .val (.ref (P (own_s ((p1 &&& (2147483647 : Int32)) % (7 : Int32))))), .val (.ref (P (own_s ((p2 &&& (2147483647 : Int32)) % (7 : Int32))))), .val (.int (1 : Int32))] [])) _
    refine XS.iconst X9.here hx rfl (hb hby at_105) ?_
    show Steps p.tables e below (T9.setTop (mkF m 106 #[.val (.int p1), .val (.int p2), .val (.int ((p1 &&& (2147483647 : Int32)) % (7 : Int32))), .val (.int ((p2 &&& (2147483647 : Int32)) % (7 : Int32))), .val (.ref (P ((p1 &&& (2147483647 : Int32)) % (7 : Int32)))), .val (.ref (P ((p2 &&& (2147483647 : Int32)) % (7 : Int32)))), .val (.ref (P (own_s ((p1 &&& (2147483647 : Int32)) % (7 : Int32))))), .val (.ref (P (own_s ((p2 &&& (2147483647 : Int32)) % (7 : Int32))))), .val (.int (1 : Int32))] [(.int (1 : Int32))])) _
    refine XS.goto X9.here hx rfl (pc0 := 106) (pc' := 110) rfl (hb hby at_106) (by decide) (by decide) ?_
    show Steps p.tables e below (T9.setTop (mkF m 110 #[.val (.int p1), .val (.int p2), .val (.int ((p1 &&& (2147483647 : Int32)) % (7 : Int32))), .val (.int ((p2 &&& (2147483647 : Int32)) % (7 : Int32))), .val (.ref (P ((p1 &&& (2147483647 : Int32)) % (7 : Int32)))), .val (.ref (P ((p2 &&& (2147483647 : Int32)) % (7 : Int32)))), .val (.ref (P (own_s ((p1 &&& (2147483647 : Int32)) % (7 : Int32))))), .val (.ref (P (own_s ((p2 &&& (2147483647 : Int32)) % (7 : Int32))))), .val (.int (1 : Int32))] [(.int (1 : Int32))])) _
    refine XS.istore X9.here hx rfl (hb hby at_110) rfl (l' := #[.val (.int p1), .val (.int p2), .val (.int ((p1 &&& (2147483647 : Int32)) % (7 : Int32))), .val (.int ((p2 &&& (2147483647 : Int32)) % (7 : Int32))), .val (.ref (P ((p1 &&& (2147483647 : Int32)) % (7 : Int32)))), .val (.ref (P ((p2 &&& (2147483647 : Int32)) % (7 : Int32)))), .val (.ref (P (own_s ((p1 &&& (2147483647 : Int32)) % (7 : Int32))))), .val (.ref (P (own_s ((p2 &&& (2147483647 : Int32)) % (7 : Int32))))), .val (.int (1 : Int32))]) rfl ?_
    show Steps p.tables e below (T9.setTop (mkF m 112 #[.val (.int p1), .val (.int p2), .val (.int ((p1 &&& (2147483647 : Int32)) % (7 : Int32))), .val (.int ((p2 &&& (2147483647 : Int32)) % (7 : Int32))), .val (.ref (P ((p1 &&& (2147483647 : Int32)) % (7 : Int32)))), .val (.ref (P ((p2 &&& (2147483647 : Int32)) % (7 : Int32)))), .val (.ref (P (own_s ((p1 &&& (2147483647 : Int32)) % (7 : Int32))))), .val (.ref (P (own_s ((p2 &&& (2147483647 : Int32)) % (7 : Int32))))), .val (.int (1 : Int32))] [])) _
    refine XS.iload X9.here hx rfl (hb hby at_112) rfl ?_
    show Steps p.tables e below (T9.setTop (mkF m 114 #[.val (.int p1), .val (.int p2), .val (.int ((p1 &&& (2147483647 : Int32)) % (7 : Int32))), .val (.int ((p2 &&& (2147483647 : Int32)) % (7 : Int32))), .val (.ref (P ((p1 &&& (2147483647 : Int32)) % (7 : Int32)))), .val (.ref (P ((p2 &&& (2147483647 : Int32)) % (7 : Int32)))), .val (.ref (P (own_s ((p1 &&& (2147483647 : Int32)) % (7 : Int32))))), .val (.ref (P (own_s ((p2 &&& (2147483647 : Int32)) % (7 : Int32))))), .val (.int (1 : Int32))] [(.int (1 : Int32))])) _
    refine XS.ifNo X9.here hx rfl (hb hby at_114) rfl ((if0 _ _).trans (feq hc114).1) ?_
    show Steps p.tables e below (T9.setTop (mkF m 117 #[.val (.int p1), .val (.int p2), .val (.int ((p1 &&& (2147483647 : Int32)) % (7 : Int32))), .val (.int ((p2 &&& (2147483647 : Int32)) % (7 : Int32))), .val (.ref (P ((p1 &&& (2147483647 : Int32)) % (7 : Int32)))), .val (.ref (P ((p2 &&& (2147483647 : Int32)) % (7 : Int32)))), .val (.ref (P (own_s ((p1 &&& (2147483647 : Int32)) % (7 : Int32))))), .val (.ref (P (own_s ((p2 &&& (2147483647 : Int32)) % (7 : Int32))))), .val (.int (1 : Int32))] [])) _
    refine XS.iloadN X9.here hx rfl (hb hby at_117) rfl ?_
    show Steps p.tables e below (T9.setTop (mkF m 118 #[.val (.int p1), .val (.int p2), .val (.int ((p1 &&& (2147483647 : Int32)) % (7 : Int32))), .val (.int ((p2 &&& (2147483647 : Int32)) % (7 : Int32))), .val (.ref (P ((p1 &&& (2147483647 : Int32)) % (7 : Int32)))), .val (.ref (P ((p2 &&& (2147483647 : Int32)) % (7 : Int32)))), .val (.ref (P (own_s ((p1 &&& (2147483647 : Int32)) % (7 : Int32))))), .val (.ref (P (own_s ((p2 &&& (2147483647 : Int32)) % (7 : Int32))))), .val (.int (1 : Int32))] [(.int ((p2 &&& (2147483647 : Int32)) % (7 : Int32)))])) _
    refine XS.bipush X9.here hx rfl (hb hby at_118) ?_
    show Steps p.tables e below (T9.setTop (mkF m 120 #[.val (.int p1), .val (.int p2), .val (.int ((p1 &&& (2147483647 : Int32)) % (7 : Int32))), .val (.int ((p2 &&& (2147483647 : Int32)) % (7 : Int32))), .val (.ref (P ((p1 &&& (2147483647 : Int32)) % (7 : Int32)))), .val (.ref (P ((p2 &&& (2147483647 : Int32)) % (7 : Int32)))), .val (.ref (P (own_s ((p1 &&& (2147483647 : Int32)) % (7 : Int32))))), .val (.ref (P (own_s ((p2 &&& (2147483647 : Int32)) % (7 : Int32))))), .val (.int (1 : Int32))] [(.int (6 : Int32)), (.int ((p2 &&& (2147483647 : Int32)) % (7 : Int32)))])) _
    refine XS.icmpNo X9.here hx rfl (hb hby at_120) rfl (feq hc120).1 ?_
    show Steps p.tables e below (T9.setTop (mkF m 123 #[.val (.int p1), .val (.int p2), .val (.int ((p1 &&& (2147483647 : Int32)) % (7 : Int32))), .val (.int ((p2 &&& (2147483647 : Int32)) % (7 : Int32))), .val (.ref (P ((p1 &&& (2147483647 : Int32)) % (7 : Int32)))), .val (.ref (P ((p2 &&& (2147483647 : Int32)) % (7 : Int32)))), .val (.ref (P (own_s ((p1 &&& (2147483647 : Int32)) % (7 : Int32))))), .val (.ref (P (own_s ((p2 &&& (2147483647 : Int32)) % (7 : Int32))))), .val (.int (1 : Int32))] [])) _
    refine XS.aload X9.here hx rfl (hb hby at_123) rfl rfl ?_
    show Steps p.tables e below (T9.setTop (mkF m 125 #[.val (.int p1), .val (.int p2), .val (.int ((p1 &&& (2147483647 : Int32)) % (7 : Int32))), .val (.int ((p2 &&& (2147483647 : Int32)) % (7 : Int32))), .val (.ref (P ((p1 &&& (2147483647 : Int32)) % (7 : Int32)))), .val (.ref (P ((p2 &&& (2147483647 : Int32)) % (7 : Int32)))), .val (.ref (P (own_s ((p1 &&& (2147483647 : Int32)) % (7 : Int32))))), .val (.ref (P (own_s ((p2 &&& (2147483647 : Int32)) % (7 : Int32))))), .val (.int (1 : Int32))] [(.ref (P (own_s ((p2 &&& (2147483647 : Int32)) % (7 : Int32)))))])) _
    refine XS.aload X9.here hx rfl (hb hby at_125) rfl rfl ?_
    show Steps p.tables e below (T9.setTop (mkF m 127 #[.val (.int p1), .val (.int p2), .val (.int ((p1 &&& (2147483647 : Int32)) % (7 : Int32))), .val (.int ((p2 &&& (2147483647 : Int32)) % (7 : Int32))), .val (.ref (P ((p1 &&& (2147483647 : Int32)) % (7 : Int32)))), .val (.ref (P ((p2 &&& (2147483647 : Int32)) % (7 : Int32)))), .val (.ref (P (own_s ((p1 &&& (2147483647 : Int32)) % (7 : Int32))))), .val (.ref (P (own_s ((p2 &&& (2147483647 : Int32)) % (7 : Int32))))), .val (.int (1 : Int32))] [(.ref (P ((p2 &&& (2147483647 : Int32)) % (7 : Int32)))), (.ref (P (own_s ((p2 &&& (2147483647 : Int32)) % (7 : Int32)))))])) _
    refine Jvm.RoadKit.acmp (g := (mkF m 127 #[.val (.int p1), .val (.int p2), .val (.int ((p1 &&& (2147483647 : Int32)) % (7 : Int32))), .val (.int ((p2 &&& (2147483647 : Int32)) % (7 : Int32))), .val (.ref (P ((p1 &&& (2147483647 : Int32)) % (7 : Int32)))), .val (.ref (P ((p2 &&& (2147483647 : Int32)) % (7 : Int32)))), .val (.ref (P (own_s ((p1 &&& (2147483647 : Int32)) % (7 : Int32))))), .val (.ref (P (own_s ((p2 &&& (2147483647 : Int32)) % (7 : Int32))))), .val (.int (1 : Int32))] [(.ref (P ((p2 &&& (2147483647 : Int32)) % (7 : Int32)))), (.ref (P (own_s ((p2 &&& (2147483647 : Int32)) % (7 : Int32)))))])) X9 hx rfl rfl rfl (pc0 := 127) (pc' := 130) (same := true) rfl (hb hby at_127) rfl (decide_eq_true (congrArg Value.ref ha127)) (by decide) (by decide) ?_
    show Steps p.tables e below (T9.setTop (mkF m 130 #[.val (.int p1), .val (.int p2), .val (.int ((p1 &&& (2147483647 : Int32)) % (7 : Int32))), .val (.int ((p2 &&& (2147483647 : Int32)) % (7 : Int32))), .val (.ref (P ((p1 &&& (2147483647 : Int32)) % (7 : Int32)))), .val (.ref (P ((p2 &&& (2147483647 : Int32)) % (7 : Int32)))), .val (.ref (P (own_s ((p1 &&& (2147483647 : Int32)) % (7 : Int32))))), .val (.ref (P (own_s ((p2 &&& (2147483647 : Int32)) % (7 : Int32))))), .val (.int (1 : Int32))] [])) _
    refine XS.iconst X9.here hx rfl (hb hby at_130) ?_
    show Steps p.tables e below (T9.setTop (mkF m 131 #[.val (.int p1), .val (.int p2), .val (.int ((p1 &&& (2147483647 : Int32)) % (7 : Int32))), .val (.int ((p2 &&& (2147483647 : Int32)) % (7 : Int32))), .val (.ref (P ((p1 &&& (2147483647 : Int32)) % (7 : Int32)))), .val (.ref (P ((p2 &&& (2147483647 : Int32)) % (7 : Int32)))), .val (.ref (P (own_s ((p1 &&& (2147483647 : Int32)) % (7 : Int32))))), .val (.ref (P (own_s ((p2 &&& (2147483647 : Int32)) % (7 : Int32))))), .val (.int (1 : Int32))] [(.int (1 : Int32))])) _
    refine XS.goto X9.here hx rfl (pc0 := 131) (pc' := 135) rfl (hb hby at_131) (by decide) (by decide) ?_
    show Steps p.tables e below (T9.setTop (mkF m 135 #[.val (.int p1), .val (.int p2), .val (.int ((p1 &&& (2147483647 : Int32)) % (7 : Int32))), .val (.int ((p2 &&& (2147483647 : Int32)) % (7 : Int32))), .val (.ref (P ((p1 &&& (2147483647 : Int32)) % (7 : Int32)))), .val (.ref (P ((p2 &&& (2147483647 : Int32)) % (7 : Int32)))), .val (.ref (P (own_s ((p1 &&& (2147483647 : Int32)) % (7 : Int32))))), .val (.ref (P (own_s ((p2 &&& (2147483647 : Int32)) % (7 : Int32))))), .val (.int (1 : Int32))] [(.int (1 : Int32))])) _
    refine XS.istore X9.here hx rfl (hb hby at_135) rfl (l' := #[.val (.int p1), .val (.int p2), .val (.int ((p1 &&& (2147483647 : Int32)) % (7 : Int32))), .val (.int ((p2 &&& (2147483647 : Int32)) % (7 : Int32))), .val (.ref (P ((p1 &&& (2147483647 : Int32)) % (7 : Int32)))), .val (.ref (P ((p2 &&& (2147483647 : Int32)) % (7 : Int32)))), .val (.ref (P (own_s ((p1 &&& (2147483647 : Int32)) % (7 : Int32))))), .val (.ref (P (own_s ((p2 &&& (2147483647 : Int32)) % (7 : Int32))))), .val (.int (1 : Int32))]) rfl ?_
    show Steps p.tables e below (T9.setTop (mkF m 137 #[.val (.int p1), .val (.int p2), .val (.int ((p1 &&& (2147483647 : Int32)) % (7 : Int32))), .val (.int ((p2 &&& (2147483647 : Int32)) % (7 : Int32))), .val (.ref (P ((p1 &&& (2147483647 : Int32)) % (7 : Int32)))), .val (.ref (P ((p2 &&& (2147483647 : Int32)) % (7 : Int32)))), .val (.ref (P (own_s ((p1 &&& (2147483647 : Int32)) % (7 : Int32))))), .val (.ref (P (own_s ((p2 &&& (2147483647 : Int32)) % (7 : Int32))))), .val (.int (1 : Int32))] [])) _
    refine XS.iload X9.here hx rfl (hb hby at_137) rfl ?_
    show Steps p.tables e below (T9.setTop (mkF m 139 #[.val (.int p1), .val (.int p2), .val (.int ((p1 &&& (2147483647 : Int32)) % (7 : Int32))), .val (.int ((p2 &&& (2147483647 : Int32)) % (7 : Int32))), .val (.ref (P ((p1 &&& (2147483647 : Int32)) % (7 : Int32)))), .val (.ref (P ((p2 &&& (2147483647 : Int32)) % (7 : Int32)))), .val (.ref (P (own_s ((p1 &&& (2147483647 : Int32)) % (7 : Int32))))), .val (.ref (P (own_s ((p2 &&& (2147483647 : Int32)) % (7 : Int32))))), .val (.int (1 : Int32))] [(.int (1 : Int32))])) _
    refine XS.ifNo X9.here hx rfl (hb hby at_139) rfl ((if0 _ _).trans (feq hc139).1) ?_
    show Steps p.tables e below (T9.setTop (mkF m 142 #[.val (.int p1), .val (.int p2), .val (.int ((p1 &&& (2147483647 : Int32)) % (7 : Int32))), .val (.int ((p2 &&& (2147483647 : Int32)) % (7 : Int32))), .val (.ref (P ((p1 &&& (2147483647 : Int32)) % (7 : Int32)))), .val (.ref (P ((p2 &&& (2147483647 : Int32)) % (7 : Int32)))), .val (.ref (P (own_s ((p1 &&& (2147483647 : Int32)) % (7 : Int32))))), .val (.ref (P (own_s ((p2 &&& (2147483647 : Int32)) % (7 : Int32))))), .val (.int (1 : Int32))] [])) _
    refine XS.aload X9.here hx rfl (hb hby at_142) rfl rfl ?_
    show Steps p.tables e below (T9.setTop (mkF m 144 #[.val (.int p1), .val (.int p2), .val (.int ((p1 &&& (2147483647 : Int32)) % (7 : Int32))), .val (.int ((p2 &&& (2147483647 : Int32)) % (7 : Int32))), .val (.ref (P ((p1 &&& (2147483647 : Int32)) % (7 : Int32)))), .val (.ref (P ((p2 &&& (2147483647 : Int32)) % (7 : Int32)))), .val (.ref (P (own_s ((p1 &&& (2147483647 : Int32)) % (7 : Int32))))), .val (.ref (P (own_s ((p2 &&& (2147483647 : Int32)) % (7 : Int32))))), .val (.int (1 : Int32))] [(.ref (P (own_s ((p1 &&& (2147483647 : Int32)) % (7 : Int32)))))])) _
    refine st10 _ ?_
    show Steps p.tables e below (T10.setTop (mkF m 147 #[.val (.int p1), .val (.int p2), .val (.int ((p1 &&& (2147483647 : Int32)) % (7 : Int32))), .val (.int ((p2 &&& (2147483647 : Int32)) % (7 : Int32))), .val (.ref (P ((p1 &&& (2147483647 : Int32)) % (7 : Int32)))), .val (.ref (P ((p2 &&& (2147483647 : Int32)) % (7 : Int32)))), .val (.ref (P (own_s ((p1 &&& (2147483647 : Int32)) % (7 : Int32))))), .val (.ref (P (own_s ((p2 &&& (2147483647 : Int32)) % (7 : Int32))))), .val (.int (1 : Int32))] [(.ref (P (own_s (own_s ((p1 &&& (2147483647 : Int32)) % (7 : Int32))))))])) _
    refine XS.aload X10.here hx rfl (hb hby at_147) rfl rfl ?_
    show Steps p.tables e below (T10.setTop (mkF m 149 #[.val (.int p1), .val (.int p2), .val (.int ((p1 &&& (2147483647 : Int32)) % (7 : Int32))), .val (.int ((p2 &&& (2147483647 : Int32)) % (7 : Int32))), .val (.ref (P ((p1 &&& (2147483647 : Int32)) % (7 : Int32)))), .val (.ref (P ((p2 &&& (2147483647 : Int32)) % (7 : Int32)))), .val (.ref (P (own_s ((p1 &&& (2147483647 : Int32)) % (7 : Int32))))), .val (.ref (P (own_s ((p2 &&& (2147483647 : Int32)) % (7 : Int32))))), .val (.int (1 : Int32))] [(.ref (P (own_s ((p1 &&& (2147483647 : Int32)) % (7 : Int32))))), (.ref (P (own_s (own_s ((p1 &&& (2147483647 : Int32)) % (7 : Int32))))))])) _
    refine Jvm.RoadKit.acmp (g := (mkF m 149 #[.val (.int p1), .val (.int p2), .val (.int ((p1 &&& (2147483647 : Int32)) % (7 : Int32))), .val (.int ((p2 &&& (2147483647 : Int32)) % (7 : Int32))), .val (.ref (P ((p1 &&& (2147483647 : Int32)) % (7 : Int32)))), .val (.ref (P ((p2 &&& (2147483647 : Int32)) % (7 : Int32)))), .val (.ref (P (own_s ((p1 &&& (2147483647 : Int32)) % (7 : Int32))))), .val (.ref (P (own_s ((p2 &&& (2147483647 : Int32)) % (7 : Int32))))), .val (.int (1 : Int32))] [(.ref (P (own_s ((p1 &&& (2147483647 : Int32)) % (7 : Int32))))), (.ref (P (own_s (own_s ((p1 &&& (2147483647 : Int32)) % (7 : Int32))))))])) X10 hx rfl rfl rfl (pc0 := 149) (pc' := 152) (same := true) rfl (hb hby at_149) rfl (decide_eq_true (congrArg Value.ref ha149)) (by decide) (by decide) ?_
    show Steps p.tables e below (T10.setTop (mkF m 152 #[.val (.int p1), .val (.int p2), .val (.int ((p1 &&& (2147483647 : Int32)) % (7 : Int32))), .val (.int ((p2 &&& (2147483647 : Int32)) % (7 : Int32))), .val (.ref (P ((p1 &&& (2147483647 : Int32)) % (7 : Int32)))), .val (.ref (P ((p2 &&& (2147483647 : Int32)) % (7 : Int32)))), .val (.ref (P (own_s ((p1 &&& (2147483647 : Int32)) % (7 : Int32))))), .val (.ref (P (own_s ((p2 &&& (2147483647 : Int32)) % (7 : Int32))))), .val (.int (1 : Int32))] [])) _
    refine XS.iconst X10.here hx rfl (hb hby at_152) ?_
    show Steps p.tables e below (T10.setTop (mkF m 153 #[.val (.int p1), .val (.int p2), .val (.int ((p1 &&& (2147483647 : Int32)) % (7 : Int32))), .val (.int ((p2 &&& (2147483647 : Int32)) % (7 : Int32))), .val (.ref (P ((p1 &&& (2147483647 : Int32)) % (7 : Int32)))), .val (.ref (P ((p2 &&& (2147483647 : Int32)) % (7 : Int32)))), .val (.ref (P (own_s ((p1 &&& (2147483647 : Int32)) % (7 : Int32))))), .val (.ref (P (own_s ((p2 &&& (2147483647 : Int32)) % (7 : Int32))))), .val (.int (1 : Int32))] [(.int (1 : Int32))])) _
    refine XS.goto X10.here hx rfl (pc0 := 153) (pc' := 157) rfl (hb hby at_153) (by decide) (by decide) ?_
    show Steps p.tables e below (T10.setTop (mkF m 157 #[.val (.int p1), .val (.int p2), .val (.int ((p1 &&& (2147483647 : Int32)) % (7 : Int32))), .val (.int ((p2 &&& (2147483647 : Int32)) % (7 : Int32))), .val (.ref (P ((p1 &&& (2147483647 : Int32)) % (7 : Int32)))), .val (.ref (P ((p2 &&& (2147483647 : Int32)) % (7 : Int32)))), .val (.ref (P (own_s ((p1 &&& (2147483647 : Int32)) % (7 : Int32))))), .val (.ref (P (own_s ((p2 &&& (2147483647 : Int32)) % (7 : Int32))))), .val (.int (1 : Int32))] [(.int (1 : Int32))])) _
    refine XS.istore X10.here hx rfl (hb hby at_157) rfl (l' := #[.val (.int p1), .val (.int p2), .val (.int ((p1 &&& (2147483647 : Int32)) % (7 : Int32))), .val (.int ((p2 &&& (2147483647 : Int32)) % (7 : Int32))), .val (.ref (P ((p1 &&& (2147483647 : Int32)) % (7 : Int32)))), .val (.ref (P ((p2 &&& (2147483647 : Int32)) % (7 : Int32)))), .val (.ref (P (own_s ((p1 &&& (2147483647 : Int32)) % (7 : Int32))))), .val (.ref (P (own_s ((p2 &&& (2147483647 : Int32)) % (7 : Int32))))), .val (.int (1 : Int32))]) rfl ?_
    show Steps p.tables e below (T10.setTop (mkF m 159 #[.val (.int p1), .val (.int p2), .val (.int ((p1 &&& (2147483647 : Int32)) % (7 : Int32))), .val (.int ((p2 &&& (2147483647 : Int32)) % (7 : Int32))), .val (.ref (P ((p1 &&& (2147483647 : Int32)) % (7 : Int32)))), .val (.ref (P ((p2 &&& (2147483647 : Int32)) % (7 : Int32)))), .val (.ref (P (own_s ((p1 &&& (2147483647 : Int32)) % (7 : Int32))))), .val (.ref (P (own_s ((p2 &&& (2147483647 : Int32)) % (7 : Int32))))), .val (.int (1 : Int32))] [])) _
    refine XS.iload X10.here hx rfl (hb hby at_159) rfl ?_
    show Steps p.tables e below (T10.setTop (mkF m 161 #[.val (.int p1), .val (.int p2), .val (.int ((p1 &&& (2147483647 : Int32)) % (7 : Int32))), .val (.int ((p2 &&& (2147483647 : Int32)) % (7 : Int32))), .val (.ref (P ((p1 &&& (2147483647 : Int32)) % (7 : Int32)))), .val (.ref (P ((p2 &&& (2147483647 : Int32)) % (7 : Int32)))), .val (.ref (P (own_s ((p1 &&& (2147483647 : Int32)) % (7 : Int32))))), .val (.ref (P (own_s ((p2 &&& (2147483647 : Int32)) % (7 : Int32))))), .val (.int (1 : Int32))] [(.int (1 : Int32))])) _
    refine XS.ifNo X10.here hx rfl (hb hby at_161) rfl ((if0 _ _).trans (feq hc161).1) ?_
    show Steps p.tables e below (T10.setTop (mkF m 164 #[.val (.int p1), .val (.int p2), .val (.int ((p1 &&& (2147483647 : Int32)) % (7 : Int32))), .val (.int ((p2 &&& (2147483647 : Int32)) % (7 : Int32))), .val (.ref (P ((p1 &&& (2147483647 : Int32)) % (7 : Int32)))), .val (.ref (P ((p2 &&& (2147483647 : Int32)) % (7 : Int32)))), .val (.ref (P (own_s ((p1 &&& (2147483647 : Int32)) % (7 : Int32))))), .val (.ref (P (own_s ((p2 &&& (2147483647 : Int32)) % (7 : Int32))))), .val (.int (1 : Int32))] [])) _
    refine XS.iloadN X10.here hx rfl (hb hby at_164) rfl ?_
    show Steps p.tables e below (T10.setTop (mkF m 165 #[.val (.int p1), .val (.int p2), .val (.int ((p1 &&& (2147483647 : Int32)) % (7 : Int32))), .val (.int ((p2 &&& (2147483647 : Int32)) % (7 : Int32))), .val (.ref (P ((p1 &&& (2147483647 : Int32)) % (7 : Int32)))), .val (.ref (P ((p2 &&& (2147483647 : Int32)) % (7 : Int32)))), .val (.ref (P (own_s ((p1 &&& (2147483647 : Int32)) % (7 : Int32))))), .val (.ref (P (own_s ((p2 &&& (2147483647 : Int32)) % (7 : Int32))))), .val (.int (1 : Int32))] [(.int ((p1 &&& (2147483647 : Int32)) % (7 : Int32)))])) _
    refine XS.bipush X10.here hx rfl (hb hby at_165) ?_
    show Steps p.tables e below (T10.setTop (mkF m 167 #[.val (.int p1), .val (.int p2), .val (.int ((p1 &&& (2147483647 : Int32)) % (7 : Int32))), .val (.int ((p2 &&& (2147483647 : Int32)) % (7 : Int32))), .val (.ref (P ((p1 &&& (2147483647 : Int32)) % (7 : Int32)))), .val (.ref (P ((p2 &&& (2147483647 : Int32)) % (7 : Int32)))), .val (.ref (P (own_s ((p1 &&& (2147483647 : Int32)) % (7 : Int32))))), .val (.ref (P (own_s ((p2 &&& (2147483647 : Int32)) % (7 : Int32))))), .val (.int (1 : Int32))] [(.int (6 : Int32)), (.int ((p1 &&& (2147483647 : Int32)) % (7 : Int32)))])) _
    refine XS.icmpYes X10.here hx rfl (pc0 := 167) (pc' := 181) rfl (hb hby at_167) rfl (feq hc167).2 (by decide) (by decide) ?_
    show Steps p.tables e below (T10.setTop (mkF m 181 #[.val (.int p1), .val (.int p2), .val (.int ((p1 &&& (2147483647 : Int32)) % (7 : Int32))), .val (.int ((p2 &&& (2147483647 : Int32)) % (7 : Int32))), .val (.ref (P ((p1 &&& (2147483647 : Int32)) % (7 : Int32)))), .val (.ref (P ((p2 &&& (2147483647 : Int32)) % (7 : Int32)))), .val (.ref (P (own_s ((p1 &&& (2147483647 : Int32)) % (7 : Int32))))), .val (.ref (P (own_s ((p2 &&& (2147483647 : Int32)) % (7 : Int32))))), .val (.int (1 : Int32))] [])) _
    refine XS.iconst X10.here hx rfl (hb hby at_181) ?_
    show Steps p.tables e below (T10.setTop (mkF m 182 #[.val (.int p1), .val (.int p2), .val (.int ((p1 &&& (2147483647 : Int32)) % (7 : Int32))), .val (.int ((p2 &&& (2147483647 : Int32)) % (7 : Int32))), .val (.ref (P ((p1 &&& (2147483647 : Int32)) % (7 : Int32)))), .val (.ref (P ((p2 &&& (2147483647 : Int32)) % (7 : Int32)))), .val (.ref (P (own_s ((p1 &&& (2147483647 : Int32)) % (7 : Int32))))), .val (.ref (P (own_s ((p2 &&& (2147483647 : Int32)) % (7 : Int32))))), .val (.int (1 : Int32))] [(.int (1 : Int32))])) _
    refine XS.goto X10.here hx rfl (pc0 := 182) (pc' := 186) rfl (hb hby at_182) (by decide) (by decide) ?_
    show Steps p.tables e below (T10.setTop (mkF m 186 #[.val (.int p1), .val (.int p2), .val (.int ((p1 &&& (2147483647 : Int32)) % (7 : Int32))), .val (.int ((p2 &&& (2147483647 : Int32)) % (7 : Int32))), .val (.ref (P ((p1 &&& (2147483647 : Int32)) % (7 : Int32)))), .val (.ref (P ((p2 &&& (2147483647 : Int32)) % (7 : Int32)))), .val (.ref (P (own_s ((p1 &&& (2147483647 : Int32)) % (7 : Int32))))), .val (.ref (P (own_s ((p2 &&& (2147483647 : Int32)) % (7 : Int32))))), .val (.int (1 : Int32))] [(.int (1 : Int32))])) _
    refine XS.istore X10.here hx rfl (hb hby at_186) rfl (l' := #[.val (.int p1), .val (.int p2), .val (.int ((p1 &&& (2147483647 : Int32)) % (7 : Int32))), .val (.int ((p2 &&& (2147483647 : Int32)) % (7 : Int32))), .val (.ref (P ((p1 &&& (2147483647 : Int32)) % (7 : Int32)))), .val (.ref (P ((p2 &&& (2147483647 : Int32)) % (7 : Int32)))), .val (.ref (P (own_s ((p1 &&& (2147483647 : Int32)) % (7 : Int32))))), .val (.ref (P (own_s ((p2 &&& (2147483647 : Int32)) % (7 : Int32))))), .val (.int (1 : Int32))]) rfl ?_
    show Steps p.tables e below (T10.setTop (mkF m 188 #[.val (.int p1), .val (.int p2), .val (.int ((p1 &&& (2147483647 : Int32)) % (7 : Int32))), .val (.int ((p2 &&& (2147483647 : Int32)) % (7 : Int32))), .val (.ref (P ((p1 &&& (2147483647 : Int32)) % (7 : Int32)))), .val (.ref (P ((p2 &&& (2147483647 : Int32)) % (7 : Int32)))), .val (.ref (P (own_s ((p1 &&& (2147483647 : Int32)) % (7 : Int32))))), .val (.ref (P (own_s ((p2 &&& (2147483647 : Int32)) % (7 : Int32))))), .val (.int (1 : Int32))] [])) _
    refine XS.iload X10.here hx rfl (hb hby at_188) rfl ?_
    show Steps p.tables e below (T10.setTop (mkF m 190 #[.val (.int p1), .val (.int p2), .val (.int ((p1 &&& (2147483647 : Int32)) % (7 : Int32))), .val (.int ((p2 &&& (2147483647 : Int32)) % (7 : Int32))), .val (.ref (P ((p1 &&& (2147483647 : Int32)) % (7 : Int32)))), .val (.ref (P ((p2 &&& (2147483647 : Int32)) % (7 : Int32)))), .val (.ref (P (own_s ((p1 &&& (2147483647 : Int32)) % (7 : Int32))))), .val (.ref (P (own_s ((p2 &&& (2147483647 : Int32)) % (7 : Int32))))), .val (.int (1 : Int32))] [(.int (1 : Int32))])) _
    refine XS.ifNo X10.here hx rfl (hb hby at_190) rfl ((if0 _ _).trans (feq hc190).1) ?_
    show Steps p.tables e below (T10.setTop (mkF m 193 #[.val (.int p1), .val (.int p2), .val (.int ((p1 &&& (2147483647 : Int32)) % (7 : Int32))), .val (.int ((p2 &&& (2147483647 : Int32)) % (7 : Int32))), .val (.ref (P ((p1 &&& (2147483647 : Int32)) % (7 : Int32)))), .val (.ref (P ((p2 &&& (2147483647 : Int32)) % (7 : Int32)))), .val (.ref (P (own_s ((p1 &&& (2147483647 : Int32)) % (7 : Int32))))), .val (.ref (P (own_s ((p2 &&& (2147483647 : Int32)) % (7 : Int32))))), .val (.int (1 : Int32))] [])) _
    refine XS.iloadN X10.here hx rfl (hb hby at_193) rfl ?_
    show Steps p.tables e below (T10.setTop (mkF m 194 #[.val (.int p1), .val (.int p2), .val (.int ((p1 &&& (2147483647 : Int32)) % (7 : Int32))), .val (.int ((p2 &&& (2147483647 : Int32)) % (7 : Int32))), .val (.ref (P ((p1 &&& (2147483647 : Int32)) % (7 : Int32)))), .val (.ref (P ((p2 &&& (2147483647 : Int32)) % (7 : Int32)))), .val (.ref (P (own_s ((p1 &&& (2147483647 : Int32)) % (7 : Int32))))), .val (.ref (P (own_s ((p2 &&& (2147483647 : Int32)) % (7 : Int32))))), .val (.int (1 : Int32))] [(.int ((p1 &&& (2147483647 : Int32)) % (7 : Int32)))])) _
    refine XS.iloadN X10.here hx rfl (hb hby at_194) rfl ?_
    show Steps p.tables e below (T10.setTop (mkF m 195 #[.val (.int p1), .val (.int p2), .val (.int ((p1 &&& (2147483647 : Int32)) % (7 : Int32))), .val (.int ((p2 &&& (2147483647 : Int32)) % (7 : Int32))), .val (.ref (P ((p1 &&& (2147483647 : Int32)) % (7 : Int32)))), .val (.ref (P ((p2 &&& (2147483647 : Int32)) % (7 : Int32)))), .val (.ref (P (own_s ((p1 &&& (2147483647 : Int32)) % (7 : Int32))))), .val (.ref (P (own_s ((p2 &&& (2147483647 : Int32)) % (7 : Int32))))), .val (.int (1 : Int32))] [(.int ((p2 &&& (2147483647 : Int32)) % (7 : Int32))), (.int ((p1 &&& (2147483647 : Int32)) % (7 : Int32)))])) _
    refine XS.icmpNo X10.here hx rfl (hb hby at_195) rfl (flt hc195).2.2.1 ?_
    show Steps p.tables e below (T10.setTop (mkF m 198 #[.val (.int p1), .val (.int p2), .val (.int ((p1 &&& (2147483647 : Int32)) % (7 : Int32))), .val (.int ((p2 &&& (2147483647 : Int32)) % (7 : Int32))), .val (.ref (P ((p1 &&& (2147483647 : Int32)) % (7 : Int32)))), .val (.ref (P ((p2 &&& (2147483647 : Int32)) % (7 : Int32)))), .val (.ref (P (own_s ((p1 &&& (2147483647 : Int32)) % (7 : Int32))))), .val (.ref (P (own_s ((p2 &&& (2147483647 : Int32)) % (7 : Int32))))), .val (.int (1 : Int32))] [])) _
    refine XS.aload X10.here hx rfl (hb hby at_198) rfl rfl ?_
    show Steps p.tables e below (T10.setTop (mkF m 200 #[.val (.int p1), .val (.int p2), .val (.int ((p1 &&& (2147483647 : Int32)) % (7 : Int32))), .val (.int ((p2 &&& (2147483647 : Int32)) % (7 : Int32))), .val (.ref (P ((p1 &&& (2147483647 : Int32)) % (7 : Int32)))), .val (.ref (P ((p2 &&& (2147483647 : Int32)) % (7 : Int32)))), .val (.ref (P (own_s ((p1 &&& (2147483647 : Int32)) % (7 : Int32))))), .val (.ref (P (own_s ((p2 &&& (2147483647 : Int32)) % (7 : Int32))))), .val (.int (1 : Int32))] [(.ref (P (own_s ((p1 &&& (2147483647 : Int32)) % (7 : Int32)))))])) _
    refine st11 _ ?_
    show Steps p.tables e below (T11.setTop (mkF m 203 #[.val (.int p1), .val (.int p2), .val (.int ((p1 &&& (2147483647 : Int32)) % (7 : Int32))), .val (.int ((p2 &&& (2147483647 : Int32)) % (7 : Int32))), .val (.ref (P ((p1 &&& (2147483647 : Int32)) % (7 : Int32)))), .val (.ref (P ((p2 &&& (2147483647 : Int32)) % (7 : Int32)))), .val (.ref (P (own_s ((p1 &&& (2147483647 : Int32)) % (7 : Int32))))), .val (.ref (P (own_s ((p2 &&& (2147483647 : Int32)) % (7 : Int32))))), .val (.int (1 : Int32))] [(.int (own_s ((p1 &&& (2147483647 : Int32)) % (7 : Int32))))])) _
    refine XS.aload X11.here hx rfl (hb hby at_203) rfl rfl ?_
    show Steps p.tables e below (T11.setTop (mkF m 205 #[.val (.int p1), .val (.int p2), .val (.int ((p1 &&& (2147483647 : Int32)) % (7 : Int32))), .val (.int ((p2 &&& (2147483647 : Int32)) % (7 : Int32))), .val (.ref (P ((p1 &&& (2147483647 : Int32)) % (7 : Int32)))), .val (.ref (P ((p2 &&& (2147483647 : Int32)) % (7 : Int32)))), .val (.ref (P (own_s ((p1 &&& (2147483647 : Int32)) % (7 : Int32))))), .val (.ref (P (own_s ((p2 &&& (2147483647 : Int32)) % (7 : Int32))))), .val (.int (1 : Int32))] [(.ref (P (own_s ((p2 &&& (2147483647 : Int32)) % (7 : Int32))))), (.int (own_s ((p1 &&& (2147483647 : Int32)) % (7 : Int32))))])) _
    refine st12 _ ?_
    show Steps p.tables e below (T12.setTop (mkF m 208 #[.val (.int p1), .val (.int p2), .val (.int ((p1 &&& (2147483647 : Int32)) % (7 : Int32))), .val (.int ((p2 &&& (2147483647 : Int32)) % (7 : Int32))), .val (.ref (P ((p1 &&& (2147483647 : Int32)) % (7 : Int32)))), .val (.ref (P ((p2 &&& (2147483647 : Int32)) % (7 : Int32)))), .val (.ref (P (own_s ((p1 &&& (2147483647 : Int32)) % (7 : Int32))))), .val (.ref (P (own_s ((p2 &&& (2147483647 : Int32)) % (7 : Int32))))), .val (.int (1 : Int32))] [(.int (own_s ((p2 &&& (2147483647 : Int32)) % (7 : Int32)))), (.int (own_s ((p1 &&& (2147483647 : Int32)) % (7 : Int32))))])) _
    refine XS.icmpNo X12.here hx rfl (hb hby at_208) rfl (flt (own_mono (own_in7 p1) (own_in7 p2) hc195 : ¬ ((own_s ((p2 &&& (2147483647 : Int32)) % (7 : Int32))) < (own_s ((p1 &&& (2147483647 : Int32)) % (7 : Int32)))))).2.2.1 ?_
    show Steps p.tables e below (T12.setTop (mkF m 211 #[.val (.int p1), .val (.int p2), .val (.int ((p1 &&& (2147483647 : Int32)) % (7 : Int32))), .val (.int ((p2 &&& (2147483647 : Int32)) % (7 : Int32))), .val (.ref (P ((p1 &&& (2147483647 : Int32)) % (7 : Int32)))), .val (.ref (P ((p2 &&& (2147483647 : Int32)) % (7 : Int32)))), .val (.ref (P (own_s ((p1 &&& (2147483647 : Int32)) % (7 : Int32))))), .val (.ref (P (own_s ((p2 &&& (2147483647 : Int32)) % (7 : Int32))))), .val (.int (1 : Int32))] [])) _
    refine XS.iconst X12.here hx rfl (hb hby at_211) ?_
    show Steps p.tables e below (T12.setTop (mkF m 212 #[.val (.int p1), .val (.int p2), .val (.int ((p1 &&& (2147483647 : Int32)) % (7 : Int32))), .val (.int ((p2 &&& (2147483647 : Int32)) % (7 : Int32))), .val (.ref (P ((p1 &&& (2147483647 : Int32)) % (7 : Int32)))), .val (.ref (P ((p2 &&& (2147483647 : Int32)) % (7 : Int32)))), .val (.ref (P (own_s ((p1 &&& (2147483647 : Int32)) % (7 : Int32))))), .val (.ref (P (own_s ((p2 &&& (2147483647 : Int32)) % (7 : Int32))))), .val (.int (1 : Int32))] [(.int (1 : Int32))])) _
    refine XS.goto X12.here hx rfl (pc0 := 212) (pc' := 216) rfl (hb hby at_212) (by decide) (by decide) ?_
    show Steps p.tables e below (T12.setTop (mkF m 216 #[.val (.int p1), .val (.int p2), .val (.int ((p1 &&& (2147483647 : Int32)) % (7 : Int32))), .val (.int ((p2 &&& (2147483647 : Int32)) % (7 : Int32))), .val (.ref (P ((p1 &&& (2147483647 : Int32)) % (7 : Int32)))), .val (.ref (P ((p2 &&& (2147483647 : Int32)) % (7 : Int32)))), .val (.ref (P (own_s ((p1 &&& (2147483647 : Int32)) % (7 : Int32))))), .val (.ref (P (own_s ((p2 &&& (2147483647 : Int32)) % (7 : Int32))))), .val (.int (1 : Int32))] [(.int (1 : Int32))])) _
    refine XS.istore X12.here hx rfl (hb hby at_216) rfl (l' := #[.val (.int p1), .val (.int p2), .val (.int ((p1 &&& (2147483647 : Int32)) % (7 : Int32))), .val (.int ((p2 &&& (2147483647 : Int32)) % (7 : Int32))), .val (.ref (P ((p1 &&& (2147483647 : Int32)) % (7 : Int32)))), .val (.ref (P ((p2 &&& (2147483647 : Int32)) % (7 : Int32)))), .val (.ref (P (own_s ((p1 &&& (2147483647 : Int32)) % (7 : Int32))))), .val (.ref (P (own_s ((p2 &&& (2147483647 : Int32)) % (7 : Int32))))), .val (.int (1 : Int32))]) rfl ?_
    show Steps p.tables e below (T12.setTop (mkF m 218 #[.val (.int p1), .val (.int p2), .val (.int ((p1 &&& (2147483647 : Int32)) % (7 : Int32))), .val (.int ((p2 &&& (2147483647 : Int32)) % (7 : Int32))), .val (.ref (P ((p1 &&& (2147483647 : Int32)) % (7 : Int32)))), .val (.ref (P ((p2 &&& (2147483647 : Int32)) % (7 : Int32)))), .val (.ref (P (own_s ((p1 &&& (2147483647 : Int32)) % (7 : Int32))))), .val (.ref (P (own_s ((p2 &&& (2147483647 : Int32)) % (7 : Int32))))), .val (.int (1 : Int32))] [])) _
    refine XS.iload X12.here hx rfl (hb hby at_218) rfl ?_
    show Steps p.tables e below (T12.setTop (mkF m 220 #[.val (.int p1), .val (.int p2), .val (.int ((p1 &&& (2147483647 : Int32)) % (7 : Int32))), .val (.int ((p2 &&& (2147483647 : Int32)) % (7 : Int32))), .val (.ref (P ((p1 &&& (2147483647 : Int32)) % (7 : Int32)))), .val (.ref (P ((p2 &&& (2147483647 : Int32)) % (7 : Int32)))), .val (.ref (P (own_s ((p1 &&& (2147483647 : Int32)) % (7 : Int32))))), .val (.ref (P (own_s ((p2 &&& (2147483647 : Int32)) % (7 : Int32))))), .val (.int (1 : Int32))] [(.int (1 : Int32))])) _
    exact retN X12 hx (t := .boolean) Bd.returns (by simp) (hb hby at_220) hr
  · show Qlaw n0 _ _
    exact ⟨rfl, N12⟩
set_option maxRecDepth 65536 in
set_option maxHeartbeats 40000000 in
theorem comes_1 {Post : Tables → Env → Array Value → State → Outcome → State → Prop} (hpost : ∀ tb e args s v u, (limb_1_1.after args s (.returned v) u = true ∧ limb_1_2.after args s (.returned v) u = true ∧ True) → FrameEnd s (.returned v) u (Jvm.fieldLocs frame_1_writes args s ++ Jvm.arrayLocs frame_1_arrays args s ++ Jvm.staticLocs frame_1_statics s) 0 0 → Post tb e args s (.returned v) u) :
    ArmFor flags0 classFile x code maxLocals ret World_1 tables_1 room_1 Calls_1 rest_1 Pre_1 Post := by
  intro l hfl _ _ p e ha hc hk s m args below hf hA hF happ hP
  obtain ⟨hcalls, hrest, hpre⟩ := hP
  obtain ⟨-, -, -, hnamed, -, -, -, hat⟩ := (Spec.applies_iff hf).mp happ
  obtain ⟨hg, hn⟩ := and_e (Cond.before_iff.mp (show (Jvm.Cond.and given_1 narrow_1).before args s = true from hpre))
  obtain ⟨g0, hg⟩ := and_e hg
  obtain ⟨w0, w1, rfl⟩ : ∃ w0 w1 : Value, args = #[w0, w1] := by
    have hs : args.size = 2 := by simpa [Cond.value, given_1] using g0
    obtain ⟨L⟩ := args
    match L, hs with
    | [w0, w1], _ => exact ⟨w0, w1, rfl⟩
  have hw := fun d (hd : d ∈ tables_1) => atoms_spec (ws := Jvm.Cond.code x code maxLocals ret :: tables_1) hat d (List.mem_cons_of_mem _ hd)
  obtain ⟨ga0, hg⟩ := and_e hg
  obtain ⟨i0, ei0⟩ := is_v ga0
  obtain rfl : w0 = (.int i0) := Option.some.inj ei0
  have ga1 := hg
  obtain ⟨i1, ei1⟩ := is_v ga1
  obtain rfl : w1 = (.int i1) := Option.some.inj ei1
  obtain ⟨k1, hn⟩ := and_e hn
  obtain ⟨k2, hn⟩ := and_e hn
  obtain ⟨k3, hn⟩ := and_e hn
  obtain ⟨k4, hn⟩ := and_e hn
  obtain ⟨k5, hn⟩ := and_e hn
  obtain ⟨k6, hn⟩ := and_e hn
  obtain ⟨k7, hn⟩ := and_e hn
  obtain ⟨k8, hn⟩ := and_e hn
  obtain ⟨k9, hn⟩ := and_e hn
  obtain ⟨k10, hn⟩ := and_e hn
  obtain ⟨k11, hn⟩ := and_e hn
  obtain ⟨k12, hn⟩ := and_e hn
  obtain ⟨k13, hn⟩ := and_e hn
  have k14 := hn
  obtain ⟨b0, t0⟩ := exa_v k1
  obtain ⟨b1, t1⟩ := exa_v k7
  obtain ⟨b2, t2⟩ := exa_v k9
  obtain ⟨b3, t3⟩ := exa_v k2
  obtain ⟨b4, t4⟩ := exa_v k13
  obtain ⟨b5, t5⟩ := exa_v k11
  obtain ⟨b6, t6⟩ := exa_v k3
  obtain ⟨P, p0, p1, p2, p3, p4, p5, p6⟩ : ∃ P : Int32 → Addr, P 0 = b0 ∧ P 1 = b1 ∧ P 2 = b2 ∧ P 3 = b3 ∧ P 4 = b4 ∧ P 5 = b5 ∧ P 6 = b6 := ⟨fun i => if i = 0 then b0 else if i = 1 then b1 else if i = 2 then b2 else if i = 3 then b3 else if i = 4 then b4 else if i = 5 then b5 else b6, by first | rfl | simp, by first | rfl | simp, by first | rfl | simp, by first | rfl | simp, by first | rfl | simp, by first | rfl | simp, by first | rfl | simp⟩
  subst p0 p1 p2 p3 p4 p5 p6
  have hinj : ∀ i j, In7 i → In7 j → P i = P j → i = j := by
    intro i j hi hj
    rcases hi with rfl | rfl | rfl | rfl | rfl | rfl | rfl <;> rcases hj with rfl | rfl | rfl | rfl | rfl | rfl | rfl
    · exact fun _ => rfl
    · exact fun q => absurd q (own_ne t0 t1 k4 k8 (by decide))
    · exact fun q => absurd q (own_ne t0 t2 k4 k10 (by decide))
    · exact fun q => absurd q (own_ne t0 t3 k4 k6 (by decide))
    · exact fun q => absurd q (own_ne t0 t4 k4 k14 (by decide))
    · exact fun q => absurd q (own_ne t0 t5 k4 k12 (by decide))
    · exact fun q => absurd q (own_ne t0 t6 k4 k5 (by decide))
    · exact fun q => absurd q (own_ne t1 t0 k8 k4 (by decide))
    · exact fun _ => rfl
    · exact fun q => absurd q (own_ne t1 t2 k8 k10 (by decide))
    · exact fun q => absurd q (own_ne t1 t3 k8 k6 (by decide))
    · exact fun q => absurd q (own_ne t1 t4 k8 k14 (by decide))
    · exact fun q => absurd q (own_ne t1 t5 k8 k12 (by decide))
    · exact fun q => absurd q (own_ne t1 t6 k8 k5 (by decide))
    · exact fun q => absurd q (own_ne t2 t0 k10 k4 (by decide))
    · exact fun q => absurd q (own_ne t2 t1 k10 k8 (by decide))
    · exact fun _ => rfl
    · exact fun q => absurd q (own_ne t2 t3 k10 k6 (by decide))
    · exact fun q => absurd q (own_ne t2 t4 k10 k14 (by decide))
    · exact fun q => absurd q (own_ne t2 t5 k10 k12 (by decide))
    · exact fun q => absurd q (own_ne t2 t6 k10 k5 (by decide))
    · exact fun q => absurd q (own_ne t3 t0 k6 k4 (by decide))
    · exact fun q => absurd q (own_ne t3 t1 k6 k8 (by decide))
    · exact fun q => absurd q (own_ne t3 t2 k6 k10 (by decide))
    · exact fun _ => rfl
    · exact fun q => absurd q (own_ne t3 t4 k6 k14 (by decide))
    · exact fun q => absurd q (own_ne t3 t5 k6 k12 (by decide))
    · exact fun q => absurd q (own_ne t3 t6 k6 k5 (by decide))
    · exact fun q => absurd q (own_ne t4 t0 k14 k4 (by decide))
    · exact fun q => absurd q (own_ne t4 t1 k14 k8 (by decide))
    · exact fun q => absurd q (own_ne t4 t2 k14 k10 (by decide))
    · exact fun q => absurd q (own_ne t4 t3 k14 k6 (by decide))
    · exact fun _ => rfl
    · exact fun q => absurd q (own_ne t4 t5 k14 k12 (by decide))
    · exact fun q => absurd q (own_ne t4 t6 k14 k5 (by decide))
    · exact fun q => absurd q (own_ne t5 t0 k12 k4 (by decide))
    · exact fun q => absurd q (own_ne t5 t1 k12 k8 (by decide))
    · exact fun q => absurd q (own_ne t5 t2 k12 k10 (by decide))
    · exact fun q => absurd q (own_ne t5 t3 k12 k6 (by decide))
    · exact fun q => absurd q (own_ne t5 t4 k12 k14 (by decide))
    · exact fun _ => rfl
    · exact fun q => absurd q (own_ne t5 t6 k12 k5 (by decide))
    · exact fun q => absurd q (own_ne t6 t0 k5 k4 (by decide))
    · exact fun q => absurd q (own_ne t6 t1 k5 k8 (by decide))
    · exact fun q => absurd q (own_ne t6 t2 k5 k10 (by decide))
    · exact fun q => absurd q (own_ne t6 t3 k5 k6 (by decide))
    · exact fun q => absurd q (own_ne t6 t4 k5 k14 (by decide))
    · exact fun q => absurd q (own_ne t6 t5 k5 k12 (by decide))
    · exact fun _ => rfl
  have K : Known s s.heap P := ⟨Sta.start t0 (Or.inr ⟨(hw _ (List.mem_of_getElem? (i := 6) rfl)), (hw _ (List.mem_of_getElem? (i := 7) rfl))⟩), Sta.start t1 (Or.inr ⟨(hw _ (List.mem_of_getElem? (i := 6) rfl)), (hw _ (List.mem_of_getElem? (i := 20) rfl))⟩), Sta.start t2 (Or.inr ⟨(hw _ (List.mem_of_getElem? (i := 6) rfl)), (hw _ (List.mem_of_getElem? (i := 22) rfl))⟩), Sta.start t3 (Or.inr ⟨(hw _ (List.mem_of_getElem? (i := 6) rfl)), (hw _ (List.mem_of_getElem? (i := 9) rfl))⟩), Sta.start t4 (Or.inr ⟨(hw _ (List.mem_of_getElem? (i := 6) rfl)), (hw _ (List.mem_of_getElem? (i := 26) rfl))⟩), Sta.start t5 (Or.inr ⟨(hw _ (List.mem_of_getElem? (i := 6) rfl)), (hw _ (List.mem_of_getElem? (i := 24) rfl))⟩), Sta.start t6 (Or.inr ⟨(hw _ (List.mem_of_getElem? (i := 6) rfl)), (hw _ (List.mem_of_getElem? (i := 14) rfl))⟩), hinj⟩
  have hi := own_in7 i0
  have hj := own_in7 i1
  have d1 : ¬ ((1 : Int32) = (0 : Int32)) := by decide
  have si : ¬ (P (own_s ((i0 &&& (2147483647 : Int32)) % (7 : Int32))) = P 6) := fun q => own_s6 hi (hinj _ _ (own_s7 hi) own_6 q)
  have sj : ¬ (P (own_s ((i1 &&& (2147483647 : Int32)) % (7 : Int32))) = P 6) := fun q => own_s6 hj (hinj _ _ (own_s7 hj) own_6 q)
  have ss : P (own_s (own_s ((i0 &&& (2147483647 : Int32)) % (7 : Int32)))) = P (own_s ((i0 &&& (2147483647 : Int32)) % (7 : Int32))) := congrArg P (own_ss hi)
  by_cases qi : ((i0 &&& (2147483647 : Int32)) % (7 : Int32)) = 6
  · by_cases qj : ((i1 &&& (2147483647 : Int32)) % (7 : Int32)) = 6
    · have ql : ¬ (((i1 &&& (2147483647 : Int32)) % (7 : Int32)) < ((i0 &&& (2147483647 : Int32)) % (7 : Int32))) := by rw [qi, qj]; decide
      obtain ⟨n, o, h1, h2, h3, _, L, rfl, ⟨rfl, N⟩, hq⟩ := rm0A l s _ hw tables_1 i0 i1 P s.heap s.heap.size (Nat.le_refl _) K K.2.2.2.2.2.2.1 K.2.2.2.2.2.1 d1 si sj d1 qi d1 qj d1 ss d1 qi (congrArg P (by rw [qi]; decide)) d1 ql p e ha hc hk s m _ below hf ((Spec.applies_iff_loose hf).mp happ).1 ⟨rfl, State.Warmed39.refl s, rfl⟩ trivial
      refine ⟨n, _, h1, h2, h3, hpost _ _ _ _ _ _ ⟨Cond.after_iff.mpr rfl, Cond.after_iff.mpr (eq_i res_at (Term.int_eval (1)) rfl), trivial⟩ ⟨hq.1, hq.2.1, (hq.2.2.sift fun y hy => Or.inr (N y hy)).mono (by decide) (by decide)⟩⟩
    · have ql : ((i1 &&& (2147483647 : Int32)) % (7 : Int32)) < ((i0 &&& (2147483647 : Int32)) % (7 : Int32)) := (own_66 hi hj qi).1.resolve_right qj
      obtain ⟨n, o, h1, h2, h3, _, L, rfl, ⟨rfl, N⟩, hq⟩ := rm0B l s _ hw tables_1 i0 i1 P s.heap s.heap.size (Nat.le_refl _) K K.2.2.2.2.2.2.1 K.2.2.2.2.2.1 d1 si sj d1 qi d1 qj (congrArg P (own_sn qj)) d1 ss d1 qi (congrArg P (by rw [qi]; decide)) d1 ql p e ha hc hk s m _ below hf ((Spec.applies_iff_loose hf).mp happ).1 ⟨rfl, State.Warmed39.refl s, rfl⟩ trivial
      refine ⟨n, _, h1, h2, h3, hpost _ _ _ _ _ _ ⟨Cond.after_iff.mpr rfl, Cond.after_iff.mpr (eq_i res_at (Term.int_eval (1)) rfl), trivial⟩ ⟨hq.1, hq.2.1, (hq.2.2.sift fun y hy => Or.inr (N y hy)).mono (by decide) (by decide)⟩⟩
  · by_cases qj : ((i1 &&& (2147483647 : Int32)) % (7 : Int32)) = 6
    · have ql : ¬ (((i1 &&& (2147483647 : Int32)) % (7 : Int32)) < ((i0 &&& (2147483647 : Int32)) % (7 : Int32))) := (own_66 hj hi qj).2
      obtain ⟨n, o, h1, h2, h3, _, L, rfl, ⟨rfl, N⟩, hq⟩ := rm0C l s _ hw tables_1 i0 i1 P s.heap s.heap.size (Nat.le_refl _) K K.2.2.2.2.2.2.1 d1 si sj d1 qi (congrArg P (own_sn qi)) d1 qj d1 ss d1 qi d1 ql p e ha hc hk s m _ below hf ((Spec.applies_iff_loose hf).mp happ).1 ⟨rfl, State.Warmed39.refl s, rfl⟩ trivial
      refine ⟨n, _, h1, h2, h3, hpost _ _ _ _ _ _ ⟨Cond.after_iff.mpr rfl, Cond.after_iff.mpr (eq_i res_at (Term.int_eval (1)) rfl), trivial⟩ ⟨hq.1, hq.2.1, (hq.2.2.sift fun y hy => Or.inr (N y hy)).mono (by decide) (by decide)⟩⟩
    · by_cases ql : ((i1 &&& (2147483647 : Int32)) % (7 : Int32)) < ((i0 &&& (2147483647 : Int32)) % (7 : Int32))
      · skip
        obtain ⟨n, o, h1, h2, h3, _, L, rfl, ⟨rfl, N⟩, hq⟩ := rm0D l s _ hw tables_1 i0 i1 P s.heap s.heap.size (Nat.le_refl _) K K.2.2.2.2.2.2.1 d1 si sj d1 qi (congrArg P (own_sn qi)) d1 qj (congrArg P (own_sn qj)) d1 ss d1 qi d1 ql p e ha hc hk s m _ below hf ((Spec.applies_iff_loose hf).mp happ).1 ⟨rfl, State.Warmed39.refl s, rfl⟩ trivial
        refine ⟨n, _, h1, h2, h3, hpost _ _ _ _ _ _ ⟨Cond.after_iff.mpr rfl, Cond.after_iff.mpr (eq_i res_at (Term.int_eval (1)) rfl), trivial⟩ ⟨hq.1, hq.2.1, (hq.2.2.sift fun y hy => Or.inr (N y hy)).mono (by decide) (by decide)⟩⟩
      · skip
        obtain ⟨n, o, h1, h2, h3, _, L, rfl, ⟨rfl, N⟩, hq⟩ := rm0E l s _ hw tables_1 i0 i1 P s.heap s.heap.size (Nat.le_refl _) K K.2.2.2.2.2.2.1 d1 si sj d1 qi (congrArg P (own_sn qi)) d1 qj (congrArg P (own_sn qj)) d1 ss d1 qi d1 ql p e ha hc hk s m _ below hf ((Spec.applies_iff_loose hf).mp happ).1 ⟨rfl, State.Warmed39.refl s, rfl⟩ trivial
        refine ⟨n, _, h1, h2, h3, hpost _ _ _ _ _ _ ⟨Cond.after_iff.mpr rfl, Cond.after_iff.mpr (eq_i res_at (Term.int_eval (1)) rfl), trivial⟩ ⟨hq.1, hq.2.1, (hq.2.2.sift fun y hy => Or.inr (N y hy)).mono (by decide) (by decide)⟩⟩
theorem main_1_1 : Claimed_1_1 := comes_1 fun _ _ _ _ _ _ h hF => ⟨h.1, hF⟩
theorem main_1_2 : Claimed_1_2 := comes_1 fun _ _ _ _ _ _ h hF => ⟨h.2.1, hF⟩
end Jvm.Pilot.@@N@@
namespace Jvm.Pilot.@@N@@
open Jvm Jvm.ClassFile Sem Op Lib Jvm.Free Jvm.Stand Jvm.Pilot.@@N@@.Jvm.D
/-! MADE BY PROGRAM (witnessworld.py) out of the Statement's table words and the real class files: 10 classes; the members and pool entries that the words name. The judged class is class 1, her method 3. -/
namespace start1
open Jvm.ClassFile
def u (s : String) : CpInfo := .utf8 (stringToUtf16 s)
/-- a pool by its gaps: so many unusable entries, then the entry; so many at the end -/
def gap : Nat → List CpInfo → List CpInfo
  | 0, r => r
  | n + 1, r => .unusable :: gap n r
def poolList (es : List (Nat × CpInfo)) (last : Nat) : List CpInfo := es.foldr (fun e r => gap e.1 (e.2 :: r)) (gap last [])
def pool (es : List (Nat × CpInfo)) (last : Nat) : Array CpInfo := ⟨poolList es last⟩
def fileOf (pool : Array CpInfo) (this : Nat) (attrs : Array Attribute := #[]) (ms : Array MethodInfo := #[]) (fl : Nat := 33) (sup : Nat := 0) (ifs : Array Nat := #[]) (fds : Array FieldInfo := #[]) : ClassFile where
  minorVersion := 0
  majorVersion := 65
  constantPool := pool
  accessFlags := fl
  thisClass := this
  superClass := sup
  interfaces := ifs
  fields := fds
  methods := ms
  attributes := attrs
def plain (name : String) (sup : Option ClassId) : Class where
  name := name
  kind := .ordinary
  loader := none
  accessFlags := 33
  super := sup
  interfaces := #[]
  cf := none
  fields := #[]
  methods := #[]
  instanceTypes := #[]
  staticTypes := #[]
  resolved := #[]
  callSites := []
  init := .initialized
  statics := none
  mirror := none

def pool0 : Array CpInfo := pool [(5, u "<init>"), (0, u "()V"), (1, .class_ 10), (1, u "java/lang/Object")] 113

def k0m0 : Method := { name := "<init>", desc := "()V", sig := { parameters := [], returnType := none }, accessFlags := 1, code := none }
/-- java/lang/Object -/
def k0 : Class := { plain "java/lang/Object" none with
  accessFlags := 33
  interfaces := #[]
  cf := some (fileOf pool0 8 #[] #[{ accessFlags := 1, nameIndex := 5, descriptorIndex := 6, attributes := #[] }] 33 0 #[] #[])
  fields := #[]
  methods := #[k0m0]
  instanceTypes := #[]
  staticTypes := #[]
  resolved := Array.replicate 124 none
  statics := none }

def pool1 : Array CpInfo := pool [(2, .class_ 4), (1, u "java/lang/Object"), (0, u "<init>"), (0, u "()V"), (0, .fieldref 8 9), (0, .class_ 10), (0, .nameAndType 11 12), (0, u "com/example/numerand/numerand/engine/Precision"), (0, u "YEAR"), (0, u "Lcom/example/numerand/numerand/engine/Precision;"), (0, .fieldref 8 14), (0, .nameAndType 15 12), (0, u "MONTH"), (0, .fieldref 8 17), (0, .nameAndType 18 12), (0, u "DAY"), (0, .fieldref 8 20), (0, .nameAndType 21 12), (0, u "HOUR"), (0, .fieldref 8 23), (0, .nameAndType 24 12), (0, u "MINUTE"), (0, .fieldref 8 26), (0, .nameAndType 27 12), (0, u "SECOND"), (0, .fieldref 8 29), (0, .nameAndType 30 12), (0, u "MILLISECOND"), (0, .integer 2147483647), (0, .methodref 33 34), (0, .class_ 35), (0, .nameAndType 36 37), (0, u "com/example/numerand/numerand/engine/PrecisionSecondsPinLaw"), (0, u "pick"), (0, u "(I)Lcom/example/numerand/numerand/engine/Precision;"), (0, .methodref 8 39), (0, .nameAndType 40 41), (0, u "seconds"), (0, u "(Lcom/example/numerand/numerand/engine/Precision;)Lcom/example/numerand/numerand/engine/Precision;"), (0, .methodref 33 43), (0, .nameAndType 44 45), (0, u "idx"), (0, u "(Lcom/example/numerand/numerand/engine/Precision;)I"), (3, u "law"), (0, u "(II)Z")] 2

def k1m0 : Method := { name := "<init>", desc := "()V", sig := { parameters := [], returnType := none }, accessFlags := 2, code := none }
def k1c1 : Code := { maxStack := 2, maxLocals := 1, code := method_2_code, exceptionTable := #[], attributes := #[] }
def k1m1 : Method := { name := "pick", desc := "(I)Lcom/example/numerand/numerand/engine/Precision;", sig := { parameters := [.int], returnType := some (.object "com/example/numerand/numerand/engine/Precision") }, accessFlags := 10, code := some k1c1 }
def k1c2 : Code := { maxStack := 2, maxLocals := 1, code := method_3_code, exceptionTable := #[], attributes := #[] }
def k1m2 : Method := { name := "idx", desc := "(Lcom/example/numerand/numerand/engine/Precision;)I", sig := { parameters := [(.object "com/example/numerand/numerand/engine/Precision")], returnType := some .int }, accessFlags := 10, code := some k1c2 }
def k1c3 : Code := { maxStack := 2, maxLocals := 9, code := code, exceptionTable := #[], attributes := #[] }
def k1m3 : Method := { name := "law", desc := "(II)Z", sig := { parameters := [.int, .int], returnType := some .boolean }, accessFlags := 9, code := some k1c3 }
/-- com/example/numerand/numerand/engine/PrecisionSecondsPinLaw -/
def k1 : Class := { plain "com/example/numerand/numerand/engine/PrecisionSecondsPinLaw" (some 0) with
  accessFlags := 49
  interfaces := #[]
  cf := some (fileOf pool1 33 #[] #[{ accessFlags := 2, nameIndex := 5, descriptorIndex := 6, attributes := #[] }, { accessFlags := 10, nameIndex := 36, descriptorIndex := 37, attributes := #[] }, { accessFlags := 10, nameIndex := 44, descriptorIndex := 45, attributes := #[] }, { accessFlags := 9, nameIndex := 49, descriptorIndex := 50, attributes := #[] }] 49 2 #[] #[])
  fields := #[]
  methods := #[k1m0, k1m1, k1m2, k1m3]
  instanceTypes := #[]
  staticTypes := #[]
  resolved := Array.replicate 53 none
  statics := none }

def pool2 : Array CpInfo := pool [(1, .class_ 2), (0, u "java/lang/constant/Constable"), (0, .class_ 4), (0, u "java/lang/Object")] 6

/-- java/lang/constant/Constable -/
def k2 : Class := { plain "java/lang/constant/Constable" (some 0) with
  accessFlags := 1537
  interfaces := #[]
  cf := some (fileOf pool2 1 #[] #[] 1537 3 #[] #[])
  fields := #[]
  methods := #[]
  instanceTypes := #[]
  staticTypes := #[]
  resolved := Array.replicate 11 none
  statics := none }

def pool3 : Array CpInfo := pool [(1, .class_ 2), (0, u "java/lang/Comparable"), (0, .class_ 4), (0, u "java/lang/Object")] 7

/-- java/lang/Comparable -/
def k3 : Class := { plain "java/lang/Comparable" (some 0) with
  accessFlags := 1537
  interfaces := #[]
  cf := some (fileOf pool3 1 #[] #[] 1537 3 #[] #[])
  fields := #[]
  methods := #[]
  instanceTypes := #[]
  staticTypes := #[]
  resolved := Array.replicate 12 none
  statics := none }

def pool4 : Array CpInfo := pool [(1, .class_ 2), (0, u "java/io/Serializable"), (0, .class_ 4), (0, u "java/lang/Object")] 2

/-- java/io/Serializable -/
def k4 : Class := { plain "java/io/Serializable" (some 0) with
  accessFlags := 1537
  interfaces := #[]
  cf := some (fileOf pool4 1 #[] #[] 1537 3 #[] #[])
  fields := #[]
  methods := #[]
  instanceTypes := #[]
  staticTypes := #[]
  resolved := Array.replicate 7 none
  statics := none }

def pool5 : Array CpInfo := pool [(2, .class_ 4), (1, u "java/lang/Enum"), (0, u "name"), (0, u "Ljava/lang/String;"), (2, u "ordinal"), (0, u "I"), (1, .class_ 14), (1, u "java/lang/Object"), (4, u "hash"), (86, .class_ 108), (1, u "java/lang/Enum$EnumDesc"), (2, .class_ 112), (0, u "java/lang/constant/Constable"), (0, .class_ 114), (0, u "java/lang/Comparable"), (0, .class_ 116), (0, u "java/io/Serializable")] 87

/-- java/lang/Enum -/
def k5 : Class := { plain "java/lang/Enum" (some 0) with
  accessFlags := 1057
  interfaces := #[2, 3, 4]
  cf := some (fileOf pool5 2 #[.nestMembers #[106]] #[] 1057 12 #[111, 113, 115] #[{ accessFlags := 18, nameIndex := 5, descriptorIndex := 6, attributes := #[] }, { accessFlags := 18, nameIndex := 9, descriptorIndex := 10, attributes := #[] }, { accessFlags := 2, nameIndex := 19, descriptorIndex := 10, attributes := #[] }])
  fields := #[{ name := "name", type := (.object "java/lang/String"), accessFlags := 18, slot := 0, constantValue := 0 }, { name := "ordinal", type := .int, accessFlags := 18, slot := 1, constantValue := 0 }, { name := "hash", type := .int, accessFlags := 2, slot := 2, constantValue := 0 }]
  methods := #[]
  instanceTypes := #[(.object "java/lang/String"), .int, .int]
  staticTypes := #[]
  resolved := Array.replicate 204 none
  statics := none }

def pool6 : Array CpInfo := pool [(1, .class_ 2), (0, u "com/example/numerand/numerand/engine/Precision"), (2, u "YEAR"), (0, u "Lcom/example/numerand/numerand/engine/Precision;"), (2, u "MONTH"), (2, u "DAY"), (2, u "HOUR"), (2, u "MINUTE"), (0, .fieldref 1 20), (0, .nameAndType 21 6), (0, u "SECOND"), (0, .fieldref 1 23), (0, .nameAndType 24 6), (0, u "MILLISECOND"), (2, u "$VALUES"), (0, u "[Lcom/example/numerand/numerand/engine/Precision;"), (6, .class_ 37), (1, u "java/lang/Enum"), (8, u "unit"), (0, u "Ljava/time/temporal/ChronoUnit;"), (29, u "seconds"), (0, u "(Lcom/example/numerand/numerand/engine/Precision;)Lcom/example/numerand/numerand/engine/Precision;"), (53, u "MILLIS_PER_SECOND"), (0, u "I")] 32

def k6c0 : Code := { maxStack := 2, maxLocals := 1, code := prog_21_method_8_code, exceptionTable := #[], attributes := #[] }
def k6m0 : Method := { name := "seconds", desc := "(Lcom/example/numerand/numerand/engine/Precision;)Lcom/example/numerand/numerand/engine/Precision;", sig := { parameters := [(.object "com/example/numerand/numerand/engine/Precision")], returnType := some (.object "com/example/numerand/numerand/engine/Precision") }, accessFlags := 8, code := some k6c0 }
/-- com/example/numerand/numerand/engine/Precision -/
def k6 : Class := { plain "com/example/numerand/numerand/engine/Precision" (some 5) with
  accessFlags := 16433
  interfaces := #[]
  cf := some (fileOf pool6 1 #[] #[{ accessFlags := 8, nameIndex := 77, descriptorIndex := 78, attributes := #[] }] 16433 35 #[] #[{ accessFlags := 16409, nameIndex := 5, descriptorIndex := 6, attributes := #[] }, { accessFlags := 16409, nameIndex := 9, descriptorIndex := 6, attributes := #[] }, { accessFlags := 16409, nameIndex := 12, descriptorIndex := 6, attributes := #[] }, { accessFlags := 16409, nameIndex := 15, descriptorIndex := 6, attributes := #[] }, { accessFlags := 16409, nameIndex := 18, descriptorIndex := 6, attributes := #[] }, { accessFlags := 16409, nameIndex := 21, descriptorIndex := 6, attributes := #[] }, { accessFlags := 16409, nameIndex := 24, descriptorIndex := 6, attributes := #[] }, { accessFlags := 26, nameIndex := 132, descriptorIndex := 133, attributes := #[] }, { accessFlags := 18, nameIndex := 46, descriptorIndex := 47, attributes := #[] }, { accessFlags := 4122, nameIndex := 27, descriptorIndex := 28, attributes := #[] }])
  fields := #[{ name := "YEAR", type := (.object "com/example/numerand/numerand/engine/Precision"), accessFlags := 16409, slot := 0, constantValue := 0 }, { name := "MONTH", type := (.object "com/example/numerand/numerand/engine/Precision"), accessFlags := 16409, slot := 1, constantValue := 0 }, { name := "DAY", type := (.object "com/example/numerand/numerand/engine/Precision"), accessFlags := 16409, slot := 2, constantValue := 0 }, { name := "HOUR", type := (.object "com/example/numerand/numerand/engine/Precision"), accessFlags := 16409, slot := 3, constantValue := 0 }, { name := "MINUTE", type := (.object "com/example/numerand/numerand/engine/Precision"), accessFlags := 16409, slot := 4, constantValue := 0 }, { name := "SECOND", type := (.object "com/example/numerand/numerand/engine/Precision"), accessFlags := 16409, slot := 5, constantValue := 0 }, { name := "MILLISECOND", type := (.object "com/example/numerand/numerand/engine/Precision"), accessFlags := 16409, slot := 6, constantValue := 0 }, { name := "MILLIS_PER_SECOND", type := .int, accessFlags := 26, slot := 7, constantValue := 0 }, { name := "unit", type := (.object "java/time/temporal/ChronoUnit"), accessFlags := 18, slot := 3, constantValue := 0 }, { name := "$VALUES", type := (.array (.object "com/example/numerand/numerand/engine/Precision")), accessFlags := 4122, slot := 8, constantValue := 0 }]
  methods := #[k6m0]
  instanceTypes := #[(.object "java/lang/String"), .int, .int, (.object "java/time/temporal/ChronoUnit")]
  staticTypes := #[(.object "com/example/numerand/numerand/engine/Precision"), (.object "com/example/numerand/numerand/engine/Precision"), (.object "com/example/numerand/numerand/engine/Precision"), (.object "com/example/numerand/numerand/engine/Precision"), (.object "com/example/numerand/numerand/engine/Precision"), (.object "com/example/numerand/numerand/engine/Precision"), (.object "com/example/numerand/numerand/engine/Precision"), .int, (.array (.object "com/example/numerand/numerand/engine/Precision"))]
  resolved := Array.replicate 166 none
  statics := some 0 }

def pool7 : Array CpInfo := pool [(1, u "java/lang/Cloneable"), (0, .class_ 1), (0, u "java/lang/Object"), (0, .class_ 3)] 3

/-- java/lang/Cloneable -/
def k7 : Class := { plain "java/lang/Cloneable" (some 0) with
  accessFlags := 1537
  interfaces := #[]
  cf := some (fileOf pool7 2 #[] #[] 1537 4 #[] #[])
  fields := #[]
  methods := #[]
  instanceTypes := #[]
  staticTypes := #[]
  resolved := Array.replicate 8 none
  statics := none }

/-- the primitive byte -/
def k8 : Class := { plain "byte" none with kind := .primitive 'B', accessFlags := 0x411 }
/-- [B -/
def k9 : Class := { plain "[B" (some 0) with kind := .array 8 .byte, interfaces := #[7, 4], accessFlags := 1041 }

def heap : Heap := #[{ cls := 6, slots := #[.ref 1, .ref 2, .ref 3, .ref 4, .ref 5, .ref 6, .ref 7, .int 0, .null], vm := .statics 6 },
  { cls := 6, slots := #[.null, .int 0, .int 0, .null], vm := .none },
  { cls := 6, slots := #[.null, .int 1, .int 0, .null], vm := .none },
  { cls := 6, slots := #[.null, .int 2, .int 0, .null], vm := .none },
  { cls := 6, slots := #[.null, .int 3, .int 0, .null], vm := .none },
  { cls := 6, slots := #[.null, .int 4, .int 0, .null], vm := .none },
  { cls := 6, slots := #[.null, .int 5, .int 0, .null], vm := .none },
  { cls := 6, slots := #[.null, .int 6, .int 0, .null], vm := .none }]
def classes : Array Class := #[k0, k1, k2, k3, k4, k5, k6, k7, k8, k9]
def interned : List (Array UInt16 × Addr) := []
def slotsUsed : Nat := 37
def theMethod : MethodId := ⟨1, 3⟩
def args0 : Array Value := #[.int 5, .int 7]
def aboutOver (below : List Frame) : State where
  vm := { classes := classes, interned := interned.toArray }
  heap := heap
  slotsUsed := slotsUsed
  threads := #[{ frames := .invoking theMethod args0 :: below }]
def below0 : List Frame := [.native { method := ⟨0, 0⟩, args := #[] }]
def about1 : State := aboutOver below0
def p0 : Program := .bare "" "" ""
def e0 : Env := launch0.env 0 0 0
theorem w_frames : about1.frames = Frame.invoking theMethod args0 :: below0 := rfl
set_option maxRecDepth 65536 in
theorem w_args : argsFit about1.vm theMethod args0 = true := by decide +kernel
set_option maxRecDepth 65536 in
theorem w_heap : heapFits about1 = true := by decide +kernel
set_option maxRecDepth 65536 in
theorem w_runnable : about1.curStatus? = some .runnable := by decide +kernel
set_option maxRecDepth 65536 in
theorem w_alone : about1.alone = true := by decide +kernel
set_option maxRecDepth 65536 in
theorem w_named : about1.methodNamed? x = some theMethod := by decide +kernel
set_option maxRecDepth 65536 in
theorem w_hears : about1.hears theMethod below0 = true := by decide +kernel
set_option maxRecDepth 65536 in
theorem w_ripe : about1.ripe theMethod args0 below0 = true := by decide +kernel
theorem w_running : about1.status = .running := rfl
set_option maxRecDepth 65536 in
theorem w_room : about1.hasRoom e0.platform room_1 = true :=
  launch0.hasRoom_least _ room_1 (by decide +kernel) (by decide +kernel) (by decide +kernel) (by decide +kernel) (by decide +kernel) (by decide +kernel)
theorem allAtoms_all (ts : List Jvm.Cond) (a : Array Jvm.Value) (st : Jvm.State) : (allAtoms ts).before a st = ts.all (fun c => c.before a st) := by
  induction ts with
  | nil => rfl
  | cons c t ih =>
    show (Jvm.Cond.and c (allAtoms t)).before a st = _
    rw [Jvm.Cond.before_and, ih, List.all_cons]
def words1 : List Jvm.Cond := Jvm.Cond.code x code maxLocals ret :: tables_1
/-- a 'code' word, met by the world's own term for the bytes: nothing is compared byte by byte -/
theorem code_word {y : MethodName} {bytes : ByteArray} {mx : Nat} {rt : Option FieldType} {a : Array Value} {s : State} {m : MethodId} {meth : Method} {c : Code} (h1 : s.methodNamed? y = some m) (h2 : s.vm.method? m = some meth) (h3 : meth.code = some c) (h4 : c.code = bytes)
    (h5 : (c.maxLocals == mx && c.exceptionTable.isEmpty && decide (c.maxStack ≤ mostOperands) && decide (meth.sig.returnType = rt) && !meth.locks && decide (parseMethodDescriptor y.desc = some meth.sig)) = true) : (Jvm.Cond.code y bytes mx rt).before a s = true := by
  simp only [Bool.and_eq_true, beq_iff_eq, Bool.not_eq_true', decide_eq_true_eq] at h5
  obtain ⟨⟨⟨⟨⟨g1, g2⟩, g3⟩, g4⟩, g5⟩, g6⟩ := h5
  simp [Cond.before, Cond.holds, Cond.value, h1, h2, h3, h4, g1, g2, g3, g4, g5, g6]
def isCode : Jvm.Cond → Bool
  | .code _ _ _ _ => true
  | _ => false
theorem all_split {L : List Jvm.Cond} {P : Jvm.Cond → Bool} (h1 : L.all (fun c => isCode c || P c) = true) (h2 : ∀ c ∈ L.filter isCode, P c = true) : L.all P = true := by
  refine List.all_eq_true.mpr fun c hc => ?_
  have h := List.all_eq_true.mp h1 c hc
  rcases Bool.eq_false_or_eq_true (isCode c) with hi | hi
  · exact h2 c (List.mem_filter.mpr ⟨hc, hi⟩)
  · simpa [hi] using h
set_option maxRecDepth 65536 in
theorem w_c0 : (Jvm.Cond.code x code maxLocals ret).before args0 about1 = true := code_word (m := ⟨1, 3⟩) (meth := k1m3) (c := k1c3) (by decide +kernel) rfl rfl rfl (by decide +kernel)
set_option maxRecDepth 65536 in
theorem w_c1 : (Jvm.Cond.code ({ cls := "com/example/numerand/numerand/engine/PrecisionSecondsPinLaw", name := "pick", desc := "(I)Lcom/example/numerand/numerand/engine/Precision;" } : Jvm.MethodName) method_2_code (1 : Nat) (Option.some (Jvm.ClassFile.FieldType.object "com/example/numerand/numerand/engine/Precision"))).before args0 about1 = true := code_word (m := ⟨1, 1⟩) (meth := k1m1) (c := k1c1) (by decide +kernel) rfl rfl rfl (by decide +kernel)
set_option maxRecDepth 65536 in
theorem w_c2 : (Jvm.Cond.code ({ cls := "com/example/numerand/numerand/engine/Precision", name := "seconds", desc := "(Lcom/example/numerand/numerand/engine/Precision;)Lcom/example/numerand/numerand/engine/Precision;" } : Jvm.MethodName) prog_21_method_8_code (1 : Nat) (Option.some (Jvm.ClassFile.FieldType.object "com/example/numerand/numerand/engine/Precision"))).before args0 about1 = true := code_word (m := ⟨6, 0⟩) (meth := k6m0) (c := k6c0) (by decide +kernel) rfl rfl rfl (by decide +kernel)
set_option maxRecDepth 65536 in
theorem w_c3 : (Jvm.Cond.code ({ cls := "com/example/numerand/numerand/engine/PrecisionSecondsPinLaw", name := "idx", desc := "(Lcom/example/numerand/numerand/engine/Precision;)I" } : Jvm.MethodName) method_3_code (1 : Nat) (Option.some Jvm.ClassFile.FieldType.int)).before args0 about1 = true := code_word (m := ⟨1, 2⟩) (meth := k1m2) (c := k1c2) (by decide +kernel) rfl rfl rfl (by decide +kernel)
def codes1 : List Jvm.Cond := [Jvm.Cond.code x code maxLocals ret, Jvm.Cond.code ({ cls := "com/example/numerand/numerand/engine/PrecisionSecondsPinLaw", name := "pick", desc := "(I)Lcom/example/numerand/numerand/engine/Precision;" } : Jvm.MethodName) method_2_code (1 : Nat) (Option.some (Jvm.ClassFile.FieldType.object "com/example/numerand/numerand/engine/Precision")), Jvm.Cond.code ({ cls := "com/example/numerand/numerand/engine/Precision", name := "seconds", desc := "(Lcom/example/numerand/numerand/engine/Precision;)Lcom/example/numerand/numerand/engine/Precision;" } : Jvm.MethodName) prog_21_method_8_code (1 : Nat) (Option.some (Jvm.ClassFile.FieldType.object "com/example/numerand/numerand/engine/Precision")), Jvm.Cond.code ({ cls := "com/example/numerand/numerand/engine/PrecisionSecondsPinLaw", name := "idx", desc := "(Lcom/example/numerand/numerand/engine/Precision;)I" } : Jvm.MethodName) method_3_code (1 : Nat) (Option.some Jvm.ClassFile.FieldType.int)]
set_option maxRecDepth 65536 in
theorem codes_eq : words1.filter isCode = codes1 := rfl
theorem w_codes : ∀ c ∈ words1.filter isCode, c.before args0 about1 = true := by
  rw [codes_eq]
  intro c hc
  simp only [codes1, List.mem_cons, List.not_mem_nil, or_false] at hc
  rcases hc with rfl | rfl | rfl | rfl
  · exact w_c0
  · exact w_c1
  · exact w_c2
  · exact w_c3
set_option maxRecDepth 65536 in
theorem w_t1 : (words1.take 24).all (fun c => isCode c || c.before args0 about1) = true := by decide +kernel
set_option maxRecDepth 65536 in
theorem w_t2 : (words1.drop 24).all (fun c => isCode c || c.before args0 about1) = true := by decide +kernel
theorem w_tables : (allAtoms (Jvm.Cond.code x code maxLocals ret :: tables_1)).before args0 about1 = true := by
  rw [allAtoms_all]
  show words1.all (fun c => c.before args0 about1) = true
  refine all_split ?_ w_codes
  rw [← List.take_append_drop 24 words1, List.all_append, w_t1, w_t2]
  rfl
set_option maxRecDepth 65536 in
theorem w_case : (Jvm.Cond.and given_1 narrow_1).before args0 about1 = true := by decide +kernel
theorem w_applies : (headSpec (Jvm.Cond.code x code maxLocals ret :: tables_1) room_1).applies x e0.platform about1 = true :=
  (Spec.applies_iff w_frames).mpr ⟨w_running, w_runnable, w_alone, w_named, w_hears, w_ripe, w_room, w_tables⟩
theorem atStart : AtStart classFile x code maxLocals ret World_1 tables_1 room_1 Calls_1 rest_1 Pre_1 launch0 p0 e0 about1 theMethod args0 below0 :=
  ⟨lists_1, trivial, launch0.admits_env _ _ _, launch0.least_env, fairChoices_fair.cas, fairChoices_fair.clock, w_frames, w_args, w_heap, w_applies, trivial, trivial, w_case⟩
end start1
theorem witness_1 : WitnessClaimed_1 := ⟨start1.p0, start1.e0, start1.about1, start1.theMethod, start1.args0, start1.below0, start1.atStart⟩
end Jvm.Pilot.@@N@@
