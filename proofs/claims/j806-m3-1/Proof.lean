import JvmDerived
import JvmDerived.Pilot.@@N@@Statement
import JvmDerived.Pilot.@@N@@Code
set_option linter.unusedVariables false
set_option linter.unusedSimpArgs false
namespace Jvm.RoadKit
open Sem ClassFile Op Lib Jvm.Stand Jvm.Free Jvm.LawKit
section New
variable {p : Program} {l : Launch} {e : Env} {R : Room} {s : State} {m : MethodId} {args : Array Value} {below : List Frame} {meth : Method} {c : Code} {T : State} {locs : List Loc} {cells slots : Nat}
theorem retI (X : Stand p l e R s m args below meth c T locs cells slots) (hx : p.tables.exec = Jvm.exec) {pc : Nat} {Ls : Array Slot} {z : Int32} {rest : List Value} (hret : meth.sig.returnType = some .int) (hd : decode c.code pc = .ok (.ireturn, 1)) {fs : List Frame}
    (hl : ∀ (f : JFrame) (acts : List Action), f.method = m → f.locked = none → f.entered = [] → (doReturn e (T.setTop f) acts (some (.int z))).1 = T.setFrames fs) : Steps p.tables e below (T.setTop (mkF m pc Ls (.int z :: rest))) (T.setFrames fs) := by
  have hm' : T.vm.method? m = some meth := X.method'
  have hn : narrow .int (.int z) = .int z := rfl
  show Steps p.tables e below (T.setTop { method := m, pc := pc, locals := Ls, stack := _ :: rest, locked := none }) _
  jvm_step X.here [X.here.top, hx, hd, hm', hret, hn]
  first | (intro acts; rw [hl _ acts rfl rfl rfl]) | rw [hl _ _ rfl rfl rfl]
  exact Steps.refl _
end New
end Jvm.RoadKit
namespace Jvm.Pilot.@@N@@
open Jvm Jvm.ClassFile Sem Op Lib Jvm.Free Jvm.Stand Jvm.LawKit Jvm.RoadKit Bundle Jvm.Pilot.@@N@@.Jvm.D
theorem own_eqI {args : Array Value} {s : State} {t : Term} {k : Int32} (h : (Jvm.Cond.eq t (.int k)).value args s none s [] = some true) : t.eval args s none [] s = some (.int k) := by
  obtain ⟨x, y, hx, hy, -, k2⟩ := cmp_v (Or.inl h)
  obtain rfl : y = .int k := (Option.some.inj ((Term.int_eval k).symm.trans hy)).symm
  obtain ⟨z, rfl⟩ := k2
  have := gotT (Cond.eq_ints hx (Term.int_eval k)) h
  rw [hx, this]
def Q0 (n0 : Nat) (v : Option Value) (L : List Loc) : Prop := v = some (.int 1) ∧ Fr n0 L
theorem wd0 {a0 : Array Value} {Z : State} (hw : ∀ d ∈ tables_1, d.before a0 Z = true) : (Jvm.Cond.classLink "com/example/rigorous_chains/rigorouschains/prism/TypeWidestPinLaw" (7 : Nat) "com/example/rigorous_chains/rigorouschains/prism/Type").before a0 Z = true := hw _ (List.mem_of_getElem? (i := 0) rfl)
theorem wd1 {a0 : Array Value} {Z : State} (hw : ∀ d ∈ tables_1, d.before a0 Z = true) : (Jvm.Cond.arrayOver (Jvm.ClassFile.FieldType.object "com/example/rigorous_chains/rigorouschains/prism/Type")).before a0 Z = true := hw _ (List.mem_of_getElem? (i := 1) rfl)
theorem wd2 {a0 : Array Value} {Z : State} (hw : ∀ d ∈ tables_1, d.before a0 Z = true) : (Jvm.Cond.fieldLink "com/example/rigorous_chains/rigorouschains/prism/TypeWidestPinLaw" (9 : Nat) "com/example/rigorous_chains/rigorouschains/prism/Type" "INT" "Lcom/example/rigorous_chains/rigorouschains/prism/Type;").before a0 Z = true := hw _ (List.mem_of_getElem? (i := 2) rfl)
theorem wd3 {a0 : Array Value} {Z : State} (hw : ∀ d ∈ tables_1, d.before a0 Z = true) : (Jvm.Cond.initialized "com/example/rigorous_chains/rigorouschains/prism/Type").before a0 Z = true := hw _ (List.mem_of_getElem? (i := 3) rfl)
theorem wd4 {a0 : Array Value} {Z : State} (hw : ∀ d ∈ tables_1, d.before a0 Z = true) : (Jvm.Cond.laysStatic "com/example/rigorous_chains/rigorouschains/prism/Type" "INT" "Lcom/example/rigorous_chains/rigorouschains/prism/Type;").before a0 Z = true := hw _ (List.mem_of_getElem? (i := 4) rfl)
theorem wd6 {a0 : Array Value} {Z : State} (hw : ∀ d ∈ tables_1, d.before a0 Z = true) : (Jvm.Cond.fieldLink "com/example/rigorous_chains/rigorouschains/prism/TypeWidestPinLaw" (13 : Nat) "com/example/rigorous_chains/rigorouschains/prism/Type" "DOUBLE" "Lcom/example/rigorous_chains/rigorouschains/prism/Type;").before a0 Z = true := hw _ (List.mem_of_getElem? (i := 6) rfl)
theorem wd7 {a0 : Array Value} {Z : State} (hw : ∀ d ∈ tables_1, d.before a0 Z = true) : (Jvm.Cond.laysStatic "com/example/rigorous_chains/rigorouschains/prism/Type" "DOUBLE" "Lcom/example/rigorous_chains/rigorouschains/prism/Type;").before a0 Z = true := hw _ (List.mem_of_getElem? (i := 7) rfl)
theorem wd8 {a0 : Array Value} {Z : State} (hw : ∀ d ∈ tables_1, d.before a0 Z = true) : (Jvm.Cond.methodLink "com/example/rigorous_chains/rigorouschains/prism/TypeWidestPinLaw" (16 : Nat) ({ cls := "com/example/rigorous_chains/rigorouschains/prism/Type", name := "widest", desc := "(Lcom/example/rigorous_chains/rigorouschains/prism/Type;Lcom/example/rigorous_chains/rigorouschains/prism/Type;)Lcom/example/rigorous_chains/rigorouschains/prism/Type;" } : Jvm.MethodName)).before a0 Z = true := hw _ (List.mem_of_getElem? (i := 8) rfl)
theorem wd9 {a0 : Array Value} {Z : State} (hw : ∀ d ∈ tables_1, d.before a0 Z = true) : (Jvm.Cond.static ({ cls := "com/example/rigorous_chains/rigorouschains/prism/Type", name := "widest", desc := "(Lcom/example/rigorous_chains/rigorouschains/prism/Type;Lcom/example/rigorous_chains/rigorouschains/prism/Type;)Lcom/example/rigorous_chains/rigorouschains/prism/Type;" } : Jvm.MethodName)).before a0 Z = true := hw _ (List.mem_of_getElem? (i := 9) rfl)
theorem wd10 {a0 : Array Value} {Z : State} (hw : ∀ d ∈ tables_1, d.before a0 Z = true) : (Jvm.Cond.code ({ cls := "com/example/rigorous_chains/rigorouschains/prism/Type", name := "widest", desc := "(Lcom/example/rigorous_chains/rigorouschains/prism/Type;Lcom/example/rigorous_chains/rigorouschains/prism/Type;)Lcom/example/rigorous_chains/rigorouschains/prism/Type;" } : Jvm.MethodName) prog_81_method_6_code (3 : Nat) (Option.some (Jvm.ClassFile.FieldType.object "com/example/rigorous_chains/rigorouschains/prism/Type"))).before a0 Z = true := hw _ (List.mem_of_getElem? (i := 10) rfl)
theorem wd11 {a0 : Array Value} {Z : State} (hw : ∀ d ∈ tables_1, d.before a0 Z = true) : (Jvm.Cond.fieldLink "com/example/rigorous_chains/rigorouschains/prism/Type" (7 : Nat) "com/example/rigorous_chains/rigorouschains/prism/Type" "INT" "Lcom/example/rigorous_chains/rigorouschains/prism/Type;").before a0 Z = true := hw _ (List.mem_of_getElem? (i := 11) rfl)
theorem wd12 {a0 : Array Value} {Z : State} (hw : ∀ d ∈ tables_1, d.before a0 Z = true) : (Jvm.Cond.fieldLink "com/example/rigorous_chains/rigorouschains/prism/Type" (10 : Nat) "com/example/rigorous_chains/rigorouschains/prism/Type" "DOUBLE" "Lcom/example/rigorous_chains/rigorouschains/prism/Type;").before a0 Z = true := hw _ (List.mem_of_getElem? (i := 12) rfl)
theorem wd13 {a0 : Array Value} {Z : State} (hw : ∀ d ∈ tables_1, d.before a0 Z = true) : (Jvm.Cond.methodLink "com/example/rigorous_chains/rigorouschains/prism/TypeWidestPinLaw" (20 : Nat) ({ cls := "com/example/rigorous_chains/rigorouschains/prism/Type", name := "isNumeric", desc := "()Z" } : Jvm.MethodName)).before a0 Z = true := hw _ (List.mem_of_getElem? (i := 13) rfl)
theorem wd14 {a0 : Array Value} {Z : State} (hw : ∀ d ∈ tables_1, d.before a0 Z = true) : (Jvm.Cond.declares ({ cls := "com/example/rigorous_chains/rigorouschains/prism/Type", name := "isNumeric", desc := "()Z" } : Jvm.MethodName)).before a0 Z = true := hw _ (List.mem_of_getElem? (i := 14) rfl)
theorem wd15 {a0 : Array Value} {Z : State} (hw : ∀ d ∈ tables_1, d.before a0 Z = true) : (Jvm.Cond.instanceMethod ({ cls := "com/example/rigorous_chains/rigorouschains/prism/Type", name := "isNumeric", desc := "()Z" } : Jvm.MethodName)).before a0 Z = true := hw _ (List.mem_of_getElem? (i := 15) rfl)
theorem wd16 {a0 : Array Value} {Z : State} (hw : ∀ d ∈ tables_1, d.before a0 Z = true) : (Jvm.Cond.selects "com/example/rigorous_chains/rigorouschains/prism/Type" ({ cls := "com/example/rigorous_chains/rigorouschains/prism/Type", name := "isNumeric", desc := "()Z" } : Jvm.MethodName) ({ cls := "com/example/rigorous_chains/rigorouschains/prism/Type", name := "isNumeric", desc := "()Z" } : Jvm.MethodName)).before a0 Z = true := hw _ (List.mem_of_getElem? (i := 16) rfl)
theorem wd17 {a0 : Array Value} {Z : State} (hw : ∀ d ∈ tables_1, d.before a0 Z = true) : (Jvm.Cond.code ({ cls := "com/example/rigorous_chains/rigorouschains/prism/Type", name := "isNumeric", desc := "()Z" } : Jvm.MethodName) prog_81_method_4_code (1 : Nat) (Option.some Jvm.ClassFile.FieldType.boolean)).before a0 Z = true := hw _ (List.mem_of_getElem? (i := 17) rfl)
theorem wd18 {a0 : Array Value} {Z : State} (hw : ∀ d ∈ tables_1, d.before a0 Z = true) : (Jvm.Cond.fieldLink "com/example/rigorous_chains/rigorouschains/prism/Type" (3 : Nat) "com/example/rigorous_chains/rigorouschains/prism/Type" "BOOL" "Lcom/example/rigorous_chains/rigorouschains/prism/Type;").before a0 Z = true := hw _ (List.mem_of_getElem? (i := 18) rfl)
theorem wd19 {a0 : Array Value} {Z : State} (hw : ∀ d ∈ tables_1, d.before a0 Z = true) : (Jvm.Cond.laysStatic "com/example/rigorous_chains/rigorouschains/prism/Type" "BOOL" "Lcom/example/rigorous_chains/rigorouschains/prism/Type;").before a0 Z = true := hw _ (List.mem_of_getElem? (i := 19) rfl)
theorem wd20 {a0 : Array Value} {Z : State} (hw : ∀ d ∈ tables_1, d.before a0 Z = true) : (Jvm.Cond.methodLink "com/example/rigorous_chains/rigorouschains/prism/TypeWidestPinLaw" (24 : Nat) ({ cls := "com/example/rigorous_chains/rigorouschains/prism/Type", name := "accepts", desc := "(Lcom/example/rigorous_chains/rigorouschains/prism/Type;)Z" } : Jvm.MethodName)).before a0 Z = true := hw _ (List.mem_of_getElem? (i := 20) rfl)
theorem wd21 {a0 : Array Value} {Z : State} (hw : ∀ d ∈ tables_1, d.before a0 Z = true) : (Jvm.Cond.declares ({ cls := "com/example/rigorous_chains/rigorouschains/prism/Type", name := "accepts", desc := "(Lcom/example/rigorous_chains/rigorouschains/prism/Type;)Z" } : Jvm.MethodName)).before a0 Z = true := hw _ (List.mem_of_getElem? (i := 21) rfl)
theorem wd22 {a0 : Array Value} {Z : State} (hw : ∀ d ∈ tables_1, d.before a0 Z = true) : (Jvm.Cond.instanceMethod ({ cls := "com/example/rigorous_chains/rigorouschains/prism/Type", name := "accepts", desc := "(Lcom/example/rigorous_chains/rigorouschains/prism/Type;)Z" } : Jvm.MethodName)).before a0 Z = true := hw _ (List.mem_of_getElem? (i := 22) rfl)
theorem wd23 {a0 : Array Value} {Z : State} (hw : ∀ d ∈ tables_1, d.before a0 Z = true) : (Jvm.Cond.selects "com/example/rigorous_chains/rigorouschains/prism/Type" ({ cls := "com/example/rigorous_chains/rigorouschains/prism/Type", name := "accepts", desc := "(Lcom/example/rigorous_chains/rigorouschains/prism/Type;)Z" } : Jvm.MethodName) ({ cls := "com/example/rigorous_chains/rigorouschains/prism/Type", name := "accepts", desc := "(Lcom/example/rigorous_chains/rigorouschains/prism/Type;)Z" } : Jvm.MethodName)).before a0 Z = true := hw _ (List.mem_of_getElem? (i := 23) rfl)
theorem wd24 {a0 : Array Value} {Z : State} (hw : ∀ d ∈ tables_1, d.before a0 Z = true) : (Jvm.Cond.code ({ cls := "com/example/rigorous_chains/rigorouschains/prism/Type", name := "accepts", desc := "(Lcom/example/rigorous_chains/rigorouschains/prism/Type;)Z" } : Jvm.MethodName) prog_81_method_5_code (2 : Nat) (Option.some Jvm.ClassFile.FieldType.boolean)).before a0 Z = true := hw _ (List.mem_of_getElem? (i := 24) rfl)
theorem d1_0 : decode prog_81_method_6_code 0 = .ok (.aload_n 0, 1) := by decide +kernel
theorem d1_1 : decode prog_81_method_6_code 1 = .ok (.getstatic 7, 3) := by decide +kernel
theorem d1_4 : decode prog_81_method_6_code 4 = .ok (.if_acmp .ne 17, 3) := by decide +kernel
theorem d1_7 : decode prog_81_method_6_code 7 = .ok (.aload_n 1, 1) := by decide +kernel
theorem d1_8 : decode prog_81_method_6_code 8 = .ok (.getstatic 7, 3) := by decide +kernel
theorem d1_11 : decode prog_81_method_6_code 11 = .ok (.if_acmp .ne 10, 3) := by decide +kernel
theorem d1_14 : decode prog_81_method_6_code 14 = .ok (.getstatic 7, 3) := by decide +kernel
theorem d1_17 : decode prog_81_method_6_code 17 = .ok (.astore_n 2, 1) := by decide +kernel
theorem d1_18 : decode prog_81_method_6_code 18 = .ok (.goto 7, 3) := by decide +kernel
theorem d1_25 : decode prog_81_method_6_code 25 = .ok (.aload_n 2, 1) := by decide +kernel
theorem d1_26 : decode prog_81_method_6_code 26 = .ok (.areturn, 1) := by decide +kernel
theorem ef_1_0 (m : MethodId) (x0 : Addr) (x1 : Addr) : entryFrame m #[(.ref x0), (.ref x1)] 3 = mkF m 0 #[.val (.ref x0), .val (.ref x1), .unset] [] := by first | (simp [entryFrame, mkF, argsToLocals, Value.category]; done) | rfl
theorem pn_0 : plainName "com/example/rigorous_chains/rigorouschains/prism/Type" = true := by first | (simp [plainName, overriddenIn]; done) | decide +kernel
def Q_rm1_0 (Z : State) (w1 : Addr) (h0 : Heap) (n0 : Nat) (v : Option Value) (h : Heap) (L : List Loc) : Prop := v = some (.ref w1) ∧ Fr n0 L ∧ h = h0
set_option maxRecDepth 65536 in
set_option maxHeartbeats 40000000 in
theorem rm1_0 (l : Launch) (Z : State) (a0 : Array Value) (hw : ∀ d ∈ tables_1, d.before a0 Z = true) (ws : List Jvm.Cond) (w1 : Addr) (h0 : Heap) (n0 : Nat) (OL0 : Old Z n0 h0) (pr1 : Sta Z Z.heap "com/example/rigorous_chains/rigorouschains/prism/Type" "INT" "Lcom/example/rigorous_chains/rigorouschains/prism/Type;" (.ref w1)) :
    MetFree l (⟨"com/example/rigorous_chains/rigorouschains/prism/Type", "widest", "(Lcom/example/rigorous_chains/rigorouschains/prism/Type;Lcom/example/rigorous_chains/rigorouschains/prism/Type;)Lcom/example/rigorous_chains/rigorouschains/prism/Type;"⟩ : MethodName) (head1 (Jvm.Cond.code (⟨"com/example/rigorous_chains/rigorouschains/prism/Type", "widest", "(Lcom/example/rigorous_chains/rigorouschains/prism/Type;Lcom/example/rigorous_chains/rigorouschains/prism/Type;)Lcom/example/rigorous_chains/rigorouschains/prism/Type;"⟩ : MethodName) prog_81_method_6_code 3 (some (.object "com/example/rigorous_chains/rigorouschains/prism/Type")) :: ws) ({ frames := 0, cells := 0, slots := 0, locals := 0 } : Room)) (fun a U => a = #[(.ref w1), (.ref w1)] ∧ Z.Warmed39 U.vm ∧ U.heap = h0) (fun _ _ _ _ _ => True) (fun _ U o U' => ∃ v L, o = .returned v ∧ Q_rm1_0 Z w1 h0 n0 v U'.heap L ∧ FrameEnd U o U' L ({ frames := 0, cells := 0, slots := 0, locals := 0 } : Room).cells ({ frames := 0, cells := 0, slots := 0, locals := 0 } : Room).slots) := by
  refine MetFree.of_bodySF (plainFor_of_name pn_0) hisR ?_
  intro p e s m args below meth c s₁ Bd hml0 hP hK
  obtain ⟨rfl, hZ, hh⟩ := hP
  have hx := Bd.exec
  have hby := Bd.bytes
  have hml : c.maxLocals = 3 := hml0
  have hown : s.vm.findClass "com/example/rigorous_chains/rigorouschains/prism/Type" = some m.cls := findClass_of_methodNamed Bd.named
  have hnm := (name_of_methodNamed Bd.named Bd.method).1
  have X0 : Stand p l e ({ frames := 0, cells := 0, slots := 0, locals := 0 } : Room) s m #[(.ref w1), (.ref w1)] below meth c s₁ [] 0 0 := Stand.of_body Bd
  have e0 : s₁.heap = h0 := by rw [← hh, Bd.state]; rfl
  have N0 := Fr.nil n0
  have pre0 : ∀ t, Steps p.tables e below (s₁.setTop (mkF m 0 #[.val (.ref w1), .val (.ref w1), .unset] [])) t → Steps p.tables e below (s₁.setTop (entryFrame m #[(.ref w1), (.ref w1)] 3)) t := fun t k => castTop (ef_1_0 m w1 w1) k
  obtain ⟨T2, X2, e2, st2⟩ := getS2 X0 hx hZ hown (host := "") (Or.inl (wd11 hw)) Via.refl e0 (pr1.ext OL0.2) (g := (mkF m 1 #[.val (.ref w1), .val (.ref w1), .unset] [(.ref w1)])) rfl (hb hby d1_1)
  obtain ⟨T3, X3, e3, st3⟩ := getS2 X2 hx hZ hown (host := "") (Or.inl (wd11 hw)) Via.refl e2 (pr1.ext OL0.2) (g := (mkF m 8 #[.val (.ref w1), .val (.ref w1), .unset] [(.ref w1)])) rfl (hb hby d1_8)
  obtain ⟨T4, X4, e4, st4⟩ := getS2 X3 hx hZ hown (host := "") (Or.inl (wd11 hw)) Via.refl e3 (pr1.ext OL0.2) (g := (mkF m 14 #[.val (.ref w1), .val (.ref w1), .unset] [])) rfl (hb hby d1_14)
  obtain ⟨fs, hr, hrun, hended, hW, hsame⟩ := X4.leave (v := some (.ref w1)) (fun h => by rw [Bd.returns] at h; cases h)
  refine ⟨_, _, pre0 _ ?_, hrun, hended, _, _, rfl, ?_, ⟨_, rfl⟩, hW, hsame.mono (by decide) (by decide)⟩
  · show Steps p.tables e below (s₁.setTop (mkF m 0 #[.val (.ref w1), .val (.ref w1), .unset] [])) _
    refine XS.aloadN X0.here hx rfl (hb hby d1_0) rfl rfl ?_
    show Steps p.tables e below (s₁.setTop (mkF m 1 #[.val (.ref w1), .val (.ref w1), .unset] [(.ref w1)])) _
    refine st2 _ ?_
    show Steps p.tables e below (T2.setTop (mkF m 4 #[.val (.ref w1), .val (.ref w1), .unset] [(.ref w1), (.ref w1)])) _
    refine Jvm.RoadKit.acmp (g := (mkF m 4 #[.val (.ref w1), .val (.ref w1), .unset] [(.ref w1), (.ref w1)])) X2 hx rfl rfl rfl (pc0 := 4) (pc' := 7) (same := true) rfl (hb hby d1_4) rfl (decide_eq_true rfl) (by decide) (by decide) ?_
    show Steps p.tables e below (T2.setTop (mkF m 7 #[.val (.ref w1), .val (.ref w1), .unset] [])) _
    refine XS.aloadN X2.here hx rfl (hb hby d1_7) rfl rfl ?_
    show Steps p.tables e below (T2.setTop (mkF m 8 #[.val (.ref w1), .val (.ref w1), .unset] [(.ref w1)])) _
    refine st3 _ ?_
    show Steps p.tables e below (T3.setTop (mkF m 11 #[.val (.ref w1), .val (.ref w1), .unset] [(.ref w1), (.ref w1)])) _
    refine Jvm.RoadKit.acmp (g := (mkF m 11 #[.val (.ref w1), .val (.ref w1), .unset] [(.ref w1), (.ref w1)])) X3 hx rfl rfl rfl (pc0 := 11) (pc' := 14) (same := true) rfl (hb hby d1_11) rfl (decide_eq_true rfl) (by decide) (by decide) ?_
    show Steps p.tables e below (T3.setTop (mkF m 14 #[.val (.ref w1), .val (.ref w1), .unset] [])) _
    refine st4 _ ?_
    show Steps p.tables e below (T4.setTop (mkF m 17 #[.val (.ref w1), .val (.ref w1), .unset] [(.ref w1)])) _
    refine XS.astoreN X4.here hx rfl (hb hby d1_17) rfl rfl (l' := #[.val (.ref w1), .val (.ref w1), .val (.ref w1)]) rfl ?_
    show Steps p.tables e below (T4.setTop (mkF m 18 #[.val (.ref w1), .val (.ref w1), .val (.ref w1)] [])) _
    refine XS.goto X4.here hx rfl (pc0 := 18) (pc' := 25) rfl (hb hby d1_18) (by decide) (by decide) ?_
    show Steps p.tables e below (T4.setTop (mkF m 25 #[.val (.ref w1), .val (.ref w1), .val (.ref w1)] [])) _
    refine XS.aloadN X4.here hx rfl (hb hby d1_25) rfl rfl ?_
    show Steps p.tables e below (T4.setTop (mkF m 26 #[.val (.ref w1), .val (.ref w1), .val (.ref w1)] [(.ref w1)])) _
    jvm_step X4.here [X4.here.top, hx, (hb hby d1_26), X4.method', Bd.returns, Value.isRef, FieldType.isReference]
    first | (intro acts; rw [hr _ acts rfl rfl rfl]) | rw [hr _ _ rfl rfl rfl]
    exact Steps.refl _
  · show Q_rm1_0 Z w1 h0 n0 _ T4.heap _
    rw [e4]
    exact ⟨rfl, N0, rfl⟩
theorem pd_0 : parseMethodDescriptor "(Lcom/example/rigorous_chains/rigorouschains/prism/Type;Lcom/example/rigorous_chains/rigorouschains/prism/Type;)Lcom/example/rigorous_chains/rigorouschains/prism/Type;" = some ⟨[(.object "com/example/rigorous_chains/rigorouschains/prism/Type"), (.object "com/example/rigorous_chains/rigorouschains/prism/Type")], some (.object "com/example/rigorous_chains/rigorouschains/prism/Type")⟩ := by decide +kernel
theorem d2_0 : decode prog_81_method_4_code 0 = .ok (.aload_n 0, 1) := by decide +kernel
theorem d2_1 : decode prog_81_method_4_code 1 = .ok (.getstatic 3, 3) := by decide +kernel
theorem d2_4 : decode prog_81_method_4_code 4 = .ok (.if_acmp .eq 7, 3) := by decide +kernel
theorem d2_7 : decode prog_81_method_4_code 7 = .ok (.iconst 1, 1) := by decide +kernel
theorem d2_8 : decode prog_81_method_4_code 8 = .ok (.goto 4, 3) := by decide +kernel
theorem d2_12 : decode prog_81_method_4_code 12 = .ok (.ireturn, 1) := by decide +kernel
theorem ef_2_1 (m : MethodId) (x0 : Addr) : entryFrame m #[(.ref x0)] 1 = mkF m 0 #[.val (.ref x0)] [] := by first | (simp [entryFrame, mkF, argsToLocals, Value.category]; done) | rfl
def Q_rm2_0 (Z : State) (w1 : Addr) (w2 : Addr) (h0 : Heap) (n0 : Nat) (v : Option Value) (h : Heap) (L : List Loc) : Prop := v = some (.int (1 : Int32)) ∧ Fr n0 L ∧ h = h0
set_option maxRecDepth 65536 in
set_option maxHeartbeats 40000000 in
theorem rm2_0 (l : Launch) (Z : State) (a0 : Array Value) (hw : ∀ d ∈ tables_1, d.before a0 Z = true) (ws : List Jvm.Cond) (w1 : Addr) (w2 : Addr) (h0 : Heap) (n0 : Nat) (OL0 : Old Z n0 h0) (pr1 : Sta Z Z.heap "com/example/rigorous_chains/rigorouschains/prism/Type" "BOOL" "Lcom/example/rigorous_chains/rigorouschains/prism/Type;" (.ref w2)) (pr2 : w1 ≠ w2) :
    MetFree l (⟨"com/example/rigorous_chains/rigorouschains/prism/Type", "isNumeric", "()Z"⟩ : MethodName) (head1 (Jvm.Cond.code (⟨"com/example/rigorous_chains/rigorouschains/prism/Type", "isNumeric", "()Z"⟩ : MethodName) prog_81_method_4_code 1 (some .boolean) :: ws) ({ frames := 0, cells := 0, slots := 0, locals := 0 } : Room)) (fun a U => a = #[(.ref w1)] ∧ Z.Warmed39 U.vm ∧ U.heap = h0) (fun _ _ _ _ _ => True) (fun _ U o U' => ∃ v L, o = .returned v ∧ Q_rm2_0 Z w1 w2 h0 n0 v U'.heap L ∧ FrameEnd U o U' L ({ frames := 0, cells := 0, slots := 0, locals := 0 } : Room).cells ({ frames := 0, cells := 0, slots := 0, locals := 0 } : Room).slots) := by
  refine MetFree.of_bodySF (plainFor_of_name pn_0) hisR ?_
  intro p e s m args below meth c s₁ Bd hml0 hP hK
  obtain ⟨rfl, hZ, hh⟩ := hP
  have hx := Bd.exec
  have hby := Bd.bytes
  have hml : c.maxLocals = 1 := hml0
  have hown : s.vm.findClass "com/example/rigorous_chains/rigorouschains/prism/Type" = some m.cls := findClass_of_methodNamed Bd.named
  have hnm := (name_of_methodNamed Bd.named Bd.method).1
  have X0 : Stand p l e ({ frames := 0, cells := 0, slots := 0, locals := 0 } : Room) s m #[(.ref w1)] below meth c s₁ [] 0 0 := Stand.of_body Bd
  have e0 : s₁.heap = h0 := by rw [← hh, Bd.state]; rfl
  have N0 := Fr.nil n0
  have pre0 : ∀ t, Steps p.tables e below (s₁.setTop (mkF m 0 #[.val (.ref w1)] [])) t → Steps p.tables e below (s₁.setTop (entryFrame m #[(.ref w1)] 1)) t := fun t k => castTop (ef_2_1 m w1) k
  obtain ⟨T3, X3, e3, st3⟩ := getS2 X0 hx hZ hown (host := "") (Or.inl (wd18 hw)) Via.refl e0 (pr1.ext OL0.2) (g := (mkF m 1 #[.val (.ref w1)] [(.ref w1)])) rfl (hb hby d2_1)
  obtain ⟨fs, hr, hrun, hended, hW, hsame⟩ := X3.leave (v := some (.int (1 : Int32))) (fun h => by rw [Bd.returns] at h; cases h)
  refine ⟨_, _, pre0 _ ?_, hrun, hended, _, _, rfl, ?_, ⟨_, rfl⟩, hW, hsame.mono (by decide) (by decide)⟩
  · show Steps p.tables e below (s₁.setTop (mkF m 0 #[.val (.ref w1)] [])) _
    refine XS.aloadN X0.here hx rfl (hb hby d2_0) rfl rfl ?_
    show Steps p.tables e below (s₁.setTop (mkF m 1 #[.val (.ref w1)] [(.ref w1)])) _
    refine st3 _ ?_
    show Steps p.tables e below (T3.setTop (mkF m 4 #[.val (.ref w1)] [(.ref w2), (.ref w1)])) _
    refine Jvm.RoadKit.acmp (g := (mkF m 4 #[.val (.ref w1)] [(.ref w2), (.ref w1)])) X3 hx rfl rfl rfl (pc0 := 4) (pc' := 7) (same := false) rfl (hb hby d2_4) rfl (decide_eq_false fun q => pr2 (Value.ref.inj q)) (by decide) (by decide) ?_
    show Steps p.tables e below (T3.setTop (mkF m 7 #[.val (.ref w1)] [])) _
    refine XS.iconst X3.here hx rfl (hb hby d2_7) ?_
    show Steps p.tables e below (T3.setTop (mkF m 8 #[.val (.ref w1)] [(.int (1 : Int32))])) _
    refine XS.goto X3.here hx rfl (pc0 := 8) (pc' := 12) rfl (hb hby d2_8) (by decide) (by decide) ?_
    show Steps p.tables e below (T3.setTop (mkF m 12 #[.val (.ref w1)] [(.int (1 : Int32))])) _
    exact retN X3 hx (t := .boolean) Bd.returns (by simp) (hb hby d2_12) hr
  · show Q_rm2_0 Z w1 w2 h0 n0 _ T3.heap _
    rw [e3]
    exact ⟨rfl, N0, rfl⟩
theorem pd_1 : parseMethodDescriptor "()Z" = some ⟨[], some .boolean⟩ := by decide +kernel
theorem d3_0 : decode prog_81_method_5_code 0 = .ok (.aload_n 0, 1) := by decide +kernel
theorem d3_1 : decode prog_81_method_5_code 1 = .ok (.aload_n 1, 1) := by decide +kernel
theorem d3_2 : decode prog_81_method_5_code 2 = .ok (.if_acmp .eq 17, 3) := by decide +kernel
theorem d3_19 : decode prog_81_method_5_code 19 = .ok (.iconst 1, 1) := by decide +kernel
theorem d3_20 : decode prog_81_method_5_code 20 = .ok (.goto 4, 3) := by decide +kernel
theorem d3_24 : decode prog_81_method_5_code 24 = .ok (.ireturn, 1) := by decide +kernel
theorem ef_3_2 (m : MethodId) (x0 : Addr) (x1 : Addr) : entryFrame m #[(.ref x0), (.ref x1)] 2 = mkF m 0 #[.val (.ref x0), .val (.ref x1)] [] := by first | (simp [entryFrame, mkF, argsToLocals, Value.category]; done) | rfl
def Q_rm3_0 (Z : State) (w1 : Addr) (h0 : Heap) (n0 : Nat) (v : Option Value) (h : Heap) (L : List Loc) : Prop := v = some (.int (1 : Int32)) ∧ Fr n0 L ∧ h = h0
set_option maxRecDepth 65536 in
set_option maxHeartbeats 40000000 in
theorem rm3_0 (l : Launch) (Z : State) (a0 : Array Value) (hw : ∀ d ∈ tables_1, d.before a0 Z = true) (ws : List Jvm.Cond) (w1 : Addr) (h0 : Heap) (n0 : Nat) (OL0 : Old Z n0 h0)  :
    MetFree l (⟨"com/example/rigorous_chains/rigorouschains/prism/Type", "accepts", "(Lcom/example/rigorous_chains/rigorouschains/prism/Type;)Z"⟩ : MethodName) (head1 (Jvm.Cond.code (⟨"com/example/rigorous_chains/rigorouschains/prism/Type", "accepts", "(Lcom/example/rigorous_chains/rigorouschains/prism/Type;)Z"⟩ : MethodName) prog_81_method_5_code 2 (some .boolean) :: ws) ({ frames := 0, cells := 0, slots := 0, locals := 0 } : Room)) (fun a U => a = #[(.ref w1), (.ref w1)] ∧ Z.Warmed39 U.vm ∧ U.heap = h0) (fun _ _ _ _ _ => True) (fun _ U o U' => ∃ v L, o = .returned v ∧ Q_rm3_0 Z w1 h0 n0 v U'.heap L ∧ FrameEnd U o U' L ({ frames := 0, cells := 0, slots := 0, locals := 0 } : Room).cells ({ frames := 0, cells := 0, slots := 0, locals := 0 } : Room).slots) := by
  refine MetFree.of_bodySF (plainFor_of_name pn_0) hisR ?_
  intro p e s m args below meth c s₁ Bd hml0 hP hK
  obtain ⟨rfl, hZ, hh⟩ := hP
  have hx := Bd.exec
  have hby := Bd.bytes
  have hml : c.maxLocals = 2 := hml0
  have hown : s.vm.findClass "com/example/rigorous_chains/rigorouschains/prism/Type" = some m.cls := findClass_of_methodNamed Bd.named
  have hnm := (name_of_methodNamed Bd.named Bd.method).1
  have X0 : Stand p l e ({ frames := 0, cells := 0, slots := 0, locals := 0 } : Room) s m #[(.ref w1), (.ref w1)] below meth c s₁ [] 0 0 := Stand.of_body Bd
  have e0 : s₁.heap = h0 := by rw [← hh, Bd.state]; rfl
  have N0 := Fr.nil n0
  have pre0 : ∀ t, Steps p.tables e below (s₁.setTop (mkF m 0 #[.val (.ref w1), .val (.ref w1)] [])) t → Steps p.tables e below (s₁.setTop (entryFrame m #[(.ref w1), (.ref w1)] 2)) t := fun t k => castTop (ef_3_2 m w1 w1) k
  obtain ⟨fs, hr, hrun, hended, hW, hsame⟩ := X0.leave (v := some (.int (1 : Int32))) (fun h => by rw [Bd.returns] at h; cases h)
  refine ⟨_, _, pre0 _ ?_, hrun, hended, _, _, rfl, ?_, ⟨_, rfl⟩, hW, hsame.mono (by decide) (by decide)⟩
  · show Steps p.tables e below (s₁.setTop (mkF m 0 #[.val (.ref w1), .val (.ref w1)] [])) _
    refine XS.aloadN X0.here hx rfl (hb hby d3_0) rfl rfl ?_
    show Steps p.tables e below (s₁.setTop (mkF m 1 #[.val (.ref w1), .val (.ref w1)] [(.ref w1)])) _
    refine XS.aloadN X0.here hx rfl (hb hby d3_1) rfl rfl ?_
    show Steps p.tables e below (s₁.setTop (mkF m 2 #[.val (.ref w1), .val (.ref w1)] [(.ref w1), (.ref w1)])) _
    refine Jvm.RoadKit.acmp (g := (mkF m 2 #[.val (.ref w1), .val (.ref w1)] [(.ref w1), (.ref w1)])) X0 hx rfl rfl rfl (pc0 := 2) (pc' := 19) (same := true) rfl (hb hby d3_2) rfl (decide_eq_true rfl) (by decide) (by decide) ?_
    show Steps p.tables e below (s₁.setTop (mkF m 19 #[.val (.ref w1), .val (.ref w1)] [])) _
    refine XS.iconst X0.here hx rfl (hb hby d3_19) ?_
    show Steps p.tables e below (s₁.setTop (mkF m 20 #[.val (.ref w1), .val (.ref w1)] [(.int (1 : Int32))])) _
    refine XS.goto X0.here hx rfl (pc0 := 20) (pc' := 24) rfl (hb hby d3_20) (by decide) (by decide) ?_
    show Steps p.tables e below (s₁.setTop (mkF m 24 #[.val (.ref w1), .val (.ref w1)] [(.int (1 : Int32))])) _
    exact retN X0 hx (t := .boolean) Bd.returns (by simp) (hb hby d3_24) hr
  · show Q_rm3_0 Z w1 h0 n0 _ s₁.heap _
    rw [e0]
    exact ⟨rfl, N0, rfl⟩
theorem pd_2 : parseMethodDescriptor "(Lcom/example/rigorous_chains/rigorouschains/prism/Type;)Z" = some ⟨[(.object "com/example/rigorous_chains/rigorouschains/prism/Type")], some .boolean⟩ := by decide +kernel
theorem ef_0_3 (m : MethodId) (x0 : Int32) (x1 : Int32) (x2 : Int32) : entryFrame m #[(.int x0), (.int x1), (.int x2)] maxLocals = mkF m 0 #[.val (.int x0), .val (.int x1), .val (.int x2), .unset, .unset, .unset, .unset, .unset, .unset, .unset, .unset] [] := by first | (simp [entryFrame, mkF, argsToLocals, Value.category, maxLocals]; done) | rfl
theorem pn_1 : plainName "com/example/rigorous_chains/rigorouschains/prism/TypeWidestPinLaw" = true := by first | (simp [plainName, overriddenIn]; done) | decide +kernel
set_option maxRecDepth 65536 in
set_option maxHeartbeats 40000000 in
theorem rm0_0_0_0 (l : Launch) (Z : State) (a0 : Array Value) (hw : ∀ d ∈ tables_1, d.before a0 Z = true) (ws : List Jvm.Cond) (p1 : Int32) (p2 : Int32) (p3 : Int32) (w_INT : Addr) (w_DOUBLE : Addr) (w_BOOL : Addr) (h0 : Heap) (n0 : Nat) (OL0 : Old Z n0 h0) (pr1 : Sta Z Z.heap "com/example/rigorous_chains/rigorouschains/prism/Type" "INT" "Lcom/example/rigorous_chains/rigorouschains/prism/Type;" (.ref w_INT)) (pr2 : Exa Z Z.heap w_INT "com/example/rigorous_chains/rigorouschains/prism/Type") (pr3 : Sta Z Z.heap "com/example/rigorous_chains/rigorouschains/prism/Type" "DOUBLE" "Lcom/example/rigorous_chains/rigorouschains/prism/Type;" (.ref w_DOUBLE)) (pr4 : Exa Z Z.heap w_DOUBLE "com/example/rigorous_chains/rigorouschains/prism/Type") (pr5 : (p1 &&& (1 : Int32)) = (0 : Int32)) (pr6 : (p2 &&& (1 : Int32)) = (0 : Int32)) (pr7 : (p3 &&& (1 : Int32)) = (0 : Int32)) (pr8 : Sta Z Z.heap "com/example/rigorous_chains/rigorouschains/prism/Type" "BOOL" "Lcom/example/rigorous_chains/rigorouschains/prism/Type;" (.ref w_BOOL)) (pr9 : w_INT ≠ w_BOOL) :
    MetFree l x (head1 (Jvm.Cond.code x code maxLocals ret :: ws) room_1) (fun a U => a = #[(.int p1), (.int p2), (.int p3)] ∧ Z.Warmed39 U.vm ∧ U.heap = h0) (fun _ _ _ _ _ => True) (fun _ U o U' => ∃ v L, o = .returned v ∧ Q0 n0 v L ∧ FrameEnd U o U' L 16 128) := by
  refine MetFree.of_bodySF (plainFor_of_name pn_1) hisR ?_
  intro p e s m args below meth c s₁ Bd hml0 hP hK
  obtain ⟨rfl, hZ, hh⟩ := hP
  have hx := Bd.exec
  have hby := Bd.bytes
  have hml : c.maxLocals = 11 := hml0
  have hown : s.vm.findClass "com/example/rigorous_chains/rigorouschains/prism/TypeWidestPinLaw" = some m.cls := findClass_of_methodNamed Bd.named
  have hnm := (name_of_methodNamed Bd.named Bd.method).1
  have X0 : Stand p l e room_1 s m #[(.int p1), (.int p2), (.int p3)] below meth c s₁ [] 0 0 := Stand.of_body Bd
  have e0 : s₁.heap = h0 := by rw [← hh, Bd.state]; rfl
  have N0 := Fr.nil n0
  have pre0 : ∀ t, Steps p.tables e below (s₁.setTop (mkF m 0 #[.val (.int p1), .val (.int p2), .val (.int p3), .unset, .unset, .unset, .unset, .unset, .unset, .unset, .unset] [])) t → Steps p.tables e below (s₁.setTop (entryFrame m #[(.int p1), (.int p2), (.int p3)] maxLocals)) t := fun t k => castTop (ef_0_3 m p1 p2 p3) k
  obtain ⟨T1, h1, k1, X1, e1, E1, A1, O1, st1⟩ := newR X0 hx hZ hown (wd0 hw) (wd1 hw) e0 (g := (mkF m 1 #[.val (.int p1), .val (.int p2), .val (.int p3), .unset, .unset, .unset, .unset, .unset, .unset, .unset, .unset] [(.int (2 : Int32))])) rfl (hb hby at_1) rfl (by decide) (cap := 2) (by decide) (by decide) (by decide) (by decide)
  obtain ⟨b1, g1⟩ : ∃ z, z = h0.size := ⟨_, rfl⟩
  rw [← g1] at A1 st1
  have V1 : Arv Z h1 b1 k1 (.object "com/example/rigorous_chains/rigorouschains/prism/Type") (2 : Int32) [.null, .null] .null := (Arv.new A1 (by decide)).pad (pad_rep [] .null 2)
  have g_b1 : n0 ≤ b1 := (Nat.le_trans (Nat.le_trans (Nat.le_of_eq OL0.1.symm) OL0.2.1) (Nat.le_of_eq g1.symm))
  have sz_b1 : h0.size ≤ b1 := (Nat.le_trans (Keep.refl h0 []).1 (Nat.le_of_eq g1.symm))
  have KK1 : Keep h0 h1 [] := (Keep.refl h0 []).ext E1
  have OL1 := OL0.ext E1
  obtain ⟨T2, X2, e2, st2⟩ := getS2 X1 hx hZ hown (host := "") (Or.inl (wd2 hw)) Via.refl e1 (pr1.ext OL1.2) (g := (mkF m 6 #[.val (.int p1), .val (.int p2), .val (.int p3), .unset, .unset, .unset, .unset, .unset, .unset, .unset, .unset] [(.int (0 : Int32)), (.ref b1), (.ref b1)])) rfl (hb hby at_6)
  obtain ⟨cl3, Ar3, q3, S3, M3, Hs3, G3⟩ := id V1
  have hin3 : ¬ ((0 : Int32) < 0 ∨ cl3.slots.size ≤ ((0 : Int32)).toNatClampNeg) := inb_of S3 ⟨by decide, by decide⟩
  obtain ⟨T4, h4, X4, e4, W4, st4⟩ := stR X2 hx hZ e2 Ar3 (j := (0 : Int32)) hin3 rfl (Sto.ofV Ar3 q3 O1 (Ins.self (pr2.ext OL1.2))) (g := (mkF m 9 #[.val (.int p1), .val (.int p2), .val (.int p3), .unset, .unset, .unset, .unset, .unset, .unset, .unset, .unset] [(.ref w_INT), (.int (0 : Int32)), (.ref b1), (.ref b1)])) rfl rfl (hb hby at_9)
  have V4 : Arv Z h4 b1 k1 (.object "com/example/rigorous_chains/rigorouschains/prism/Type") (2 : Int32) [(.ref w_INT), .null] .null := Arv.set Ar3 q3 S3 M3 Hs3 G3 rfl W4 0 rfl (Nat.le_of_ble_eq_true rfl)
  have KK4 : Keep h0 h4 [] := KK1.wr W4 (Or.inr sz_b1)
  have OL4 := OL1.wr W4 g_b1
  have N4 := Fr.snoc X4 N0 g_b1
  obtain ⟨T5, X5, e5, st5⟩ := getS2 X4 hx hZ hown (host := "") (Or.inl (wd6 hw)) Via.refl e4 (pr3.ext OL4.2) (g := (mkF m 12 #[.val (.int p1), .val (.int p2), .val (.int p3), .unset, .unset, .unset, .unset, .unset, .unset, .unset, .unset] [(.int (1 : Int32)), (.ref b1), (.ref b1)])) rfl (hb hby at_12)
  obtain ⟨cl6, Ar6, q6, S6, M6, Hs6, G6⟩ := id V4
  have hin6 : ¬ ((1 : Int32) < 0 ∨ cl6.slots.size ≤ ((1 : Int32)).toNatClampNeg) := inb_of S6 ⟨by decide, by decide⟩
  obtain ⟨T7, h7, X7, e7, W7, st7⟩ := stR X5 hx hZ e5 Ar6 (j := (1 : Int32)) hin6 rfl (Sto.ofV Ar6 q6 O1 (Ins.self (pr4.ext OL4.2))) (g := (mkF m 15 #[.val (.int p1), .val (.int p2), .val (.int p3), .unset, .unset, .unset, .unset, .unset, .unset, .unset, .unset] [(.ref w_DOUBLE), (.int (1 : Int32)), (.ref b1), (.ref b1)])) rfl rfl (hb hby at_15)
  have V7 : Arv Z h7 b1 k1 (.object "com/example/rigorous_chains/rigorouschains/prism/Type") (2 : Int32) [(.ref w_INT), (.ref w_DOUBLE)] .null := Arv.set Ar6 q6 S6 M6 Hs6 G6 rfl W7 1 rfl (Nat.le_of_ble_eq_true rfl)
  have KK7 : Keep h0 h7 [] := KK4.wr W7 (Or.inr sz_b1)
  have OL7 := OL4.wr W7 g_b1
  have N7 := Fr.snoc X7 N4 g_b1
  obtain ⟨cl8, Ar8, -, S8, -, Hs8, -⟩ := id V7
  have hin8 : ¬ ((0 : Int32) < 0 ∨ cl8.slots.size ≤ ((0 : Int32)).toNatClampNeg) := inb_of S8 ⟨by decide, by decide⟩
  have hat8 : cl8.slots[((0 : Int32)).toNatClampNeg]? = some (.ref w_INT) := Hs8.at hin8 rfl
  obtain ⟨cl9, Ar9, -, S9, -, Hs9, -⟩ := id V7
  have hin9 : ¬ ((0 : Int32) < 0 ∨ cl9.slots.size ≤ ((0 : Int32)).toNatClampNeg) := inb_of S9 ⟨by decide, by decide⟩
  have hat9 : cl9.slots[((0 : Int32)).toNatClampNeg]? = some (.ref w_INT) := Hs9.at hin9 rfl
  obtain ⟨cl10, Ar10, -, S10, -, Hs10, -⟩ := id V7
  have hin10 : ¬ ((0 : Int32) < 0 ∨ cl10.slots.size ≤ ((0 : Int32)).toNatClampNeg) := inb_of S10 ⟨by decide, by decide⟩
  have hat10 : cl10.slots[((0 : Int32)).toNatClampNeg]? = some (.ref w_INT) := Hs10.at hin10 rfl
  obtain ⟨_, _, ⟨T11, L11, k11, n11⟩, -, X11, ⟨Lc11, hQ11, l11, y11, z11⟩, st11⟩ := Jvm.LawKit.callS X7 hx (y := (⟨"com/example/rigorous_chains/rigorouschains/prism/Type", "widest", "(Lcom/example/rigorous_chains/rigorouschains/prism/Type;Lcom/example/rigorous_chains/rigorouschains/prism/Type;)Lcom/example/rigorous_chains/rigorouschains/prism/Type;"⟩ : MethodName)) hown (mvT hZ (wd8 hw)) (mvT hZ (wd9 hw)) (mvT hZ (wd3 hw)) (mvT hZ (wd10 hw)) (by decide) (backOf (W := 0) (rm1_0 l Z a0 hw [] w_INT h7 n0 OL7 pr1) hZ (wd10 hw) (wd3 hw) (by decide) (by decide)) (g := (mkF m 42 #[.val (.int p1), .val (.int p2), .val (.int p3), .val (.ref b1), .val (.ref w_INT), .val (.ref w_INT), .val (.ref w_INT), .unset, .unset, .unset, .unset] [(.ref w_INT), (.ref w_INT)])) rfl (by rw [hml]; rfl) (argsL := [(.ref w_INT), (.ref w_INT)]) (rest := []) (lenOf pd_0 rfl) rfl (by show 2 * 0 + _ ≤ _; exact Nat.le_of_eq rfl) (hb hby at_42) (fun _ _ => ⟨rfl, e7, (by decide : 1 + 0 ≤ _), (by decide : 2 + 0 ≤ _)⟩)
  dsimp only [Pt.U, Pt.locs, Pt.cells, Pt.slots] at X11 l11 y11 z11 st11 hQ11
  subst l11 y11 z11
  obtain ⟨rfl, Nq11, ec11⟩ := hQ11
  have N11 := Fr.app N7 Nq11
  obtain ⟨cq12, kq12, q12a, q12b, q12c⟩ := isOf hZ ec11 (pr2.ext OL7.2)
  obtain ⟨_, _, ⟨T12, L12, k12, n12⟩, -, X12, ⟨Lc12, hQ12, l12, y12, z12⟩, st12⟩ := X11.virtualBack hx (y := (⟨"com/example/rigorous_chains/rigorouschains/prism/Type", "isNumeric", "()Z"⟩ : MethodName)) (z := (⟨"com/example/rigorous_chains/rigorouschains/prism/Type", "isNumeric", "()Z"⟩ : MethodName)) hown (mvT hZ (wd13 hw)) (mvT hZ (wd14 hw)) (notFace_of_selects (args := #[]) (mvT hZ (wd16 hw))) (mvT hZ (wd16 hw)) (mvT hZ (wd15 hw)) (by decide) (backOf (W := 0) (rm2_0 l Z a0 hw [] w_INT w_BOOL h7 n0 OL7 pr8 pr9) hZ (wd17 hw) (wd3 hw) (by decide) (by decide)) q12a q12c (g := (mkF m 56 #[.val (.int p1), .val (.int p2), .val (.int p3), .val (.ref b1), .val (.ref w_INT), .val (.ref w_INT), .val (.ref w_INT), .val (.ref w_INT), .unset, .unset, .unset] [(.ref w_INT)])) rfl (by rw [hml]; rfl) (Steps.refl _) (argsL := []) (rest := []) (lenOf pd_1 rfl) rfl (by show 2 * 0 + _ ≤ _; exact Nat.le_of_eq rfl) (hb hby at_56) (fun _ _ => ⟨rfl, ec11, (by decide : 1 + 0 ≤ _), (by decide : 2 + 0 ≤ _)⟩)
  dsimp only [Pt.U, Pt.locs, Pt.cells, Pt.slots] at X12 l12 y12 z12 st12 hQ12
  subst l12 y12 z12
  obtain ⟨rfl, Nq12, ec12⟩ := hQ12
  have N12 := Fr.app N11 Nq12
  obtain ⟨cq13, kq13, q13a, q13b, q13c⟩ := isOf hZ ec12 (pr2.ext OL7.2)
  obtain ⟨_, _, ⟨T13, L13, k13, n13⟩, -, X13, ⟨Lc13, hQ13, l13, y13, z13⟩, st13⟩ := X12.virtualBack hx (y := (⟨"com/example/rigorous_chains/rigorouschains/prism/Type", "accepts", "(Lcom/example/rigorous_chains/rigorouschains/prism/Type;)Z"⟩ : MethodName)) (z := (⟨"com/example/rigorous_chains/rigorouschains/prism/Type", "accepts", "(Lcom/example/rigorous_chains/rigorouschains/prism/Type;)Z"⟩ : MethodName)) hown (mvT hZ (wd20 hw)) (mvT hZ (wd21 hw)) (notFace_of_selects (args := #[]) (mvT hZ (wd23 hw))) (mvT hZ (wd23 hw)) (mvT hZ (wd22 hw)) (by decide) (backOf (W := 0) (rm3_0 l Z a0 hw [] w_INT h7 n0 OL7 ) hZ (wd24 hw) (wd3 hw) (by decide) (by decide)) q13a q13c (g := (mkF m 66 #[.val (.int p1), .val (.int p2), .val (.int p3), .val (.ref b1), .val (.ref w_INT), .val (.ref w_INT), .val (.ref w_INT), .val (.ref w_INT), .unset, .unset, .unset] [(.ref w_INT), (.ref w_INT)])) rfl (by rw [hml]; rfl) (Steps.refl _) (argsL := [(.ref w_INT)]) (rest := []) (lenOf pd_2 rfl) rfl (by show 2 * 0 + _ ≤ _; exact Nat.le_of_eq rfl) (hb hby at_66) (fun _ _ => ⟨rfl, ec12, (by decide : 1 + 0 ≤ _), (by decide : 2 + 0 ≤ _)⟩)
  dsimp only [Pt.U, Pt.locs, Pt.cells, Pt.slots] at X13 l13 y13 z13 st13 hQ13
  subst l13 y13 z13
  obtain ⟨rfl, Nq13, ec13⟩ := hQ13
  have N13 := Fr.app N12 Nq13
  obtain ⟨cq14, kq14, q14a, q14b, q14c⟩ := isOf hZ ec13 (pr2.ext OL7.2)
  obtain ⟨_, _, ⟨T14, L14, k14, n14⟩, -, X14, ⟨Lc14, hQ14, l14, y14, z14⟩, st14⟩ := X13.virtualBack hx (y := (⟨"com/example/rigorous_chains/rigorouschains/prism/Type", "accepts", "(Lcom/example/rigorous_chains/rigorouschains/prism/Type;)Z"⟩ : MethodName)) (z := (⟨"com/example/rigorous_chains/rigorouschains/prism/Type", "accepts", "(Lcom/example/rigorous_chains/rigorouschains/prism/Type;)Z"⟩ : MethodName)) hown (mvT hZ (wd20 hw)) (mvT hZ (wd21 hw)) (notFace_of_selects (args := #[]) (mvT hZ (wd23 hw))) (mvT hZ (wd23 hw)) (mvT hZ (wd22 hw)) (by decide) (backOf (W := 0) (rm3_0 l Z a0 hw [] w_INT h7 n0 OL7 ) hZ (wd24 hw) (wd3 hw) (by decide) (by decide)) q14a q14c (g := (mkF m 76 #[.val (.int p1), .val (.int p2), .val (.int p3), .val (.ref b1), .val (.ref w_INT), .val (.ref w_INT), .val (.ref w_INT), .val (.ref w_INT), .unset, .unset, .unset] [(.ref w_INT), (.ref w_INT)])) rfl (by rw [hml]; rfl) (Steps.refl _) (argsL := [(.ref w_INT)]) (rest := []) (lenOf pd_2 rfl) rfl (by show 2 * 0 + _ ≤ _; exact Nat.le_of_eq rfl) (hb hby at_76) (fun _ _ => ⟨rfl, ec13, (by decide : 1 + 0 ≤ _), (by decide : 2 + 0 ≤ _)⟩)
  dsimp only [Pt.U, Pt.locs, Pt.cells, Pt.slots] at X14 l14 y14 z14 st14 hQ14
  subst l14 y14 z14
  obtain ⟨rfl, Nq14, ec14⟩ := hQ14
  have N14 := Fr.app N13 Nq14
  obtain ⟨cq15, kq15, q15a, q15b, q15c⟩ := isOf hZ ec14 (pr2.ext OL7.2)
  obtain ⟨_, _, ⟨T15, L15, k15, n15⟩, -, X15, ⟨Lc15, hQ15, l15, y15, z15⟩, st15⟩ := X14.virtualBack hx (y := (⟨"com/example/rigorous_chains/rigorouschains/prism/Type", "accepts", "(Lcom/example/rigorous_chains/rigorouschains/prism/Type;)Z"⟩ : MethodName)) (z := (⟨"com/example/rigorous_chains/rigorouschains/prism/Type", "accepts", "(Lcom/example/rigorous_chains/rigorouschains/prism/Type;)Z"⟩ : MethodName)) hown (mvT hZ (wd20 hw)) (mvT hZ (wd21 hw)) (notFace_of_selects (args := #[]) (mvT hZ (wd23 hw))) (mvT hZ (wd23 hw)) (mvT hZ (wd22 hw)) (by decide) (backOf (W := 0) (rm3_0 l Z a0 hw [] w_INT h7 n0 OL7 ) hZ (wd24 hw) (wd3 hw) (by decide) (by decide)) q15a q15c (g := (mkF m 93 #[.val (.int p1), .val (.int p2), .val (.int p3), .val (.ref b1), .val (.ref w_INT), .val (.ref w_INT), .val (.ref w_INT), .val (.ref w_INT), .val (.int (1 : Int32)), .unset, .unset] [(.ref w_INT), (.ref w_INT)])) rfl (by rw [hml]; rfl) (Steps.refl _) (argsL := [(.ref w_INT)]) (rest := []) (lenOf pd_2 rfl) rfl (by show 2 * 0 + _ ≤ _; exact Nat.le_of_eq rfl) (hb hby at_93) (fun _ _ => ⟨rfl, ec14, (by decide : 1 + 0 ≤ _), (by decide : 2 + 0 ≤ _)⟩)
  dsimp only [Pt.U, Pt.locs, Pt.cells, Pt.slots] at X15 l15 y15 z15 st15 hQ15
  subst l15 y15 z15
  obtain ⟨rfl, Nq15, ec15⟩ := hQ15
  have N15 := Fr.app N14 Nq15
  obtain ⟨cq16, kq16, q16a, q16b, q16c⟩ := isOf hZ ec15 (pr2.ext OL7.2)
  obtain ⟨_, _, ⟨T16, L16, k16, n16⟩, -, X16, ⟨Lc16, hQ16, l16, y16, z16⟩, st16⟩ := X15.virtualBack hx (y := (⟨"com/example/rigorous_chains/rigorouschains/prism/Type", "accepts", "(Lcom/example/rigorous_chains/rigorouschains/prism/Type;)Z"⟩ : MethodName)) (z := (⟨"com/example/rigorous_chains/rigorouschains/prism/Type", "accepts", "(Lcom/example/rigorous_chains/rigorouschains/prism/Type;)Z"⟩ : MethodName)) hown (mvT hZ (wd20 hw)) (mvT hZ (wd21 hw)) (notFace_of_selects (args := #[]) (mvT hZ (wd23 hw))) (mvT hZ (wd23 hw)) (mvT hZ (wd22 hw)) (by decide) (backOf (W := 0) (rm3_0 l Z a0 hw [] w_INT h7 n0 OL7 ) hZ (wd24 hw) (wd3 hw) (by decide) (by decide)) q16a q16c (g := (mkF m 103 #[.val (.int p1), .val (.int p2), .val (.int p3), .val (.ref b1), .val (.ref w_INT), .val (.ref w_INT), .val (.ref w_INT), .val (.ref w_INT), .val (.int (1 : Int32)), .unset, .unset] [(.ref w_INT), (.ref w_INT)])) rfl (by rw [hml]; rfl) (Steps.refl _) (argsL := [(.ref w_INT)]) (rest := []) (lenOf pd_2 rfl) rfl (by show 2 * 0 + _ ≤ _; exact Nat.le_of_eq rfl) (hb hby at_103) (fun _ _ => ⟨rfl, ec15, (by decide : 1 + 0 ≤ _), (by decide : 2 + 0 ≤ _)⟩)
  dsimp only [Pt.U, Pt.locs, Pt.cells, Pt.slots] at X16 l16 y16 z16 st16 hQ16
  subst l16 y16 z16
  obtain ⟨rfl, Nq16, ec16⟩ := hQ16
  have N16 := Fr.app N15 Nq16
  obtain ⟨cq17, kq17, q17a, q17b, q17c⟩ := isOf hZ ec16 (pr2.ext OL7.2)
  obtain ⟨_, _, ⟨T17, L17, k17, n17⟩, -, X17, ⟨Lc17, hQ17, l17, y17, z17⟩, st17⟩ := X16.virtualBack hx (y := (⟨"com/example/rigorous_chains/rigorouschains/prism/Type", "accepts", "(Lcom/example/rigorous_chains/rigorouschains/prism/Type;)Z"⟩ : MethodName)) (z := (⟨"com/example/rigorous_chains/rigorouschains/prism/Type", "accepts", "(Lcom/example/rigorous_chains/rigorouschains/prism/Type;)Z"⟩ : MethodName)) hown (mvT hZ (wd20 hw)) (mvT hZ (wd21 hw)) (notFace_of_selects (args := #[]) (mvT hZ (wd23 hw))) (mvT hZ (wd23 hw)) (mvT hZ (wd22 hw)) (by decide) (backOf (W := 0) (rm3_0 l Z a0 hw [] w_INT h7 n0 OL7 ) hZ (wd24 hw) (wd3 hw) (by decide) (by decide)) q17a q17c (g := (mkF m 113 #[.val (.int p1), .val (.int p2), .val (.int p3), .val (.ref b1), .val (.ref w_INT), .val (.ref w_INT), .val (.ref w_INT), .val (.ref w_INT), .val (.int (1 : Int32)), .unset, .unset] [(.ref w_INT), (.ref w_INT)])) rfl (by rw [hml]; rfl) (Steps.refl _) (argsL := [(.ref w_INT)]) (rest := []) (lenOf pd_2 rfl) rfl (by show 2 * 0 + _ ≤ _; exact Nat.le_of_eq rfl) (hb hby at_113) (fun _ _ => ⟨rfl, ec16, (by decide : 1 + 0 ≤ _), (by decide : 2 + 0 ≤ _)⟩)
  dsimp only [Pt.U, Pt.locs, Pt.cells, Pt.slots] at X17 l17 y17 z17 st17 hQ17
  subst l17 y17 z17
  obtain ⟨rfl, Nq17, ec17⟩ := hQ17
  have N17 := Fr.app N16 Nq17
  obtain ⟨_, _, ⟨T18, L18, k18, n18⟩, -, X18, ⟨Lc18, hQ18, l18, y18, z18⟩, st18⟩ := Jvm.LawKit.callS X17 hx (y := (⟨"com/example/rigorous_chains/rigorouschains/prism/Type", "widest", "(Lcom/example/rigorous_chains/rigorouschains/prism/Type;Lcom/example/rigorous_chains/rigorouschains/prism/Type;)Lcom/example/rigorous_chains/rigorouschains/prism/Type;"⟩ : MethodName)) hown (mvT hZ (wd8 hw)) (mvT hZ (wd9 hw)) (mvT hZ (wd3 hw)) (mvT hZ (wd10 hw)) (by decide) (backOf (W := 0) (rm1_0 l Z a0 hw [] w_INT h7 n0 OL7 pr1) hZ (wd10 hw) (wd3 hw) (by decide) (by decide)) (g := (mkF m 130 #[.val (.int p1), .val (.int p2), .val (.int p3), .val (.ref b1), .val (.ref w_INT), .val (.ref w_INT), .val (.ref w_INT), .val (.ref w_INT), .val (.int (1 : Int32)), .val (.int (1 : Int32)), .unset] [(.ref w_INT), (.ref w_INT)])) rfl (by rw [hml]; rfl) (argsL := [(.ref w_INT), (.ref w_INT)]) (rest := []) (lenOf pd_0 rfl) rfl (by show 2 * 0 + _ ≤ _; exact Nat.le_of_eq rfl) (hb hby at_130) (fun _ _ => ⟨rfl, ec17, (by decide : 1 + 0 ≤ _), (by decide : 2 + 0 ≤ _)⟩)
  dsimp only [Pt.U, Pt.locs, Pt.cells, Pt.slots] at X18 l18 y18 z18 st18 hQ18
  subst l18 y18 z18
  obtain ⟨rfl, Nq18, ec18⟩ := hQ18
  have N18 := Fr.app N17 Nq18
  obtain ⟨fs, hr, hrun, hended, hW, hsame⟩ := X18.leave (v := some (.int (1 : Int32))) (fun h => by rw [Bd.returns] at h; cases h)
  refine ⟨_, _, pre0 _ ?_, hrun, hended, _, _, rfl, ?_, ⟨_, rfl⟩, hW, hsame.mono (by decide) (by decide)⟩
  · show Steps p.tables e below (s₁.setTop (mkF m 0 #[.val (.int p1), .val (.int p2), .val (.int p3), .unset, .unset, .unset, .unset, .unset, .unset, .unset, .unset] [])) _
    refine XS.iconst X0.here hx rfl (hb hby at_0) ?_
    show Steps p.tables e below (s₁.setTop (mkF m 1 #[.val (.int p1), .val (.int p2), .val (.int p3), .unset, .unset, .unset, .unset, .unset, .unset, .unset, .unset] [(.int (2 : Int32))])) _
    refine st1 _ ?_
    show Steps p.tables e below (T1.setTop (mkF m 4 #[.val (.int p1), .val (.int p2), .val (.int p3), .unset, .unset, .unset, .unset, .unset, .unset, .unset, .unset] [(.ref b1)])) _
    refine XS.dup X1.here hx rfl (hb hby at_4) rfl rfl ?_
    show Steps p.tables e below (T1.setTop (mkF m 5 #[.val (.int p1), .val (.int p2), .val (.int p3), .unset, .unset, .unset, .unset, .unset, .unset, .unset, .unset] [(.ref b1), (.ref b1)])) _
    refine XS.iconst X1.here hx rfl (hb hby at_5) ?_
    show Steps p.tables e below (T1.setTop (mkF m 6 #[.val (.int p1), .val (.int p2), .val (.int p3), .unset, .unset, .unset, .unset, .unset, .unset, .unset, .unset] [(.int (0 : Int32)), (.ref b1), (.ref b1)])) _
    refine st2 _ ?_
    show Steps p.tables e below (T2.setTop (mkF m 9 #[.val (.int p1), .val (.int p2), .val (.int p3), .unset, .unset, .unset, .unset, .unset, .unset, .unset, .unset] [(.ref w_INT), (.int (0 : Int32)), (.ref b1), (.ref b1)])) _
    refine st4 _ ?_
    show Steps p.tables e below (T4.setTop (mkF m 10 #[.val (.int p1), .val (.int p2), .val (.int p3), .unset, .unset, .unset, .unset, .unset, .unset, .unset, .unset] [(.ref b1)])) _
    refine XS.dup X4.here hx rfl (hb hby at_10) rfl rfl ?_
    show Steps p.tables e below (T4.setTop (mkF m 11 #[.val (.int p1), .val (.int p2), .val (.int p3), .unset, .unset, .unset, .unset, .unset, .unset, .unset, .unset] [(.ref b1), (.ref b1)])) _
    refine XS.iconst X4.here hx rfl (hb hby at_11) ?_
    show Steps p.tables e below (T4.setTop (mkF m 12 #[.val (.int p1), .val (.int p2), .val (.int p3), .unset, .unset, .unset, .unset, .unset, .unset, .unset, .unset] [(.int (1 : Int32)), (.ref b1), (.ref b1)])) _
    refine st5 _ ?_
    show Steps p.tables e below (T5.setTop (mkF m 15 #[.val (.int p1), .val (.int p2), .val (.int p3), .unset, .unset, .unset, .unset, .unset, .unset, .unset, .unset] [(.ref w_DOUBLE), (.int (1 : Int32)), (.ref b1), (.ref b1)])) _
    refine st7 _ ?_
    show Steps p.tables e below (T7.setTop (mkF m 16 #[.val (.int p1), .val (.int p2), .val (.int p3), .unset, .unset, .unset, .unset, .unset, .unset, .unset, .unset] [(.ref b1)])) _
    refine XS.astoreN X7.here hx rfl (hb hby at_16) rfl rfl (l' := #[.val (.int p1), .val (.int p2), .val (.int p3), .val (.ref b1), .unset, .unset, .unset, .unset, .unset, .unset, .unset]) rfl ?_
    show Steps p.tables e below (T7.setTop (mkF m 17 #[.val (.int p1), .val (.int p2), .val (.int p3), .val (.ref b1), .unset, .unset, .unset, .unset, .unset, .unset, .unset] [])) _
    refine XS.aloadN X7.here hx rfl (hb hby at_17) rfl rfl ?_
    show Steps p.tables e below (T7.setTop (mkF m 18 #[.val (.int p1), .val (.int p2), .val (.int p3), .val (.ref b1), .unset, .unset, .unset, .unset, .unset, .unset, .unset] [(.ref b1)])) _
    refine XS.iloadN X7.here hx rfl (hb hby at_18) rfl ?_
    show Steps p.tables e below (T7.setTop (mkF m 19 #[.val (.int p1), .val (.int p2), .val (.int p3), .val (.ref b1), .unset, .unset, .unset, .unset, .unset, .unset, .unset] [(.int p1), (.ref b1)])) _
    refine XS.iconst X7.here hx rfl (hb hby at_19) ?_
    show Steps p.tables e below (T7.setTop (mkF m 20 #[.val (.int p1), .val (.int p2), .val (.int p3), .val (.ref b1), .unset, .unset, .unset, .unset, .unset, .unset, .unset] [(.int (1 : Int32)), (.int p1), (.ref b1)])) _
    refine XS.iand X7.here hx rfl (hb hby at_20) rfl ?_
    show Steps p.tables e below (T7.setTop (mkF m 21 #[.val (.int p1), .val (.int p2), .val (.int p3), .val (.ref b1), .unset, .unset, .unset, .unset, .unset, .unset, .unset] [(.int (p1 &&& (1 : Int32))), (.ref b1)])) _
    rw [pr5]
    show Steps p.tables e below (T7.setTop (mkF m 21 #[.val (.int p1), .val (.int p2), .val (.int p3), .val (.ref b1), .unset, .unset, .unset, .unset, .unset, .unset, .unset] [(.int (0 : Int32)), (.ref b1)])) _
    refine X7.aaload hx (j := (0 : Int32)) (v := (.ref w_INT)) (by rw [e7]; exact Ar8.1) (State.isArrayOf_alike hZ.alike Ar8.2.1) rfl Ar8.2.2 hin8 hat8 (g := (mkF m 21 #[.val (.int p1), .val (.int p2), .val (.int p3), .val (.ref b1), .unset, .unset, .unset, .unset, .unset, .unset, .unset] [(.int (0 : Int32)), (.ref b1)])) rfl rfl (hb hby at_21) _ ?_
    show Steps p.tables e below (T7.setTop (mkF m 22 #[.val (.int p1), .val (.int p2), .val (.int p3), .val (.ref b1), .unset, .unset, .unset, .unset, .unset, .unset, .unset] [(.ref w_INT)])) _
    refine XS.astore X7.here hx rfl (hb hby at_22) rfl rfl (l' := #[.val (.int p1), .val (.int p2), .val (.int p3), .val (.ref b1), .val (.ref w_INT), .unset, .unset, .unset, .unset, .unset, .unset]) rfl ?_
    show Steps p.tables e below (T7.setTop (mkF m 24 #[.val (.int p1), .val (.int p2), .val (.int p3), .val (.ref b1), .val (.ref w_INT), .unset, .unset, .unset, .unset, .unset, .unset] [])) _
    refine XS.aloadN X7.here hx rfl (hb hby at_24) rfl rfl ?_
    show Steps p.tables e below (T7.setTop (mkF m 25 #[.val (.int p1), .val (.int p2), .val (.int p3), .val (.ref b1), .val (.ref w_INT), .unset, .unset, .unset, .unset, .unset, .unset] [(.ref b1)])) _
    refine XS.iloadN X7.here hx rfl (hb hby at_25) rfl ?_
    show Steps p.tables e below (T7.setTop (mkF m 26 #[.val (.int p1), .val (.int p2), .val (.int p3), .val (.ref b1), .val (.ref w_INT), .unset, .unset, .unset, .unset, .unset, .unset] [(.int p2), (.ref b1)])) _
    refine XS.iconst X7.here hx rfl (hb hby at_26) ?_
    show Steps p.tables e below (T7.setTop (mkF m 27 #[.val (.int p1), .val (.int p2), .val (.int p3), .val (.ref b1), .val (.ref w_INT), .unset, .unset, .unset, .unset, .unset, .unset] [(.int (1 : Int32)), (.int p2), (.ref b1)])) _
    refine XS.iand X7.here hx rfl (hb hby at_27) rfl ?_
    show Steps p.tables e below (T7.setTop (mkF m 28 #[.val (.int p1), .val (.int p2), .val (.int p3), .val (.ref b1), .val (.ref w_INT), .unset, .unset, .unset, .unset, .unset, .unset] [(.int (p2 &&& (1 : Int32))), (.ref b1)])) _
    rw [pr6]
    show Steps p.tables e below (T7.setTop (mkF m 28 #[.val (.int p1), .val (.int p2), .val (.int p3), .val (.ref b1), .val (.ref w_INT), .unset, .unset, .unset, .unset, .unset, .unset] [(.int (0 : Int32)), (.ref b1)])) _
    refine X7.aaload hx (j := (0 : Int32)) (v := (.ref w_INT)) (by rw [e7]; exact Ar9.1) (State.isArrayOf_alike hZ.alike Ar9.2.1) rfl Ar9.2.2 hin9 hat9 (g := (mkF m 28 #[.val (.int p1), .val (.int p2), .val (.int p3), .val (.ref b1), .val (.ref w_INT), .unset, .unset, .unset, .unset, .unset, .unset] [(.int (0 : Int32)), (.ref b1)])) rfl rfl (hb hby at_28) _ ?_
    show Steps p.tables e below (T7.setTop (mkF m 29 #[.val (.int p1), .val (.int p2), .val (.int p3), .val (.ref b1), .val (.ref w_INT), .unset, .unset, .unset, .unset, .unset, .unset] [(.ref w_INT)])) _
    refine XS.astore X7.here hx rfl (hb hby at_29) rfl rfl (l' := #[.val (.int p1), .val (.int p2), .val (.int p3), .val (.ref b1), .val (.ref w_INT), .val (.ref w_INT), .unset, .unset, .unset, .unset, .unset]) rfl ?_
    show Steps p.tables e below (T7.setTop (mkF m 31 #[.val (.int p1), .val (.int p2), .val (.int p3), .val (.ref b1), .val (.ref w_INT), .val (.ref w_INT), .unset, .unset, .unset, .unset, .unset] [])) _
    refine XS.aloadN X7.here hx rfl (hb hby at_31) rfl rfl ?_
    show Steps p.tables e below (T7.setTop (mkF m 32 #[.val (.int p1), .val (.int p2), .val (.int p3), .val (.ref b1), .val (.ref w_INT), .val (.ref w_INT), .unset, .unset, .unset, .unset, .unset] [(.ref b1)])) _
    refine XS.iloadN X7.here hx rfl (hb hby at_32) rfl ?_
    show Steps p.tables e below (T7.setTop (mkF m 33 #[.val (.int p1), .val (.int p2), .val (.int p3), .val (.ref b1), .val (.ref w_INT), .val (.ref w_INT), .unset, .unset, .unset, .unset, .unset] [(.int p3), (.ref b1)])) _
    refine XS.iconst X7.here hx rfl (hb hby at_33) ?_
    show Steps p.tables e below (T7.setTop (mkF m 34 #[.val (.int p1), .val (.int p2), .val (.int p3), .val (.ref b1), .val (.ref w_INT), .val (.ref w_INT), .unset, .unset, .unset, .unset, .unset] [(.int (1 : Int32)), (.int p3), (.ref b1)])) _
    refine XS.iand X7.here hx rfl (hb hby at_34) rfl ?_
    show Steps p.tables e below (T7.setTop (mkF m 35 #[.val (.int p1), .val (.int p2), .val (.int p3), .val (.ref b1), .val (.ref w_INT), .val (.ref w_INT), .unset, .unset, .unset, .unset, .unset] [(.int (p3 &&& (1 : Int32))), (.ref b1)])) _
    rw [pr7]
    show Steps p.tables e below (T7.setTop (mkF m 35 #[.val (.int p1), .val (.int p2), .val (.int p3), .val (.ref b1), .val (.ref w_INT), .val (.ref w_INT), .unset, .unset, .unset, .unset, .unset] [(.int (0 : Int32)), (.ref b1)])) _
    refine X7.aaload hx (j := (0 : Int32)) (v := (.ref w_INT)) (by rw [e7]; exact Ar10.1) (State.isArrayOf_alike hZ.alike Ar10.2.1) rfl Ar10.2.2 hin10 hat10 (g := (mkF m 35 #[.val (.int p1), .val (.int p2), .val (.int p3), .val (.ref b1), .val (.ref w_INT), .val (.ref w_INT), .unset, .unset, .unset, .unset, .unset] [(.int (0 : Int32)), (.ref b1)])) rfl rfl (hb hby at_35) _ ?_
    show Steps p.tables e below (T7.setTop (mkF m 36 #[.val (.int p1), .val (.int p2), .val (.int p3), .val (.ref b1), .val (.ref w_INT), .val (.ref w_INT), .unset, .unset, .unset, .unset, .unset] [(.ref w_INT)])) _
    refine XS.astore X7.here hx rfl (hb hby at_36) rfl rfl (l' := #[.val (.int p1), .val (.int p2), .val (.int p3), .val (.ref b1), .val (.ref w_INT), .val (.ref w_INT), .val (.ref w_INT), .unset, .unset, .unset, .unset]) rfl ?_
    show Steps p.tables e below (T7.setTop (mkF m 38 #[.val (.int p1), .val (.int p2), .val (.int p3), .val (.ref b1), .val (.ref w_INT), .val (.ref w_INT), .val (.ref w_INT), .unset, .unset, .unset, .unset] [])) _
    refine XS.aload X7.here hx rfl (hb hby at_38) rfl rfl ?_
    show Steps p.tables e below (T7.setTop (mkF m 40 #[.val (.int p1), .val (.int p2), .val (.int p3), .val (.ref b1), .val (.ref w_INT), .val (.ref w_INT), .val (.ref w_INT), .unset, .unset, .unset, .unset] [(.ref w_INT)])) _
    refine XS.aload X7.here hx rfl (hb hby at_40) rfl rfl ?_
    show Steps p.tables e below (T7.setTop (mkF m 42 #[.val (.int p1), .val (.int p2), .val (.int p3), .val (.ref b1), .val (.ref w_INT), .val (.ref w_INT), .val (.ref w_INT), .unset, .unset, .unset, .unset] [(.ref w_INT), (.ref w_INT)])) _
    refine st11 _ ?_
    show Steps p.tables e below (T11.setTop (mkF m 45 #[.val (.int p1), .val (.int p2), .val (.int p3), .val (.ref b1), .val (.ref w_INT), .val (.ref w_INT), .val (.ref w_INT), .unset, .unset, .unset, .unset] [(.ref w_INT)])) _
    refine XS.astore X11.here hx rfl (hb hby at_45) rfl rfl (l' := #[.val (.int p1), .val (.int p2), .val (.int p3), .val (.ref b1), .val (.ref w_INT), .val (.ref w_INT), .val (.ref w_INT), .val (.ref w_INT), .unset, .unset, .unset]) rfl ?_
    show Steps p.tables e below (T11.setTop (mkF m 47 #[.val (.int p1), .val (.int p2), .val (.int p3), .val (.ref b1), .val (.ref w_INT), .val (.ref w_INT), .val (.ref w_INT), .val (.ref w_INT), .unset, .unset, .unset] [])) _
    refine XS.aload X11.here hx rfl (hb hby at_47) rfl rfl ?_
    show Steps p.tables e below (T11.setTop (mkF m 49 #[.val (.int p1), .val (.int p2), .val (.int p3), .val (.ref b1), .val (.ref w_INT), .val (.ref w_INT), .val (.ref w_INT), .val (.ref w_INT), .unset, .unset, .unset] [(.ref w_INT)])) _
    refine XS.ifnonnullYes X11.here hx rfl (pc0 := 49) (pc' := 54) rfl (hb hby at_49) rfl (by decide) (by decide) ?_
    show Steps p.tables e below (T11.setTop (mkF m 54 #[.val (.int p1), .val (.int p2), .val (.int p3), .val (.ref b1), .val (.ref w_INT), .val (.ref w_INT), .val (.ref w_INT), .val (.ref w_INT), .unset, .unset, .unset] [])) _
    refine XS.aload X11.here hx rfl (hb hby at_54) rfl rfl ?_
    show Steps p.tables e below (T11.setTop (mkF m 56 #[.val (.int p1), .val (.int p2), .val (.int p3), .val (.ref b1), .val (.ref w_INT), .val (.ref w_INT), .val (.ref w_INT), .val (.ref w_INT), .unset, .unset, .unset] [(.ref w_INT)])) _
    refine st12.trans ?_
    show Steps p.tables e below (T12.setTop (mkF m 59 #[.val (.int p1), .val (.int p2), .val (.int p3), .val (.ref b1), .val (.ref w_INT), .val (.ref w_INT), .val (.ref w_INT), .val (.ref w_INT), .unset, .unset, .unset] [(.int (1 : Int32))])) _
    refine XS.ifNo X12.here hx rfl (hb hby at_59) rfl ((if0 _ _).trans (feq (by decide : ¬ ((1 : Int32) = (0 : Int32)))).1) ?_
    show Steps p.tables e below (T12.setTop (mkF m 62 #[.val (.int p1), .val (.int p2), .val (.int p3), .val (.ref b1), .val (.ref w_INT), .val (.ref w_INT), .val (.ref w_INT), .val (.ref w_INT), .unset, .unset, .unset] [])) _
    refine XS.aload X12.here hx rfl (hb hby at_62) rfl rfl ?_
    show Steps p.tables e below (T12.setTop (mkF m 64 #[.val (.int p1), .val (.int p2), .val (.int p3), .val (.ref b1), .val (.ref w_INT), .val (.ref w_INT), .val (.ref w_INT), .val (.ref w_INT), .unset, .unset, .unset] [(.ref w_INT)])) _
    refine XS.aload X12.here hx rfl (hb hby at_64) rfl rfl ?_
    show Steps p.tables e below (T12.setTop (mkF m 66 #[.val (.int p1), .val (.int p2), .val (.int p3), .val (.ref b1), .val (.ref w_INT), .val (.ref w_INT), .val (.ref w_INT), .val (.ref w_INT), .unset, .unset, .unset] [(.ref w_INT), (.ref w_INT)])) _
    refine st13.trans ?_
    show Steps p.tables e below (T13.setTop (mkF m 69 #[.val (.int p1), .val (.int p2), .val (.int p3), .val (.ref b1), .val (.ref w_INT), .val (.ref w_INT), .val (.ref w_INT), .val (.ref w_INT), .unset, .unset, .unset] [(.int (1 : Int32))])) _
    refine XS.ifNo X13.here hx rfl (hb hby at_69) rfl ((if0 _ _).trans (feq (by decide : ¬ ((1 : Int32) = (0 : Int32)))).1) ?_
    show Steps p.tables e below (T13.setTop (mkF m 72 #[.val (.int p1), .val (.int p2), .val (.int p3), .val (.ref b1), .val (.ref w_INT), .val (.ref w_INT), .val (.ref w_INT), .val (.ref w_INT), .unset, .unset, .unset] [])) _
    refine XS.aload X13.here hx rfl (hb hby at_72) rfl rfl ?_
    show Steps p.tables e below (T13.setTop (mkF m 74 #[.val (.int p1), .val (.int p2), .val (.int p3), .val (.ref b1), .val (.ref w_INT), .val (.ref w_INT), .val (.ref w_INT), .val (.ref w_INT), .unset, .unset, .unset] [(.ref w_INT)])) _
    refine XS.aload X13.here hx rfl (hb hby at_74) rfl rfl ?_
    show Steps p.tables e below (T13.setTop (mkF m 76 #[.val (.int p1), .val (.int p2), .val (.int p3), .val (.ref b1), .val (.ref w_INT), .val (.ref w_INT), .val (.ref w_INT), .val (.ref w_INT), .unset, .unset, .unset] [(.ref w_INT), (.ref w_INT)])) _
    refine st14.trans ?_
    show Steps p.tables e below (T14.setTop (mkF m 79 #[.val (.int p1), .val (.int p2), .val (.int p3), .val (.ref b1), .val (.ref w_INT), .val (.ref w_INT), .val (.ref w_INT), .val (.ref w_INT), .unset, .unset, .unset] [(.int (1 : Int32))])) _
    refine XS.ifNo X14.here hx rfl (hb hby at_79) rfl ((if0 _ _).trans (feq (by decide : ¬ ((1 : Int32) = (0 : Int32)))).1) ?_
    show Steps p.tables e below (T14.setTop (mkF m 82 #[.val (.int p1), .val (.int p2), .val (.int p3), .val (.ref b1), .val (.ref w_INT), .val (.ref w_INT), .val (.ref w_INT), .val (.ref w_INT), .unset, .unset, .unset] [])) _
    refine XS.iconst X14.here hx rfl (hb hby at_82) ?_
    show Steps p.tables e below (T14.setTop (mkF m 83 #[.val (.int p1), .val (.int p2), .val (.int p3), .val (.ref b1), .val (.ref w_INT), .val (.ref w_INT), .val (.ref w_INT), .val (.ref w_INT), .unset, .unset, .unset] [(.int (1 : Int32))])) _
    refine XS.goto X14.here hx rfl (pc0 := 83) (pc' := 87) rfl (hb hby at_83) (by decide) (by decide) ?_
    show Steps p.tables e below (T14.setTop (mkF m 87 #[.val (.int p1), .val (.int p2), .val (.int p3), .val (.ref b1), .val (.ref w_INT), .val (.ref w_INT), .val (.ref w_INT), .val (.ref w_INT), .unset, .unset, .unset] [(.int (1 : Int32))])) _
    refine XS.istore X14.here hx rfl (hb hby at_87) rfl (l' := #[.val (.int p1), .val (.int p2), .val (.int p3), .val (.ref b1), .val (.ref w_INT), .val (.ref w_INT), .val (.ref w_INT), .val (.ref w_INT), .val (.int (1 : Int32)), .unset, .unset]) rfl ?_
    show Steps p.tables e below (T14.setTop (mkF m 89 #[.val (.int p1), .val (.int p2), .val (.int p3), .val (.ref b1), .val (.ref w_INT), .val (.ref w_INT), .val (.ref w_INT), .val (.ref w_INT), .val (.int (1 : Int32)), .unset, .unset] [])) _
    refine XS.aload X14.here hx rfl (hb hby at_89) rfl rfl ?_
    show Steps p.tables e below (T14.setTop (mkF m 91 #[.val (.int p1), .val (.int p2), .val (.int p3), .val (.ref b1), .val (.ref w_INT), .val (.ref w_INT), .val (.ref w_INT), .val (.ref w_INT), .val (.int (1 : Int32)), .unset, .unset] [(.ref w_INT)])) _
    refine XS.aload X14.here hx rfl (hb hby at_91) rfl rfl ?_
    show Steps p.tables e below (T14.setTop (mkF m 93 #[.val (.int p1), .val (.int p2), .val (.int p3), .val (.ref b1), .val (.ref w_INT), .val (.ref w_INT), .val (.ref w_INT), .val (.ref w_INT), .val (.int (1 : Int32)), .unset, .unset] [(.ref w_INT), (.ref w_INT)])) _
    refine st15.trans ?_
    show Steps p.tables e below (T15.setTop (mkF m 96 #[.val (.int p1), .val (.int p2), .val (.int p3), .val (.ref b1), .val (.ref w_INT), .val (.ref w_INT), .val (.ref w_INT), .val (.ref w_INT), .val (.int (1 : Int32)), .unset, .unset] [(.int (1 : Int32))])) _
    refine XS.ifNo X15.here hx rfl (hb hby at_96) rfl ((if0 _ _).trans (feq (by decide : ¬ ((1 : Int32) = (0 : Int32)))).1) ?_
    show Steps p.tables e below (T15.setTop (mkF m 99 #[.val (.int p1), .val (.int p2), .val (.int p3), .val (.ref b1), .val (.ref w_INT), .val (.ref w_INT), .val (.ref w_INT), .val (.ref w_INT), .val (.int (1 : Int32)), .unset, .unset] [])) _
    refine XS.aload X15.here hx rfl (hb hby at_99) rfl rfl ?_
    show Steps p.tables e below (T15.setTop (mkF m 101 #[.val (.int p1), .val (.int p2), .val (.int p3), .val (.ref b1), .val (.ref w_INT), .val (.ref w_INT), .val (.ref w_INT), .val (.ref w_INT), .val (.int (1 : Int32)), .unset, .unset] [(.ref w_INT)])) _
    refine XS.aload X15.here hx rfl (hb hby at_101) rfl rfl ?_
    show Steps p.tables e below (T15.setTop (mkF m 103 #[.val (.int p1), .val (.int p2), .val (.int p3), .val (.ref b1), .val (.ref w_INT), .val (.ref w_INT), .val (.ref w_INT), .val (.ref w_INT), .val (.int (1 : Int32)), .unset, .unset] [(.ref w_INT), (.ref w_INT)])) _
    refine st16.trans ?_
    show Steps p.tables e below (T16.setTop (mkF m 106 #[.val (.int p1), .val (.int p2), .val (.int p3), .val (.ref b1), .val (.ref w_INT), .val (.ref w_INT), .val (.ref w_INT), .val (.ref w_INT), .val (.int (1 : Int32)), .unset, .unset] [(.int (1 : Int32))])) _
    refine XS.ifNo X16.here hx rfl (hb hby at_106) rfl ((if0 _ _).trans (feq (by decide : ¬ ((1 : Int32) = (0 : Int32)))).1) ?_
    show Steps p.tables e below (T16.setTop (mkF m 109 #[.val (.int p1), .val (.int p2), .val (.int p3), .val (.ref b1), .val (.ref w_INT), .val (.ref w_INT), .val (.ref w_INT), .val (.ref w_INT), .val (.int (1 : Int32)), .unset, .unset] [])) _
    refine XS.aload X16.here hx rfl (hb hby at_109) rfl rfl ?_
    show Steps p.tables e below (T16.setTop (mkF m 111 #[.val (.int p1), .val (.int p2), .val (.int p3), .val (.ref b1), .val (.ref w_INT), .val (.ref w_INT), .val (.ref w_INT), .val (.ref w_INT), .val (.int (1 : Int32)), .unset, .unset] [(.ref w_INT)])) _
    refine XS.aload X16.here hx rfl (hb hby at_111) rfl rfl ?_
    show Steps p.tables e below (T16.setTop (mkF m 113 #[.val (.int p1), .val (.int p2), .val (.int p3), .val (.ref b1), .val (.ref w_INT), .val (.ref w_INT), .val (.ref w_INT), .val (.ref w_INT), .val (.int (1 : Int32)), .unset, .unset] [(.ref w_INT), (.ref w_INT)])) _
    refine st17.trans ?_
    show Steps p.tables e below (T17.setTop (mkF m 116 #[.val (.int p1), .val (.int p2), .val (.int p3), .val (.ref b1), .val (.ref w_INT), .val (.ref w_INT), .val (.ref w_INT), .val (.ref w_INT), .val (.int (1 : Int32)), .unset, .unset] [(.int (1 : Int32))])) _
    refine XS.ifNo X17.here hx rfl (hb hby at_116) rfl ((if0 _ _).trans (feq (by decide : ¬ ((1 : Int32) = (0 : Int32)))).1) ?_
    show Steps p.tables e below (T17.setTop (mkF m 119 #[.val (.int p1), .val (.int p2), .val (.int p3), .val (.ref b1), .val (.ref w_INT), .val (.ref w_INT), .val (.ref w_INT), .val (.ref w_INT), .val (.int (1 : Int32)), .unset, .unset] [])) _
    refine XS.iconst X17.here hx rfl (hb hby at_119) ?_
    show Steps p.tables e below (T17.setTop (mkF m 120 #[.val (.int p1), .val (.int p2), .val (.int p3), .val (.ref b1), .val (.ref w_INT), .val (.ref w_INT), .val (.ref w_INT), .val (.ref w_INT), .val (.int (1 : Int32)), .unset, .unset] [(.int (1 : Int32))])) _
    refine XS.goto X17.here hx rfl (pc0 := 120) (pc' := 124) rfl (hb hby at_120) (by decide) (by decide) ?_
    show Steps p.tables e below (T17.setTop (mkF m 124 #[.val (.int p1), .val (.int p2), .val (.int p3), .val (.ref b1), .val (.ref w_INT), .val (.ref w_INT), .val (.ref w_INT), .val (.ref w_INT), .val (.int (1 : Int32)), .unset, .unset] [(.int (1 : Int32))])) _
    refine XS.istore X17.here hx rfl (hb hby at_124) rfl (l' := #[.val (.int p1), .val (.int p2), .val (.int p3), .val (.ref b1), .val (.ref w_INT), .val (.ref w_INT), .val (.ref w_INT), .val (.ref w_INT), .val (.int (1 : Int32)), .val (.int (1 : Int32)), .unset]) rfl ?_
    show Steps p.tables e below (T17.setTop (mkF m 126 #[.val (.int p1), .val (.int p2), .val (.int p3), .val (.ref b1), .val (.ref w_INT), .val (.ref w_INT), .val (.ref w_INT), .val (.ref w_INT), .val (.int (1 : Int32)), .val (.int (1 : Int32)), .unset] [])) _
    refine XS.aload X17.here hx rfl (hb hby at_126) rfl rfl ?_
    show Steps p.tables e below (T17.setTop (mkF m 128 #[.val (.int p1), .val (.int p2), .val (.int p3), .val (.ref b1), .val (.ref w_INT), .val (.ref w_INT), .val (.ref w_INT), .val (.ref w_INT), .val (.int (1 : Int32)), .val (.int (1 : Int32)), .unset] [(.ref w_INT)])) _
    refine XS.aload X17.here hx rfl (hb hby at_128) rfl rfl ?_
    show Steps p.tables e below (T17.setTop (mkF m 130 #[.val (.int p1), .val (.int p2), .val (.int p3), .val (.ref b1), .val (.ref w_INT), .val (.ref w_INT), .val (.ref w_INT), .val (.ref w_INT), .val (.int (1 : Int32)), .val (.int (1 : Int32)), .unset] [(.ref w_INT), (.ref w_INT)])) _
    refine st18 _ ?_
    show Steps p.tables e below (T18.setTop (mkF m 133 #[.val (.int p1), .val (.int p2), .val (.int p3), .val (.ref b1), .val (.ref w_INT), .val (.ref w_INT), .val (.ref w_INT), .val (.ref w_INT), .val (.int (1 : Int32)), .val (.int (1 : Int32)), .unset] [(.ref w_INT)])) _
    refine XS.aload X18.here hx rfl (hb hby at_133) rfl rfl ?_
    show Steps p.tables e below (T18.setTop (mkF m 135 #[.val (.int p1), .val (.int p2), .val (.int p3), .val (.ref b1), .val (.ref w_INT), .val (.ref w_INT), .val (.ref w_INT), .val (.ref w_INT), .val (.int (1 : Int32)), .val (.int (1 : Int32)), .unset] [(.ref w_INT), (.ref w_INT)])) _
    refine Jvm.RoadKit.acmp (g := (mkF m 135 #[.val (.int p1), .val (.int p2), .val (.int p3), .val (.ref b1), .val (.ref w_INT), .val (.ref w_INT), .val (.ref w_INT), .val (.ref w_INT), .val (.int (1 : Int32)), .val (.int (1 : Int32)), .unset] [(.ref w_INT), (.ref w_INT)])) X18 hx rfl rfl rfl (pc0 := 135) (pc' := 138) (same := true) rfl (hb hby at_135) rfl (decide_eq_true rfl) (by decide) (by decide) ?_
    show Steps p.tables e below (T18.setTop (mkF m 138 #[.val (.int p1), .val (.int p2), .val (.int p3), .val (.ref b1), .val (.ref w_INT), .val (.ref w_INT), .val (.ref w_INT), .val (.ref w_INT), .val (.int (1 : Int32)), .val (.int (1 : Int32)), .unset] [])) _
    refine XS.iconst X18.here hx rfl (hb hby at_138) ?_
    show Steps p.tables e below (T18.setTop (mkF m 139 #[.val (.int p1), .val (.int p2), .val (.int p3), .val (.ref b1), .val (.ref w_INT), .val (.ref w_INT), .val (.ref w_INT), .val (.ref w_INT), .val (.int (1 : Int32)), .val (.int (1 : Int32)), .unset] [(.int (1 : Int32))])) _
    refine XS.goto X18.here hx rfl (pc0 := 139) (pc' := 143) rfl (hb hby at_139) (by decide) (by decide) ?_
    show Steps p.tables e below (T18.setTop (mkF m 143 #[.val (.int p1), .val (.int p2), .val (.int p3), .val (.ref b1), .val (.ref w_INT), .val (.ref w_INT), .val (.ref w_INT), .val (.ref w_INT), .val (.int (1 : Int32)), .val (.int (1 : Int32)), .unset] [(.int (1 : Int32))])) _
    refine XS.istore X18.here hx rfl (hb hby at_143) rfl (l' := #[.val (.int p1), .val (.int p2), .val (.int p3), .val (.ref b1), .val (.ref w_INT), .val (.ref w_INT), .val (.ref w_INT), .val (.ref w_INT), .val (.int (1 : Int32)), .val (.int (1 : Int32)), .val (.int (1 : Int32))]) rfl ?_
    show Steps p.tables e below (T18.setTop (mkF m 145 #[.val (.int p1), .val (.int p2), .val (.int p3), .val (.ref b1), .val (.ref w_INT), .val (.ref w_INT), .val (.ref w_INT), .val (.ref w_INT), .val (.int (1 : Int32)), .val (.int (1 : Int32)), .val (.int (1 : Int32))] [])) _
    refine XS.iload X18.here hx rfl (hb hby at_145) rfl ?_
    show Steps p.tables e below (T18.setTop (mkF m 147 #[.val (.int p1), .val (.int p2), .val (.int p3), .val (.ref b1), .val (.ref w_INT), .val (.ref w_INT), .val (.ref w_INT), .val (.ref w_INT), .val (.int (1 : Int32)), .val (.int (1 : Int32)), .val (.int (1 : Int32))] [(.int (1 : Int32))])) _
    refine XS.ifNo X18.here hx rfl (hb hby at_147) rfl ((if0 _ _).trans (feq (by decide : ¬ ((1 : Int32) = (0 : Int32)))).1) ?_
    show Steps p.tables e below (T18.setTop (mkF m 150 #[.val (.int p1), .val (.int p2), .val (.int p3), .val (.ref b1), .val (.ref w_INT), .val (.ref w_INT), .val (.ref w_INT), .val (.ref w_INT), .val (.int (1 : Int32)), .val (.int (1 : Int32)), .val (.int (1 : Int32))] [])) _
    refine XS.iload X18.here hx rfl (hb hby at_150) rfl ?_
    show Steps p.tables e below (T18.setTop (mkF m 152 #[.val (.int p1), .val (.int p2), .val (.int p3), .val (.ref b1), .val (.ref w_INT), .val (.ref w_INT), .val (.ref w_INT), .val (.ref w_INT), .val (.int (1 : Int32)), .val (.int (1 : Int32)), .val (.int (1 : Int32))] [(.int (1 : Int32))])) _
    refine XS.ifNo X18.here hx rfl (hb hby at_152) rfl ((if0 _ _).trans (feq (by decide : ¬ ((1 : Int32) = (0 : Int32)))).1) ?_
    show Steps p.tables e below (T18.setTop (mkF m 155 #[.val (.int p1), .val (.int p2), .val (.int p3), .val (.ref b1), .val (.ref w_INT), .val (.ref w_INT), .val (.ref w_INT), .val (.ref w_INT), .val (.int (1 : Int32)), .val (.int (1 : Int32)), .val (.int (1 : Int32))] [])) _
    refine XS.iload X18.here hx rfl (hb hby at_155) rfl ?_
    show Steps p.tables e below (T18.setTop (mkF m 157 #[.val (.int p1), .val (.int p2), .val (.int p3), .val (.ref b1), .val (.ref w_INT), .val (.ref w_INT), .val (.ref w_INT), .val (.ref w_INT), .val (.int (1 : Int32)), .val (.int (1 : Int32)), .val (.int (1 : Int32))] [(.int (1 : Int32))])) _
    refine XS.ifNo X18.here hx rfl (hb hby at_157) rfl ((if0 _ _).trans (feq (by decide : ¬ ((1 : Int32) = (0 : Int32)))).1) ?_
    show Steps p.tables e below (T18.setTop (mkF m 160 #[.val (.int p1), .val (.int p2), .val (.int p3), .val (.ref b1), .val (.ref w_INT), .val (.ref w_INT), .val (.ref w_INT), .val (.ref w_INT), .val (.int (1 : Int32)), .val (.int (1 : Int32)), .val (.int (1 : Int32))] [])) _
    refine XS.iconst X18.here hx rfl (hb hby at_160) ?_
    show Steps p.tables e below (T18.setTop (mkF m 161 #[.val (.int p1), .val (.int p2), .val (.int p3), .val (.ref b1), .val (.ref w_INT), .val (.ref w_INT), .val (.ref w_INT), .val (.ref w_INT), .val (.int (1 : Int32)), .val (.int (1 : Int32)), .val (.int (1 : Int32))] [(.int (1 : Int32))])) _
    refine XS.goto X18.here hx rfl (pc0 := 161) (pc' := 165) rfl (hb hby at_161) (by decide) (by decide) ?_
    show Steps p.tables e below (T18.setTop (mkF m 165 #[.val (.int p1), .val (.int p2), .val (.int p3), .val (.ref b1), .val (.ref w_INT), .val (.ref w_INT), .val (.ref w_INT), .val (.ref w_INT), .val (.int (1 : Int32)), .val (.int (1 : Int32)), .val (.int (1 : Int32))] [(.int (1 : Int32))])) _
    exact retN X18 hx (t := .boolean) Bd.returns (by simp) (hb hby at_165) hr
  · exact ⟨rfl, N18⟩
theorem d3_5 : decode prog_81_method_5_code 5 = .ok (.aload_n 0, 1) := by decide +kernel
theorem d3_6 : decode prog_81_method_5_code 6 = .ok (.getstatic 10, 3) := by decide +kernel
theorem d3_9 : decode prog_81_method_5_code 9 = .ok (.if_acmp .ne 14, 3) := by decide +kernel
theorem d3_12 : decode prog_81_method_5_code 12 = .ok (.aload_n 1, 1) := by decide +kernel
theorem d3_13 : decode prog_81_method_5_code 13 = .ok (.getstatic 7, 3) := by decide +kernel
theorem d3_16 : decode prog_81_method_5_code 16 = .ok (.if_acmp .ne 7, 3) := by decide +kernel
def Q_rm3_1 (Z : State) (w1 : Addr) (w2 : Addr) (h0 : Heap) (n0 : Nat) (v : Option Value) (h : Heap) (L : List Loc) : Prop := v = some (.int (1 : Int32)) ∧ Fr n0 L ∧ h = h0
set_option maxRecDepth 65536 in
set_option maxHeartbeats 40000000 in
theorem rm3_1 (l : Launch) (Z : State) (a0 : Array Value) (hw : ∀ d ∈ tables_1, d.before a0 Z = true) (ws : List Jvm.Cond) (w1 : Addr) (w2 : Addr) (h0 : Heap) (n0 : Nat) (OL0 : Old Z n0 h0) (pr1 : w1 ≠ w2) (pr2 : Sta Z Z.heap "com/example/rigorous_chains/rigorouschains/prism/Type" "DOUBLE" "Lcom/example/rigorous_chains/rigorouschains/prism/Type;" (.ref w1)) (pr3 : Sta Z Z.heap "com/example/rigorous_chains/rigorouschains/prism/Type" "INT" "Lcom/example/rigorous_chains/rigorouschains/prism/Type;" (.ref w2)) :
    MetFree l (⟨"com/example/rigorous_chains/rigorouschains/prism/Type", "accepts", "(Lcom/example/rigorous_chains/rigorouschains/prism/Type;)Z"⟩ : MethodName) (head1 (Jvm.Cond.code (⟨"com/example/rigorous_chains/rigorouschains/prism/Type", "accepts", "(Lcom/example/rigorous_chains/rigorouschains/prism/Type;)Z"⟩ : MethodName) prog_81_method_5_code 2 (some .boolean) :: ws) ({ frames := 0, cells := 0, slots := 0, locals := 0 } : Room)) (fun a U => a = #[(.ref w1), (.ref w2)] ∧ Z.Warmed39 U.vm ∧ U.heap = h0) (fun _ _ _ _ _ => True) (fun _ U o U' => ∃ v L, o = .returned v ∧ Q_rm3_1 Z w1 w2 h0 n0 v U'.heap L ∧ FrameEnd U o U' L ({ frames := 0, cells := 0, slots := 0, locals := 0 } : Room).cells ({ frames := 0, cells := 0, slots := 0, locals := 0 } : Room).slots) := by
  refine MetFree.of_bodySF (plainFor_of_name pn_0) hisR ?_
  intro p e s m args below meth c s₁ Bd hml0 hP hK
  obtain ⟨rfl, hZ, hh⟩ := hP
  have hx := Bd.exec
  have hby := Bd.bytes
  have hml : c.maxLocals = 2 := hml0
  have hown : s.vm.findClass "com/example/rigorous_chains/rigorouschains/prism/Type" = some m.cls := findClass_of_methodNamed Bd.named
  have hnm := (name_of_methodNamed Bd.named Bd.method).1
  have X0 : Stand p l e ({ frames := 0, cells := 0, slots := 0, locals := 0 } : Room) s m #[(.ref w1), (.ref w2)] below meth c s₁ [] 0 0 := Stand.of_body Bd
  have e0 : s₁.heap = h0 := by rw [← hh, Bd.state]; rfl
  have N0 := Fr.nil n0
  have pre0 : ∀ t, Steps p.tables e below (s₁.setTop (mkF m 0 #[.val (.ref w1), .val (.ref w2)] [])) t → Steps p.tables e below (s₁.setTop (entryFrame m #[(.ref w1), (.ref w2)] 2)) t := fun t k => castTop (ef_3_2 m w1 w2) k
  obtain ⟨T3, X3, e3, st3⟩ := getS2 X0 hx hZ hown (host := "") (Or.inl (wd12 hw)) Via.refl e0 (pr2.ext OL0.2) (g := (mkF m 6 #[.val (.ref w1), .val (.ref w2)] [(.ref w1)])) rfl (hb hby d3_6)
  obtain ⟨T4, X4, e4, st4⟩ := getS2 X3 hx hZ hown (host := "") (Or.inl (wd11 hw)) Via.refl e3 (pr3.ext OL0.2) (g := (mkF m 13 #[.val (.ref w1), .val (.ref w2)] [(.ref w2)])) rfl (hb hby d3_13)
  obtain ⟨fs, hr, hrun, hended, hW, hsame⟩ := X4.leave (v := some (.int (1 : Int32))) (fun h => by rw [Bd.returns] at h; cases h)
  refine ⟨_, _, pre0 _ ?_, hrun, hended, _, _, rfl, ?_, ⟨_, rfl⟩, hW, hsame.mono (by decide) (by decide)⟩
  · show Steps p.tables e below (s₁.setTop (mkF m 0 #[.val (.ref w1), .val (.ref w2)] [])) _
    refine XS.aloadN X0.here hx rfl (hb hby d3_0) rfl rfl ?_
    show Steps p.tables e below (s₁.setTop (mkF m 1 #[.val (.ref w1), .val (.ref w2)] [(.ref w1)])) _
    refine XS.aloadN X0.here hx rfl (hb hby d3_1) rfl rfl ?_
    show Steps p.tables e below (s₁.setTop (mkF m 2 #[.val (.ref w1), .val (.ref w2)] [(.ref w2), (.ref w1)])) _
    refine Jvm.RoadKit.acmp (g := (mkF m 2 #[.val (.ref w1), .val (.ref w2)] [(.ref w2), (.ref w1)])) X0 hx rfl rfl rfl (pc0 := 2) (pc' := 5) (same := false) rfl (hb hby d3_2) rfl (decide_eq_false fun q => pr1 (Value.ref.inj q)) (by decide) (by decide) ?_
    show Steps p.tables e below (s₁.setTop (mkF m 5 #[.val (.ref w1), .val (.ref w2)] [])) _
    refine XS.aloadN X0.here hx rfl (hb hby d3_5) rfl rfl ?_
    show Steps p.tables e below (s₁.setTop (mkF m 6 #[.val (.ref w1), .val (.ref w2)] [(.ref w1)])) _
    refine st3 _ ?_
    show Steps p.tables e below (T3.setTop (mkF m 9 #[.val (.ref w1), .val (.ref w2)] [(.ref w1), (.ref w1)])) _
    refine Jvm.RoadKit.acmp (g := (mkF m 9 #[.val (.ref w1), .val (.ref w2)] [(.ref w1), (.ref w1)])) X3 hx rfl rfl rfl (pc0 := 9) (pc' := 12) (same := true) rfl (hb hby d3_9) rfl (decide_eq_true rfl) (by decide) (by decide) ?_
    show Steps p.tables e below (T3.setTop (mkF m 12 #[.val (.ref w1), .val (.ref w2)] [])) _
    refine XS.aloadN X3.here hx rfl (hb hby d3_12) rfl rfl ?_
    show Steps p.tables e below (T3.setTop (mkF m 13 #[.val (.ref w1), .val (.ref w2)] [(.ref w2)])) _
    refine st4 _ ?_
    show Steps p.tables e below (T4.setTop (mkF m 16 #[.val (.ref w1), .val (.ref w2)] [(.ref w2), (.ref w2)])) _
    refine Jvm.RoadKit.acmp (g := (mkF m 16 #[.val (.ref w1), .val (.ref w2)] [(.ref w2), (.ref w2)])) X4 hx rfl rfl rfl (pc0 := 16) (pc' := 19) (same := true) rfl (hb hby d3_16) rfl (decide_eq_true rfl) (by decide) (by decide) ?_
    show Steps p.tables e below (T4.setTop (mkF m 19 #[.val (.ref w1), .val (.ref w2)] [])) _
    refine XS.iconst X4.here hx rfl (hb hby d3_19) ?_
    show Steps p.tables e below (T4.setTop (mkF m 20 #[.val (.ref w1), .val (.ref w2)] [(.int (1 : Int32))])) _
    refine XS.goto X4.here hx rfl (pc0 := 20) (pc' := 24) rfl (hb hby d3_20) (by decide) (by decide) ?_
    show Steps p.tables e below (T4.setTop (mkF m 24 #[.val (.ref w1), .val (.ref w2)] [(.int (1 : Int32))])) _
    exact retN X4 hx (t := .boolean) Bd.returns (by simp) (hb hby d3_24) hr
  · show Q_rm3_1 Z w1 w2 h0 n0 _ T4.heap _
    rw [e4]
    exact ⟨rfl, N0, rfl⟩
set_option maxRecDepth 65536 in
set_option maxHeartbeats 40000000 in
theorem rm0_0_0_1 (l : Launch) (Z : State) (a0 : Array Value) (hw : ∀ d ∈ tables_1, d.before a0 Z = true) (ws : List Jvm.Cond) (p1 : Int32) (p2 : Int32) (p3 : Int32) (w_INT : Addr) (w_DOUBLE : Addr) (w_BOOL : Addr) (h0 : Heap) (n0 : Nat) (OL0 : Old Z n0 h0) (pr1 : Sta Z Z.heap "com/example/rigorous_chains/rigorouschains/prism/Type" "INT" "Lcom/example/rigorous_chains/rigorouschains/prism/Type;" (.ref w_INT)) (pr2 : Exa Z Z.heap w_INT "com/example/rigorous_chains/rigorouschains/prism/Type") (pr3 : Sta Z Z.heap "com/example/rigorous_chains/rigorouschains/prism/Type" "DOUBLE" "Lcom/example/rigorous_chains/rigorouschains/prism/Type;" (.ref w_DOUBLE)) (pr4 : Exa Z Z.heap w_DOUBLE "com/example/rigorous_chains/rigorouschains/prism/Type") (pr5 : (p1 &&& (1 : Int32)) = (0 : Int32)) (pr6 : (p2 &&& (1 : Int32)) = (0 : Int32)) (pr7 : (p3 &&& (1 : Int32)) = (1 : Int32)) (pr8 : Sta Z Z.heap "com/example/rigorous_chains/rigorouschains/prism/Type" "BOOL" "Lcom/example/rigorous_chains/rigorouschains/prism/Type;" (.ref w_BOOL)) (pr9 : w_INT ≠ w_BOOL) (pr10 : w_DOUBLE ≠ w_INT) :
    MetFree l x (head1 (Jvm.Cond.code x code maxLocals ret :: ws) room_1) (fun a U => a = #[(.int p1), (.int p2), (.int p3)] ∧ Z.Warmed39 U.vm ∧ U.heap = h0) (fun _ _ _ _ _ => True) (fun _ U o U' => ∃ v L, o = .returned v ∧ Q0 n0 v L ∧ FrameEnd U o U' L 16 128) := by
  refine MetFree.of_bodySF (plainFor_of_name pn_1) hisR ?_
  intro p e s m args below meth c s₁ Bd hml0 hP hK
  obtain ⟨rfl, hZ, hh⟩ := hP
  have hx := Bd.exec
  have hby := Bd.bytes
  have hml : c.maxLocals = 11 := hml0
  have hown : s.vm.findClass "com/example/rigorous_chains/rigorouschains/prism/TypeWidestPinLaw" = some m.cls := findClass_of_methodNamed Bd.named
  have hnm := (name_of_methodNamed Bd.named Bd.method).1
  have X0 : Stand p l e room_1 s m #[(.int p1), (.int p2), (.int p3)] below meth c s₁ [] 0 0 := Stand.of_body Bd
  have e0 : s₁.heap = h0 := by rw [← hh, Bd.state]; rfl
  have N0 := Fr.nil n0
  have pre0 : ∀ t, Steps p.tables e below (s₁.setTop (mkF m 0 #[.val (.int p1), .val (.int p2), .val (.int p3), .unset, .unset, .unset, .unset, .unset, .unset, .unset, .unset] [])) t → Steps p.tables e below (s₁.setTop (entryFrame m #[(.int p1), (.int p2), (.int p3)] maxLocals)) t := fun t k => castTop (ef_0_3 m p1 p2 p3) k
  obtain ⟨T1, h1, k1, X1, e1, E1, A1, O1, st1⟩ := newR X0 hx hZ hown (wd0 hw) (wd1 hw) e0 (g := (mkF m 1 #[.val (.int p1), .val (.int p2), .val (.int p3), .unset, .unset, .unset, .unset, .unset, .unset, .unset, .unset] [(.int (2 : Int32))])) rfl (hb hby at_1) rfl (by decide) (cap := 2) (by decide) (by decide) (by decide) (by decide)
  obtain ⟨b1, g1⟩ : ∃ z, z = h0.size := ⟨_, rfl⟩
  rw [← g1] at A1 st1
  have V1 : Arv Z h1 b1 k1 (.object "com/example/rigorous_chains/rigorouschains/prism/Type") (2 : Int32) [.null, .null] .null := (Arv.new A1 (by decide)).pad (pad_rep [] .null 2)
  have g_b1 : n0 ≤ b1 := (Nat.le_trans (Nat.le_trans (Nat.le_of_eq OL0.1.symm) OL0.2.1) (Nat.le_of_eq g1.symm))
  have sz_b1 : h0.size ≤ b1 := (Nat.le_trans (Keep.refl h0 []).1 (Nat.le_of_eq g1.symm))
  have KK1 : Keep h0 h1 [] := (Keep.refl h0 []).ext E1
  have OL1 := OL0.ext E1
  obtain ⟨T2, X2, e2, st2⟩ := getS2 X1 hx hZ hown (host := "") (Or.inl (wd2 hw)) Via.refl e1 (pr1.ext OL1.2) (g := (mkF m 6 #[.val (.int p1), .val (.int p2), .val (.int p3), .unset, .unset, .unset, .unset, .unset, .unset, .unset, .unset] [(.int (0 : Int32)), (.ref b1), (.ref b1)])) rfl (hb hby at_6)
  obtain ⟨cl3, Ar3, q3, S3, M3, Hs3, G3⟩ := id V1
  have hin3 : ¬ ((0 : Int32) < 0 ∨ cl3.slots.size ≤ ((0 : Int32)).toNatClampNeg) := inb_of S3 ⟨by decide, by decide⟩
  obtain ⟨T4, h4, X4, e4, W4, st4⟩ := stR X2 hx hZ e2 Ar3 (j := (0 : Int32)) hin3 rfl (Sto.ofV Ar3 q3 O1 (Ins.self (pr2.ext OL1.2))) (g := (mkF m 9 #[.val (.int p1), .val (.int p2), .val (.int p3), .unset, .unset, .unset, .unset, .unset, .unset, .unset, .unset] [(.ref w_INT), (.int (0 : Int32)), (.ref b1), (.ref b1)])) rfl rfl (hb hby at_9)
  have V4 : Arv Z h4 b1 k1 (.object "com/example/rigorous_chains/rigorouschains/prism/Type") (2 : Int32) [(.ref w_INT), .null] .null := Arv.set Ar3 q3 S3 M3 Hs3 G3 rfl W4 0 rfl (Nat.le_of_ble_eq_true rfl)
  have KK4 : Keep h0 h4 [] := KK1.wr W4 (Or.inr sz_b1)
  have OL4 := OL1.wr W4 g_b1
  have N4 := Fr.snoc X4 N0 g_b1
  obtain ⟨T5, X5, e5, st5⟩ := getS2 X4 hx hZ hown (host := "") (Or.inl (wd6 hw)) Via.refl e4 (pr3.ext OL4.2) (g := (mkF m 12 #[.val (.int p1), .val (.int p2), .val (.int p3), .unset, .unset, .unset, .unset, .unset, .unset, .unset, .unset] [(.int (1 : Int32)), (.ref b1), (.ref b1)])) rfl (hb hby at_12)
  obtain ⟨cl6, Ar6, q6, S6, M6, Hs6, G6⟩ := id V4
  have hin6 : ¬ ((1 : Int32) < 0 ∨ cl6.slots.size ≤ ((1 : Int32)).toNatClampNeg) := inb_of S6 ⟨by decide, by decide⟩
  obtain ⟨T7, h7, X7, e7, W7, st7⟩ := stR X5 hx hZ e5 Ar6 (j := (1 : Int32)) hin6 rfl (Sto.ofV Ar6 q6 O1 (Ins.self (pr4.ext OL4.2))) (g := (mkF m 15 #[.val (.int p1), .val (.int p2), .val (.int p3), .unset, .unset, .unset, .unset, .unset, .unset, .unset, .unset] [(.ref w_DOUBLE), (.int (1 : Int32)), (.ref b1), (.ref b1)])) rfl rfl (hb hby at_15)
  have V7 : Arv Z h7 b1 k1 (.object "com/example/rigorous_chains/rigorouschains/prism/Type") (2 : Int32) [(.ref w_INT), (.ref w_DOUBLE)] .null := Arv.set Ar6 q6 S6 M6 Hs6 G6 rfl W7 1 rfl (Nat.le_of_ble_eq_true rfl)
  have KK7 : Keep h0 h7 [] := KK4.wr W7 (Or.inr sz_b1)
  have OL7 := OL4.wr W7 g_b1
  have N7 := Fr.snoc X7 N4 g_b1
  obtain ⟨cl8, Ar8, -, S8, -, Hs8, -⟩ := id V7
  have hin8 : ¬ ((0 : Int32) < 0 ∨ cl8.slots.size ≤ ((0 : Int32)).toNatClampNeg) := inb_of S8 ⟨by decide, by decide⟩
  have hat8 : cl8.slots[((0 : Int32)).toNatClampNeg]? = some (.ref w_INT) := Hs8.at hin8 rfl
  obtain ⟨cl9, Ar9, -, S9, -, Hs9, -⟩ := id V7
  have hin9 : ¬ ((0 : Int32) < 0 ∨ cl9.slots.size ≤ ((0 : Int32)).toNatClampNeg) := inb_of S9 ⟨by decide, by decide⟩
  have hat9 : cl9.slots[((0 : Int32)).toNatClampNeg]? = some (.ref w_INT) := Hs9.at hin9 rfl
  obtain ⟨cl10, Ar10, -, S10, -, Hs10, -⟩ := id V7
  have hin10 : ¬ ((1 : Int32) < 0 ∨ cl10.slots.size ≤ ((1 : Int32)).toNatClampNeg) := inb_of S10 ⟨by decide, by decide⟩
  have hat10 : cl10.slots[((1 : Int32)).toNatClampNeg]? = some (.ref w_DOUBLE) := Hs10.at hin10 rfl
  obtain ⟨_, _, ⟨T11, L11, k11, n11⟩, -, X11, ⟨Lc11, hQ11, l11, y11, z11⟩, st11⟩ := Jvm.LawKit.callS X7 hx (y := (⟨"com/example/rigorous_chains/rigorouschains/prism/Type", "widest", "(Lcom/example/rigorous_chains/rigorouschains/prism/Type;Lcom/example/rigorous_chains/rigorouschains/prism/Type;)Lcom/example/rigorous_chains/rigorouschains/prism/Type;"⟩ : MethodName)) hown (mvT hZ (wd8 hw)) (mvT hZ (wd9 hw)) (mvT hZ (wd3 hw)) (mvT hZ (wd10 hw)) (by decide) (backOf (W := 0) (rm1_0 l Z a0 hw [] w_INT h7 n0 OL7 pr1) hZ (wd10 hw) (wd3 hw) (by decide) (by decide)) (g := (mkF m 42 #[.val (.int p1), .val (.int p2), .val (.int p3), .val (.ref b1), .val (.ref w_INT), .val (.ref w_INT), .val (.ref w_DOUBLE), .unset, .unset, .unset, .unset] [(.ref w_INT), (.ref w_INT)])) rfl (by rw [hml]; rfl) (argsL := [(.ref w_INT), (.ref w_INT)]) (rest := []) (lenOf pd_0 rfl) rfl (by show 2 * 0 + _ ≤ _; exact Nat.le_of_eq rfl) (hb hby at_42) (fun _ _ => ⟨rfl, e7, (by decide : 1 + 0 ≤ _), (by decide : 2 + 0 ≤ _)⟩)
  dsimp only [Pt.U, Pt.locs, Pt.cells, Pt.slots] at X11 l11 y11 z11 st11 hQ11
  subst l11 y11 z11
  obtain ⟨rfl, Nq11, ec11⟩ := hQ11
  have N11 := Fr.app N7 Nq11
  obtain ⟨cq12, kq12, q12a, q12b, q12c⟩ := isOf hZ ec11 (pr2.ext OL7.2)
  obtain ⟨_, _, ⟨T12, L12, k12, n12⟩, -, X12, ⟨Lc12, hQ12, l12, y12, z12⟩, st12⟩ := X11.virtualBack hx (y := (⟨"com/example/rigorous_chains/rigorouschains/prism/Type", "isNumeric", "()Z"⟩ : MethodName)) (z := (⟨"com/example/rigorous_chains/rigorouschains/prism/Type", "isNumeric", "()Z"⟩ : MethodName)) hown (mvT hZ (wd13 hw)) (mvT hZ (wd14 hw)) (notFace_of_selects (args := #[]) (mvT hZ (wd16 hw))) (mvT hZ (wd16 hw)) (mvT hZ (wd15 hw)) (by decide) (backOf (W := 0) (rm2_0 l Z a0 hw [] w_INT w_BOOL h7 n0 OL7 pr8 pr9) hZ (wd17 hw) (wd3 hw) (by decide) (by decide)) q12a q12c (g := (mkF m 56 #[.val (.int p1), .val (.int p2), .val (.int p3), .val (.ref b1), .val (.ref w_INT), .val (.ref w_INT), .val (.ref w_DOUBLE), .val (.ref w_INT), .unset, .unset, .unset] [(.ref w_INT)])) rfl (by rw [hml]; rfl) (Steps.refl _) (argsL := []) (rest := []) (lenOf pd_1 rfl) rfl (by show 2 * 0 + _ ≤ _; exact Nat.le_of_eq rfl) (hb hby at_56) (fun _ _ => ⟨rfl, ec11, (by decide : 1 + 0 ≤ _), (by decide : 2 + 0 ≤ _)⟩)
  dsimp only [Pt.U, Pt.locs, Pt.cells, Pt.slots] at X12 l12 y12 z12 st12 hQ12
  subst l12 y12 z12
  obtain ⟨rfl, Nq12, ec12⟩ := hQ12
  have N12 := Fr.app N11 Nq12
  obtain ⟨cq13, kq13, q13a, q13b, q13c⟩ := isOf hZ ec12 (pr2.ext OL7.2)
  obtain ⟨_, _, ⟨T13, L13, k13, n13⟩, -, X13, ⟨Lc13, hQ13, l13, y13, z13⟩, st13⟩ := X12.virtualBack hx (y := (⟨"com/example/rigorous_chains/rigorouschains/prism/Type", "accepts", "(Lcom/example/rigorous_chains/rigorouschains/prism/Type;)Z"⟩ : MethodName)) (z := (⟨"com/example/rigorous_chains/rigorouschains/prism/Type", "accepts", "(Lcom/example/rigorous_chains/rigorouschains/prism/Type;)Z"⟩ : MethodName)) hown (mvT hZ (wd20 hw)) (mvT hZ (wd21 hw)) (notFace_of_selects (args := #[]) (mvT hZ (wd23 hw))) (mvT hZ (wd23 hw)) (mvT hZ (wd22 hw)) (by decide) (backOf (W := 0) (rm3_0 l Z a0 hw [] w_INT h7 n0 OL7 ) hZ (wd24 hw) (wd3 hw) (by decide) (by decide)) q13a q13c (g := (mkF m 66 #[.val (.int p1), .val (.int p2), .val (.int p3), .val (.ref b1), .val (.ref w_INT), .val (.ref w_INT), .val (.ref w_DOUBLE), .val (.ref w_INT), .unset, .unset, .unset] [(.ref w_INT), (.ref w_INT)])) rfl (by rw [hml]; rfl) (Steps.refl _) (argsL := [(.ref w_INT)]) (rest := []) (lenOf pd_2 rfl) rfl (by show 2 * 0 + _ ≤ _; exact Nat.le_of_eq rfl) (hb hby at_66) (fun _ _ => ⟨rfl, ec12, (by decide : 1 + 0 ≤ _), (by decide : 2 + 0 ≤ _)⟩)
  dsimp only [Pt.U, Pt.locs, Pt.cells, Pt.slots] at X13 l13 y13 z13 st13 hQ13
  subst l13 y13 z13
  obtain ⟨rfl, Nq13, ec13⟩ := hQ13
  have N13 := Fr.app N12 Nq13
  obtain ⟨cq14, kq14, q14a, q14b, q14c⟩ := isOf hZ ec13 (pr2.ext OL7.2)
  obtain ⟨_, _, ⟨T14, L14, k14, n14⟩, -, X14, ⟨Lc14, hQ14, l14, y14, z14⟩, st14⟩ := X13.virtualBack hx (y := (⟨"com/example/rigorous_chains/rigorouschains/prism/Type", "accepts", "(Lcom/example/rigorous_chains/rigorouschains/prism/Type;)Z"⟩ : MethodName)) (z := (⟨"com/example/rigorous_chains/rigorouschains/prism/Type", "accepts", "(Lcom/example/rigorous_chains/rigorouschains/prism/Type;)Z"⟩ : MethodName)) hown (mvT hZ (wd20 hw)) (mvT hZ (wd21 hw)) (notFace_of_selects (args := #[]) (mvT hZ (wd23 hw))) (mvT hZ (wd23 hw)) (mvT hZ (wd22 hw)) (by decide) (backOf (W := 0) (rm3_0 l Z a0 hw [] w_INT h7 n0 OL7 ) hZ (wd24 hw) (wd3 hw) (by decide) (by decide)) q14a q14c (g := (mkF m 76 #[.val (.int p1), .val (.int p2), .val (.int p3), .val (.ref b1), .val (.ref w_INT), .val (.ref w_INT), .val (.ref w_DOUBLE), .val (.ref w_INT), .unset, .unset, .unset] [(.ref w_INT), (.ref w_INT)])) rfl (by rw [hml]; rfl) (Steps.refl _) (argsL := [(.ref w_INT)]) (rest := []) (lenOf pd_2 rfl) rfl (by show 2 * 0 + _ ≤ _; exact Nat.le_of_eq rfl) (hb hby at_76) (fun _ _ => ⟨rfl, ec13, (by decide : 1 + 0 ≤ _), (by decide : 2 + 0 ≤ _)⟩)
  dsimp only [Pt.U, Pt.locs, Pt.cells, Pt.slots] at X14 l14 y14 z14 st14 hQ14
  subst l14 y14 z14
  obtain ⟨rfl, Nq14, ec14⟩ := hQ14
  have N14 := Fr.app N13 Nq14
  obtain ⟨cq15, kq15, q15a, q15b, q15c⟩ := isOf hZ ec14 (pr4.ext OL7.2)
  obtain ⟨_, _, ⟨T15, L15, k15, n15⟩, -, X15, ⟨Lc15, hQ15, l15, y15, z15⟩, st15⟩ := X14.virtualBack hx (y := (⟨"com/example/rigorous_chains/rigorouschains/prism/Type", "accepts", "(Lcom/example/rigorous_chains/rigorouschains/prism/Type;)Z"⟩ : MethodName)) (z := (⟨"com/example/rigorous_chains/rigorouschains/prism/Type", "accepts", "(Lcom/example/rigorous_chains/rigorouschains/prism/Type;)Z"⟩ : MethodName)) hown (mvT hZ (wd20 hw)) (mvT hZ (wd21 hw)) (notFace_of_selects (args := #[]) (mvT hZ (wd23 hw))) (mvT hZ (wd23 hw)) (mvT hZ (wd22 hw)) (by decide) (backOf (W := 0) (rm3_1 l Z a0 hw [] w_DOUBLE w_INT h7 n0 OL7 pr10 pr3 pr1) hZ (wd24 hw) (wd3 hw) (by decide) (by decide)) q15a q15c (g := (mkF m 93 #[.val (.int p1), .val (.int p2), .val (.int p3), .val (.ref b1), .val (.ref w_INT), .val (.ref w_INT), .val (.ref w_DOUBLE), .val (.ref w_INT), .val (.int (1 : Int32)), .unset, .unset] [(.ref w_INT), (.ref w_DOUBLE)])) rfl (by rw [hml]; rfl) (Steps.refl _) (argsL := [(.ref w_INT)]) (rest := []) (lenOf pd_2 rfl) rfl (by show 2 * 0 + _ ≤ _; exact Nat.le_of_eq rfl) (hb hby at_93) (fun _ _ => ⟨rfl, ec14, (by decide : 1 + 0 ≤ _), (by decide : 2 + 0 ≤ _)⟩)
  dsimp only [Pt.U, Pt.locs, Pt.cells, Pt.slots] at X15 l15 y15 z15 st15 hQ15
  subst l15 y15 z15
  obtain ⟨rfl, Nq15, ec15⟩ := hQ15
  have N15 := Fr.app N14 Nq15
  obtain ⟨cq16, kq16, q16a, q16b, q16c⟩ := isOf hZ ec15 (pr4.ext OL7.2)
  obtain ⟨_, _, ⟨T16, L16, k16, n16⟩, -, X16, ⟨Lc16, hQ16, l16, y16, z16⟩, st16⟩ := X15.virtualBack hx (y := (⟨"com/example/rigorous_chains/rigorouschains/prism/Type", "accepts", "(Lcom/example/rigorous_chains/rigorouschains/prism/Type;)Z"⟩ : MethodName)) (z := (⟨"com/example/rigorous_chains/rigorouschains/prism/Type", "accepts", "(Lcom/example/rigorous_chains/rigorouschains/prism/Type;)Z"⟩ : MethodName)) hown (mvT hZ (wd20 hw)) (mvT hZ (wd21 hw)) (notFace_of_selects (args := #[]) (mvT hZ (wd23 hw))) (mvT hZ (wd23 hw)) (mvT hZ (wd22 hw)) (by decide) (backOf (W := 0) (rm3_1 l Z a0 hw [] w_DOUBLE w_INT h7 n0 OL7 pr10 pr3 pr1) hZ (wd24 hw) (wd3 hw) (by decide) (by decide)) q16a q16c (g := (mkF m 103 #[.val (.int p1), .val (.int p2), .val (.int p3), .val (.ref b1), .val (.ref w_INT), .val (.ref w_INT), .val (.ref w_DOUBLE), .val (.ref w_INT), .val (.int (1 : Int32)), .unset, .unset] [(.ref w_INT), (.ref w_DOUBLE)])) rfl (by rw [hml]; rfl) (Steps.refl _) (argsL := [(.ref w_INT)]) (rest := []) (lenOf pd_2 rfl) rfl (by show 2 * 0 + _ ≤ _; exact Nat.le_of_eq rfl) (hb hby at_103) (fun _ _ => ⟨rfl, ec15, (by decide : 1 + 0 ≤ _), (by decide : 2 + 0 ≤ _)⟩)
  dsimp only [Pt.U, Pt.locs, Pt.cells, Pt.slots] at X16 l16 y16 z16 st16 hQ16
  subst l16 y16 z16
  obtain ⟨rfl, Nq16, ec16⟩ := hQ16
  have N16 := Fr.app N15 Nq16
  obtain ⟨cq17, kq17, q17a, q17b, q17c⟩ := isOf hZ ec16 (pr4.ext OL7.2)
  obtain ⟨_, _, ⟨T17, L17, k17, n17⟩, -, X17, ⟨Lc17, hQ17, l17, y17, z17⟩, st17⟩ := X16.virtualBack hx (y := (⟨"com/example/rigorous_chains/rigorouschains/prism/Type", "accepts", "(Lcom/example/rigorous_chains/rigorouschains/prism/Type;)Z"⟩ : MethodName)) (z := (⟨"com/example/rigorous_chains/rigorouschains/prism/Type", "accepts", "(Lcom/example/rigorous_chains/rigorouschains/prism/Type;)Z"⟩ : MethodName)) hown (mvT hZ (wd20 hw)) (mvT hZ (wd21 hw)) (notFace_of_selects (args := #[]) (mvT hZ (wd23 hw))) (mvT hZ (wd23 hw)) (mvT hZ (wd22 hw)) (by decide) (backOf (W := 0) (rm3_1 l Z a0 hw [] w_DOUBLE w_INT h7 n0 OL7 pr10 pr3 pr1) hZ (wd24 hw) (wd3 hw) (by decide) (by decide)) q17a q17c (g := (mkF m 113 #[.val (.int p1), .val (.int p2), .val (.int p3), .val (.ref b1), .val (.ref w_INT), .val (.ref w_INT), .val (.ref w_DOUBLE), .val (.ref w_INT), .val (.int (1 : Int32)), .unset, .unset] [(.ref w_INT), (.ref w_DOUBLE)])) rfl (by rw [hml]; rfl) (Steps.refl _) (argsL := [(.ref w_INT)]) (rest := []) (lenOf pd_2 rfl) rfl (by show 2 * 0 + _ ≤ _; exact Nat.le_of_eq rfl) (hb hby at_113) (fun _ _ => ⟨rfl, ec16, (by decide : 1 + 0 ≤ _), (by decide : 2 + 0 ≤ _)⟩)
  dsimp only [Pt.U, Pt.locs, Pt.cells, Pt.slots] at X17 l17 y17 z17 st17 hQ17
  subst l17 y17 z17
  obtain ⟨rfl, Nq17, ec17⟩ := hQ17
  have N17 := Fr.app N16 Nq17
  obtain ⟨_, _, ⟨T18, L18, k18, n18⟩, -, X18, ⟨Lc18, hQ18, l18, y18, z18⟩, st18⟩ := Jvm.LawKit.callS X17 hx (y := (⟨"com/example/rigorous_chains/rigorouschains/prism/Type", "widest", "(Lcom/example/rigorous_chains/rigorouschains/prism/Type;Lcom/example/rigorous_chains/rigorouschains/prism/Type;)Lcom/example/rigorous_chains/rigorouschains/prism/Type;"⟩ : MethodName)) hown (mvT hZ (wd8 hw)) (mvT hZ (wd9 hw)) (mvT hZ (wd3 hw)) (mvT hZ (wd10 hw)) (by decide) (backOf (W := 0) (rm1_0 l Z a0 hw [] w_INT h7 n0 OL7 pr1) hZ (wd10 hw) (wd3 hw) (by decide) (by decide)) (g := (mkF m 130 #[.val (.int p1), .val (.int p2), .val (.int p3), .val (.ref b1), .val (.ref w_INT), .val (.ref w_INT), .val (.ref w_DOUBLE), .val (.ref w_INT), .val (.int (1 : Int32)), .val (.int (1 : Int32)), .unset] [(.ref w_INT), (.ref w_INT)])) rfl (by rw [hml]; rfl) (argsL := [(.ref w_INT), (.ref w_INT)]) (rest := []) (lenOf pd_0 rfl) rfl (by show 2 * 0 + _ ≤ _; exact Nat.le_of_eq rfl) (hb hby at_130) (fun _ _ => ⟨rfl, ec17, (by decide : 1 + 0 ≤ _), (by decide : 2 + 0 ≤ _)⟩)
  dsimp only [Pt.U, Pt.locs, Pt.cells, Pt.slots] at X18 l18 y18 z18 st18 hQ18
  subst l18 y18 z18
  obtain ⟨rfl, Nq18, ec18⟩ := hQ18
  have N18 := Fr.app N17 Nq18
  obtain ⟨fs, hr, hrun, hended, hW, hsame⟩ := X18.leave (v := some (.int (1 : Int32))) (fun h => by rw [Bd.returns] at h; cases h)
  refine ⟨_, _, pre0 _ ?_, hrun, hended, _, _, rfl, ?_, ⟨_, rfl⟩, hW, hsame.mono (by decide) (by decide)⟩
  · show Steps p.tables e below (s₁.setTop (mkF m 0 #[.val (.int p1), .val (.int p2), .val (.int p3), .unset, .unset, .unset, .unset, .unset, .unset, .unset, .unset] [])) _
    refine XS.iconst X0.here hx rfl (hb hby at_0) ?_
    show Steps p.tables e below (s₁.setTop (mkF m 1 #[.val (.int p1), .val (.int p2), .val (.int p3), .unset, .unset, .unset, .unset, .unset, .unset, .unset, .unset] [(.int (2 : Int32))])) _
    refine st1 _ ?_
    show Steps p.tables e below (T1.setTop (mkF m 4 #[.val (.int p1), .val (.int p2), .val (.int p3), .unset, .unset, .unset, .unset, .unset, .unset, .unset, .unset] [(.ref b1)])) _
    refine XS.dup X1.here hx rfl (hb hby at_4) rfl rfl ?_
    show Steps p.tables e below (T1.setTop (mkF m 5 #[.val (.int p1), .val (.int p2), .val (.int p3), .unset, .unset, .unset, .unset, .unset, .unset, .unset, .unset] [(.ref b1), (.ref b1)])) _
    refine XS.iconst X1.here hx rfl (hb hby at_5) ?_
    show Steps p.tables e below (T1.setTop (mkF m 6 #[.val (.int p1), .val (.int p2), .val (.int p3), .unset, .unset, .unset, .unset, .unset, .unset, .unset, .unset] [(.int (0 : Int32)), (.ref b1), (.ref b1)])) _
    refine st2 _ ?_
    show Steps p.tables e below (T2.setTop (mkF m 9 #[.val (.int p1), .val (.int p2), .val (.int p3), .unset, .unset, .unset, .unset, .unset, .unset, .unset, .unset] [(.ref w_INT), (.int (0 : Int32)), (.ref b1), (.ref b1)])) _
    refine st4 _ ?_
    show Steps p.tables e below (T4.setTop (mkF m 10 #[.val (.int p1), .val (.int p2), .val (.int p3), .unset, .unset, .unset, .unset, .unset, .unset, .unset, .unset] [(.ref b1)])) _
    refine XS.dup X4.here hx rfl (hb hby at_10) rfl rfl ?_
    show Steps p.tables e below (T4.setTop (mkF m 11 #[.val (.int p1), .val (.int p2), .val (.int p3), .unset, .unset, .unset, .unset, .unset, .unset, .unset, .unset] [(.ref b1), (.ref b1)])) _
    refine XS.iconst X4.here hx rfl (hb hby at_11) ?_
    show Steps p.tables e below (T4.setTop (mkF m 12 #[.val (.int p1), .val (.int p2), .val (.int p3), .unset, .unset, .unset, .unset, .unset, .unset, .unset, .unset] [(.int (1 : Int32)), (.ref b1), (.ref b1)])) _
    refine st5 _ ?_
    show Steps p.tables e below (T5.setTop (mkF m 15 #[.val (.int p1), .val (.int p2), .val (.int p3), .unset, .unset, .unset, .unset, .unset, .unset, .unset, .unset] [(.ref w_DOUBLE), (.int (1 : Int32)), (.ref b1), (.ref b1)])) _
    refine st7 _ ?_
    show Steps p.tables e below (T7.setTop (mkF m 16 #[.val (.int p1), .val (.int p2), .val (.int p3), .unset, .unset, .unset, .unset, .unset, .unset, .unset, .unset] [(.ref b1)])) _
    refine XS.astoreN X7.here hx rfl (hb hby at_16) rfl rfl (l' := #[.val (.int p1), .val (.int p2), .val (.int p3), .val (.ref b1), .unset, .unset, .unset, .unset, .unset, .unset, .unset]) rfl ?_
    show Steps p.tables e below (T7.setTop (mkF m 17 #[.val (.int p1), .val (.int p2), .val (.int p3), .val (.ref b1), .unset, .unset, .unset, .unset, .unset, .unset, .unset] [])) _
    refine XS.aloadN X7.here hx rfl (hb hby at_17) rfl rfl ?_
    show Steps p.tables e below (T7.setTop (mkF m 18 #[.val (.int p1), .val (.int p2), .val (.int p3), .val (.ref b1), .unset, .unset, .unset, .unset, .unset, .unset, .unset] [(.ref b1)])) _
    refine XS.iloadN X7.here hx rfl (hb hby at_18) rfl ?_
    show Steps p.tables e below (T7.setTop (mkF m 19 #[.val (.int p1), .val (.int p2), .val (.int p3), .val (.ref b1), .unset, .unset, .unset, .unset, .unset, .unset, .unset] [(.int p1), (.ref b1)])) _
    refine XS.iconst X7.here hx rfl (hb hby at_19) ?_
    show Steps p.tables e below (T7.setTop (mkF m 20 #[.val (.int p1), .val (.int p2), .val (.int p3), .val (.ref b1), .unset, .unset, .unset, .unset, .unset, .unset, .unset] [(.int (1 : Int32)), (.int p1), (.ref b1)])) _
    refine XS.iand X7.here hx rfl (hb hby at_20) rfl ?_
    show Steps p.tables e below (T7.setTop (mkF m 21 #[.val (.int p1), .val (.int p2), .val (.int p3), .val (.ref b1), .unset, .unset, .unset, .unset, .unset, .unset, .unset] [(.int (p1 &&& (1 : Int32))), (.ref b1)])) _
    rw [pr5]
    show Steps p.tables e below (T7.setTop (mkF m 21 #[.val (.int p1), .val (.int p2), .val (.int p3), .val (.ref b1), .unset, .unset, .unset, .unset, .unset, .unset, .unset] [(.int (0 : Int32)), (.ref b1)])) _
    refine X7.aaload hx (j := (0 : Int32)) (v := (.ref w_INT)) (by rw [e7]; exact Ar8.1) (State.isArrayOf_alike hZ.alike Ar8.2.1) rfl Ar8.2.2 hin8 hat8 (g := (mkF m 21 #[.val (.int p1), .val (.int p2), .val (.int p3), .val (.ref b1), .unset, .unset, .unset, .unset, .unset, .unset, .unset] [(.int (0 : Int32)), (.ref b1)])) rfl rfl (hb hby at_21) _ ?_
    show Steps p.tables e below (T7.setTop (mkF m 22 #[.val (.int p1), .val (.int p2), .val (.int p3), .val (.ref b1), .unset, .unset, .unset, .unset, .unset, .unset, .unset] [(.ref w_INT)])) _
    refine XS.astore X7.here hx rfl (hb hby at_22) rfl rfl (l' := #[.val (.int p1), .val (.int p2), .val (.int p3), .val (.ref b1), .val (.ref w_INT), .unset, .unset, .unset, .unset, .unset, .unset]) rfl ?_
    show Steps p.tables e below (T7.setTop (mkF m 24 #[.val (.int p1), .val (.int p2), .val (.int p3), .val (.ref b1), .val (.ref w_INT), .unset, .unset, .unset, .unset, .unset, .unset] [])) _
    refine XS.aloadN X7.here hx rfl (hb hby at_24) rfl rfl ?_
    show Steps p.tables e below (T7.setTop (mkF m 25 #[.val (.int p1), .val (.int p2), .val (.int p3), .val (.ref b1), .val (.ref w_INT), .unset, .unset, .unset, .unset, .unset, .unset] [(.ref b1)])) _
    refine XS.iloadN X7.here hx rfl (hb hby at_25) rfl ?_
    show Steps p.tables e below (T7.setTop (mkF m 26 #[.val (.int p1), .val (.int p2), .val (.int p3), .val (.ref b1), .val (.ref w_INT), .unset, .unset, .unset, .unset, .unset, .unset] [(.int p2), (.ref b1)])) _
    refine XS.iconst X7.here hx rfl (hb hby at_26) ?_
    show Steps p.tables e below (T7.setTop (mkF m 27 #[.val (.int p1), .val (.int p2), .val (.int p3), .val (.ref b1), .val (.ref w_INT), .unset, .unset, .unset, .unset, .unset, .unset] [(.int (1 : Int32)), (.int p2), (.ref b1)])) _
    refine XS.iand X7.here hx rfl (hb hby at_27) rfl ?_
    show Steps p.tables e below (T7.setTop (mkF m 28 #[.val (.int p1), .val (.int p2), .val (.int p3), .val (.ref b1), .val (.ref w_INT), .unset, .unset, .unset, .unset, .unset, .unset] [(.int (p2 &&& (1 : Int32))), (.ref b1)])) _
    rw [pr6]
    show Steps p.tables e below (T7.setTop (mkF m 28 #[.val (.int p1), .val (.int p2), .val (.int p3), .val (.ref b1), .val (.ref w_INT), .unset, .unset, .unset, .unset, .unset, .unset] [(.int (0 : Int32)), (.ref b1)])) _
    refine X7.aaload hx (j := (0 : Int32)) (v := (.ref w_INT)) (by rw [e7]; exact Ar9.1) (State.isArrayOf_alike hZ.alike Ar9.2.1) rfl Ar9.2.2 hin9 hat9 (g := (mkF m 28 #[.val (.int p1), .val (.int p2), .val (.int p3), .val (.ref b1), .val (.ref w_INT), .unset, .unset, .unset, .unset, .unset, .unset] [(.int (0 : Int32)), (.ref b1)])) rfl rfl (hb hby at_28) _ ?_
    show Steps p.tables e below (T7.setTop (mkF m 29 #[.val (.int p1), .val (.int p2), .val (.int p3), .val (.ref b1), .val (.ref w_INT), .unset, .unset, .unset, .unset, .unset, .unset] [(.ref w_INT)])) _
    refine XS.astore X7.here hx rfl (hb hby at_29) rfl rfl (l' := #[.val (.int p1), .val (.int p2), .val (.int p3), .val (.ref b1), .val (.ref w_INT), .val (.ref w_INT), .unset, .unset, .unset, .unset, .unset]) rfl ?_
    show Steps p.tables e below (T7.setTop (mkF m 31 #[.val (.int p1), .val (.int p2), .val (.int p3), .val (.ref b1), .val (.ref w_INT), .val (.ref w_INT), .unset, .unset, .unset, .unset, .unset] [])) _
    refine XS.aloadN X7.here hx rfl (hb hby at_31) rfl rfl ?_
    show Steps p.tables e below (T7.setTop (mkF m 32 #[.val (.int p1), .val (.int p2), .val (.int p3), .val (.ref b1), .val (.ref w_INT), .val (.ref w_INT), .unset, .unset, .unset, .unset, .unset] [(.ref b1)])) _
    refine XS.iloadN X7.here hx rfl (hb hby at_32) rfl ?_
    show Steps p.tables e below (T7.setTop (mkF m 33 #[.val (.int p1), .val (.int p2), .val (.int p3), .val (.ref b1), .val (.ref w_INT), .val (.ref w_INT), .unset, .unset, .unset, .unset, .unset] [(.int p3), (.ref b1)])) _
    refine XS.iconst X7.here hx rfl (hb hby at_33) ?_
    show Steps p.tables e below (T7.setTop (mkF m 34 #[.val (.int p1), .val (.int p2), .val (.int p3), .val (.ref b1), .val (.ref w_INT), .val (.ref w_INT), .unset, .unset, .unset, .unset, .unset] [(.int (1 : Int32)), (.int p3), (.ref b1)])) _
    refine XS.iand X7.here hx rfl (hb hby at_34) rfl ?_
    show Steps p.tables e below (T7.setTop (mkF m 35 #[.val (.int p1), .val (.int p2), .val (.int p3), .val (.ref b1), .val (.ref w_INT), .val (.ref w_INT), .unset, .unset, .unset, .unset, .unset] [(.int (p3 &&& (1 : Int32))), (.ref b1)])) _
    rw [pr7]
    show Steps p.tables e below (T7.setTop (mkF m 35 #[.val (.int p1), .val (.int p2), .val (.int p3), .val (.ref b1), .val (.ref w_INT), .val (.ref w_INT), .unset, .unset, .unset, .unset, .unset] [(.int (1 : Int32)), (.ref b1)])) _
    refine X7.aaload hx (j := (1 : Int32)) (v := (.ref w_DOUBLE)) (by rw [e7]; exact Ar10.1) (State.isArrayOf_alike hZ.alike Ar10.2.1) rfl Ar10.2.2 hin10 hat10 (g := (mkF m 35 #[.val (.int p1), .val (.int p2), .val (.int p3), .val (.ref b1), .val (.ref w_INT), .val (.ref w_INT), .unset, .unset, .unset, .unset, .unset] [(.int (1 : Int32)), (.ref b1)])) rfl rfl (hb hby at_35) _ ?_
    show Steps p.tables e below (T7.setTop (mkF m 36 #[.val (.int p1), .val (.int p2), .val (.int p3), .val (.ref b1), .val (.ref w_INT), .val (.ref w_INT), .unset, .unset, .unset, .unset, .unset] [(.ref w_DOUBLE)])) _
    refine XS.astore X7.here hx rfl (hb hby at_36) rfl rfl (l' := #[.val (.int p1), .val (.int p2), .val (.int p3), .val (.ref b1), .val (.ref w_INT), .val (.ref w_INT), .val (.ref w_DOUBLE), .unset, .unset, .unset, .unset]) rfl ?_
    show Steps p.tables e below (T7.setTop (mkF m 38 #[.val (.int p1), .val (.int p2), .val (.int p3), .val (.ref b1), .val (.ref w_INT), .val (.ref w_INT), .val (.ref w_DOUBLE), .unset, .unset, .unset, .unset] [])) _
    refine XS.aload X7.here hx rfl (hb hby at_38) rfl rfl ?_
    show Steps p.tables e below (T7.setTop (mkF m 40 #[.val (.int p1), .val (.int p2), .val (.int p3), .val (.ref b1), .val (.ref w_INT), .val (.ref w_INT), .val (.ref w_DOUBLE), .unset, .unset, .unset, .unset] [(.ref w_INT)])) _
    refine XS.aload X7.here hx rfl (hb hby at_40) rfl rfl ?_
    show Steps p.tables e below (T7.setTop (mkF m 42 #[.val (.int p1), .val (.int p2), .val (.int p3), .val (.ref b1), .val (.ref w_INT), .val (.ref w_INT), .val (.ref w_DOUBLE), .unset, .unset, .unset, .unset] [(.ref w_INT), (.ref w_INT)])) _
    refine st11 _ ?_
    show Steps p.tables e below (T11.setTop (mkF m 45 #[.val (.int p1), .val (.int p2), .val (.int p3), .val (.ref b1), .val (.ref w_INT), .val (.ref w_INT), .val (.ref w_DOUBLE), .unset, .unset, .unset, .unset] [(.ref w_INT)])) _
    refine XS.astore X11.here hx rfl (hb hby at_45) rfl rfl (l' := #[.val (.int p1), .val (.int p2), .val (.int p3), .val (.ref b1), .val (.ref w_INT), .val (.ref w_INT), .val (.ref w_DOUBLE), .val (.ref w_INT), .unset, .unset, .unset]) rfl ?_
    show Steps p.tables e below (T11.setTop (mkF m 47 #[.val (.int p1), .val (.int p2), .val (.int p3), .val (.ref b1), .val (.ref w_INT), .val (.ref w_INT), .val (.ref w_DOUBLE), .val (.ref w_INT), .unset, .unset, .unset] [])) _
    refine XS.aload X11.here hx rfl (hb hby at_47) rfl rfl ?_
    show Steps p.tables e below (T11.setTop (mkF m 49 #[.val (.int p1), .val (.int p2), .val (.int p3), .val (.ref b1), .val (.ref w_INT), .val (.ref w_INT), .val (.ref w_DOUBLE), .val (.ref w_INT), .unset, .unset, .unset] [(.ref w_INT)])) _
    refine XS.ifnonnullYes X11.here hx rfl (pc0 := 49) (pc' := 54) rfl (hb hby at_49) rfl (by decide) (by decide) ?_
    show Steps p.tables e below (T11.setTop (mkF m 54 #[.val (.int p1), .val (.int p2), .val (.int p3), .val (.ref b1), .val (.ref w_INT), .val (.ref w_INT), .val (.ref w_DOUBLE), .val (.ref w_INT), .unset, .unset, .unset] [])) _
    refine XS.aload X11.here hx rfl (hb hby at_54) rfl rfl ?_
    show Steps p.tables e below (T11.setTop (mkF m 56 #[.val (.int p1), .val (.int p2), .val (.int p3), .val (.ref b1), .val (.ref w_INT), .val (.ref w_INT), .val (.ref w_DOUBLE), .val (.ref w_INT), .unset, .unset, .unset] [(.ref w_INT)])) _
    refine st12.trans ?_
    show Steps p.tables e below (T12.setTop (mkF m 59 #[.val (.int p1), .val (.int p2), .val (.int p3), .val (.ref b1), .val (.ref w_INT), .val (.ref w_INT), .val (.ref w_DOUBLE), .val (.ref w_INT), .unset, .unset, .unset] [(.int (1 : Int32))])) _
    refine XS.ifNo X12.here hx rfl (hb hby at_59) rfl ((if0 _ _).trans (feq (by decide : ¬ ((1 : Int32) = (0 : Int32)))).1) ?_
    show Steps p.tables e below (T12.setTop (mkF m 62 #[.val (.int p1), .val (.int p2), .val (.int p3), .val (.ref b1), .val (.ref w_INT), .val (.ref w_INT), .val (.ref w_DOUBLE), .val (.ref w_INT), .unset, .unset, .unset] [])) _
    refine XS.aload X12.here hx rfl (hb hby at_62) rfl rfl ?_
    show Steps p.tables e below (T12.setTop (mkF m 64 #[.val (.int p1), .val (.int p2), .val (.int p3), .val (.ref b1), .val (.ref w_INT), .val (.ref w_INT), .val (.ref w_DOUBLE), .val (.ref w_INT), .unset, .unset, .unset] [(.ref w_INT)])) _
    refine XS.aload X12.here hx rfl (hb hby at_64) rfl rfl ?_
    show Steps p.tables e below (T12.setTop (mkF m 66 #[.val (.int p1), .val (.int p2), .val (.int p3), .val (.ref b1), .val (.ref w_INT), .val (.ref w_INT), .val (.ref w_DOUBLE), .val (.ref w_INT), .unset, .unset, .unset] [(.ref w_INT), (.ref w_INT)])) _
    refine st13.trans ?_
    show Steps p.tables e below (T13.setTop (mkF m 69 #[.val (.int p1), .val (.int p2), .val (.int p3), .val (.ref b1), .val (.ref w_INT), .val (.ref w_INT), .val (.ref w_DOUBLE), .val (.ref w_INT), .unset, .unset, .unset] [(.int (1 : Int32))])) _
    refine XS.ifNo X13.here hx rfl (hb hby at_69) rfl ((if0 _ _).trans (feq (by decide : ¬ ((1 : Int32) = (0 : Int32)))).1) ?_
    show Steps p.tables e below (T13.setTop (mkF m 72 #[.val (.int p1), .val (.int p2), .val (.int p3), .val (.ref b1), .val (.ref w_INT), .val (.ref w_INT), .val (.ref w_DOUBLE), .val (.ref w_INT), .unset, .unset, .unset] [])) _
    refine XS.aload X13.here hx rfl (hb hby at_72) rfl rfl ?_
    show Steps p.tables e below (T13.setTop (mkF m 74 #[.val (.int p1), .val (.int p2), .val (.int p3), .val (.ref b1), .val (.ref w_INT), .val (.ref w_INT), .val (.ref w_DOUBLE), .val (.ref w_INT), .unset, .unset, .unset] [(.ref w_INT)])) _
    refine XS.aload X13.here hx rfl (hb hby at_74) rfl rfl ?_
    show Steps p.tables e below (T13.setTop (mkF m 76 #[.val (.int p1), .val (.int p2), .val (.int p3), .val (.ref b1), .val (.ref w_INT), .val (.ref w_INT), .val (.ref w_DOUBLE), .val (.ref w_INT), .unset, .unset, .unset] [(.ref w_INT), (.ref w_INT)])) _
    refine st14.trans ?_
    show Steps p.tables e below (T14.setTop (mkF m 79 #[.val (.int p1), .val (.int p2), .val (.int p3), .val (.ref b1), .val (.ref w_INT), .val (.ref w_INT), .val (.ref w_DOUBLE), .val (.ref w_INT), .unset, .unset, .unset] [(.int (1 : Int32))])) _
    refine XS.ifNo X14.here hx rfl (hb hby at_79) rfl ((if0 _ _).trans (feq (by decide : ¬ ((1 : Int32) = (0 : Int32)))).1) ?_
    show Steps p.tables e below (T14.setTop (mkF m 82 #[.val (.int p1), .val (.int p2), .val (.int p3), .val (.ref b1), .val (.ref w_INT), .val (.ref w_INT), .val (.ref w_DOUBLE), .val (.ref w_INT), .unset, .unset, .unset] [])) _
    refine XS.iconst X14.here hx rfl (hb hby at_82) ?_
    show Steps p.tables e below (T14.setTop (mkF m 83 #[.val (.int p1), .val (.int p2), .val (.int p3), .val (.ref b1), .val (.ref w_INT), .val (.ref w_INT), .val (.ref w_DOUBLE), .val (.ref w_INT), .unset, .unset, .unset] [(.int (1 : Int32))])) _
    refine XS.goto X14.here hx rfl (pc0 := 83) (pc' := 87) rfl (hb hby at_83) (by decide) (by decide) ?_
    show Steps p.tables e below (T14.setTop (mkF m 87 #[.val (.int p1), .val (.int p2), .val (.int p3), .val (.ref b1), .val (.ref w_INT), .val (.ref w_INT), .val (.ref w_DOUBLE), .val (.ref w_INT), .unset, .unset, .unset] [(.int (1 : Int32))])) _
    refine XS.istore X14.here hx rfl (hb hby at_87) rfl (l' := #[.val (.int p1), .val (.int p2), .val (.int p3), .val (.ref b1), .val (.ref w_INT), .val (.ref w_INT), .val (.ref w_DOUBLE), .val (.ref w_INT), .val (.int (1 : Int32)), .unset, .unset]) rfl ?_
    show Steps p.tables e below (T14.setTop (mkF m 89 #[.val (.int p1), .val (.int p2), .val (.int p3), .val (.ref b1), .val (.ref w_INT), .val (.ref w_INT), .val (.ref w_DOUBLE), .val (.ref w_INT), .val (.int (1 : Int32)), .unset, .unset] [])) _
    refine XS.aload X14.here hx rfl (hb hby at_89) rfl rfl ?_
    show Steps p.tables e below (T14.setTop (mkF m 91 #[.val (.int p1), .val (.int p2), .val (.int p3), .val (.ref b1), .val (.ref w_INT), .val (.ref w_INT), .val (.ref w_DOUBLE), .val (.ref w_INT), .val (.int (1 : Int32)), .unset, .unset] [(.ref w_DOUBLE)])) _
    refine XS.aload X14.here hx rfl (hb hby at_91) rfl rfl ?_
    show Steps p.tables e below (T14.setTop (mkF m 93 #[.val (.int p1), .val (.int p2), .val (.int p3), .val (.ref b1), .val (.ref w_INT), .val (.ref w_INT), .val (.ref w_DOUBLE), .val (.ref w_INT), .val (.int (1 : Int32)), .unset, .unset] [(.ref w_INT), (.ref w_DOUBLE)])) _
    refine st15.trans ?_
    show Steps p.tables e below (T15.setTop (mkF m 96 #[.val (.int p1), .val (.int p2), .val (.int p3), .val (.ref b1), .val (.ref w_INT), .val (.ref w_INT), .val (.ref w_DOUBLE), .val (.ref w_INT), .val (.int (1 : Int32)), .unset, .unset] [(.int (1 : Int32))])) _
    refine XS.ifNo X15.here hx rfl (hb hby at_96) rfl ((if0 _ _).trans (feq (by decide : ¬ ((1 : Int32) = (0 : Int32)))).1) ?_
    show Steps p.tables e below (T15.setTop (mkF m 99 #[.val (.int p1), .val (.int p2), .val (.int p3), .val (.ref b1), .val (.ref w_INT), .val (.ref w_INT), .val (.ref w_DOUBLE), .val (.ref w_INT), .val (.int (1 : Int32)), .unset, .unset] [])) _
    refine XS.aload X15.here hx rfl (hb hby at_99) rfl rfl ?_
    show Steps p.tables e below (T15.setTop (mkF m 101 #[.val (.int p1), .val (.int p2), .val (.int p3), .val (.ref b1), .val (.ref w_INT), .val (.ref w_INT), .val (.ref w_DOUBLE), .val (.ref w_INT), .val (.int (1 : Int32)), .unset, .unset] [(.ref w_DOUBLE)])) _
    refine XS.aload X15.here hx rfl (hb hby at_101) rfl rfl ?_
    show Steps p.tables e below (T15.setTop (mkF m 103 #[.val (.int p1), .val (.int p2), .val (.int p3), .val (.ref b1), .val (.ref w_INT), .val (.ref w_INT), .val (.ref w_DOUBLE), .val (.ref w_INT), .val (.int (1 : Int32)), .unset, .unset] [(.ref w_INT), (.ref w_DOUBLE)])) _
    refine st16.trans ?_
    show Steps p.tables e below (T16.setTop (mkF m 106 #[.val (.int p1), .val (.int p2), .val (.int p3), .val (.ref b1), .val (.ref w_INT), .val (.ref w_INT), .val (.ref w_DOUBLE), .val (.ref w_INT), .val (.int (1 : Int32)), .unset, .unset] [(.int (1 : Int32))])) _
    refine XS.ifNo X16.here hx rfl (hb hby at_106) rfl ((if0 _ _).trans (feq (by decide : ¬ ((1 : Int32) = (0 : Int32)))).1) ?_
    show Steps p.tables e below (T16.setTop (mkF m 109 #[.val (.int p1), .val (.int p2), .val (.int p3), .val (.ref b1), .val (.ref w_INT), .val (.ref w_INT), .val (.ref w_DOUBLE), .val (.ref w_INT), .val (.int (1 : Int32)), .unset, .unset] [])) _
    refine XS.aload X16.here hx rfl (hb hby at_109) rfl rfl ?_
    show Steps p.tables e below (T16.setTop (mkF m 111 #[.val (.int p1), .val (.int p2), .val (.int p3), .val (.ref b1), .val (.ref w_INT), .val (.ref w_INT), .val (.ref w_DOUBLE), .val (.ref w_INT), .val (.int (1 : Int32)), .unset, .unset] [(.ref w_DOUBLE)])) _
    refine XS.aload X16.here hx rfl (hb hby at_111) rfl rfl ?_
    show Steps p.tables e below (T16.setTop (mkF m 113 #[.val (.int p1), .val (.int p2), .val (.int p3), .val (.ref b1), .val (.ref w_INT), .val (.ref w_INT), .val (.ref w_DOUBLE), .val (.ref w_INT), .val (.int (1 : Int32)), .unset, .unset] [(.ref w_INT), (.ref w_DOUBLE)])) _
    refine st17.trans ?_
    show Steps p.tables e below (T17.setTop (mkF m 116 #[.val (.int p1), .val (.int p2), .val (.int p3), .val (.ref b1), .val (.ref w_INT), .val (.ref w_INT), .val (.ref w_DOUBLE), .val (.ref w_INT), .val (.int (1 : Int32)), .unset, .unset] [(.int (1 : Int32))])) _
    refine XS.ifNo X17.here hx rfl (hb hby at_116) rfl ((if0 _ _).trans (feq (by decide : ¬ ((1 : Int32) = (0 : Int32)))).1) ?_
    show Steps p.tables e below (T17.setTop (mkF m 119 #[.val (.int p1), .val (.int p2), .val (.int p3), .val (.ref b1), .val (.ref w_INT), .val (.ref w_INT), .val (.ref w_DOUBLE), .val (.ref w_INT), .val (.int (1 : Int32)), .unset, .unset] [])) _
    refine XS.iconst X17.here hx rfl (hb hby at_119) ?_
    show Steps p.tables e below (T17.setTop (mkF m 120 #[.val (.int p1), .val (.int p2), .val (.int p3), .val (.ref b1), .val (.ref w_INT), .val (.ref w_INT), .val (.ref w_DOUBLE), .val (.ref w_INT), .val (.int (1 : Int32)), .unset, .unset] [(.int (1 : Int32))])) _
    refine XS.goto X17.here hx rfl (pc0 := 120) (pc' := 124) rfl (hb hby at_120) (by decide) (by decide) ?_
    show Steps p.tables e below (T17.setTop (mkF m 124 #[.val (.int p1), .val (.int p2), .val (.int p3), .val (.ref b1), .val (.ref w_INT), .val (.ref w_INT), .val (.ref w_DOUBLE), .val (.ref w_INT), .val (.int (1 : Int32)), .unset, .unset] [(.int (1 : Int32))])) _
    refine XS.istore X17.here hx rfl (hb hby at_124) rfl (l' := #[.val (.int p1), .val (.int p2), .val (.int p3), .val (.ref b1), .val (.ref w_INT), .val (.ref w_INT), .val (.ref w_DOUBLE), .val (.ref w_INT), .val (.int (1 : Int32)), .val (.int (1 : Int32)), .unset]) rfl ?_
    show Steps p.tables e below (T17.setTop (mkF m 126 #[.val (.int p1), .val (.int p2), .val (.int p3), .val (.ref b1), .val (.ref w_INT), .val (.ref w_INT), .val (.ref w_DOUBLE), .val (.ref w_INT), .val (.int (1 : Int32)), .val (.int (1 : Int32)), .unset] [])) _
    refine XS.aload X17.here hx rfl (hb hby at_126) rfl rfl ?_
    show Steps p.tables e below (T17.setTop (mkF m 128 #[.val (.int p1), .val (.int p2), .val (.int p3), .val (.ref b1), .val (.ref w_INT), .val (.ref w_INT), .val (.ref w_DOUBLE), .val (.ref w_INT), .val (.int (1 : Int32)), .val (.int (1 : Int32)), .unset] [(.ref w_INT)])) _
    refine XS.aload X17.here hx rfl (hb hby at_128) rfl rfl ?_
    show Steps p.tables e below (T17.setTop (mkF m 130 #[.val (.int p1), .val (.int p2), .val (.int p3), .val (.ref b1), .val (.ref w_INT), .val (.ref w_INT), .val (.ref w_DOUBLE), .val (.ref w_INT), .val (.int (1 : Int32)), .val (.int (1 : Int32)), .unset] [(.ref w_INT), (.ref w_INT)])) _
    refine st18 _ ?_
    show Steps p.tables e below (T18.setTop (mkF m 133 #[.val (.int p1), .val (.int p2), .val (.int p3), .val (.ref b1), .val (.ref w_INT), .val (.ref w_INT), .val (.ref w_DOUBLE), .val (.ref w_INT), .val (.int (1 : Int32)), .val (.int (1 : Int32)), .unset] [(.ref w_INT)])) _
    refine XS.aload X18.here hx rfl (hb hby at_133) rfl rfl ?_
    show Steps p.tables e below (T18.setTop (mkF m 135 #[.val (.int p1), .val (.int p2), .val (.int p3), .val (.ref b1), .val (.ref w_INT), .val (.ref w_INT), .val (.ref w_DOUBLE), .val (.ref w_INT), .val (.int (1 : Int32)), .val (.int (1 : Int32)), .unset] [(.ref w_INT), (.ref w_INT)])) _
    refine Jvm.RoadKit.acmp (g := (mkF m 135 #[.val (.int p1), .val (.int p2), .val (.int p3), .val (.ref b1), .val (.ref w_INT), .val (.ref w_INT), .val (.ref w_DOUBLE), .val (.ref w_INT), .val (.int (1 : Int32)), .val (.int (1 : Int32)), .unset] [(.ref w_INT), (.ref w_INT)])) X18 hx rfl rfl rfl (pc0 := 135) (pc' := 138) (same := true) rfl (hb hby at_135) rfl (decide_eq_true rfl) (by decide) (by decide) ?_
    show Steps p.tables e below (T18.setTop (mkF m 138 #[.val (.int p1), .val (.int p2), .val (.int p3), .val (.ref b1), .val (.ref w_INT), .val (.ref w_INT), .val (.ref w_DOUBLE), .val (.ref w_INT), .val (.int (1 : Int32)), .val (.int (1 : Int32)), .unset] [])) _
    refine XS.iconst X18.here hx rfl (hb hby at_138) ?_
    show Steps p.tables e below (T18.setTop (mkF m 139 #[.val (.int p1), .val (.int p2), .val (.int p3), .val (.ref b1), .val (.ref w_INT), .val (.ref w_INT), .val (.ref w_DOUBLE), .val (.ref w_INT), .val (.int (1 : Int32)), .val (.int (1 : Int32)), .unset] [(.int (1 : Int32))])) _
    refine XS.goto X18.here hx rfl (pc0 := 139) (pc' := 143) rfl (hb hby at_139) (by decide) (by decide) ?_
    show Steps p.tables e below (T18.setTop (mkF m 143 #[.val (.int p1), .val (.int p2), .val (.int p3), .val (.ref b1), .val (.ref w_INT), .val (.ref w_INT), .val (.ref w_DOUBLE), .val (.ref w_INT), .val (.int (1 : Int32)), .val (.int (1 : Int32)), .unset] [(.int (1 : Int32))])) _
    refine XS.istore X18.here hx rfl (hb hby at_143) rfl (l' := #[.val (.int p1), .val (.int p2), .val (.int p3), .val (.ref b1), .val (.ref w_INT), .val (.ref w_INT), .val (.ref w_DOUBLE), .val (.ref w_INT), .val (.int (1 : Int32)), .val (.int (1 : Int32)), .val (.int (1 : Int32))]) rfl ?_
    show Steps p.tables e below (T18.setTop (mkF m 145 #[.val (.int p1), .val (.int p2), .val (.int p3), .val (.ref b1), .val (.ref w_INT), .val (.ref w_INT), .val (.ref w_DOUBLE), .val (.ref w_INT), .val (.int (1 : Int32)), .val (.int (1 : Int32)), .val (.int (1 : Int32))] [])) _
    refine XS.iload X18.here hx rfl (hb hby at_145) rfl ?_
    show Steps p.tables e below (T18.setTop (mkF m 147 #[.val (.int p1), .val (.int p2), .val (.int p3), .val (.ref b1), .val (.ref w_INT), .val (.ref w_INT), .val (.ref w_DOUBLE), .val (.ref w_INT), .val (.int (1 : Int32)), .val (.int (1 : Int32)), .val (.int (1 : Int32))] [(.int (1 : Int32))])) _
    refine XS.ifNo X18.here hx rfl (hb hby at_147) rfl ((if0 _ _).trans (feq (by decide : ¬ ((1 : Int32) = (0 : Int32)))).1) ?_
    show Steps p.tables e below (T18.setTop (mkF m 150 #[.val (.int p1), .val (.int p2), .val (.int p3), .val (.ref b1), .val (.ref w_INT), .val (.ref w_INT), .val (.ref w_DOUBLE), .val (.ref w_INT), .val (.int (1 : Int32)), .val (.int (1 : Int32)), .val (.int (1 : Int32))] [])) _
    refine XS.iload X18.here hx rfl (hb hby at_150) rfl ?_
    show Steps p.tables e below (T18.setTop (mkF m 152 #[.val (.int p1), .val (.int p2), .val (.int p3), .val (.ref b1), .val (.ref w_INT), .val (.ref w_INT), .val (.ref w_DOUBLE), .val (.ref w_INT), .val (.int (1 : Int32)), .val (.int (1 : Int32)), .val (.int (1 : Int32))] [(.int (1 : Int32))])) _
    refine XS.ifNo X18.here hx rfl (hb hby at_152) rfl ((if0 _ _).trans (feq (by decide : ¬ ((1 : Int32) = (0 : Int32)))).1) ?_
    show Steps p.tables e below (T18.setTop (mkF m 155 #[.val (.int p1), .val (.int p2), .val (.int p3), .val (.ref b1), .val (.ref w_INT), .val (.ref w_INT), .val (.ref w_DOUBLE), .val (.ref w_INT), .val (.int (1 : Int32)), .val (.int (1 : Int32)), .val (.int (1 : Int32))] [])) _
    refine XS.iload X18.here hx rfl (hb hby at_155) rfl ?_
    show Steps p.tables e below (T18.setTop (mkF m 157 #[.val (.int p1), .val (.int p2), .val (.int p3), .val (.ref b1), .val (.ref w_INT), .val (.ref w_INT), .val (.ref w_DOUBLE), .val (.ref w_INT), .val (.int (1 : Int32)), .val (.int (1 : Int32)), .val (.int (1 : Int32))] [(.int (1 : Int32))])) _
    refine XS.ifNo X18.here hx rfl (hb hby at_157) rfl ((if0 _ _).trans (feq (by decide : ¬ ((1 : Int32) = (0 : Int32)))).1) ?_
    show Steps p.tables e below (T18.setTop (mkF m 160 #[.val (.int p1), .val (.int p2), .val (.int p3), .val (.ref b1), .val (.ref w_INT), .val (.ref w_INT), .val (.ref w_DOUBLE), .val (.ref w_INT), .val (.int (1 : Int32)), .val (.int (1 : Int32)), .val (.int (1 : Int32))] [])) _
    refine XS.iconst X18.here hx rfl (hb hby at_160) ?_
    show Steps p.tables e below (T18.setTop (mkF m 161 #[.val (.int p1), .val (.int p2), .val (.int p3), .val (.ref b1), .val (.ref w_INT), .val (.ref w_INT), .val (.ref w_DOUBLE), .val (.ref w_INT), .val (.int (1 : Int32)), .val (.int (1 : Int32)), .val (.int (1 : Int32))] [(.int (1 : Int32))])) _
    refine XS.goto X18.here hx rfl (pc0 := 161) (pc' := 165) rfl (hb hby at_161) (by decide) (by decide) ?_
    show Steps p.tables e below (T18.setTop (mkF m 165 #[.val (.int p1), .val (.int p2), .val (.int p3), .val (.ref b1), .val (.ref w_INT), .val (.ref w_INT), .val (.ref w_DOUBLE), .val (.ref w_INT), .val (.int (1 : Int32)), .val (.int (1 : Int32)), .val (.int (1 : Int32))] [(.int (1 : Int32))])) _
    exact retN X18 hx (t := .boolean) Bd.returns (by simp) (hb hby at_165) hr
  · exact ⟨rfl, N18⟩
theorem d1_21 : decode prog_81_method_6_code 21 = .ok (.getstatic 10, 3) := by decide +kernel
theorem d1_24 : decode prog_81_method_6_code 24 = .ok (.astore_n 2, 1) := by decide +kernel
def Q_rm1_1 (Z : State) (w1 : Addr) (w2 : Addr) (h0 : Heap) (n0 : Nat) (v : Option Value) (h : Heap) (L : List Loc) : Prop := v = some (.ref w2) ∧ Fr n0 L ∧ h = h0
set_option maxRecDepth 65536 in
set_option maxHeartbeats 40000000 in
theorem rm1_1 (l : Launch) (Z : State) (a0 : Array Value) (hw : ∀ d ∈ tables_1, d.before a0 Z = true) (ws : List Jvm.Cond) (w1 : Addr) (w2 : Addr) (h0 : Heap) (n0 : Nat) (OL0 : Old Z n0 h0) (pr1 : Sta Z Z.heap "com/example/rigorous_chains/rigorouschains/prism/Type" "INT" "Lcom/example/rigorous_chains/rigorouschains/prism/Type;" (.ref w1)) (pr2 : w2 ≠ w1) (pr3 : Sta Z Z.heap "com/example/rigorous_chains/rigorouschains/prism/Type" "DOUBLE" "Lcom/example/rigorous_chains/rigorouschains/prism/Type;" (.ref w2)) :
    MetFree l (⟨"com/example/rigorous_chains/rigorouschains/prism/Type", "widest", "(Lcom/example/rigorous_chains/rigorouschains/prism/Type;Lcom/example/rigorous_chains/rigorouschains/prism/Type;)Lcom/example/rigorous_chains/rigorouschains/prism/Type;"⟩ : MethodName) (head1 (Jvm.Cond.code (⟨"com/example/rigorous_chains/rigorouschains/prism/Type", "widest", "(Lcom/example/rigorous_chains/rigorouschains/prism/Type;Lcom/example/rigorous_chains/rigorouschains/prism/Type;)Lcom/example/rigorous_chains/rigorouschains/prism/Type;"⟩ : MethodName) prog_81_method_6_code 3 (some (.object "com/example/rigorous_chains/rigorouschains/prism/Type")) :: ws) ({ frames := 0, cells := 0, slots := 0, locals := 0 } : Room)) (fun a U => a = #[(.ref w1), (.ref w2)] ∧ Z.Warmed39 U.vm ∧ U.heap = h0) (fun _ _ _ _ _ => True) (fun _ U o U' => ∃ v L, o = .returned v ∧ Q_rm1_1 Z w1 w2 h0 n0 v U'.heap L ∧ FrameEnd U o U' L ({ frames := 0, cells := 0, slots := 0, locals := 0 } : Room).cells ({ frames := 0, cells := 0, slots := 0, locals := 0 } : Room).slots) := by
  refine MetFree.of_bodySF (plainFor_of_name pn_0) hisR ?_
  intro p e s m args below meth c s₁ Bd hml0 hP hK
  obtain ⟨rfl, hZ, hh⟩ := hP
  have hx := Bd.exec
  have hby := Bd.bytes
  have hml : c.maxLocals = 3 := hml0
  have hown : s.vm.findClass "com/example/rigorous_chains/rigorouschains/prism/Type" = some m.cls := findClass_of_methodNamed Bd.named
  have hnm := (name_of_methodNamed Bd.named Bd.method).1
  have X0 : Stand p l e ({ frames := 0, cells := 0, slots := 0, locals := 0 } : Room) s m #[(.ref w1), (.ref w2)] below meth c s₁ [] 0 0 := Stand.of_body Bd
  have e0 : s₁.heap = h0 := by rw [← hh, Bd.state]; rfl
  have N0 := Fr.nil n0
  have pre0 : ∀ t, Steps p.tables e below (s₁.setTop (mkF m 0 #[.val (.ref w1), .val (.ref w2), .unset] [])) t → Steps p.tables e below (s₁.setTop (entryFrame m #[(.ref w1), (.ref w2)] 3)) t := fun t k => castTop (ef_1_0 m w1 w2) k
  obtain ⟨T3, X3, e3, st3⟩ := getS2 X0 hx hZ hown (host := "") (Or.inl (wd11 hw)) Via.refl e0 (pr1.ext OL0.2) (g := (mkF m 1 #[.val (.ref w1), .val (.ref w2), .unset] [(.ref w1)])) rfl (hb hby d1_1)
  obtain ⟨T4, X4, e4, st4⟩ := getS2 X3 hx hZ hown (host := "") (Or.inl (wd11 hw)) Via.refl e3 (pr1.ext OL0.2) (g := (mkF m 8 #[.val (.ref w1), .val (.ref w2), .unset] [(.ref w2)])) rfl (hb hby d1_8)
  obtain ⟨T5, X5, e5, st5⟩ := getS2 X4 hx hZ hown (host := "") (Or.inl (wd12 hw)) Via.refl e4 (pr3.ext OL0.2) (g := (mkF m 21 #[.val (.ref w1), .val (.ref w2), .unset] [])) rfl (hb hby d1_21)
  obtain ⟨fs, hr, hrun, hended, hW, hsame⟩ := X5.leave (v := some (.ref w2)) (fun h => by rw [Bd.returns] at h; cases h)
  refine ⟨_, _, pre0 _ ?_, hrun, hended, _, _, rfl, ?_, ⟨_, rfl⟩, hW, hsame.mono (by decide) (by decide)⟩
  · show Steps p.tables e below (s₁.setTop (mkF m 0 #[.val (.ref w1), .val (.ref w2), .unset] [])) _
    refine XS.aloadN X0.here hx rfl (hb hby d1_0) rfl rfl ?_
    show Steps p.tables e below (s₁.setTop (mkF m 1 #[.val (.ref w1), .val (.ref w2), .unset] [(.ref w1)])) _
    refine st3 _ ?_
    show Steps p.tables e below (T3.setTop (mkF m 4 #[.val (.ref w1), .val (.ref w2), .unset] [(.ref w1), (.ref w1)])) _
    refine Jvm.RoadKit.acmp (g := (mkF m 4 #[.val (.ref w1), .val (.ref w2), .unset] [(.ref w1), (.ref w1)])) X3 hx rfl rfl rfl (pc0 := 4) (pc' := 7) (same := true) rfl (hb hby d1_4) rfl (decide_eq_true rfl) (by decide) (by decide) ?_
    show Steps p.tables e below (T3.setTop (mkF m 7 #[.val (.ref w1), .val (.ref w2), .unset] [])) _
    refine XS.aloadN X3.here hx rfl (hb hby d1_7) rfl rfl ?_
    show Steps p.tables e below (T3.setTop (mkF m 8 #[.val (.ref w1), .val (.ref w2), .unset] [(.ref w2)])) _
    refine st4 _ ?_
    show Steps p.tables e below (T4.setTop (mkF m 11 #[.val (.ref w1), .val (.ref w2), .unset] [(.ref w1), (.ref w2)])) _
    refine Jvm.RoadKit.acmp (g := (mkF m 11 #[.val (.ref w1), .val (.ref w2), .unset] [(.ref w1), (.ref w2)])) X4 hx rfl rfl rfl (pc0 := 11) (pc' := 21) (same := false) rfl (hb hby d1_11) rfl (decide_eq_false fun q => pr2 (Value.ref.inj q)) (by decide) (by decide) ?_
    show Steps p.tables e below (T4.setTop (mkF m 21 #[.val (.ref w1), .val (.ref w2), .unset] [])) _
    refine st5 _ ?_
    show Steps p.tables e below (T5.setTop (mkF m 24 #[.val (.ref w1), .val (.ref w2), .unset] [(.ref w2)])) _
    refine XS.astoreN X5.here hx rfl (hb hby d1_24) rfl rfl (l' := #[.val (.ref w1), .val (.ref w2), .val (.ref w2)]) rfl ?_
    show Steps p.tables e below (T5.setTop (mkF m 25 #[.val (.ref w1), .val (.ref w2), .val (.ref w2)] [])) _
    refine XS.aloadN X5.here hx rfl (hb hby d1_25) rfl rfl ?_
    show Steps p.tables e below (T5.setTop (mkF m 26 #[.val (.ref w1), .val (.ref w2), .val (.ref w2)] [(.ref w2)])) _
    jvm_step X5.here [X5.here.top, hx, (hb hby d1_26), X5.method', Bd.returns, Value.isRef, FieldType.isReference]
    first | (intro acts; rw [hr _ acts rfl rfl rfl]) | rw [hr _ _ rfl rfl rfl]
    exact Steps.refl _
  · show Q_rm1_1 Z w1 w2 h0 n0 _ T5.heap _
    rw [e5]
    exact ⟨rfl, N0, rfl⟩
theorem d3_23 : decode prog_81_method_5_code 23 = .ok (.iconst 0, 1) := by decide +kernel
def Q_rm3_2 (Z : State) (w1 : Addr) (w2 : Addr) (h0 : Heap) (n0 : Nat) (v : Option Value) (h : Heap) (L : List Loc) : Prop := v = some (.int (0 : Int32)) ∧ Fr n0 L ∧ h = h0
set_option maxRecDepth 65536 in
set_option maxHeartbeats 40000000 in
theorem rm3_2 (l : Launch) (Z : State) (a0 : Array Value) (hw : ∀ d ∈ tables_1, d.before a0 Z = true) (ws : List Jvm.Cond) (w1 : Addr) (w2 : Addr) (h0 : Heap) (n0 : Nat) (OL0 : Old Z n0 h0) (pr1 : w1 ≠ w2) (pr2 : Sta Z Z.heap "com/example/rigorous_chains/rigorouschains/prism/Type" "DOUBLE" "Lcom/example/rigorous_chains/rigorouschains/prism/Type;" (.ref w2)) :
    MetFree l (⟨"com/example/rigorous_chains/rigorouschains/prism/Type", "accepts", "(Lcom/example/rigorous_chains/rigorouschains/prism/Type;)Z"⟩ : MethodName) (head1 (Jvm.Cond.code (⟨"com/example/rigorous_chains/rigorouschains/prism/Type", "accepts", "(Lcom/example/rigorous_chains/rigorouschains/prism/Type;)Z"⟩ : MethodName) prog_81_method_5_code 2 (some .boolean) :: ws) ({ frames := 0, cells := 0, slots := 0, locals := 0 } : Room)) (fun a U => a = #[(.ref w1), (.ref w2)] ∧ Z.Warmed39 U.vm ∧ U.heap = h0) (fun _ _ _ _ _ => True) (fun _ U o U' => ∃ v L, o = .returned v ∧ Q_rm3_2 Z w1 w2 h0 n0 v U'.heap L ∧ FrameEnd U o U' L ({ frames := 0, cells := 0, slots := 0, locals := 0 } : Room).cells ({ frames := 0, cells := 0, slots := 0, locals := 0 } : Room).slots) := by
  refine MetFree.of_bodySF (plainFor_of_name pn_0) hisR ?_
  intro p e s m args below meth c s₁ Bd hml0 hP hK
  obtain ⟨rfl, hZ, hh⟩ := hP
  have hx := Bd.exec
  have hby := Bd.bytes
  have hml : c.maxLocals = 2 := hml0
  have hown : s.vm.findClass "com/example/rigorous_chains/rigorouschains/prism/Type" = some m.cls := findClass_of_methodNamed Bd.named
  have hnm := (name_of_methodNamed Bd.named Bd.method).1
  have X0 : Stand p l e ({ frames := 0, cells := 0, slots := 0, locals := 0 } : Room) s m #[(.ref w1), (.ref w2)] below meth c s₁ [] 0 0 := Stand.of_body Bd
  have e0 : s₁.heap = h0 := by rw [← hh, Bd.state]; rfl
  have N0 := Fr.nil n0
  have pre0 : ∀ t, Steps p.tables e below (s₁.setTop (mkF m 0 #[.val (.ref w1), .val (.ref w2)] [])) t → Steps p.tables e below (s₁.setTop (entryFrame m #[(.ref w1), (.ref w2)] 2)) t := fun t k => castTop (ef_3_2 m w1 w2) k
  obtain ⟨T3, X3, e3, st3⟩ := getS2 X0 hx hZ hown (host := "") (Or.inl (wd12 hw)) Via.refl e0 (pr2.ext OL0.2) (g := (mkF m 6 #[.val (.ref w1), .val (.ref w2)] [(.ref w1)])) rfl (hb hby d3_6)
  obtain ⟨fs, hr, hrun, hended, hW, hsame⟩ := X3.leave (v := some (.int (0 : Int32))) (fun h => by rw [Bd.returns] at h; cases h)
  refine ⟨_, _, pre0 _ ?_, hrun, hended, _, _, rfl, ?_, ⟨_, rfl⟩, hW, hsame.mono (by decide) (by decide)⟩
  · show Steps p.tables e below (s₁.setTop (mkF m 0 #[.val (.ref w1), .val (.ref w2)] [])) _
    refine XS.aloadN X0.here hx rfl (hb hby d3_0) rfl rfl ?_
    show Steps p.tables e below (s₁.setTop (mkF m 1 #[.val (.ref w1), .val (.ref w2)] [(.ref w1)])) _
    refine XS.aloadN X0.here hx rfl (hb hby d3_1) rfl rfl ?_
    show Steps p.tables e below (s₁.setTop (mkF m 2 #[.val (.ref w1), .val (.ref w2)] [(.ref w2), (.ref w1)])) _
    refine Jvm.RoadKit.acmp (g := (mkF m 2 #[.val (.ref w1), .val (.ref w2)] [(.ref w2), (.ref w1)])) X0 hx rfl rfl rfl (pc0 := 2) (pc' := 5) (same := false) rfl (hb hby d3_2) rfl (decide_eq_false fun q => pr1 (Value.ref.inj q)) (by decide) (by decide) ?_
    show Steps p.tables e below (s₁.setTop (mkF m 5 #[.val (.ref w1), .val (.ref w2)] [])) _
    refine XS.aloadN X0.here hx rfl (hb hby d3_5) rfl rfl ?_
    show Steps p.tables e below (s₁.setTop (mkF m 6 #[.val (.ref w1), .val (.ref w2)] [(.ref w1)])) _
    refine st3 _ ?_
    show Steps p.tables e below (T3.setTop (mkF m 9 #[.val (.ref w1), .val (.ref w2)] [(.ref w2), (.ref w1)])) _
    refine Jvm.RoadKit.acmp (g := (mkF m 9 #[.val (.ref w1), .val (.ref w2)] [(.ref w2), (.ref w1)])) X3 hx rfl rfl rfl (pc0 := 9) (pc' := 23) (same := false) rfl (hb hby d3_9) rfl (decide_eq_false fun q => pr1 (Value.ref.inj q)) (by decide) (by decide) ?_
    show Steps p.tables e below (T3.setTop (mkF m 23 #[.val (.ref w1), .val (.ref w2)] [])) _
    refine XS.iconst X3.here hx rfl (hb hby d3_23) ?_
    show Steps p.tables e below (T3.setTop (mkF m 24 #[.val (.ref w1), .val (.ref w2)] [(.int (0 : Int32))])) _
    exact retN X3 hx (t := .boolean) Bd.returns (by simp) (hb hby d3_24) hr
  · show Q_rm3_2 Z w1 w2 h0 n0 _ T3.heap _
    rw [e3]
    exact ⟨rfl, N0, rfl⟩
def Q_rm1_2 (Z : State) (w1 : Addr) (w2 : Addr) (h0 : Heap) (n0 : Nat) (v : Option Value) (h : Heap) (L : List Loc) : Prop := v = some (.ref w1) ∧ Fr n0 L ∧ h = h0
set_option maxRecDepth 65536 in
set_option maxHeartbeats 40000000 in
theorem rm1_2 (l : Launch) (Z : State) (a0 : Array Value) (hw : ∀ d ∈ tables_1, d.before a0 Z = true) (ws : List Jvm.Cond) (w1 : Addr) (w2 : Addr) (h0 : Heap) (n0 : Nat) (OL0 : Old Z n0 h0) (pr1 : Sta Z Z.heap "com/example/rigorous_chains/rigorouschains/prism/Type" "INT" "Lcom/example/rigorous_chains/rigorouschains/prism/Type;" (.ref w2)) (pr2 : w1 ≠ w2) (pr3 : Sta Z Z.heap "com/example/rigorous_chains/rigorouschains/prism/Type" "DOUBLE" "Lcom/example/rigorous_chains/rigorouschains/prism/Type;" (.ref w1)) :
    MetFree l (⟨"com/example/rigorous_chains/rigorouschains/prism/Type", "widest", "(Lcom/example/rigorous_chains/rigorouschains/prism/Type;Lcom/example/rigorous_chains/rigorouschains/prism/Type;)Lcom/example/rigorous_chains/rigorouschains/prism/Type;"⟩ : MethodName) (head1 (Jvm.Cond.code (⟨"com/example/rigorous_chains/rigorouschains/prism/Type", "widest", "(Lcom/example/rigorous_chains/rigorouschains/prism/Type;Lcom/example/rigorous_chains/rigorouschains/prism/Type;)Lcom/example/rigorous_chains/rigorouschains/prism/Type;"⟩ : MethodName) prog_81_method_6_code 3 (some (.object "com/example/rigorous_chains/rigorouschains/prism/Type")) :: ws) ({ frames := 0, cells := 0, slots := 0, locals := 0 } : Room)) (fun a U => a = #[(.ref w1), (.ref w2)] ∧ Z.Warmed39 U.vm ∧ U.heap = h0) (fun _ _ _ _ _ => True) (fun _ U o U' => ∃ v L, o = .returned v ∧ Q_rm1_2 Z w1 w2 h0 n0 v U'.heap L ∧ FrameEnd U o U' L ({ frames := 0, cells := 0, slots := 0, locals := 0 } : Room).cells ({ frames := 0, cells := 0, slots := 0, locals := 0 } : Room).slots) := by
  refine MetFree.of_bodySF (plainFor_of_name pn_0) hisR ?_
  intro p e s m args below meth c s₁ Bd hml0 hP hK
  obtain ⟨rfl, hZ, hh⟩ := hP
  have hx := Bd.exec
  have hby := Bd.bytes
  have hml : c.maxLocals = 3 := hml0
  have hown : s.vm.findClass "com/example/rigorous_chains/rigorouschains/prism/Type" = some m.cls := findClass_of_methodNamed Bd.named
  have hnm := (name_of_methodNamed Bd.named Bd.method).1
  have X0 : Stand p l e ({ frames := 0, cells := 0, slots := 0, locals := 0 } : Room) s m #[(.ref w1), (.ref w2)] below meth c s₁ [] 0 0 := Stand.of_body Bd
  have e0 : s₁.heap = h0 := by rw [← hh, Bd.state]; rfl
  have N0 := Fr.nil n0
  have pre0 : ∀ t, Steps p.tables e below (s₁.setTop (mkF m 0 #[.val (.ref w1), .val (.ref w2), .unset] [])) t → Steps p.tables e below (s₁.setTop (entryFrame m #[(.ref w1), (.ref w2)] 3)) t := fun t k => castTop (ef_1_0 m w1 w2) k
  obtain ⟨T3, X3, e3, st3⟩ := getS2 X0 hx hZ hown (host := "") (Or.inl (wd11 hw)) Via.refl e0 (pr1.ext OL0.2) (g := (mkF m 1 #[.val (.ref w1), .val (.ref w2), .unset] [(.ref w1)])) rfl (hb hby d1_1)
  obtain ⟨T4, X4, e4, st4⟩ := getS2 X3 hx hZ hown (host := "") (Or.inl (wd12 hw)) Via.refl e3 (pr3.ext OL0.2) (g := (mkF m 21 #[.val (.ref w1), .val (.ref w2), .unset] [])) rfl (hb hby d1_21)
  obtain ⟨fs, hr, hrun, hended, hW, hsame⟩ := X4.leave (v := some (.ref w1)) (fun h => by rw [Bd.returns] at h; cases h)
  refine ⟨_, _, pre0 _ ?_, hrun, hended, _, _, rfl, ?_, ⟨_, rfl⟩, hW, hsame.mono (by decide) (by decide)⟩
  · show Steps p.tables e below (s₁.setTop (mkF m 0 #[.val (.ref w1), .val (.ref w2), .unset] [])) _
    refine XS.aloadN X0.here hx rfl (hb hby d1_0) rfl rfl ?_
    show Steps p.tables e below (s₁.setTop (mkF m 1 #[.val (.ref w1), .val (.ref w2), .unset] [(.ref w1)])) _
    refine st3 _ ?_
    show Steps p.tables e below (T3.setTop (mkF m 4 #[.val (.ref w1), .val (.ref w2), .unset] [(.ref w2), (.ref w1)])) _
    refine Jvm.RoadKit.acmp (g := (mkF m 4 #[.val (.ref w1), .val (.ref w2), .unset] [(.ref w2), (.ref w1)])) X3 hx rfl rfl rfl (pc0 := 4) (pc' := 21) (same := false) rfl (hb hby d1_4) rfl (decide_eq_false fun q => pr2 (Value.ref.inj q)) (by decide) (by decide) ?_
    show Steps p.tables e below (T3.setTop (mkF m 21 #[.val (.ref w1), .val (.ref w2), .unset] [])) _
    refine st4 _ ?_
    show Steps p.tables e below (T4.setTop (mkF m 24 #[.val (.ref w1), .val (.ref w2), .unset] [(.ref w1)])) _
    refine XS.astoreN X4.here hx rfl (hb hby d1_24) rfl rfl (l' := #[.val (.ref w1), .val (.ref w2), .val (.ref w1)]) rfl ?_
    show Steps p.tables e below (T4.setTop (mkF m 25 #[.val (.ref w1), .val (.ref w2), .val (.ref w1)] [])) _
    refine XS.aloadN X4.here hx rfl (hb hby d1_25) rfl rfl ?_
    show Steps p.tables e below (T4.setTop (mkF m 26 #[.val (.ref w1), .val (.ref w2), .val (.ref w1)] [(.ref w1)])) _
    jvm_step X4.here [X4.here.top, hx, (hb hby d1_26), X4.method', Bd.returns, Value.isRef, FieldType.isReference]
    first | (intro acts; rw [hr _ acts rfl rfl rfl]) | rw [hr _ _ rfl rfl rfl]
    exact Steps.refl _
  · show Q_rm1_2 Z w1 w2 h0 n0 _ T4.heap _
    rw [e4]
    exact ⟨rfl, N0, rfl⟩
set_option maxRecDepth 65536 in
set_option maxHeartbeats 40000000 in
theorem rm0_0_1_0 (l : Launch) (Z : State) (a0 : Array Value) (hw : ∀ d ∈ tables_1, d.before a0 Z = true) (ws : List Jvm.Cond) (p1 : Int32) (p2 : Int32) (p3 : Int32) (w_INT : Addr) (w_DOUBLE : Addr) (w_BOOL : Addr) (h0 : Heap) (n0 : Nat) (OL0 : Old Z n0 h0) (pr1 : Sta Z Z.heap "com/example/rigorous_chains/rigorouschains/prism/Type" "INT" "Lcom/example/rigorous_chains/rigorouschains/prism/Type;" (.ref w_INT)) (pr2 : Exa Z Z.heap w_INT "com/example/rigorous_chains/rigorouschains/prism/Type") (pr3 : Sta Z Z.heap "com/example/rigorous_chains/rigorouschains/prism/Type" "DOUBLE" "Lcom/example/rigorous_chains/rigorouschains/prism/Type;" (.ref w_DOUBLE)) (pr4 : Exa Z Z.heap w_DOUBLE "com/example/rigorous_chains/rigorouschains/prism/Type") (pr5 : (p1 &&& (1 : Int32)) = (0 : Int32)) (pr6 : (p2 &&& (1 : Int32)) = (1 : Int32)) (pr7 : (p3 &&& (1 : Int32)) = (0 : Int32)) (pr8 : w_DOUBLE ≠ w_INT) (pr9 : Sta Z Z.heap "com/example/rigorous_chains/rigorouschains/prism/Type" "BOOL" "Lcom/example/rigorous_chains/rigorouschains/prism/Type;" (.ref w_BOOL)) (pr10 : w_DOUBLE ≠ w_BOOL) (pr11 : w_INT ≠ w_DOUBLE) :
    MetFree l x (head1 (Jvm.Cond.code x code maxLocals ret :: ws) room_1) (fun a U => a = #[(.int p1), (.int p2), (.int p3)] ∧ Z.Warmed39 U.vm ∧ U.heap = h0) (fun _ _ _ _ _ => True) (fun _ U o U' => ∃ v L, o = .returned v ∧ Q0 n0 v L ∧ FrameEnd U o U' L 16 128) := by
  refine MetFree.of_bodySF (plainFor_of_name pn_1) hisR ?_
  intro p e s m args below meth c s₁ Bd hml0 hP hK
  obtain ⟨rfl, hZ, hh⟩ := hP
  have hx := Bd.exec
  have hby := Bd.bytes
  have hml : c.maxLocals = 11 := hml0
  have hown : s.vm.findClass "com/example/rigorous_chains/rigorouschains/prism/TypeWidestPinLaw" = some m.cls := findClass_of_methodNamed Bd.named
  have hnm := (name_of_methodNamed Bd.named Bd.method).1
  have X0 : Stand p l e room_1 s m #[(.int p1), (.int p2), (.int p3)] below meth c s₁ [] 0 0 := Stand.of_body Bd
  have e0 : s₁.heap = h0 := by rw [← hh, Bd.state]; rfl
  have N0 := Fr.nil n0
  have pre0 : ∀ t, Steps p.tables e below (s₁.setTop (mkF m 0 #[.val (.int p1), .val (.int p2), .val (.int p3), .unset, .unset, .unset, .unset, .unset, .unset, .unset, .unset] [])) t → Steps p.tables e below (s₁.setTop (entryFrame m #[(.int p1), (.int p2), (.int p3)] maxLocals)) t := fun t k => castTop (ef_0_3 m p1 p2 p3) k
  obtain ⟨T1, h1, k1, X1, e1, E1, A1, O1, st1⟩ := newR X0 hx hZ hown (wd0 hw) (wd1 hw) e0 (g := (mkF m 1 #[.val (.int p1), .val (.int p2), .val (.int p3), .unset, .unset, .unset, .unset, .unset, .unset, .unset, .unset] [(.int (2 : Int32))])) rfl (hb hby at_1) rfl (by decide) (cap := 2) (by decide) (by decide) (by decide) (by decide)
  obtain ⟨b1, g1⟩ : ∃ z, z = h0.size := ⟨_, rfl⟩
  rw [← g1] at A1 st1
  have V1 : Arv Z h1 b1 k1 (.object "com/example/rigorous_chains/rigorouschains/prism/Type") (2 : Int32) [.null, .null] .null := (Arv.new A1 (by decide)).pad (pad_rep [] .null 2)
  have g_b1 : n0 ≤ b1 := (Nat.le_trans (Nat.le_trans (Nat.le_of_eq OL0.1.symm) OL0.2.1) (Nat.le_of_eq g1.symm))
  have sz_b1 : h0.size ≤ b1 := (Nat.le_trans (Keep.refl h0 []).1 (Nat.le_of_eq g1.symm))
  have KK1 : Keep h0 h1 [] := (Keep.refl h0 []).ext E1
  have OL1 := OL0.ext E1
  obtain ⟨T2, X2, e2, st2⟩ := getS2 X1 hx hZ hown (host := "") (Or.inl (wd2 hw)) Via.refl e1 (pr1.ext OL1.2) (g := (mkF m 6 #[.val (.int p1), .val (.int p2), .val (.int p3), .unset, .unset, .unset, .unset, .unset, .unset, .unset, .unset] [(.int (0 : Int32)), (.ref b1), (.ref b1)])) rfl (hb hby at_6)
  obtain ⟨cl3, Ar3, q3, S3, M3, Hs3, G3⟩ := id V1
  have hin3 : ¬ ((0 : Int32) < 0 ∨ cl3.slots.size ≤ ((0 : Int32)).toNatClampNeg) := inb_of S3 ⟨by decide, by decide⟩
  obtain ⟨T4, h4, X4, e4, W4, st4⟩ := stR X2 hx hZ e2 Ar3 (j := (0 : Int32)) hin3 rfl (Sto.ofV Ar3 q3 O1 (Ins.self (pr2.ext OL1.2))) (g := (mkF m 9 #[.val (.int p1), .val (.int p2), .val (.int p3), .unset, .unset, .unset, .unset, .unset, .unset, .unset, .unset] [(.ref w_INT), (.int (0 : Int32)), (.ref b1), (.ref b1)])) rfl rfl (hb hby at_9)
  have V4 : Arv Z h4 b1 k1 (.object "com/example/rigorous_chains/rigorouschains/prism/Type") (2 : Int32) [(.ref w_INT), .null] .null := Arv.set Ar3 q3 S3 M3 Hs3 G3 rfl W4 0 rfl (Nat.le_of_ble_eq_true rfl)
  have KK4 : Keep h0 h4 [] := KK1.wr W4 (Or.inr sz_b1)
  have OL4 := OL1.wr W4 g_b1
  have N4 := Fr.snoc X4 N0 g_b1
  obtain ⟨T5, X5, e5, st5⟩ := getS2 X4 hx hZ hown (host := "") (Or.inl (wd6 hw)) Via.refl e4 (pr3.ext OL4.2) (g := (mkF m 12 #[.val (.int p1), .val (.int p2), .val (.int p3), .unset, .unset, .unset, .unset, .unset, .unset, .unset, .unset] [(.int (1 : Int32)), (.ref b1), (.ref b1)])) rfl (hb hby at_12)
  obtain ⟨cl6, Ar6, q6, S6, M6, Hs6, G6⟩ := id V4
  have hin6 : ¬ ((1 : Int32) < 0 ∨ cl6.slots.size ≤ ((1 : Int32)).toNatClampNeg) := inb_of S6 ⟨by decide, by decide⟩
  obtain ⟨T7, h7, X7, e7, W7, st7⟩ := stR X5 hx hZ e5 Ar6 (j := (1 : Int32)) hin6 rfl (Sto.ofV Ar6 q6 O1 (Ins.self (pr4.ext OL4.2))) (g := (mkF m 15 #[.val (.int p1), .val (.int p2), .val (.int p3), .unset, .unset, .unset, .unset, .unset, .unset, .unset, .unset] [(.ref w_DOUBLE), (.int (1 : Int32)), (.ref b1), (.ref b1)])) rfl rfl (hb hby at_15)
  have V7 : Arv Z h7 b1 k1 (.object "com/example/rigorous_chains/rigorouschains/prism/Type") (2 : Int32) [(.ref w_INT), (.ref w_DOUBLE)] .null := Arv.set Ar6 q6 S6 M6 Hs6 G6 rfl W7 1 rfl (Nat.le_of_ble_eq_true rfl)
  have KK7 : Keep h0 h7 [] := KK4.wr W7 (Or.inr sz_b1)
  have OL7 := OL4.wr W7 g_b1
  have N7 := Fr.snoc X7 N4 g_b1
  obtain ⟨cl8, Ar8, -, S8, -, Hs8, -⟩ := id V7
  have hin8 : ¬ ((0 : Int32) < 0 ∨ cl8.slots.size ≤ ((0 : Int32)).toNatClampNeg) := inb_of S8 ⟨by decide, by decide⟩
  have hat8 : cl8.slots[((0 : Int32)).toNatClampNeg]? = some (.ref w_INT) := Hs8.at hin8 rfl
  obtain ⟨cl9, Ar9, -, S9, -, Hs9, -⟩ := id V7
  have hin9 : ¬ ((1 : Int32) < 0 ∨ cl9.slots.size ≤ ((1 : Int32)).toNatClampNeg) := inb_of S9 ⟨by decide, by decide⟩
  have hat9 : cl9.slots[((1 : Int32)).toNatClampNeg]? = some (.ref w_DOUBLE) := Hs9.at hin9 rfl
  obtain ⟨cl10, Ar10, -, S10, -, Hs10, -⟩ := id V7
  have hin10 : ¬ ((0 : Int32) < 0 ∨ cl10.slots.size ≤ ((0 : Int32)).toNatClampNeg) := inb_of S10 ⟨by decide, by decide⟩
  have hat10 : cl10.slots[((0 : Int32)).toNatClampNeg]? = some (.ref w_INT) := Hs10.at hin10 rfl
  obtain ⟨_, _, ⟨T11, L11, k11, n11⟩, -, X11, ⟨Lc11, hQ11, l11, y11, z11⟩, st11⟩ := Jvm.LawKit.callS X7 hx (y := (⟨"com/example/rigorous_chains/rigorouschains/prism/Type", "widest", "(Lcom/example/rigorous_chains/rigorouschains/prism/Type;Lcom/example/rigorous_chains/rigorouschains/prism/Type;)Lcom/example/rigorous_chains/rigorouschains/prism/Type;"⟩ : MethodName)) hown (mvT hZ (wd8 hw)) (mvT hZ (wd9 hw)) (mvT hZ (wd3 hw)) (mvT hZ (wd10 hw)) (by decide) (backOf (W := 0) (rm1_1 l Z a0 hw [] w_INT w_DOUBLE h7 n0 OL7 pr1 pr8 pr3) hZ (wd10 hw) (wd3 hw) (by decide) (by decide)) (g := (mkF m 42 #[.val (.int p1), .val (.int p2), .val (.int p3), .val (.ref b1), .val (.ref w_INT), .val (.ref w_DOUBLE), .val (.ref w_INT), .unset, .unset, .unset, .unset] [(.ref w_DOUBLE), (.ref w_INT)])) rfl (by rw [hml]; rfl) (argsL := [(.ref w_INT), (.ref w_DOUBLE)]) (rest := []) (lenOf pd_0 rfl) rfl (by show 2 * 0 + _ ≤ _; exact Nat.le_of_eq rfl) (hb hby at_42) (fun _ _ => ⟨rfl, e7, (by decide : 1 + 0 ≤ _), (by decide : 2 + 0 ≤ _)⟩)
  dsimp only [Pt.U, Pt.locs, Pt.cells, Pt.slots] at X11 l11 y11 z11 st11 hQ11
  subst l11 y11 z11
  obtain ⟨rfl, Nq11, ec11⟩ := hQ11
  have N11 := Fr.app N7 Nq11
  obtain ⟨cq12, kq12, q12a, q12b, q12c⟩ := isOf hZ ec11 (pr4.ext OL7.2)
  obtain ⟨_, _, ⟨T12, L12, k12, n12⟩, -, X12, ⟨Lc12, hQ12, l12, y12, z12⟩, st12⟩ := X11.virtualBack hx (y := (⟨"com/example/rigorous_chains/rigorouschains/prism/Type", "isNumeric", "()Z"⟩ : MethodName)) (z := (⟨"com/example/rigorous_chains/rigorouschains/prism/Type", "isNumeric", "()Z"⟩ : MethodName)) hown (mvT hZ (wd13 hw)) (mvT hZ (wd14 hw)) (notFace_of_selects (args := #[]) (mvT hZ (wd16 hw))) (mvT hZ (wd16 hw)) (mvT hZ (wd15 hw)) (by decide) (backOf (W := 0) (rm2_0 l Z a0 hw [] w_DOUBLE w_BOOL h7 n0 OL7 pr9 pr10) hZ (wd17 hw) (wd3 hw) (by decide) (by decide)) q12a q12c (g := (mkF m 56 #[.val (.int p1), .val (.int p2), .val (.int p3), .val (.ref b1), .val (.ref w_INT), .val (.ref w_DOUBLE), .val (.ref w_INT), .val (.ref w_DOUBLE), .unset, .unset, .unset] [(.ref w_DOUBLE)])) rfl (by rw [hml]; rfl) (Steps.refl _) (argsL := []) (rest := []) (lenOf pd_1 rfl) rfl (by show 2 * 0 + _ ≤ _; exact Nat.le_of_eq rfl) (hb hby at_56) (fun _ _ => ⟨rfl, ec11, (by decide : 1 + 0 ≤ _), (by decide : 2 + 0 ≤ _)⟩)
  dsimp only [Pt.U, Pt.locs, Pt.cells, Pt.slots] at X12 l12 y12 z12 st12 hQ12
  subst l12 y12 z12
  obtain ⟨rfl, Nq12, ec12⟩ := hQ12
  have N12 := Fr.app N11 Nq12
  obtain ⟨cq13, kq13, q13a, q13b, q13c⟩ := isOf hZ ec12 (pr4.ext OL7.2)
  obtain ⟨_, _, ⟨T13, L13, k13, n13⟩, -, X13, ⟨Lc13, hQ13, l13, y13, z13⟩, st13⟩ := X12.virtualBack hx (y := (⟨"com/example/rigorous_chains/rigorouschains/prism/Type", "accepts", "(Lcom/example/rigorous_chains/rigorouschains/prism/Type;)Z"⟩ : MethodName)) (z := (⟨"com/example/rigorous_chains/rigorouschains/prism/Type", "accepts", "(Lcom/example/rigorous_chains/rigorouschains/prism/Type;)Z"⟩ : MethodName)) hown (mvT hZ (wd20 hw)) (mvT hZ (wd21 hw)) (notFace_of_selects (args := #[]) (mvT hZ (wd23 hw))) (mvT hZ (wd23 hw)) (mvT hZ (wd22 hw)) (by decide) (backOf (W := 0) (rm3_1 l Z a0 hw [] w_DOUBLE w_INT h7 n0 OL7 pr8 pr3 pr1) hZ (wd24 hw) (wd3 hw) (by decide) (by decide)) q13a q13c (g := (mkF m 66 #[.val (.int p1), .val (.int p2), .val (.int p3), .val (.ref b1), .val (.ref w_INT), .val (.ref w_DOUBLE), .val (.ref w_INT), .val (.ref w_DOUBLE), .unset, .unset, .unset] [(.ref w_INT), (.ref w_DOUBLE)])) rfl (by rw [hml]; rfl) (Steps.refl _) (argsL := [(.ref w_INT)]) (rest := []) (lenOf pd_2 rfl) rfl (by show 2 * 0 + _ ≤ _; exact Nat.le_of_eq rfl) (hb hby at_66) (fun _ _ => ⟨rfl, ec12, (by decide : 1 + 0 ≤ _), (by decide : 2 + 0 ≤ _)⟩)
  dsimp only [Pt.U, Pt.locs, Pt.cells, Pt.slots] at X13 l13 y13 z13 st13 hQ13
  subst l13 y13 z13
  obtain ⟨rfl, Nq13, ec13⟩ := hQ13
  have N13 := Fr.app N12 Nq13
  obtain ⟨cq14, kq14, q14a, q14b, q14c⟩ := isOf hZ ec13 (pr4.ext OL7.2)
  obtain ⟨_, _, ⟨T14, L14, k14, n14⟩, -, X14, ⟨Lc14, hQ14, l14, y14, z14⟩, st14⟩ := X13.virtualBack hx (y := (⟨"com/example/rigorous_chains/rigorouschains/prism/Type", "accepts", "(Lcom/example/rigorous_chains/rigorouschains/prism/Type;)Z"⟩ : MethodName)) (z := (⟨"com/example/rigorous_chains/rigorouschains/prism/Type", "accepts", "(Lcom/example/rigorous_chains/rigorouschains/prism/Type;)Z"⟩ : MethodName)) hown (mvT hZ (wd20 hw)) (mvT hZ (wd21 hw)) (notFace_of_selects (args := #[]) (mvT hZ (wd23 hw))) (mvT hZ (wd23 hw)) (mvT hZ (wd22 hw)) (by decide) (backOf (W := 0) (rm3_0 l Z a0 hw [] w_DOUBLE h7 n0 OL7 ) hZ (wd24 hw) (wd3 hw) (by decide) (by decide)) q14a q14c (g := (mkF m 76 #[.val (.int p1), .val (.int p2), .val (.int p3), .val (.ref b1), .val (.ref w_INT), .val (.ref w_DOUBLE), .val (.ref w_INT), .val (.ref w_DOUBLE), .unset, .unset, .unset] [(.ref w_DOUBLE), (.ref w_DOUBLE)])) rfl (by rw [hml]; rfl) (Steps.refl _) (argsL := [(.ref w_DOUBLE)]) (rest := []) (lenOf pd_2 rfl) rfl (by show 2 * 0 + _ ≤ _; exact Nat.le_of_eq rfl) (hb hby at_76) (fun _ _ => ⟨rfl, ec13, (by decide : 1 + 0 ≤ _), (by decide : 2 + 0 ≤ _)⟩)
  dsimp only [Pt.U, Pt.locs, Pt.cells, Pt.slots] at X14 l14 y14 z14 st14 hQ14
  subst l14 y14 z14
  obtain ⟨rfl, Nq14, ec14⟩ := hQ14
  have N14 := Fr.app N13 Nq14
  obtain ⟨cq15, kq15, q15a, q15b, q15c⟩ := isOf hZ ec14 (pr2.ext OL7.2)
  obtain ⟨_, _, ⟨T15, L15, k15, n15⟩, -, X15, ⟨Lc15, hQ15, l15, y15, z15⟩, st15⟩ := X14.virtualBack hx (y := (⟨"com/example/rigorous_chains/rigorouschains/prism/Type", "accepts", "(Lcom/example/rigorous_chains/rigorouschains/prism/Type;)Z"⟩ : MethodName)) (z := (⟨"com/example/rigorous_chains/rigorouschains/prism/Type", "accepts", "(Lcom/example/rigorous_chains/rigorouschains/prism/Type;)Z"⟩ : MethodName)) hown (mvT hZ (wd20 hw)) (mvT hZ (wd21 hw)) (notFace_of_selects (args := #[]) (mvT hZ (wd23 hw))) (mvT hZ (wd23 hw)) (mvT hZ (wd22 hw)) (by decide) (backOf (W := 0) (rm3_0 l Z a0 hw [] w_INT h7 n0 OL7 ) hZ (wd24 hw) (wd3 hw) (by decide) (by decide)) q15a q15c (g := (mkF m 93 #[.val (.int p1), .val (.int p2), .val (.int p3), .val (.ref b1), .val (.ref w_INT), .val (.ref w_DOUBLE), .val (.ref w_INT), .val (.ref w_DOUBLE), .val (.int (1 : Int32)), .unset, .unset] [(.ref w_INT), (.ref w_INT)])) rfl (by rw [hml]; rfl) (Steps.refl _) (argsL := [(.ref w_INT)]) (rest := []) (lenOf pd_2 rfl) rfl (by show 2 * 0 + _ ≤ _; exact Nat.le_of_eq rfl) (hb hby at_93) (fun _ _ => ⟨rfl, ec14, (by decide : 1 + 0 ≤ _), (by decide : 2 + 0 ≤ _)⟩)
  dsimp only [Pt.U, Pt.locs, Pt.cells, Pt.slots] at X15 l15 y15 z15 st15 hQ15
  subst l15 y15 z15
  obtain ⟨rfl, Nq15, ec15⟩ := hQ15
  have N15 := Fr.app N14 Nq15
  obtain ⟨cq16, kq16, q16a, q16b, q16c⟩ := isOf hZ ec15 (pr2.ext OL7.2)
  obtain ⟨_, _, ⟨T16, L16, k16, n16⟩, -, X16, ⟨Lc16, hQ16, l16, y16, z16⟩, st16⟩ := X15.virtualBack hx (y := (⟨"com/example/rigorous_chains/rigorouschains/prism/Type", "accepts", "(Lcom/example/rigorous_chains/rigorouschains/prism/Type;)Z"⟩ : MethodName)) (z := (⟨"com/example/rigorous_chains/rigorouschains/prism/Type", "accepts", "(Lcom/example/rigorous_chains/rigorouschains/prism/Type;)Z"⟩ : MethodName)) hown (mvT hZ (wd20 hw)) (mvT hZ (wd21 hw)) (notFace_of_selects (args := #[]) (mvT hZ (wd23 hw))) (mvT hZ (wd23 hw)) (mvT hZ (wd22 hw)) (by decide) (backOf (W := 0) (rm3_2 l Z a0 hw [] w_INT w_DOUBLE h7 n0 OL7 pr11 pr3) hZ (wd24 hw) (wd3 hw) (by decide) (by decide)) q16a q16c (g := (mkF m 103 #[.val (.int p1), .val (.int p2), .val (.int p3), .val (.ref b1), .val (.ref w_INT), .val (.ref w_DOUBLE), .val (.ref w_INT), .val (.ref w_DOUBLE), .val (.int (1 : Int32)), .unset, .unset] [(.ref w_DOUBLE), (.ref w_INT)])) rfl (by rw [hml]; rfl) (Steps.refl _) (argsL := [(.ref w_DOUBLE)]) (rest := []) (lenOf pd_2 rfl) rfl (by show 2 * 0 + _ ≤ _; exact Nat.le_of_eq rfl) (hb hby at_103) (fun _ _ => ⟨rfl, ec15, (by decide : 1 + 0 ≤ _), (by decide : 2 + 0 ≤ _)⟩)
  dsimp only [Pt.U, Pt.locs, Pt.cells, Pt.slots] at X16 l16 y16 z16 st16 hQ16
  subst l16 y16 z16
  obtain ⟨rfl, Nq16, ec16⟩ := hQ16
  have N16 := Fr.app N15 Nq16
  obtain ⟨_, _, ⟨T17, L17, k17, n17⟩, -, X17, ⟨Lc17, hQ17, l17, y17, z17⟩, st17⟩ := Jvm.LawKit.callS X16 hx (y := (⟨"com/example/rigorous_chains/rigorouschains/prism/Type", "widest", "(Lcom/example/rigorous_chains/rigorouschains/prism/Type;Lcom/example/rigorous_chains/rigorouschains/prism/Type;)Lcom/example/rigorous_chains/rigorouschains/prism/Type;"⟩ : MethodName)) hown (mvT hZ (wd8 hw)) (mvT hZ (wd9 hw)) (mvT hZ (wd3 hw)) (mvT hZ (wd10 hw)) (by decide) (backOf (W := 0) (rm1_2 l Z a0 hw [] w_DOUBLE w_INT h7 n0 OL7 pr1 pr8 pr3) hZ (wd10 hw) (wd3 hw) (by decide) (by decide)) (g := (mkF m 130 #[.val (.int p1), .val (.int p2), .val (.int p3), .val (.ref b1), .val (.ref w_INT), .val (.ref w_DOUBLE), .val (.ref w_INT), .val (.ref w_DOUBLE), .val (.int (1 : Int32)), .val (.int (1 : Int32)), .unset] [(.ref w_INT), (.ref w_DOUBLE)])) rfl (by rw [hml]; rfl) (argsL := [(.ref w_DOUBLE), (.ref w_INT)]) (rest := []) (lenOf pd_0 rfl) rfl (by show 2 * 0 + _ ≤ _; exact Nat.le_of_eq rfl) (hb hby at_130) (fun _ _ => ⟨rfl, ec16, (by decide : 1 + 0 ≤ _), (by decide : 2 + 0 ≤ _)⟩)
  dsimp only [Pt.U, Pt.locs, Pt.cells, Pt.slots] at X17 l17 y17 z17 st17 hQ17
  subst l17 y17 z17
  obtain ⟨rfl, Nq17, ec17⟩ := hQ17
  have N17 := Fr.app N16 Nq17
  obtain ⟨fs, hr, hrun, hended, hW, hsame⟩ := X17.leave (v := some (.int (1 : Int32))) (fun h => by rw [Bd.returns] at h; cases h)
  refine ⟨_, _, pre0 _ ?_, hrun, hended, _, _, rfl, ?_, ⟨_, rfl⟩, hW, hsame.mono (by decide) (by decide)⟩
  · show Steps p.tables e below (s₁.setTop (mkF m 0 #[.val (.int p1), .val (.int p2), .val (.int p3), .unset, .unset, .unset, .unset, .unset, .unset, .unset, .unset] [])) _
    refine XS.iconst X0.here hx rfl (hb hby at_0) ?_
    show Steps p.tables e below (s₁.setTop (mkF m 1 #[.val (.int p1), .val (.int p2), .val (.int p3), .unset, .unset, .unset, .unset, .unset, .unset, .unset, .unset] [(.int (2 : Int32))])) _
    refine st1 _ ?_
    show Steps p.tables e below (T1.setTop (mkF m 4 #[.val (.int p1), .val (.int p2), .val (.int p3), .unset, .unset, .unset, .unset, .unset, .unset, .unset, .unset] [(.ref b1)])) _
    refine XS.dup X1.here hx rfl (hb hby at_4) rfl rfl ?_
    show Steps p.tables e below (T1.setTop (mkF m 5 #[.val (.int p1), .val (.int p2), .val (.int p3), .unset, .unset, .unset, .unset, .unset, .unset, .unset, .unset] [(.ref b1), (.ref b1)])) _
    refine XS.iconst X1.here hx rfl (hb hby at_5) ?_
    show Steps p.tables e below (T1.setTop (mkF m 6 #[.val (.int p1), .val (.int p2), .val (.int p3), .unset, .unset, .unset, .unset, .unset, .unset, .unset, .unset] [(.int (0 : Int32)), (.ref b1), (.ref b1)])) _
    refine st2 _ ?_
    show Steps p.tables e below (T2.setTop (mkF m 9 #[.val (.int p1), .val (.int p2), .val (.int p3), .unset, .unset, .unset, .unset, .unset, .unset, .unset, .unset] [(.ref w_INT), (.int (0 : Int32)), (.ref b1), (.ref b1)])) _
    refine st4 _ ?_
    show Steps p.tables e below (T4.setTop (mkF m 10 #[.val (.int p1), .val (.int p2), .val (.int p3), .unset, .unset, .unset, .unset, .unset, .unset, .unset, .unset] [(.ref b1)])) _
    refine XS.dup X4.here hx rfl (hb hby at_10) rfl rfl ?_
    show Steps p.tables e below (T4.setTop (mkF m 11 #[.val (.int p1), .val (.int p2), .val (.int p3), .unset, .unset, .unset, .unset, .unset, .unset, .unset, .unset] [(.ref b1), (.ref b1)])) _
    refine XS.iconst X4.here hx rfl (hb hby at_11) ?_
    show Steps p.tables e below (T4.setTop (mkF m 12 #[.val (.int p1), .val (.int p2), .val (.int p3), .unset, .unset, .unset, .unset, .unset, .unset, .unset, .unset] [(.int (1 : Int32)), (.ref b1), (.ref b1)])) _
    refine st5 _ ?_
    show Steps p.tables e below (T5.setTop (mkF m 15 #[.val (.int p1), .val (.int p2), .val (.int p3), .unset, .unset, .unset, .unset, .unset, .unset, .unset, .unset] [(.ref w_DOUBLE), (.int (1 : Int32)), (.ref b1), (.ref b1)])) _
    refine st7 _ ?_
    show Steps p.tables e below (T7.setTop (mkF m 16 #[.val (.int p1), .val (.int p2), .val (.int p3), .unset, .unset, .unset, .unset, .unset, .unset, .unset, .unset] [(.ref b1)])) _
    refine XS.astoreN X7.here hx rfl (hb hby at_16) rfl rfl (l' := #[.val (.int p1), .val (.int p2), .val (.int p3), .val (.ref b1), .unset, .unset, .unset, .unset, .unset, .unset, .unset]) rfl ?_
    show Steps p.tables e below (T7.setTop (mkF m 17 #[.val (.int p1), .val (.int p2), .val (.int p3), .val (.ref b1), .unset, .unset, .unset, .unset, .unset, .unset, .unset] [])) _
    refine XS.aloadN X7.here hx rfl (hb hby at_17) rfl rfl ?_
    show Steps p.tables e below (T7.setTop (mkF m 18 #[.val (.int p1), .val (.int p2), .val (.int p3), .val (.ref b1), .unset, .unset, .unset, .unset, .unset, .unset, .unset] [(.ref b1)])) _
    refine XS.iloadN X7.here hx rfl (hb hby at_18) rfl ?_
    show Steps p.tables e below (T7.setTop (mkF m 19 #[.val (.int p1), .val (.int p2), .val (.int p3), .val (.ref b1), .unset, .unset, .unset, .unset, .unset, .unset, .unset] [(.int p1), (.ref b1)])) _
    refine XS.iconst X7.here hx rfl (hb hby at_19) ?_
    show Steps p.tables e below (T7.setTop (mkF m 20 #[.val (.int p1), .val (.int p2), .val (.int p3), .val (.ref b1), .unset, .unset, .unset, .unset, .unset, .unset, .unset] [(.int (1 : Int32)), (.int p1), (.ref b1)])) _
    refine XS.iand X7.here hx rfl (hb hby at_20) rfl ?_
    show Steps p.tables e below (T7.setTop (mkF m 21 #[.val (.int p1), .val (.int p2), .val (.int p3), .val (.ref b1), .unset, .unset, .unset, .unset, .unset, .unset, .unset] [(.int (p1 &&& (1 : Int32))), (.ref b1)])) _
    rw [pr5]
    show Steps p.tables e below (T7.setTop (mkF m 21 #[.val (.int p1), .val (.int p2), .val (.int p3), .val (.ref b1), .unset, .unset, .unset, .unset, .unset, .unset, .unset] [(.int (0 : Int32)), (.ref b1)])) _
    refine X7.aaload hx (j := (0 : Int32)) (v := (.ref w_INT)) (by rw [e7]; exact Ar8.1) (State.isArrayOf_alike hZ.alike Ar8.2.1) rfl Ar8.2.2 hin8 hat8 (g := (mkF m 21 #[.val (.int p1), .val (.int p2), .val (.int p3), .val (.ref b1), .unset, .unset, .unset, .unset, .unset, .unset, .unset] [(.int (0 : Int32)), (.ref b1)])) rfl rfl (hb hby at_21) _ ?_
    show Steps p.tables e below (T7.setTop (mkF m 22 #[.val (.int p1), .val (.int p2), .val (.int p3), .val (.ref b1), .unset, .unset, .unset, .unset, .unset, .unset, .unset] [(.ref w_INT)])) _
    refine XS.astore X7.here hx rfl (hb hby at_22) rfl rfl (l' := #[.val (.int p1), .val (.int p2), .val (.int p3), .val (.ref b1), .val (.ref w_INT), .unset, .unset, .unset, .unset, .unset, .unset]) rfl ?_
    show Steps p.tables e below (T7.setTop (mkF m 24 #[.val (.int p1), .val (.int p2), .val (.int p3), .val (.ref b1), .val (.ref w_INT), .unset, .unset, .unset, .unset, .unset, .unset] [])) _
    refine XS.aloadN X7.here hx rfl (hb hby at_24) rfl rfl ?_
    show Steps p.tables e below (T7.setTop (mkF m 25 #[.val (.int p1), .val (.int p2), .val (.int p3), .val (.ref b1), .val (.ref w_INT), .unset, .unset, .unset, .unset, .unset, .unset] [(.ref b1)])) _
    refine XS.iloadN X7.here hx rfl (hb hby at_25) rfl ?_
    show Steps p.tables e below (T7.setTop (mkF m 26 #[.val (.int p1), .val (.int p2), .val (.int p3), .val (.ref b1), .val (.ref w_INT), .unset, .unset, .unset, .unset, .unset, .unset] [(.int p2), (.ref b1)])) _
    refine XS.iconst X7.here hx rfl (hb hby at_26) ?_
    show Steps p.tables e below (T7.setTop (mkF m 27 #[.val (.int p1), .val (.int p2), .val (.int p3), .val (.ref b1), .val (.ref w_INT), .unset, .unset, .unset, .unset, .unset, .unset] [(.int (1 : Int32)), (.int p2), (.ref b1)])) _
    refine XS.iand X7.here hx rfl (hb hby at_27) rfl ?_
    show Steps p.tables e below (T7.setTop (mkF m 28 #[.val (.int p1), .val (.int p2), .val (.int p3), .val (.ref b1), .val (.ref w_INT), .unset, .unset, .unset, .unset, .unset, .unset] [(.int (p2 &&& (1 : Int32))), (.ref b1)])) _
    rw [pr6]
    show Steps p.tables e below (T7.setTop (mkF m 28 #[.val (.int p1), .val (.int p2), .val (.int p3), .val (.ref b1), .val (.ref w_INT), .unset, .unset, .unset, .unset, .unset, .unset] [(.int (1 : Int32)), (.ref b1)])) _
    refine X7.aaload hx (j := (1 : Int32)) (v := (.ref w_DOUBLE)) (by rw [e7]; exact Ar9.1) (State.isArrayOf_alike hZ.alike Ar9.2.1) rfl Ar9.2.2 hin9 hat9 (g := (mkF m 28 #[.val (.int p1), .val (.int p2), .val (.int p3), .val (.ref b1), .val (.ref w_INT), .unset, .unset, .unset, .unset, .unset, .unset] [(.int (1 : Int32)), (.ref b1)])) rfl rfl (hb hby at_28) _ ?_
    show Steps p.tables e below (T7.setTop (mkF m 29 #[.val (.int p1), .val (.int p2), .val (.int p3), .val (.ref b1), .val (.ref w_INT), .unset, .unset, .unset, .unset, .unset, .unset] [(.ref w_DOUBLE)])) _
    refine XS.astore X7.here hx rfl (hb hby at_29) rfl rfl (l' := #[.val (.int p1), .val (.int p2), .val (.int p3), .val (.ref b1), .val (.ref w_INT), .val (.ref w_DOUBLE), .unset, .unset, .unset, .unset, .unset]) rfl ?_
    show Steps p.tables e below (T7.setTop (mkF m 31 #[.val (.int p1), .val (.int p2), .val (.int p3), .val (.ref b1), .val (.ref w_INT), .val (.ref w_DOUBLE), .unset, .unset, .unset, .unset, .unset] [])) _
    refine XS.aloadN X7.here hx rfl (hb hby at_31) rfl rfl ?_
    show Steps p.tables e below (T7.setTop (mkF m 32 #[.val (.int p1), .val (.int p2), .val (.int p3), .val (.ref b1), .val (.ref w_INT), .val (.ref w_DOUBLE), .unset, .unset, .unset, .unset, .unset] [(.ref b1)])) _
    refine XS.iloadN X7.here hx rfl (hb hby at_32) rfl ?_
    show Steps p.tables e below (T7.setTop (mkF m 33 #[.val (.int p1), .val (.int p2), .val (.int p3), .val (.ref b1), .val (.ref w_INT), .val (.ref w_DOUBLE), .unset, .unset, .unset, .unset, .unset] [(.int p3), (.ref b1)])) _
    refine XS.iconst X7.here hx rfl (hb hby at_33) ?_
    show Steps p.tables e below (T7.setTop (mkF m 34 #[.val (.int p1), .val (.int p2), .val (.int p3), .val (.ref b1), .val (.ref w_INT), .val (.ref w_DOUBLE), .unset, .unset, .unset, .unset, .unset] [(.int (1 : Int32)), (.int p3), (.ref b1)])) _
    refine XS.iand X7.here hx rfl (hb hby at_34) rfl ?_
    show Steps p.tables e below (T7.setTop (mkF m 35 #[.val (.int p1), .val (.int p2), .val (.int p3), .val (.ref b1), .val (.ref w_INT), .val (.ref w_DOUBLE), .unset, .unset, .unset, .unset, .unset] [(.int (p3 &&& (1 : Int32))), (.ref b1)])) _
    rw [pr7]
    show Steps p.tables e below (T7.setTop (mkF m 35 #[.val (.int p1), .val (.int p2), .val (.int p3), .val (.ref b1), .val (.ref w_INT), .val (.ref w_DOUBLE), .unset, .unset, .unset, .unset, .unset] [(.int (0 : Int32)), (.ref b1)])) _
    refine X7.aaload hx (j := (0 : Int32)) (v := (.ref w_INT)) (by rw [e7]; exact Ar10.1) (State.isArrayOf_alike hZ.alike Ar10.2.1) rfl Ar10.2.2 hin10 hat10 (g := (mkF m 35 #[.val (.int p1), .val (.int p2), .val (.int p3), .val (.ref b1), .val (.ref w_INT), .val (.ref w_DOUBLE), .unset, .unset, .unset, .unset, .unset] [(.int (0 : Int32)), (.ref b1)])) rfl rfl (hb hby at_35) _ ?_
    show Steps p.tables e below (T7.setTop (mkF m 36 #[.val (.int p1), .val (.int p2), .val (.int p3), .val (.ref b1), .val (.ref w_INT), .val (.ref w_DOUBLE), .unset, .unset, .unset, .unset, .unset] [(.ref w_INT)])) _
    refine XS.astore X7.here hx rfl (hb hby at_36) rfl rfl (l' := #[.val (.int p1), .val (.int p2), .val (.int p3), .val (.ref b1), .val (.ref w_INT), .val (.ref w_DOUBLE), .val (.ref w_INT), .unset, .unset, .unset, .unset]) rfl ?_
    show Steps p.tables e below (T7.setTop (mkF m 38 #[.val (.int p1), .val (.int p2), .val (.int p3), .val (.ref b1), .val (.ref w_INT), .val (.ref w_DOUBLE), .val (.ref w_INT), .unset, .unset, .unset, .unset] [])) _
    refine XS.aload X7.here hx rfl (hb hby at_38) rfl rfl ?_
    show Steps p.tables e below (T7.setTop (mkF m 40 #[.val (.int p1), .val (.int p2), .val (.int p3), .val (.ref b1), .val (.ref w_INT), .val (.ref w_DOUBLE), .val (.ref w_INT), .unset, .unset, .unset, .unset] [(.ref w_INT)])) _
    refine XS.aload X7.here hx rfl (hb hby at_40) rfl rfl ?_
    show Steps p.tables e below (T7.setTop (mkF m 42 #[.val (.int p1), .val (.int p2), .val (.int p3), .val (.ref b1), .val (.ref w_INT), .val (.ref w_DOUBLE), .val (.ref w_INT), .unset, .unset, .unset, .unset] [(.ref w_DOUBLE), (.ref w_INT)])) _
    refine st11 _ ?_
    show Steps p.tables e below (T11.setTop (mkF m 45 #[.val (.int p1), .val (.int p2), .val (.int p3), .val (.ref b1), .val (.ref w_INT), .val (.ref w_DOUBLE), .val (.ref w_INT), .unset, .unset, .unset, .unset] [(.ref w_DOUBLE)])) _
    refine XS.astore X11.here hx rfl (hb hby at_45) rfl rfl (l' := #[.val (.int p1), .val (.int p2), .val (.int p3), .val (.ref b1), .val (.ref w_INT), .val (.ref w_DOUBLE), .val (.ref w_INT), .val (.ref w_DOUBLE), .unset, .unset, .unset]) rfl ?_
    show Steps p.tables e below (T11.setTop (mkF m 47 #[.val (.int p1), .val (.int p2), .val (.int p3), .val (.ref b1), .val (.ref w_INT), .val (.ref w_DOUBLE), .val (.ref w_INT), .val (.ref w_DOUBLE), .unset, .unset, .unset] [])) _
    refine XS.aload X11.here hx rfl (hb hby at_47) rfl rfl ?_
    show Steps p.tables e below (T11.setTop (mkF m 49 #[.val (.int p1), .val (.int p2), .val (.int p3), .val (.ref b1), .val (.ref w_INT), .val (.ref w_DOUBLE), .val (.ref w_INT), .val (.ref w_DOUBLE), .unset, .unset, .unset] [(.ref w_DOUBLE)])) _
    refine XS.ifnonnullYes X11.here hx rfl (pc0 := 49) (pc' := 54) rfl (hb hby at_49) rfl (by decide) (by decide) ?_
    show Steps p.tables e below (T11.setTop (mkF m 54 #[.val (.int p1), .val (.int p2), .val (.int p3), .val (.ref b1), .val (.ref w_INT), .val (.ref w_DOUBLE), .val (.ref w_INT), .val (.ref w_DOUBLE), .unset, .unset, .unset] [])) _
    refine XS.aload X11.here hx rfl (hb hby at_54) rfl rfl ?_
    show Steps p.tables e below (T11.setTop (mkF m 56 #[.val (.int p1), .val (.int p2), .val (.int p3), .val (.ref b1), .val (.ref w_INT), .val (.ref w_DOUBLE), .val (.ref w_INT), .val (.ref w_DOUBLE), .unset, .unset, .unset] [(.ref w_DOUBLE)])) _
    refine st12.trans ?_
    show Steps p.tables e below (T12.setTop (mkF m 59 #[.val (.int p1), .val (.int p2), .val (.int p3), .val (.ref b1), .val (.ref w_INT), .val (.ref w_DOUBLE), .val (.ref w_INT), .val (.ref w_DOUBLE), .unset, .unset, .unset] [(.int (1 : Int32))])) _
    refine XS.ifNo X12.here hx rfl (hb hby at_59) rfl ((if0 _ _).trans (feq (by decide : ¬ ((1 : Int32) = (0 : Int32)))).1) ?_
    show Steps p.tables e below (T12.setTop (mkF m 62 #[.val (.int p1), .val (.int p2), .val (.int p3), .val (.ref b1), .val (.ref w_INT), .val (.ref w_DOUBLE), .val (.ref w_INT), .val (.ref w_DOUBLE), .unset, .unset, .unset] [])) _
    refine XS.aload X12.here hx rfl (hb hby at_62) rfl rfl ?_
    show Steps p.tables e below (T12.setTop (mkF m 64 #[.val (.int p1), .val (.int p2), .val (.int p3), .val (.ref b1), .val (.ref w_INT), .val (.ref w_DOUBLE), .val (.ref w_INT), .val (.ref w_DOUBLE), .unset, .unset, .unset] [(.ref w_DOUBLE)])) _
    refine XS.aload X12.here hx rfl (hb hby at_64) rfl rfl ?_
    show Steps p.tables e below (T12.setTop (mkF m 66 #[.val (.int p1), .val (.int p2), .val (.int p3), .val (.ref b1), .val (.ref w_INT), .val (.ref w_DOUBLE), .val (.ref w_INT), .val (.ref w_DOUBLE), .unset, .unset, .unset] [(.ref w_INT), (.ref w_DOUBLE)])) _
    refine st13.trans ?_
    show Steps p.tables e below (T13.setTop (mkF m 69 #[.val (.int p1), .val (.int p2), .val (.int p3), .val (.ref b1), .val (.ref w_INT), .val (.ref w_DOUBLE), .val (.ref w_INT), .val (.ref w_DOUBLE), .unset, .unset, .unset] [(.int (1 : Int32))])) _
    refine XS.ifNo X13.here hx rfl (hb hby at_69) rfl ((if0 _ _).trans (feq (by decide : ¬ ((1 : Int32) = (0 : Int32)))).1) ?_
    show Steps p.tables e below (T13.setTop (mkF m 72 #[.val (.int p1), .val (.int p2), .val (.int p3), .val (.ref b1), .val (.ref w_INT), .val (.ref w_DOUBLE), .val (.ref w_INT), .val (.ref w_DOUBLE), .unset, .unset, .unset] [])) _
    refine XS.aload X13.here hx rfl (hb hby at_72) rfl rfl ?_
    show Steps p.tables e below (T13.setTop (mkF m 74 #[.val (.int p1), .val (.int p2), .val (.int p3), .val (.ref b1), .val (.ref w_INT), .val (.ref w_DOUBLE), .val (.ref w_INT), .val (.ref w_DOUBLE), .unset, .unset, .unset] [(.ref w_DOUBLE)])) _
    refine XS.aload X13.here hx rfl (hb hby at_74) rfl rfl ?_
    show Steps p.tables e below (T13.setTop (mkF m 76 #[.val (.int p1), .val (.int p2), .val (.int p3), .val (.ref b1), .val (.ref w_INT), .val (.ref w_DOUBLE), .val (.ref w_INT), .val (.ref w_DOUBLE), .unset, .unset, .unset] [(.ref w_DOUBLE), (.ref w_DOUBLE)])) _
    refine st14.trans ?_
    show Steps p.tables e below (T14.setTop (mkF m 79 #[.val (.int p1), .val (.int p2), .val (.int p3), .val (.ref b1), .val (.ref w_INT), .val (.ref w_DOUBLE), .val (.ref w_INT), .val (.ref w_DOUBLE), .unset, .unset, .unset] [(.int (1 : Int32))])) _
    refine XS.ifNo X14.here hx rfl (hb hby at_79) rfl ((if0 _ _).trans (feq (by decide : ¬ ((1 : Int32) = (0 : Int32)))).1) ?_
    show Steps p.tables e below (T14.setTop (mkF m 82 #[.val (.int p1), .val (.int p2), .val (.int p3), .val (.ref b1), .val (.ref w_INT), .val (.ref w_DOUBLE), .val (.ref w_INT), .val (.ref w_DOUBLE), .unset, .unset, .unset] [])) _
    refine XS.iconst X14.here hx rfl (hb hby at_82) ?_
    show Steps p.tables e below (T14.setTop (mkF m 83 #[.val (.int p1), .val (.int p2), .val (.int p3), .val (.ref b1), .val (.ref w_INT), .val (.ref w_DOUBLE), .val (.ref w_INT), .val (.ref w_DOUBLE), .unset, .unset, .unset] [(.int (1 : Int32))])) _
    refine XS.goto X14.here hx rfl (pc0 := 83) (pc' := 87) rfl (hb hby at_83) (by decide) (by decide) ?_
    show Steps p.tables e below (T14.setTop (mkF m 87 #[.val (.int p1), .val (.int p2), .val (.int p3), .val (.ref b1), .val (.ref w_INT), .val (.ref w_DOUBLE), .val (.ref w_INT), .val (.ref w_DOUBLE), .unset, .unset, .unset] [(.int (1 : Int32))])) _
    refine XS.istore X14.here hx rfl (hb hby at_87) rfl (l' := #[.val (.int p1), .val (.int p2), .val (.int p3), .val (.ref b1), .val (.ref w_INT), .val (.ref w_DOUBLE), .val (.ref w_INT), .val (.ref w_DOUBLE), .val (.int (1 : Int32)), .unset, .unset]) rfl ?_
    show Steps p.tables e below (T14.setTop (mkF m 89 #[.val (.int p1), .val (.int p2), .val (.int p3), .val (.ref b1), .val (.ref w_INT), .val (.ref w_DOUBLE), .val (.ref w_INT), .val (.ref w_DOUBLE), .val (.int (1 : Int32)), .unset, .unset] [])) _
    refine XS.aload X14.here hx rfl (hb hby at_89) rfl rfl ?_
    show Steps p.tables e below (T14.setTop (mkF m 91 #[.val (.int p1), .val (.int p2), .val (.int p3), .val (.ref b1), .val (.ref w_INT), .val (.ref w_DOUBLE), .val (.ref w_INT), .val (.ref w_DOUBLE), .val (.int (1 : Int32)), .unset, .unset] [(.ref w_INT)])) _
    refine XS.aload X14.here hx rfl (hb hby at_91) rfl rfl ?_
    show Steps p.tables e below (T14.setTop (mkF m 93 #[.val (.int p1), .val (.int p2), .val (.int p3), .val (.ref b1), .val (.ref w_INT), .val (.ref w_DOUBLE), .val (.ref w_INT), .val (.ref w_DOUBLE), .val (.int (1 : Int32)), .unset, .unset] [(.ref w_INT), (.ref w_INT)])) _
    refine st15.trans ?_
    show Steps p.tables e below (T15.setTop (mkF m 96 #[.val (.int p1), .val (.int p2), .val (.int p3), .val (.ref b1), .val (.ref w_INT), .val (.ref w_DOUBLE), .val (.ref w_INT), .val (.ref w_DOUBLE), .val (.int (1 : Int32)), .unset, .unset] [(.int (1 : Int32))])) _
    refine XS.ifNo X15.here hx rfl (hb hby at_96) rfl ((if0 _ _).trans (feq (by decide : ¬ ((1 : Int32) = (0 : Int32)))).1) ?_
    show Steps p.tables e below (T15.setTop (mkF m 99 #[.val (.int p1), .val (.int p2), .val (.int p3), .val (.ref b1), .val (.ref w_INT), .val (.ref w_DOUBLE), .val (.ref w_INT), .val (.ref w_DOUBLE), .val (.int (1 : Int32)), .unset, .unset] [])) _
    refine XS.aload X15.here hx rfl (hb hby at_99) rfl rfl ?_
    show Steps p.tables e below (T15.setTop (mkF m 101 #[.val (.int p1), .val (.int p2), .val (.int p3), .val (.ref b1), .val (.ref w_INT), .val (.ref w_DOUBLE), .val (.ref w_INT), .val (.ref w_DOUBLE), .val (.int (1 : Int32)), .unset, .unset] [(.ref w_INT)])) _
    refine XS.aload X15.here hx rfl (hb hby at_101) rfl rfl ?_
    show Steps p.tables e below (T15.setTop (mkF m 103 #[.val (.int p1), .val (.int p2), .val (.int p3), .val (.ref b1), .val (.ref w_INT), .val (.ref w_DOUBLE), .val (.ref w_INT), .val (.ref w_DOUBLE), .val (.int (1 : Int32)), .unset, .unset] [(.ref w_DOUBLE), (.ref w_INT)])) _
    refine st16.trans ?_
    show Steps p.tables e below (T16.setTop (mkF m 106 #[.val (.int p1), .val (.int p2), .val (.int p3), .val (.ref b1), .val (.ref w_INT), .val (.ref w_DOUBLE), .val (.ref w_INT), .val (.ref w_DOUBLE), .val (.int (1 : Int32)), .unset, .unset] [(.int (0 : Int32))])) _
    refine XS.ifYes X16.here hx rfl (pc0 := 106) (pc' := 119) rfl (hb hby at_106) rfl ((if0 _ _).trans (teq (rfl : (0 : Int32) = (0 : Int32))).1) (by decide) (by decide) ?_
    show Steps p.tables e below (T16.setTop (mkF m 119 #[.val (.int p1), .val (.int p2), .val (.int p3), .val (.ref b1), .val (.ref w_INT), .val (.ref w_DOUBLE), .val (.ref w_INT), .val (.ref w_DOUBLE), .val (.int (1 : Int32)), .unset, .unset] [])) _
    refine XS.iconst X16.here hx rfl (hb hby at_119) ?_
    show Steps p.tables e below (T16.setTop (mkF m 120 #[.val (.int p1), .val (.int p2), .val (.int p3), .val (.ref b1), .val (.ref w_INT), .val (.ref w_DOUBLE), .val (.ref w_INT), .val (.ref w_DOUBLE), .val (.int (1 : Int32)), .unset, .unset] [(.int (1 : Int32))])) _
    refine XS.goto X16.here hx rfl (pc0 := 120) (pc' := 124) rfl (hb hby at_120) (by decide) (by decide) ?_
    show Steps p.tables e below (T16.setTop (mkF m 124 #[.val (.int p1), .val (.int p2), .val (.int p3), .val (.ref b1), .val (.ref w_INT), .val (.ref w_DOUBLE), .val (.ref w_INT), .val (.ref w_DOUBLE), .val (.int (1 : Int32)), .unset, .unset] [(.int (1 : Int32))])) _
    refine XS.istore X16.here hx rfl (hb hby at_124) rfl (l' := #[.val (.int p1), .val (.int p2), .val (.int p3), .val (.ref b1), .val (.ref w_INT), .val (.ref w_DOUBLE), .val (.ref w_INT), .val (.ref w_DOUBLE), .val (.int (1 : Int32)), .val (.int (1 : Int32)), .unset]) rfl ?_
    show Steps p.tables e below (T16.setTop (mkF m 126 #[.val (.int p1), .val (.int p2), .val (.int p3), .val (.ref b1), .val (.ref w_INT), .val (.ref w_DOUBLE), .val (.ref w_INT), .val (.ref w_DOUBLE), .val (.int (1 : Int32)), .val (.int (1 : Int32)), .unset] [])) _
    refine XS.aload X16.here hx rfl (hb hby at_126) rfl rfl ?_
    show Steps p.tables e below (T16.setTop (mkF m 128 #[.val (.int p1), .val (.int p2), .val (.int p3), .val (.ref b1), .val (.ref w_INT), .val (.ref w_DOUBLE), .val (.ref w_INT), .val (.ref w_DOUBLE), .val (.int (1 : Int32)), .val (.int (1 : Int32)), .unset] [(.ref w_DOUBLE)])) _
    refine XS.aload X16.here hx rfl (hb hby at_128) rfl rfl ?_
    show Steps p.tables e below (T16.setTop (mkF m 130 #[.val (.int p1), .val (.int p2), .val (.int p3), .val (.ref b1), .val (.ref w_INT), .val (.ref w_DOUBLE), .val (.ref w_INT), .val (.ref w_DOUBLE), .val (.int (1 : Int32)), .val (.int (1 : Int32)), .unset] [(.ref w_INT), (.ref w_DOUBLE)])) _
    refine st17 _ ?_
    show Steps p.tables e below (T17.setTop (mkF m 133 #[.val (.int p1), .val (.int p2), .val (.int p3), .val (.ref b1), .val (.ref w_INT), .val (.ref w_DOUBLE), .val (.ref w_INT), .val (.ref w_DOUBLE), .val (.int (1 : Int32)), .val (.int (1 : Int32)), .unset] [(.ref w_DOUBLE)])) _
    refine XS.aload X17.here hx rfl (hb hby at_133) rfl rfl ?_
    show Steps p.tables e below (T17.setTop (mkF m 135 #[.val (.int p1), .val (.int p2), .val (.int p3), .val (.ref b1), .val (.ref w_INT), .val (.ref w_DOUBLE), .val (.ref w_INT), .val (.ref w_DOUBLE), .val (.int (1 : Int32)), .val (.int (1 : Int32)), .unset] [(.ref w_DOUBLE), (.ref w_DOUBLE)])) _
    refine Jvm.RoadKit.acmp (g := (mkF m 135 #[.val (.int p1), .val (.int p2), .val (.int p3), .val (.ref b1), .val (.ref w_INT), .val (.ref w_DOUBLE), .val (.ref w_INT), .val (.ref w_DOUBLE), .val (.int (1 : Int32)), .val (.int (1 : Int32)), .unset] [(.ref w_DOUBLE), (.ref w_DOUBLE)])) X17 hx rfl rfl rfl (pc0 := 135) (pc' := 138) (same := true) rfl (hb hby at_135) rfl (decide_eq_true rfl) (by decide) (by decide) ?_
    show Steps p.tables e below (T17.setTop (mkF m 138 #[.val (.int p1), .val (.int p2), .val (.int p3), .val (.ref b1), .val (.ref w_INT), .val (.ref w_DOUBLE), .val (.ref w_INT), .val (.ref w_DOUBLE), .val (.int (1 : Int32)), .val (.int (1 : Int32)), .unset] [])) _
    refine XS.iconst X17.here hx rfl (hb hby at_138) ?_
    show Steps p.tables e below (T17.setTop (mkF m 139 #[.val (.int p1), .val (.int p2), .val (.int p3), .val (.ref b1), .val (.ref w_INT), .val (.ref w_DOUBLE), .val (.ref w_INT), .val (.ref w_DOUBLE), .val (.int (1 : Int32)), .val (.int (1 : Int32)), .unset] [(.int (1 : Int32))])) _
    refine XS.goto X17.here hx rfl (pc0 := 139) (pc' := 143) rfl (hb hby at_139) (by decide) (by decide) ?_
    show Steps p.tables e below (T17.setTop (mkF m 143 #[.val (.int p1), .val (.int p2), .val (.int p3), .val (.ref b1), .val (.ref w_INT), .val (.ref w_DOUBLE), .val (.ref w_INT), .val (.ref w_DOUBLE), .val (.int (1 : Int32)), .val (.int (1 : Int32)), .unset] [(.int (1 : Int32))])) _
    refine XS.istore X17.here hx rfl (hb hby at_143) rfl (l' := #[.val (.int p1), .val (.int p2), .val (.int p3), .val (.ref b1), .val (.ref w_INT), .val (.ref w_DOUBLE), .val (.ref w_INT), .val (.ref w_DOUBLE), .val (.int (1 : Int32)), .val (.int (1 : Int32)), .val (.int (1 : Int32))]) rfl ?_
    show Steps p.tables e below (T17.setTop (mkF m 145 #[.val (.int p1), .val (.int p2), .val (.int p3), .val (.ref b1), .val (.ref w_INT), .val (.ref w_DOUBLE), .val (.ref w_INT), .val (.ref w_DOUBLE), .val (.int (1 : Int32)), .val (.int (1 : Int32)), .val (.int (1 : Int32))] [])) _
    refine XS.iload X17.here hx rfl (hb hby at_145) rfl ?_
    show Steps p.tables e below (T17.setTop (mkF m 147 #[.val (.int p1), .val (.int p2), .val (.int p3), .val (.ref b1), .val (.ref w_INT), .val (.ref w_DOUBLE), .val (.ref w_INT), .val (.ref w_DOUBLE), .val (.int (1 : Int32)), .val (.int (1 : Int32)), .val (.int (1 : Int32))] [(.int (1 : Int32))])) _
    refine XS.ifNo X17.here hx rfl (hb hby at_147) rfl ((if0 _ _).trans (feq (by decide : ¬ ((1 : Int32) = (0 : Int32)))).1) ?_
    show Steps p.tables e below (T17.setTop (mkF m 150 #[.val (.int p1), .val (.int p2), .val (.int p3), .val (.ref b1), .val (.ref w_INT), .val (.ref w_DOUBLE), .val (.ref w_INT), .val (.ref w_DOUBLE), .val (.int (1 : Int32)), .val (.int (1 : Int32)), .val (.int (1 : Int32))] [])) _
    refine XS.iload X17.here hx rfl (hb hby at_150) rfl ?_
    show Steps p.tables e below (T17.setTop (mkF m 152 #[.val (.int p1), .val (.int p2), .val (.int p3), .val (.ref b1), .val (.ref w_INT), .val (.ref w_DOUBLE), .val (.ref w_INT), .val (.ref w_DOUBLE), .val (.int (1 : Int32)), .val (.int (1 : Int32)), .val (.int (1 : Int32))] [(.int (1 : Int32))])) _
    refine XS.ifNo X17.here hx rfl (hb hby at_152) rfl ((if0 _ _).trans (feq (by decide : ¬ ((1 : Int32) = (0 : Int32)))).1) ?_
    show Steps p.tables e below (T17.setTop (mkF m 155 #[.val (.int p1), .val (.int p2), .val (.int p3), .val (.ref b1), .val (.ref w_INT), .val (.ref w_DOUBLE), .val (.ref w_INT), .val (.ref w_DOUBLE), .val (.int (1 : Int32)), .val (.int (1 : Int32)), .val (.int (1 : Int32))] [])) _
    refine XS.iload X17.here hx rfl (hb hby at_155) rfl ?_
    show Steps p.tables e below (T17.setTop (mkF m 157 #[.val (.int p1), .val (.int p2), .val (.int p3), .val (.ref b1), .val (.ref w_INT), .val (.ref w_DOUBLE), .val (.ref w_INT), .val (.ref w_DOUBLE), .val (.int (1 : Int32)), .val (.int (1 : Int32)), .val (.int (1 : Int32))] [(.int (1 : Int32))])) _
    refine XS.ifNo X17.here hx rfl (hb hby at_157) rfl ((if0 _ _).trans (feq (by decide : ¬ ((1 : Int32) = (0 : Int32)))).1) ?_
    show Steps p.tables e below (T17.setTop (mkF m 160 #[.val (.int p1), .val (.int p2), .val (.int p3), .val (.ref b1), .val (.ref w_INT), .val (.ref w_DOUBLE), .val (.ref w_INT), .val (.ref w_DOUBLE), .val (.int (1 : Int32)), .val (.int (1 : Int32)), .val (.int (1 : Int32))] [])) _
    refine XS.iconst X17.here hx rfl (hb hby at_160) ?_
    show Steps p.tables e below (T17.setTop (mkF m 161 #[.val (.int p1), .val (.int p2), .val (.int p3), .val (.ref b1), .val (.ref w_INT), .val (.ref w_DOUBLE), .val (.ref w_INT), .val (.ref w_DOUBLE), .val (.int (1 : Int32)), .val (.int (1 : Int32)), .val (.int (1 : Int32))] [(.int (1 : Int32))])) _
    refine XS.goto X17.here hx rfl (pc0 := 161) (pc' := 165) rfl (hb hby at_161) (by decide) (by decide) ?_
    show Steps p.tables e below (T17.setTop (mkF m 165 #[.val (.int p1), .val (.int p2), .val (.int p3), .val (.ref b1), .val (.ref w_INT), .val (.ref w_DOUBLE), .val (.ref w_INT), .val (.ref w_DOUBLE), .val (.int (1 : Int32)), .val (.int (1 : Int32)), .val (.int (1 : Int32))] [(.int (1 : Int32))])) _
    exact retN X17 hx (t := .boolean) Bd.returns (by simp) (hb hby at_165) hr
  · exact ⟨rfl, N17⟩
set_option maxRecDepth 65536 in
set_option maxHeartbeats 40000000 in
theorem rm0_0_1_1 (l : Launch) (Z : State) (a0 : Array Value) (hw : ∀ d ∈ tables_1, d.before a0 Z = true) (ws : List Jvm.Cond) (p1 : Int32) (p2 : Int32) (p3 : Int32) (w_INT : Addr) (w_DOUBLE : Addr) (w_BOOL : Addr) (h0 : Heap) (n0 : Nat) (OL0 : Old Z n0 h0) (pr1 : Sta Z Z.heap "com/example/rigorous_chains/rigorouschains/prism/Type" "INT" "Lcom/example/rigorous_chains/rigorouschains/prism/Type;" (.ref w_INT)) (pr2 : Exa Z Z.heap w_INT "com/example/rigorous_chains/rigorouschains/prism/Type") (pr3 : Sta Z Z.heap "com/example/rigorous_chains/rigorouschains/prism/Type" "DOUBLE" "Lcom/example/rigorous_chains/rigorouschains/prism/Type;" (.ref w_DOUBLE)) (pr4 : Exa Z Z.heap w_DOUBLE "com/example/rigorous_chains/rigorouschains/prism/Type") (pr5 : (p1 &&& (1 : Int32)) = (0 : Int32)) (pr6 : (p2 &&& (1 : Int32)) = (1 : Int32)) (pr7 : (p3 &&& (1 : Int32)) = (1 : Int32)) (pr8 : w_DOUBLE ≠ w_INT) (pr9 : Sta Z Z.heap "com/example/rigorous_chains/rigorouschains/prism/Type" "BOOL" "Lcom/example/rigorous_chains/rigorouschains/prism/Type;" (.ref w_BOOL)) (pr10 : w_DOUBLE ≠ w_BOOL) :
    MetFree l x (head1 (Jvm.Cond.code x code maxLocals ret :: ws) room_1) (fun a U => a = #[(.int p1), (.int p2), (.int p3)] ∧ Z.Warmed39 U.vm ∧ U.heap = h0) (fun _ _ _ _ _ => True) (fun _ U o U' => ∃ v L, o = .returned v ∧ Q0 n0 v L ∧ FrameEnd U o U' L 16 128) := by
  refine MetFree.of_bodySF (plainFor_of_name pn_1) hisR ?_
  intro p e s m args below meth c s₁ Bd hml0 hP hK
  obtain ⟨rfl, hZ, hh⟩ := hP
  have hx := Bd.exec
  have hby := Bd.bytes
  have hml : c.maxLocals = 11 := hml0
  have hown : s.vm.findClass "com/example/rigorous_chains/rigorouschains/prism/TypeWidestPinLaw" = some m.cls := findClass_of_methodNamed Bd.named
  have hnm := (name_of_methodNamed Bd.named Bd.method).1
  have X0 : Stand p l e room_1 s m #[(.int p1), (.int p2), (.int p3)] below meth c s₁ [] 0 0 := Stand.of_body Bd
  have e0 : s₁.heap = h0 := by rw [← hh, Bd.state]; rfl
  have N0 := Fr.nil n0
  have pre0 : ∀ t, Steps p.tables e below (s₁.setTop (mkF m 0 #[.val (.int p1), .val (.int p2), .val (.int p3), .unset, .unset, .unset, .unset, .unset, .unset, .unset, .unset] [])) t → Steps p.tables e below (s₁.setTop (entryFrame m #[(.int p1), (.int p2), (.int p3)] maxLocals)) t := fun t k => castTop (ef_0_3 m p1 p2 p3) k
  obtain ⟨T1, h1, k1, X1, e1, E1, A1, O1, st1⟩ := newR X0 hx hZ hown (wd0 hw) (wd1 hw) e0 (g := (mkF m 1 #[.val (.int p1), .val (.int p2), .val (.int p3), .unset, .unset, .unset, .unset, .unset, .unset, .unset, .unset] [(.int (2 : Int32))])) rfl (hb hby at_1) rfl (by decide) (cap := 2) (by decide) (by decide) (by decide) (by decide)
  obtain ⟨b1, g1⟩ : ∃ z, z = h0.size := ⟨_, rfl⟩
  rw [← g1] at A1 st1
  have V1 : Arv Z h1 b1 k1 (.object "com/example/rigorous_chains/rigorouschains/prism/Type") (2 : Int32) [.null, .null] .null := (Arv.new A1 (by decide)).pad (pad_rep [] .null 2)
  have g_b1 : n0 ≤ b1 := (Nat.le_trans (Nat.le_trans (Nat.le_of_eq OL0.1.symm) OL0.2.1) (Nat.le_of_eq g1.symm))
  have sz_b1 : h0.size ≤ b1 := (Nat.le_trans (Keep.refl h0 []).1 (Nat.le_of_eq g1.symm))
  have KK1 : Keep h0 h1 [] := (Keep.refl h0 []).ext E1
  have OL1 := OL0.ext E1
  obtain ⟨T2, X2, e2, st2⟩ := getS2 X1 hx hZ hown (host := "") (Or.inl (wd2 hw)) Via.refl e1 (pr1.ext OL1.2) (g := (mkF m 6 #[.val (.int p1), .val (.int p2), .val (.int p3), .unset, .unset, .unset, .unset, .unset, .unset, .unset, .unset] [(.int (0 : Int32)), (.ref b1), (.ref b1)])) rfl (hb hby at_6)
  obtain ⟨cl3, Ar3, q3, S3, M3, Hs3, G3⟩ := id V1
  have hin3 : ¬ ((0 : Int32) < 0 ∨ cl3.slots.size ≤ ((0 : Int32)).toNatClampNeg) := inb_of S3 ⟨by decide, by decide⟩
  obtain ⟨T4, h4, X4, e4, W4, st4⟩ := stR X2 hx hZ e2 Ar3 (j := (0 : Int32)) hin3 rfl (Sto.ofV Ar3 q3 O1 (Ins.self (pr2.ext OL1.2))) (g := (mkF m 9 #[.val (.int p1), .val (.int p2), .val (.int p3), .unset, .unset, .unset, .unset, .unset, .unset, .unset, .unset] [(.ref w_INT), (.int (0 : Int32)), (.ref b1), (.ref b1)])) rfl rfl (hb hby at_9)
  have V4 : Arv Z h4 b1 k1 (.object "com/example/rigorous_chains/rigorouschains/prism/Type") (2 : Int32) [(.ref w_INT), .null] .null := Arv.set Ar3 q3 S3 M3 Hs3 G3 rfl W4 0 rfl (Nat.le_of_ble_eq_true rfl)
  have KK4 : Keep h0 h4 [] := KK1.wr W4 (Or.inr sz_b1)
  have OL4 := OL1.wr W4 g_b1
  have N4 := Fr.snoc X4 N0 g_b1
  obtain ⟨T5, X5, e5, st5⟩ := getS2 X4 hx hZ hown (host := "") (Or.inl (wd6 hw)) Via.refl e4 (pr3.ext OL4.2) (g := (mkF m 12 #[.val (.int p1), .val (.int p2), .val (.int p3), .unset, .unset, .unset, .unset, .unset, .unset, .unset, .unset] [(.int (1 : Int32)), (.ref b1), (.ref b1)])) rfl (hb hby at_12)
  obtain ⟨cl6, Ar6, q6, S6, M6, Hs6, G6⟩ := id V4
  have hin6 : ¬ ((1 : Int32) < 0 ∨ cl6.slots.size ≤ ((1 : Int32)).toNatClampNeg) := inb_of S6 ⟨by decide, by decide⟩
  obtain ⟨T7, h7, X7, e7, W7, st7⟩ := stR X5 hx hZ e5 Ar6 (j := (1 : Int32)) hin6 rfl (Sto.ofV Ar6 q6 O1 (Ins.self (pr4.ext OL4.2))) (g := (mkF m 15 #[.val (.int p1), .val (.int p2), .val (.int p3), .unset, .unset, .unset, .unset, .unset, .unset, .unset, .unset] [(.ref w_DOUBLE), (.int (1 : Int32)), (.ref b1), (.ref b1)])) rfl rfl (hb hby at_15)
  have V7 : Arv Z h7 b1 k1 (.object "com/example/rigorous_chains/rigorouschains/prism/Type") (2 : Int32) [(.ref w_INT), (.ref w_DOUBLE)] .null := Arv.set Ar6 q6 S6 M6 Hs6 G6 rfl W7 1 rfl (Nat.le_of_ble_eq_true rfl)
  have KK7 : Keep h0 h7 [] := KK4.wr W7 (Or.inr sz_b1)
  have OL7 := OL4.wr W7 g_b1
  have N7 := Fr.snoc X7 N4 g_b1
  obtain ⟨cl8, Ar8, -, S8, -, Hs8, -⟩ := id V7
  have hin8 : ¬ ((0 : Int32) < 0 ∨ cl8.slots.size ≤ ((0 : Int32)).toNatClampNeg) := inb_of S8 ⟨by decide, by decide⟩
  have hat8 : cl8.slots[((0 : Int32)).toNatClampNeg]? = some (.ref w_INT) := Hs8.at hin8 rfl
  obtain ⟨cl9, Ar9, -, S9, -, Hs9, -⟩ := id V7
  have hin9 : ¬ ((1 : Int32) < 0 ∨ cl9.slots.size ≤ ((1 : Int32)).toNatClampNeg) := inb_of S9 ⟨by decide, by decide⟩
  have hat9 : cl9.slots[((1 : Int32)).toNatClampNeg]? = some (.ref w_DOUBLE) := Hs9.at hin9 rfl
  obtain ⟨cl10, Ar10, -, S10, -, Hs10, -⟩ := id V7
  have hin10 : ¬ ((1 : Int32) < 0 ∨ cl10.slots.size ≤ ((1 : Int32)).toNatClampNeg) := inb_of S10 ⟨by decide, by decide⟩
  have hat10 : cl10.slots[((1 : Int32)).toNatClampNeg]? = some (.ref w_DOUBLE) := Hs10.at hin10 rfl
  obtain ⟨_, _, ⟨T11, L11, k11, n11⟩, -, X11, ⟨Lc11, hQ11, l11, y11, z11⟩, st11⟩ := Jvm.LawKit.callS X7 hx (y := (⟨"com/example/rigorous_chains/rigorouschains/prism/Type", "widest", "(Lcom/example/rigorous_chains/rigorouschains/prism/Type;Lcom/example/rigorous_chains/rigorouschains/prism/Type;)Lcom/example/rigorous_chains/rigorouschains/prism/Type;"⟩ : MethodName)) hown (mvT hZ (wd8 hw)) (mvT hZ (wd9 hw)) (mvT hZ (wd3 hw)) (mvT hZ (wd10 hw)) (by decide) (backOf (W := 0) (rm1_1 l Z a0 hw [] w_INT w_DOUBLE h7 n0 OL7 pr1 pr8 pr3) hZ (wd10 hw) (wd3 hw) (by decide) (by decide)) (g := (mkF m 42 #[.val (.int p1), .val (.int p2), .val (.int p3), .val (.ref b1), .val (.ref w_INT), .val (.ref w_DOUBLE), .val (.ref w_DOUBLE), .unset, .unset, .unset, .unset] [(.ref w_DOUBLE), (.ref w_INT)])) rfl (by rw [hml]; rfl) (argsL := [(.ref w_INT), (.ref w_DOUBLE)]) (rest := []) (lenOf pd_0 rfl) rfl (by show 2 * 0 + _ ≤ _; exact Nat.le_of_eq rfl) (hb hby at_42) (fun _ _ => ⟨rfl, e7, (by decide : 1 + 0 ≤ _), (by decide : 2 + 0 ≤ _)⟩)
  dsimp only [Pt.U, Pt.locs, Pt.cells, Pt.slots] at X11 l11 y11 z11 st11 hQ11
  subst l11 y11 z11
  obtain ⟨rfl, Nq11, ec11⟩ := hQ11
  have N11 := Fr.app N7 Nq11
  obtain ⟨cq12, kq12, q12a, q12b, q12c⟩ := isOf hZ ec11 (pr4.ext OL7.2)
  obtain ⟨_, _, ⟨T12, L12, k12, n12⟩, -, X12, ⟨Lc12, hQ12, l12, y12, z12⟩, st12⟩ := X11.virtualBack hx (y := (⟨"com/example/rigorous_chains/rigorouschains/prism/Type", "isNumeric", "()Z"⟩ : MethodName)) (z := (⟨"com/example/rigorous_chains/rigorouschains/prism/Type", "isNumeric", "()Z"⟩ : MethodName)) hown (mvT hZ (wd13 hw)) (mvT hZ (wd14 hw)) (notFace_of_selects (args := #[]) (mvT hZ (wd16 hw))) (mvT hZ (wd16 hw)) (mvT hZ (wd15 hw)) (by decide) (backOf (W := 0) (rm2_0 l Z a0 hw [] w_DOUBLE w_BOOL h7 n0 OL7 pr9 pr10) hZ (wd17 hw) (wd3 hw) (by decide) (by decide)) q12a q12c (g := (mkF m 56 #[.val (.int p1), .val (.int p2), .val (.int p3), .val (.ref b1), .val (.ref w_INT), .val (.ref w_DOUBLE), .val (.ref w_DOUBLE), .val (.ref w_DOUBLE), .unset, .unset, .unset] [(.ref w_DOUBLE)])) rfl (by rw [hml]; rfl) (Steps.refl _) (argsL := []) (rest := []) (lenOf pd_1 rfl) rfl (by show 2 * 0 + _ ≤ _; exact Nat.le_of_eq rfl) (hb hby at_56) (fun _ _ => ⟨rfl, ec11, (by decide : 1 + 0 ≤ _), (by decide : 2 + 0 ≤ _)⟩)
  dsimp only [Pt.U, Pt.locs, Pt.cells, Pt.slots] at X12 l12 y12 z12 st12 hQ12
  subst l12 y12 z12
  obtain ⟨rfl, Nq12, ec12⟩ := hQ12
  have N12 := Fr.app N11 Nq12
  obtain ⟨cq13, kq13, q13a, q13b, q13c⟩ := isOf hZ ec12 (pr4.ext OL7.2)
  obtain ⟨_, _, ⟨T13, L13, k13, n13⟩, -, X13, ⟨Lc13, hQ13, l13, y13, z13⟩, st13⟩ := X12.virtualBack hx (y := (⟨"com/example/rigorous_chains/rigorouschains/prism/Type", "accepts", "(Lcom/example/rigorous_chains/rigorouschains/prism/Type;)Z"⟩ : MethodName)) (z := (⟨"com/example/rigorous_chains/rigorouschains/prism/Type", "accepts", "(Lcom/example/rigorous_chains/rigorouschains/prism/Type;)Z"⟩ : MethodName)) hown (mvT hZ (wd20 hw)) (mvT hZ (wd21 hw)) (notFace_of_selects (args := #[]) (mvT hZ (wd23 hw))) (mvT hZ (wd23 hw)) (mvT hZ (wd22 hw)) (by decide) (backOf (W := 0) (rm3_1 l Z a0 hw [] w_DOUBLE w_INT h7 n0 OL7 pr8 pr3 pr1) hZ (wd24 hw) (wd3 hw) (by decide) (by decide)) q13a q13c (g := (mkF m 66 #[.val (.int p1), .val (.int p2), .val (.int p3), .val (.ref b1), .val (.ref w_INT), .val (.ref w_DOUBLE), .val (.ref w_DOUBLE), .val (.ref w_DOUBLE), .unset, .unset, .unset] [(.ref w_INT), (.ref w_DOUBLE)])) rfl (by rw [hml]; rfl) (Steps.refl _) (argsL := [(.ref w_INT)]) (rest := []) (lenOf pd_2 rfl) rfl (by show 2 * 0 + _ ≤ _; exact Nat.le_of_eq rfl) (hb hby at_66) (fun _ _ => ⟨rfl, ec12, (by decide : 1 + 0 ≤ _), (by decide : 2 + 0 ≤ _)⟩)
  dsimp only [Pt.U, Pt.locs, Pt.cells, Pt.slots] at X13 l13 y13 z13 st13 hQ13
  subst l13 y13 z13
  obtain ⟨rfl, Nq13, ec13⟩ := hQ13
  have N13 := Fr.app N12 Nq13
  obtain ⟨cq14, kq14, q14a, q14b, q14c⟩ := isOf hZ ec13 (pr4.ext OL7.2)
  obtain ⟨_, _, ⟨T14, L14, k14, n14⟩, -, X14, ⟨Lc14, hQ14, l14, y14, z14⟩, st14⟩ := X13.virtualBack hx (y := (⟨"com/example/rigorous_chains/rigorouschains/prism/Type", "accepts", "(Lcom/example/rigorous_chains/rigorouschains/prism/Type;)Z"⟩ : MethodName)) (z := (⟨"com/example/rigorous_chains/rigorouschains/prism/Type", "accepts", "(Lcom/example/rigorous_chains/rigorouschains/prism/Type;)Z"⟩ : MethodName)) hown (mvT hZ (wd20 hw)) (mvT hZ (wd21 hw)) (notFace_of_selects (args := #[]) (mvT hZ (wd23 hw))) (mvT hZ (wd23 hw)) (mvT hZ (wd22 hw)) (by decide) (backOf (W := 0) (rm3_0 l Z a0 hw [] w_DOUBLE h7 n0 OL7 ) hZ (wd24 hw) (wd3 hw) (by decide) (by decide)) q14a q14c (g := (mkF m 76 #[.val (.int p1), .val (.int p2), .val (.int p3), .val (.ref b1), .val (.ref w_INT), .val (.ref w_DOUBLE), .val (.ref w_DOUBLE), .val (.ref w_DOUBLE), .unset, .unset, .unset] [(.ref w_DOUBLE), (.ref w_DOUBLE)])) rfl (by rw [hml]; rfl) (Steps.refl _) (argsL := [(.ref w_DOUBLE)]) (rest := []) (lenOf pd_2 rfl) rfl (by show 2 * 0 + _ ≤ _; exact Nat.le_of_eq rfl) (hb hby at_76) (fun _ _ => ⟨rfl, ec13, (by decide : 1 + 0 ≤ _), (by decide : 2 + 0 ≤ _)⟩)
  dsimp only [Pt.U, Pt.locs, Pt.cells, Pt.slots] at X14 l14 y14 z14 st14 hQ14
  subst l14 y14 z14
  obtain ⟨rfl, Nq14, ec14⟩ := hQ14
  have N14 := Fr.app N13 Nq14
  obtain ⟨cq15, kq15, q15a, q15b, q15c⟩ := isOf hZ ec14 (pr4.ext OL7.2)
  obtain ⟨_, _, ⟨T15, L15, k15, n15⟩, -, X15, ⟨Lc15, hQ15, l15, y15, z15⟩, st15⟩ := X14.virtualBack hx (y := (⟨"com/example/rigorous_chains/rigorouschains/prism/Type", "accepts", "(Lcom/example/rigorous_chains/rigorouschains/prism/Type;)Z"⟩ : MethodName)) (z := (⟨"com/example/rigorous_chains/rigorouschains/prism/Type", "accepts", "(Lcom/example/rigorous_chains/rigorouschains/prism/Type;)Z"⟩ : MethodName)) hown (mvT hZ (wd20 hw)) (mvT hZ (wd21 hw)) (notFace_of_selects (args := #[]) (mvT hZ (wd23 hw))) (mvT hZ (wd23 hw)) (mvT hZ (wd22 hw)) (by decide) (backOf (W := 0) (rm3_1 l Z a0 hw [] w_DOUBLE w_INT h7 n0 OL7 pr8 pr3 pr1) hZ (wd24 hw) (wd3 hw) (by decide) (by decide)) q15a q15c (g := (mkF m 93 #[.val (.int p1), .val (.int p2), .val (.int p3), .val (.ref b1), .val (.ref w_INT), .val (.ref w_DOUBLE), .val (.ref w_DOUBLE), .val (.ref w_DOUBLE), .val (.int (1 : Int32)), .unset, .unset] [(.ref w_INT), (.ref w_DOUBLE)])) rfl (by rw [hml]; rfl) (Steps.refl _) (argsL := [(.ref w_INT)]) (rest := []) (lenOf pd_2 rfl) rfl (by show 2 * 0 + _ ≤ _; exact Nat.le_of_eq rfl) (hb hby at_93) (fun _ _ => ⟨rfl, ec14, (by decide : 1 + 0 ≤ _), (by decide : 2 + 0 ≤ _)⟩)
  dsimp only [Pt.U, Pt.locs, Pt.cells, Pt.slots] at X15 l15 y15 z15 st15 hQ15
  subst l15 y15 z15
  obtain ⟨rfl, Nq15, ec15⟩ := hQ15
  have N15 := Fr.app N14 Nq15
  obtain ⟨cq16, kq16, q16a, q16b, q16c⟩ := isOf hZ ec15 (pr4.ext OL7.2)
  obtain ⟨_, _, ⟨T16, L16, k16, n16⟩, -, X16, ⟨Lc16, hQ16, l16, y16, z16⟩, st16⟩ := X15.virtualBack hx (y := (⟨"com/example/rigorous_chains/rigorouschains/prism/Type", "accepts", "(Lcom/example/rigorous_chains/rigorouschains/prism/Type;)Z"⟩ : MethodName)) (z := (⟨"com/example/rigorous_chains/rigorouschains/prism/Type", "accepts", "(Lcom/example/rigorous_chains/rigorouschains/prism/Type;)Z"⟩ : MethodName)) hown (mvT hZ (wd20 hw)) (mvT hZ (wd21 hw)) (notFace_of_selects (args := #[]) (mvT hZ (wd23 hw))) (mvT hZ (wd23 hw)) (mvT hZ (wd22 hw)) (by decide) (backOf (W := 0) (rm3_0 l Z a0 hw [] w_DOUBLE h7 n0 OL7 ) hZ (wd24 hw) (wd3 hw) (by decide) (by decide)) q16a q16c (g := (mkF m 103 #[.val (.int p1), .val (.int p2), .val (.int p3), .val (.ref b1), .val (.ref w_INT), .val (.ref w_DOUBLE), .val (.ref w_DOUBLE), .val (.ref w_DOUBLE), .val (.int (1 : Int32)), .unset, .unset] [(.ref w_DOUBLE), (.ref w_DOUBLE)])) rfl (by rw [hml]; rfl) (Steps.refl _) (argsL := [(.ref w_DOUBLE)]) (rest := []) (lenOf pd_2 rfl) rfl (by show 2 * 0 + _ ≤ _; exact Nat.le_of_eq rfl) (hb hby at_103) (fun _ _ => ⟨rfl, ec15, (by decide : 1 + 0 ≤ _), (by decide : 2 + 0 ≤ _)⟩)
  dsimp only [Pt.U, Pt.locs, Pt.cells, Pt.slots] at X16 l16 y16 z16 st16 hQ16
  subst l16 y16 z16
  obtain ⟨rfl, Nq16, ec16⟩ := hQ16
  have N16 := Fr.app N15 Nq16
  obtain ⟨cq17, kq17, q17a, q17b, q17c⟩ := isOf hZ ec16 (pr4.ext OL7.2)
  obtain ⟨_, _, ⟨T17, L17, k17, n17⟩, -, X17, ⟨Lc17, hQ17, l17, y17, z17⟩, st17⟩ := X16.virtualBack hx (y := (⟨"com/example/rigorous_chains/rigorouschains/prism/Type", "accepts", "(Lcom/example/rigorous_chains/rigorouschains/prism/Type;)Z"⟩ : MethodName)) (z := (⟨"com/example/rigorous_chains/rigorouschains/prism/Type", "accepts", "(Lcom/example/rigorous_chains/rigorouschains/prism/Type;)Z"⟩ : MethodName)) hown (mvT hZ (wd20 hw)) (mvT hZ (wd21 hw)) (notFace_of_selects (args := #[]) (mvT hZ (wd23 hw))) (mvT hZ (wd23 hw)) (mvT hZ (wd22 hw)) (by decide) (backOf (W := 0) (rm3_0 l Z a0 hw [] w_DOUBLE h7 n0 OL7 ) hZ (wd24 hw) (wd3 hw) (by decide) (by decide)) q17a q17c (g := (mkF m 113 #[.val (.int p1), .val (.int p2), .val (.int p3), .val (.ref b1), .val (.ref w_INT), .val (.ref w_DOUBLE), .val (.ref w_DOUBLE), .val (.ref w_DOUBLE), .val (.int (1 : Int32)), .unset, .unset] [(.ref w_DOUBLE), (.ref w_DOUBLE)])) rfl (by rw [hml]; rfl) (Steps.refl _) (argsL := [(.ref w_DOUBLE)]) (rest := []) (lenOf pd_2 rfl) rfl (by show 2 * 0 + _ ≤ _; exact Nat.le_of_eq rfl) (hb hby at_113) (fun _ _ => ⟨rfl, ec16, (by decide : 1 + 0 ≤ _), (by decide : 2 + 0 ≤ _)⟩)
  dsimp only [Pt.U, Pt.locs, Pt.cells, Pt.slots] at X17 l17 y17 z17 st17 hQ17
  subst l17 y17 z17
  obtain ⟨rfl, Nq17, ec17⟩ := hQ17
  have N17 := Fr.app N16 Nq17
  obtain ⟨_, _, ⟨T18, L18, k18, n18⟩, -, X18, ⟨Lc18, hQ18, l18, y18, z18⟩, st18⟩ := Jvm.LawKit.callS X17 hx (y := (⟨"com/example/rigorous_chains/rigorouschains/prism/Type", "widest", "(Lcom/example/rigorous_chains/rigorouschains/prism/Type;Lcom/example/rigorous_chains/rigorouschains/prism/Type;)Lcom/example/rigorous_chains/rigorouschains/prism/Type;"⟩ : MethodName)) hown (mvT hZ (wd8 hw)) (mvT hZ (wd9 hw)) (mvT hZ (wd3 hw)) (mvT hZ (wd10 hw)) (by decide) (backOf (W := 0) (rm1_2 l Z a0 hw [] w_DOUBLE w_INT h7 n0 OL7 pr1 pr8 pr3) hZ (wd10 hw) (wd3 hw) (by decide) (by decide)) (g := (mkF m 130 #[.val (.int p1), .val (.int p2), .val (.int p3), .val (.ref b1), .val (.ref w_INT), .val (.ref w_DOUBLE), .val (.ref w_DOUBLE), .val (.ref w_DOUBLE), .val (.int (1 : Int32)), .val (.int (1 : Int32)), .unset] [(.ref w_INT), (.ref w_DOUBLE)])) rfl (by rw [hml]; rfl) (argsL := [(.ref w_DOUBLE), (.ref w_INT)]) (rest := []) (lenOf pd_0 rfl) rfl (by show 2 * 0 + _ ≤ _; exact Nat.le_of_eq rfl) (hb hby at_130) (fun _ _ => ⟨rfl, ec17, (by decide : 1 + 0 ≤ _), (by decide : 2 + 0 ≤ _)⟩)
  dsimp only [Pt.U, Pt.locs, Pt.cells, Pt.slots] at X18 l18 y18 z18 st18 hQ18
  subst l18 y18 z18
  obtain ⟨rfl, Nq18, ec18⟩ := hQ18
  have N18 := Fr.app N17 Nq18
  obtain ⟨fs, hr, hrun, hended, hW, hsame⟩ := X18.leave (v := some (.int (1 : Int32))) (fun h => by rw [Bd.returns] at h; cases h)
  refine ⟨_, _, pre0 _ ?_, hrun, hended, _, _, rfl, ?_, ⟨_, rfl⟩, hW, hsame.mono (by decide) (by decide)⟩
  · show Steps p.tables e below (s₁.setTop (mkF m 0 #[.val (.int p1), .val (.int p2), .val (.int p3), .unset, .unset, .unset, .unset, .unset, .unset, .unset, .unset] [])) _
    refine XS.iconst X0.here hx rfl (hb hby at_0) ?_
    show Steps p.tables e below (s₁.setTop (mkF m 1 #[.val (.int p1), .val (.int p2), .val (.int p3), .unset, .unset, .unset, .unset, .unset, .unset, .unset, .unset] [(.int (2 : Int32))])) _
    refine st1 _ ?_
    show Steps p.tables e below (T1.setTop (mkF m 4 #[.val (.int p1), .val (.int p2), .val (.int p3), .unset, .unset, .unset, .unset, .unset, .unset, .unset, .unset] [(.ref b1)])) _
    refine XS.dup X1.here hx rfl (hb hby at_4) rfl rfl ?_
    show Steps p.tables e below (T1.setTop (mkF m 5 #[.val (.int p1), .val (.int p2), .val (.int p3), .unset, .unset, .unset, .unset, .unset, .unset, .unset, .unset] [(.ref b1), (.ref b1)])) _
    refine XS.iconst X1.here hx rfl (hb hby at_5) ?_
    show Steps p.tables e below (T1.setTop (mkF m 6 #[.val (.int p1), .val (.int p2), .val (.int p3), .unset, .unset, .unset, .unset, .unset, .unset, .unset, .unset] [(.int (0 : Int32)), (.ref b1), (.ref b1)])) _
    refine st2 _ ?_
    show Steps p.tables e below (T2.setTop (mkF m 9 #[.val (.int p1), .val (.int p2), .val (.int p3), .unset, .unset, .unset, .unset, .unset, .unset, .unset, .unset] [(.ref w_INT), (.int (0 : Int32)), (.ref b1), (.ref b1)])) _
    refine st4 _ ?_
    show Steps p.tables e below (T4.setTop (mkF m 10 #[.val (.int p1), .val (.int p2), .val (.int p3), .unset, .unset, .unset, .unset, .unset, .unset, .unset, .unset] [(.ref b1)])) _
    refine XS.dup X4.here hx rfl (hb hby at_10) rfl rfl ?_
    show Steps p.tables e below (T4.setTop (mkF m 11 #[.val (.int p1), .val (.int p2), .val (.int p3), .unset, .unset, .unset, .unset, .unset, .unset, .unset, .unset] [(.ref b1), (.ref b1)])) _
    refine XS.iconst X4.here hx rfl (hb hby at_11) ?_
    show Steps p.tables e below (T4.setTop (mkF m 12 #[.val (.int p1), .val (.int p2), .val (.int p3), .unset, .unset, .unset, .unset, .unset, .unset, .unset, .unset] [(.int (1 : Int32)), (.ref b1), (.ref b1)])) _
    refine st5 _ ?_
    show Steps p.tables e below (T5.setTop (mkF m 15 #[.val (.int p1), .val (.int p2), .val (.int p3), .unset, .unset, .unset, .unset, .unset, .unset, .unset, .unset] [(.ref w_DOUBLE), (.int (1 : Int32)), (.ref b1), (.ref b1)])) _
    refine st7 _ ?_
    show Steps p.tables e below (T7.setTop (mkF m 16 #[.val (.int p1), .val (.int p2), .val (.int p3), .unset, .unset, .unset, .unset, .unset, .unset, .unset, .unset] [(.ref b1)])) _
    refine XS.astoreN X7.here hx rfl (hb hby at_16) rfl rfl (l' := #[.val (.int p1), .val (.int p2), .val (.int p3), .val (.ref b1), .unset, .unset, .unset, .unset, .unset, .unset, .unset]) rfl ?_
    show Steps p.tables e below (T7.setTop (mkF m 17 #[.val (.int p1), .val (.int p2), .val (.int p3), .val (.ref b1), .unset, .unset, .unset, .unset, .unset, .unset, .unset] [])) _
    refine XS.aloadN X7.here hx rfl (hb hby at_17) rfl rfl ?_
    show Steps p.tables e below (T7.setTop (mkF m 18 #[.val (.int p1), .val (.int p2), .val (.int p3), .val (.ref b1), .unset, .unset, .unset, .unset, .unset, .unset, .unset] [(.ref b1)])) _
    refine XS.iloadN X7.here hx rfl (hb hby at_18) rfl ?_
    show Steps p.tables e below (T7.setTop (mkF m 19 #[.val (.int p1), .val (.int p2), .val (.int p3), .val (.ref b1), .unset, .unset, .unset, .unset, .unset, .unset, .unset] [(.int p1), (.ref b1)])) _
    refine XS.iconst X7.here hx rfl (hb hby at_19) ?_
    show Steps p.tables e below (T7.setTop (mkF m 20 #[.val (.int p1), .val (.int p2), .val (.int p3), .val (.ref b1), .unset, .unset, .unset, .unset, .unset, .unset, .unset] [(.int (1 : Int32)), (.int p1), (.ref b1)])) _
    refine XS.iand X7.here hx rfl (hb hby at_20) rfl ?_
    show Steps p.tables e below (T7.setTop (mkF m 21 #[.val (.int p1), .val (.int p2), .val (.int p3), .val (.ref b1), .unset, .unset, .unset, .unset, .unset, .unset, .unset] [(.int (p1 &&& (1 : Int32))), (.ref b1)])) _
    rw [pr5]
    show Steps p.tables e below (T7.setTop (mkF m 21 #[.val (.int p1), .val (.int p2), .val (.int p3), .val (.ref b1), .unset, .unset, .unset, .unset, .unset, .unset, .unset] [(.int (0 : Int32)), (.ref b1)])) _
    refine X7.aaload hx (j := (0 : Int32)) (v := (.ref w_INT)) (by rw [e7]; exact Ar8.1) (State.isArrayOf_alike hZ.alike Ar8.2.1) rfl Ar8.2.2 hin8 hat8 (g := (mkF m 21 #[.val (.int p1), .val (.int p2), .val (.int p3), .val (.ref b1), .unset, .unset, .unset, .unset, .unset, .unset, .unset] [(.int (0 : Int32)), (.ref b1)])) rfl rfl (hb hby at_21) _ ?_
    show Steps p.tables e below (T7.setTop (mkF m 22 #[.val (.int p1), .val (.int p2), .val (.int p3), .val (.ref b1), .unset, .unset, .unset, .unset, .unset, .unset, .unset] [(.ref w_INT)])) _
    refine XS.astore X7.here hx rfl (hb hby at_22) rfl rfl (l' := #[.val (.int p1), .val (.int p2), .val (.int p3), .val (.ref b1), .val (.ref w_INT), .unset, .unset, .unset, .unset, .unset, .unset]) rfl ?_
    show Steps p.tables e below (T7.setTop (mkF m 24 #[.val (.int p1), .val (.int p2), .val (.int p3), .val (.ref b1), .val (.ref w_INT), .unset, .unset, .unset, .unset, .unset, .unset] [])) _
    refine XS.aloadN X7.here hx rfl (hb hby at_24) rfl rfl ?_
    show Steps p.tables e below (T7.setTop (mkF m 25 #[.val (.int p1), .val (.int p2), .val (.int p3), .val (.ref b1), .val (.ref w_INT), .unset, .unset, .unset, .unset, .unset, .unset] [(.ref b1)])) _
    refine XS.iloadN X7.here hx rfl (hb hby at_25) rfl ?_
    show Steps p.tables e below (T7.setTop (mkF m 26 #[.val (.int p1), .val (.int p2), .val (.int p3), .val (.ref b1), .val (.ref w_INT), .unset, .unset, .unset, .unset, .unset, .unset] [(.int p2), (.ref b1)])) _
    refine XS.iconst X7.here hx rfl (hb hby at_26) ?_
    show Steps p.tables e below (T7.setTop (mkF m 27 #[.val (.int p1), .val (.int p2), .val (.int p3), .val (.ref b1), .val (.ref w_INT), .unset, .unset, .unset, .unset, .unset, .unset] [(.int (1 : Int32)), (.int p2), (.ref b1)])) _
    refine XS.iand X7.here hx rfl (hb hby at_27) rfl ?_
    show Steps p.tables e below (T7.setTop (mkF m 28 #[.val (.int p1), .val (.int p2), .val (.int p3), .val (.ref b1), .val (.ref w_INT), .unset, .unset, .unset, .unset, .unset, .unset] [(.int (p2 &&& (1 : Int32))), (.ref b1)])) _
    rw [pr6]
    show Steps p.tables e below (T7.setTop (mkF m 28 #[.val (.int p1), .val (.int p2), .val (.int p3), .val (.ref b1), .val (.ref w_INT), .unset, .unset, .unset, .unset, .unset, .unset] [(.int (1 : Int32)), (.ref b1)])) _
    refine X7.aaload hx (j := (1 : Int32)) (v := (.ref w_DOUBLE)) (by rw [e7]; exact Ar9.1) (State.isArrayOf_alike hZ.alike Ar9.2.1) rfl Ar9.2.2 hin9 hat9 (g := (mkF m 28 #[.val (.int p1), .val (.int p2), .val (.int p3), .val (.ref b1), .val (.ref w_INT), .unset, .unset, .unset, .unset, .unset, .unset] [(.int (1 : Int32)), (.ref b1)])) rfl rfl (hb hby at_28) _ ?_
    show Steps p.tables e below (T7.setTop (mkF m 29 #[.val (.int p1), .val (.int p2), .val (.int p3), .val (.ref b1), .val (.ref w_INT), .unset, .unset, .unset, .unset, .unset, .unset] [(.ref w_DOUBLE)])) _
    refine XS.astore X7.here hx rfl (hb hby at_29) rfl rfl (l' := #[.val (.int p1), .val (.int p2), .val (.int p3), .val (.ref b1), .val (.ref w_INT), .val (.ref w_DOUBLE), .unset, .unset, .unset, .unset, .unset]) rfl ?_
    show Steps p.tables e below (T7.setTop (mkF m 31 #[.val (.int p1), .val (.int p2), .val (.int p3), .val (.ref b1), .val (.ref w_INT), .val (.ref w_DOUBLE), .unset, .unset, .unset, .unset, .unset] [])) _
    refine XS.aloadN X7.here hx rfl (hb hby at_31) rfl rfl ?_
    show Steps p.tables e below (T7.setTop (mkF m 32 #[.val (.int p1), .val (.int p2), .val (.int p3), .val (.ref b1), .val (.ref w_INT), .val (.ref w_DOUBLE), .unset, .unset, .unset, .unset, .unset] [(.ref b1)])) _
    refine XS.iloadN X7.here hx rfl (hb hby at_32) rfl ?_
    show Steps p.tables e below (T7.setTop (mkF m 33 #[.val (.int p1), .val (.int p2), .val (.int p3), .val (.ref b1), .val (.ref w_INT), .val (.ref w_DOUBLE), .unset, .unset, .unset, .unset, .unset] [(.int p3), (.ref b1)])) _
    refine XS.iconst X7.here hx rfl (hb hby at_33) ?_
    show Steps p.tables e below (T7.setTop (mkF m 34 #[.val (.int p1), .val (.int p2), .val (.int p3), .val (.ref b1), .val (.ref w_INT), .val (.ref w_DOUBLE), .unset, .unset, .unset, .unset, .unset] [(.int (1 : Int32)), (.int p3), (.ref b1)])) _
    refine XS.iand X7.here hx rfl (hb hby at_34) rfl ?_
    show Steps p.tables e below (T7.setTop (mkF m 35 #[.val (.int p1), .val (.int p2), .val (.int p3), .val (.ref b1), .val (.ref w_INT), .val (.ref w_DOUBLE), .unset, .unset, .unset, .unset, .unset] [(.int (p3 &&& (1 : Int32))), (.ref b1)])) _
    rw [pr7]
    show Steps p.tables e below (T7.setTop (mkF m 35 #[.val (.int p1), .val (.int p2), .val (.int p3), .val (.ref b1), .val (.ref w_INT), .val (.ref w_DOUBLE), .unset, .unset, .unset, .unset, .unset] [(.int (1 : Int32)), (.ref b1)])) _
    refine X7.aaload hx (j := (1 : Int32)) (v := (.ref w_DOUBLE)) (by rw [e7]; exact Ar10.1) (State.isArrayOf_alike hZ.alike Ar10.2.1) rfl Ar10.2.2 hin10 hat10 (g := (mkF m 35 #[.val (.int p1), .val (.int p2), .val (.int p3), .val (.ref b1), .val (.ref w_INT), .val (.ref w_DOUBLE), .unset, .unset, .unset, .unset, .unset] [(.int (1 : Int32)), (.ref b1)])) rfl rfl (hb hby at_35) _ ?_
    show Steps p.tables e below (T7.setTop (mkF m 36 #[.val (.int p1), .val (.int p2), .val (.int p3), .val (.ref b1), .val (.ref w_INT), .val (.ref w_DOUBLE), .unset, .unset, .unset, .unset, .unset] [(.ref w_DOUBLE)])) _
    refine XS.astore X7.here hx rfl (hb hby at_36) rfl rfl (l' := #[.val (.int p1), .val (.int p2), .val (.int p3), .val (.ref b1), .val (.ref w_INT), .val (.ref w_DOUBLE), .val (.ref w_DOUBLE), .unset, .unset, .unset, .unset]) rfl ?_
    show Steps p.tables e below (T7.setTop (mkF m 38 #[.val (.int p1), .val (.int p2), .val (.int p3), .val (.ref b1), .val (.ref w_INT), .val (.ref w_DOUBLE), .val (.ref w_DOUBLE), .unset, .unset, .unset, .unset] [])) _
    refine XS.aload X7.here hx rfl (hb hby at_38) rfl rfl ?_
    show Steps p.tables e below (T7.setTop (mkF m 40 #[.val (.int p1), .val (.int p2), .val (.int p3), .val (.ref b1), .val (.ref w_INT), .val (.ref w_DOUBLE), .val (.ref w_DOUBLE), .unset, .unset, .unset, .unset] [(.ref w_INT)])) _
    refine XS.aload X7.here hx rfl (hb hby at_40) rfl rfl ?_
    show Steps p.tables e below (T7.setTop (mkF m 42 #[.val (.int p1), .val (.int p2), .val (.int p3), .val (.ref b1), .val (.ref w_INT), .val (.ref w_DOUBLE), .val (.ref w_DOUBLE), .unset, .unset, .unset, .unset] [(.ref w_DOUBLE), (.ref w_INT)])) _
    refine st11 _ ?_
    show Steps p.tables e below (T11.setTop (mkF m 45 #[.val (.int p1), .val (.int p2), .val (.int p3), .val (.ref b1), .val (.ref w_INT), .val (.ref w_DOUBLE), .val (.ref w_DOUBLE), .unset, .unset, .unset, .unset] [(.ref w_DOUBLE)])) _
    refine XS.astore X11.here hx rfl (hb hby at_45) rfl rfl (l' := #[.val (.int p1), .val (.int p2), .val (.int p3), .val (.ref b1), .val (.ref w_INT), .val (.ref w_DOUBLE), .val (.ref w_DOUBLE), .val (.ref w_DOUBLE), .unset, .unset, .unset]) rfl ?_
    show Steps p.tables e below (T11.setTop (mkF m 47 #[.val (.int p1), .val (.int p2), .val (.int p3), .val (.ref b1), .val (.ref w_INT), .val (.ref w_DOUBLE), .val (.ref w_DOUBLE), .val (.ref w_DOUBLE), .unset, .unset, .unset] [])) _
    refine XS.aload X11.here hx rfl (hb hby at_47) rfl rfl ?_
    show Steps p.tables e below (T11.setTop (mkF m 49 #[.val (.int p1), .val (.int p2), .val (.int p3), .val (.ref b1), .val (.ref w_INT), .val (.ref w_DOUBLE), .val (.ref w_DOUBLE), .val (.ref w_DOUBLE), .unset, .unset, .unset] [(.ref w_DOUBLE)])) _
    refine XS.ifnonnullYes X11.here hx rfl (pc0 := 49) (pc' := 54) rfl (hb hby at_49) rfl (by decide) (by decide) ?_
    show Steps p.tables e below (T11.setTop (mkF m 54 #[.val (.int p1), .val (.int p2), .val (.int p3), .val (.ref b1), .val (.ref w_INT), .val (.ref w_DOUBLE), .val (.ref w_DOUBLE), .val (.ref w_DOUBLE), .unset, .unset, .unset] [])) _
    refine XS.aload X11.here hx rfl (hb hby at_54) rfl rfl ?_
    show Steps p.tables e below (T11.setTop (mkF m 56 #[.val (.int p1), .val (.int p2), .val (.int p3), .val (.ref b1), .val (.ref w_INT), .val (.ref w_DOUBLE), .val (.ref w_DOUBLE), .val (.ref w_DOUBLE), .unset, .unset, .unset] [(.ref w_DOUBLE)])) _
    refine st12.trans ?_
    show Steps p.tables e below (T12.setTop (mkF m 59 #[.val (.int p1), .val (.int p2), .val (.int p3), .val (.ref b1), .val (.ref w_INT), .val (.ref w_DOUBLE), .val (.ref w_DOUBLE), .val (.ref w_DOUBLE), .unset, .unset, .unset] [(.int (1 : Int32))])) _
    refine XS.ifNo X12.here hx rfl (hb hby at_59) rfl ((if0 _ _).trans (feq (by decide : ¬ ((1 : Int32) = (0 : Int32)))).1) ?_
    show Steps p.tables e below (T12.setTop (mkF m 62 #[.val (.int p1), .val (.int p2), .val (.int p3), .val (.ref b1), .val (.ref w_INT), .val (.ref w_DOUBLE), .val (.ref w_DOUBLE), .val (.ref w_DOUBLE), .unset, .unset, .unset] [])) _
    refine XS.aload X12.here hx rfl (hb hby at_62) rfl rfl ?_
    show Steps p.tables e below (T12.setTop (mkF m 64 #[.val (.int p1), .val (.int p2), .val (.int p3), .val (.ref b1), .val (.ref w_INT), .val (.ref w_DOUBLE), .val (.ref w_DOUBLE), .val (.ref w_DOUBLE), .unset, .unset, .unset] [(.ref w_DOUBLE)])) _
    refine XS.aload X12.here hx rfl (hb hby at_64) rfl rfl ?_
    show Steps p.tables e below (T12.setTop (mkF m 66 #[.val (.int p1), .val (.int p2), .val (.int p3), .val (.ref b1), .val (.ref w_INT), .val (.ref w_DOUBLE), .val (.ref w_DOUBLE), .val (.ref w_DOUBLE), .unset, .unset, .unset] [(.ref w_INT), (.ref w_DOUBLE)])) _
    refine st13.trans ?_
    show Steps p.tables e below (T13.setTop (mkF m 69 #[.val (.int p1), .val (.int p2), .val (.int p3), .val (.ref b1), .val (.ref w_INT), .val (.ref w_DOUBLE), .val (.ref w_DOUBLE), .val (.ref w_DOUBLE), .unset, .unset, .unset] [(.int (1 : Int32))])) _
    refine XS.ifNo X13.here hx rfl (hb hby at_69) rfl ((if0 _ _).trans (feq (by decide : ¬ ((1 : Int32) = (0 : Int32)))).1) ?_
    show Steps p.tables e below (T13.setTop (mkF m 72 #[.val (.int p1), .val (.int p2), .val (.int p3), .val (.ref b1), .val (.ref w_INT), .val (.ref w_DOUBLE), .val (.ref w_DOUBLE), .val (.ref w_DOUBLE), .unset, .unset, .unset] [])) _
    refine XS.aload X13.here hx rfl (hb hby at_72) rfl rfl ?_
    show Steps p.tables e below (T13.setTop (mkF m 74 #[.val (.int p1), .val (.int p2), .val (.int p3), .val (.ref b1), .val (.ref w_INT), .val (.ref w_DOUBLE), .val (.ref w_DOUBLE), .val (.ref w_DOUBLE), .unset, .unset, .unset] [(.ref w_DOUBLE)])) _
    refine XS.aload X13.here hx rfl (hb hby at_74) rfl rfl ?_
    show Steps p.tables e below (T13.setTop (mkF m 76 #[.val (.int p1), .val (.int p2), .val (.int p3), .val (.ref b1), .val (.ref w_INT), .val (.ref w_DOUBLE), .val (.ref w_DOUBLE), .val (.ref w_DOUBLE), .unset, .unset, .unset] [(.ref w_DOUBLE), (.ref w_DOUBLE)])) _
    refine st14.trans ?_
    show Steps p.tables e below (T14.setTop (mkF m 79 #[.val (.int p1), .val (.int p2), .val (.int p3), .val (.ref b1), .val (.ref w_INT), .val (.ref w_DOUBLE), .val (.ref w_DOUBLE), .val (.ref w_DOUBLE), .unset, .unset, .unset] [(.int (1 : Int32))])) _
    refine XS.ifNo X14.here hx rfl (hb hby at_79) rfl ((if0 _ _).trans (feq (by decide : ¬ ((1 : Int32) = (0 : Int32)))).1) ?_
    show Steps p.tables e below (T14.setTop (mkF m 82 #[.val (.int p1), .val (.int p2), .val (.int p3), .val (.ref b1), .val (.ref w_INT), .val (.ref w_DOUBLE), .val (.ref w_DOUBLE), .val (.ref w_DOUBLE), .unset, .unset, .unset] [])) _
    refine XS.iconst X14.here hx rfl (hb hby at_82) ?_
    show Steps p.tables e below (T14.setTop (mkF m 83 #[.val (.int p1), .val (.int p2), .val (.int p3), .val (.ref b1), .val (.ref w_INT), .val (.ref w_DOUBLE), .val (.ref w_DOUBLE), .val (.ref w_DOUBLE), .unset, .unset, .unset] [(.int (1 : Int32))])) _
    refine XS.goto X14.here hx rfl (pc0 := 83) (pc' := 87) rfl (hb hby at_83) (by decide) (by decide) ?_
    show Steps p.tables e below (T14.setTop (mkF m 87 #[.val (.int p1), .val (.int p2), .val (.int p3), .val (.ref b1), .val (.ref w_INT), .val (.ref w_DOUBLE), .val (.ref w_DOUBLE), .val (.ref w_DOUBLE), .unset, .unset, .unset] [(.int (1 : Int32))])) _
    refine XS.istore X14.here hx rfl (hb hby at_87) rfl (l' := #[.val (.int p1), .val (.int p2), .val (.int p3), .val (.ref b1), .val (.ref w_INT), .val (.ref w_DOUBLE), .val (.ref w_DOUBLE), .val (.ref w_DOUBLE), .val (.int (1 : Int32)), .unset, .unset]) rfl ?_
    show Steps p.tables e below (T14.setTop (mkF m 89 #[.val (.int p1), .val (.int p2), .val (.int p3), .val (.ref b1), .val (.ref w_INT), .val (.ref w_DOUBLE), .val (.ref w_DOUBLE), .val (.ref w_DOUBLE), .val (.int (1 : Int32)), .unset, .unset] [])) _
    refine XS.aload X14.here hx rfl (hb hby at_89) rfl rfl ?_
    show Steps p.tables e below (T14.setTop (mkF m 91 #[.val (.int p1), .val (.int p2), .val (.int p3), .val (.ref b1), .val (.ref w_INT), .val (.ref w_DOUBLE), .val (.ref w_DOUBLE), .val (.ref w_DOUBLE), .val (.int (1 : Int32)), .unset, .unset] [(.ref w_DOUBLE)])) _
    refine XS.aload X14.here hx rfl (hb hby at_91) rfl rfl ?_
    show Steps p.tables e below (T14.setTop (mkF m 93 #[.val (.int p1), .val (.int p2), .val (.int p3), .val (.ref b1), .val (.ref w_INT), .val (.ref w_DOUBLE), .val (.ref w_DOUBLE), .val (.ref w_DOUBLE), .val (.int (1 : Int32)), .unset, .unset] [(.ref w_INT), (.ref w_DOUBLE)])) _
    refine st15.trans ?_
    show Steps p.tables e below (T15.setTop (mkF m 96 #[.val (.int p1), .val (.int p2), .val (.int p3), .val (.ref b1), .val (.ref w_INT), .val (.ref w_DOUBLE), .val (.ref w_DOUBLE), .val (.ref w_DOUBLE), .val (.int (1 : Int32)), .unset, .unset] [(.int (1 : Int32))])) _
    refine XS.ifNo X15.here hx rfl (hb hby at_96) rfl ((if0 _ _).trans (feq (by decide : ¬ ((1 : Int32) = (0 : Int32)))).1) ?_
    show Steps p.tables e below (T15.setTop (mkF m 99 #[.val (.int p1), .val (.int p2), .val (.int p3), .val (.ref b1), .val (.ref w_INT), .val (.ref w_DOUBLE), .val (.ref w_DOUBLE), .val (.ref w_DOUBLE), .val (.int (1 : Int32)), .unset, .unset] [])) _
    refine XS.aload X15.here hx rfl (hb hby at_99) rfl rfl ?_
    show Steps p.tables e below (T15.setTop (mkF m 101 #[.val (.int p1), .val (.int p2), .val (.int p3), .val (.ref b1), .val (.ref w_INT), .val (.ref w_DOUBLE), .val (.ref w_DOUBLE), .val (.ref w_DOUBLE), .val (.int (1 : Int32)), .unset, .unset] [(.ref w_DOUBLE)])) _
    refine XS.aload X15.here hx rfl (hb hby at_101) rfl rfl ?_
    show Steps p.tables e below (T15.setTop (mkF m 103 #[.val (.int p1), .val (.int p2), .val (.int p3), .val (.ref b1), .val (.ref w_INT), .val (.ref w_DOUBLE), .val (.ref w_DOUBLE), .val (.ref w_DOUBLE), .val (.int (1 : Int32)), .unset, .unset] [(.ref w_DOUBLE), (.ref w_DOUBLE)])) _
    refine st16.trans ?_
    show Steps p.tables e below (T16.setTop (mkF m 106 #[.val (.int p1), .val (.int p2), .val (.int p3), .val (.ref b1), .val (.ref w_INT), .val (.ref w_DOUBLE), .val (.ref w_DOUBLE), .val (.ref w_DOUBLE), .val (.int (1 : Int32)), .unset, .unset] [(.int (1 : Int32))])) _
    refine XS.ifNo X16.here hx rfl (hb hby at_106) rfl ((if0 _ _).trans (feq (by decide : ¬ ((1 : Int32) = (0 : Int32)))).1) ?_
    show Steps p.tables e below (T16.setTop (mkF m 109 #[.val (.int p1), .val (.int p2), .val (.int p3), .val (.ref b1), .val (.ref w_INT), .val (.ref w_DOUBLE), .val (.ref w_DOUBLE), .val (.ref w_DOUBLE), .val (.int (1 : Int32)), .unset, .unset] [])) _
    refine XS.aload X16.here hx rfl (hb hby at_109) rfl rfl ?_
    show Steps p.tables e below (T16.setTop (mkF m 111 #[.val (.int p1), .val (.int p2), .val (.int p3), .val (.ref b1), .val (.ref w_INT), .val (.ref w_DOUBLE), .val (.ref w_DOUBLE), .val (.ref w_DOUBLE), .val (.int (1 : Int32)), .unset, .unset] [(.ref w_DOUBLE)])) _
    refine XS.aload X16.here hx rfl (hb hby at_111) rfl rfl ?_
    show Steps p.tables e below (T16.setTop (mkF m 113 #[.val (.int p1), .val (.int p2), .val (.int p3), .val (.ref b1), .val (.ref w_INT), .val (.ref w_DOUBLE), .val (.ref w_DOUBLE), .val (.ref w_DOUBLE), .val (.int (1 : Int32)), .unset, .unset] [(.ref w_DOUBLE), (.ref w_DOUBLE)])) _
    refine st17.trans ?_
    show Steps p.tables e below (T17.setTop (mkF m 116 #[.val (.int p1), .val (.int p2), .val (.int p3), .val (.ref b1), .val (.ref w_INT), .val (.ref w_DOUBLE), .val (.ref w_DOUBLE), .val (.ref w_DOUBLE), .val (.int (1 : Int32)), .unset, .unset] [(.int (1 : Int32))])) _
    refine XS.ifNo X17.here hx rfl (hb hby at_116) rfl ((if0 _ _).trans (feq (by decide : ¬ ((1 : Int32) = (0 : Int32)))).1) ?_
    show Steps p.tables e below (T17.setTop (mkF m 119 #[.val (.int p1), .val (.int p2), .val (.int p3), .val (.ref b1), .val (.ref w_INT), .val (.ref w_DOUBLE), .val (.ref w_DOUBLE), .val (.ref w_DOUBLE), .val (.int (1 : Int32)), .unset, .unset] [])) _
    refine XS.iconst X17.here hx rfl (hb hby at_119) ?_
    show Steps p.tables e below (T17.setTop (mkF m 120 #[.val (.int p1), .val (.int p2), .val (.int p3), .val (.ref b1), .val (.ref w_INT), .val (.ref w_DOUBLE), .val (.ref w_DOUBLE), .val (.ref w_DOUBLE), .val (.int (1 : Int32)), .unset, .unset] [(.int (1 : Int32))])) _
    refine XS.goto X17.here hx rfl (pc0 := 120) (pc' := 124) rfl (hb hby at_120) (by decide) (by decide) ?_
    show Steps p.tables e below (T17.setTop (mkF m 124 #[.val (.int p1), .val (.int p2), .val (.int p3), .val (.ref b1), .val (.ref w_INT), .val (.ref w_DOUBLE), .val (.ref w_DOUBLE), .val (.ref w_DOUBLE), .val (.int (1 : Int32)), .unset, .unset] [(.int (1 : Int32))])) _
    refine XS.istore X17.here hx rfl (hb hby at_124) rfl (l' := #[.val (.int p1), .val (.int p2), .val (.int p3), .val (.ref b1), .val (.ref w_INT), .val (.ref w_DOUBLE), .val (.ref w_DOUBLE), .val (.ref w_DOUBLE), .val (.int (1 : Int32)), .val (.int (1 : Int32)), .unset]) rfl ?_
    show Steps p.tables e below (T17.setTop (mkF m 126 #[.val (.int p1), .val (.int p2), .val (.int p3), .val (.ref b1), .val (.ref w_INT), .val (.ref w_DOUBLE), .val (.ref w_DOUBLE), .val (.ref w_DOUBLE), .val (.int (1 : Int32)), .val (.int (1 : Int32)), .unset] [])) _
    refine XS.aload X17.here hx rfl (hb hby at_126) rfl rfl ?_
    show Steps p.tables e below (T17.setTop (mkF m 128 #[.val (.int p1), .val (.int p2), .val (.int p3), .val (.ref b1), .val (.ref w_INT), .val (.ref w_DOUBLE), .val (.ref w_DOUBLE), .val (.ref w_DOUBLE), .val (.int (1 : Int32)), .val (.int (1 : Int32)), .unset] [(.ref w_DOUBLE)])) _
    refine XS.aload X17.here hx rfl (hb hby at_128) rfl rfl ?_
    show Steps p.tables e below (T17.setTop (mkF m 130 #[.val (.int p1), .val (.int p2), .val (.int p3), .val (.ref b1), .val (.ref w_INT), .val (.ref w_DOUBLE), .val (.ref w_DOUBLE), .val (.ref w_DOUBLE), .val (.int (1 : Int32)), .val (.int (1 : Int32)), .unset] [(.ref w_INT), (.ref w_DOUBLE)])) _
    refine st18 _ ?_
    show Steps p.tables e below (T18.setTop (mkF m 133 #[.val (.int p1), .val (.int p2), .val (.int p3), .val (.ref b1), .val (.ref w_INT), .val (.ref w_DOUBLE), .val (.ref w_DOUBLE), .val (.ref w_DOUBLE), .val (.int (1 : Int32)), .val (.int (1 : Int32)), .unset] [(.ref w_DOUBLE)])) _
    refine XS.aload X18.here hx rfl (hb hby at_133) rfl rfl ?_
    show Steps p.tables e below (T18.setTop (mkF m 135 #[.val (.int p1), .val (.int p2), .val (.int p3), .val (.ref b1), .val (.ref w_INT), .val (.ref w_DOUBLE), .val (.ref w_DOUBLE), .val (.ref w_DOUBLE), .val (.int (1 : Int32)), .val (.int (1 : Int32)), .unset] [(.ref w_DOUBLE), (.ref w_DOUBLE)])) _
    refine Jvm.RoadKit.acmp (g := (mkF m 135 #[.val (.int p1), .val (.int p2), .val (.int p3), .val (.ref b1), .val (.ref w_INT), .val (.ref w_DOUBLE), .val (.ref w_DOUBLE), .val (.ref w_DOUBLE), .val (.int (1 : Int32)), .val (.int (1 : Int32)), .unset] [(.ref w_DOUBLE), (.ref w_DOUBLE)])) X18 hx rfl rfl rfl (pc0 := 135) (pc' := 138) (same := true) rfl (hb hby at_135) rfl (decide_eq_true rfl) (by decide) (by decide) ?_
    show Steps p.tables e below (T18.setTop (mkF m 138 #[.val (.int p1), .val (.int p2), .val (.int p3), .val (.ref b1), .val (.ref w_INT), .val (.ref w_DOUBLE), .val (.ref w_DOUBLE), .val (.ref w_DOUBLE), .val (.int (1 : Int32)), .val (.int (1 : Int32)), .unset] [])) _
    refine XS.iconst X18.here hx rfl (hb hby at_138) ?_
    show Steps p.tables e below (T18.setTop (mkF m 139 #[.val (.int p1), .val (.int p2), .val (.int p3), .val (.ref b1), .val (.ref w_INT), .val (.ref w_DOUBLE), .val (.ref w_DOUBLE), .val (.ref w_DOUBLE), .val (.int (1 : Int32)), .val (.int (1 : Int32)), .unset] [(.int (1 : Int32))])) _
    refine XS.goto X18.here hx rfl (pc0 := 139) (pc' := 143) rfl (hb hby at_139) (by decide) (by decide) ?_
    show Steps p.tables e below (T18.setTop (mkF m 143 #[.val (.int p1), .val (.int p2), .val (.int p3), .val (.ref b1), .val (.ref w_INT), .val (.ref w_DOUBLE), .val (.ref w_DOUBLE), .val (.ref w_DOUBLE), .val (.int (1 : Int32)), .val (.int (1 : Int32)), .unset] [(.int (1 : Int32))])) _
    refine XS.istore X18.here hx rfl (hb hby at_143) rfl (l' := #[.val (.int p1), .val (.int p2), .val (.int p3), .val (.ref b1), .val (.ref w_INT), .val (.ref w_DOUBLE), .val (.ref w_DOUBLE), .val (.ref w_DOUBLE), .val (.int (1 : Int32)), .val (.int (1 : Int32)), .val (.int (1 : Int32))]) rfl ?_
    show Steps p.tables e below (T18.setTop (mkF m 145 #[.val (.int p1), .val (.int p2), .val (.int p3), .val (.ref b1), .val (.ref w_INT), .val (.ref w_DOUBLE), .val (.ref w_DOUBLE), .val (.ref w_DOUBLE), .val (.int (1 : Int32)), .val (.int (1 : Int32)), .val (.int (1 : Int32))] [])) _
    refine XS.iload X18.here hx rfl (hb hby at_145) rfl ?_
    show Steps p.tables e below (T18.setTop (mkF m 147 #[.val (.int p1), .val (.int p2), .val (.int p3), .val (.ref b1), .val (.ref w_INT), .val (.ref w_DOUBLE), .val (.ref w_DOUBLE), .val (.ref w_DOUBLE), .val (.int (1 : Int32)), .val (.int (1 : Int32)), .val (.int (1 : Int32))] [(.int (1 : Int32))])) _
    refine XS.ifNo X18.here hx rfl (hb hby at_147) rfl ((if0 _ _).trans (feq (by decide : ¬ ((1 : Int32) = (0 : Int32)))).1) ?_
    show Steps p.tables e below (T18.setTop (mkF m 150 #[.val (.int p1), .val (.int p2), .val (.int p3), .val (.ref b1), .val (.ref w_INT), .val (.ref w_DOUBLE), .val (.ref w_DOUBLE), .val (.ref w_DOUBLE), .val (.int (1 : Int32)), .val (.int (1 : Int32)), .val (.int (1 : Int32))] [])) _
    refine XS.iload X18.here hx rfl (hb hby at_150) rfl ?_
    show Steps p.tables e below (T18.setTop (mkF m 152 #[.val (.int p1), .val (.int p2), .val (.int p3), .val (.ref b1), .val (.ref w_INT), .val (.ref w_DOUBLE), .val (.ref w_DOUBLE), .val (.ref w_DOUBLE), .val (.int (1 : Int32)), .val (.int (1 : Int32)), .val (.int (1 : Int32))] [(.int (1 : Int32))])) _
    refine XS.ifNo X18.here hx rfl (hb hby at_152) rfl ((if0 _ _).trans (feq (by decide : ¬ ((1 : Int32) = (0 : Int32)))).1) ?_
    show Steps p.tables e below (T18.setTop (mkF m 155 #[.val (.int p1), .val (.int p2), .val (.int p3), .val (.ref b1), .val (.ref w_INT), .val (.ref w_DOUBLE), .val (.ref w_DOUBLE), .val (.ref w_DOUBLE), .val (.int (1 : Int32)), .val (.int (1 : Int32)), .val (.int (1 : Int32))] [])) _
    refine XS.iload X18.here hx rfl (hb hby at_155) rfl ?_
    show Steps p.tables e below (T18.setTop (mkF m 157 #[.val (.int p1), .val (.int p2), .val (.int p3), .val (.ref b1), .val (.ref w_INT), .val (.ref w_DOUBLE), .val (.ref w_DOUBLE), .val (.ref w_DOUBLE), .val (.int (1 : Int32)), .val (.int (1 : Int32)), .val (.int (1 : Int32))] [(.int (1 : Int32))])) _
    refine XS.ifNo X18.here hx rfl (hb hby at_157) rfl ((if0 _ _).trans (feq (by decide : ¬ ((1 : Int32) = (0 : Int32)))).1) ?_
    show Steps p.tables e below (T18.setTop (mkF m 160 #[.val (.int p1), .val (.int p2), .val (.int p3), .val (.ref b1), .val (.ref w_INT), .val (.ref w_DOUBLE), .val (.ref w_DOUBLE), .val (.ref w_DOUBLE), .val (.int (1 : Int32)), .val (.int (1 : Int32)), .val (.int (1 : Int32))] [])) _
    refine XS.iconst X18.here hx rfl (hb hby at_160) ?_
    show Steps p.tables e below (T18.setTop (mkF m 161 #[.val (.int p1), .val (.int p2), .val (.int p3), .val (.ref b1), .val (.ref w_INT), .val (.ref w_DOUBLE), .val (.ref w_DOUBLE), .val (.ref w_DOUBLE), .val (.int (1 : Int32)), .val (.int (1 : Int32)), .val (.int (1 : Int32))] [(.int (1 : Int32))])) _
    refine XS.goto X18.here hx rfl (pc0 := 161) (pc' := 165) rfl (hb hby at_161) (by decide) (by decide) ?_
    show Steps p.tables e below (T18.setTop (mkF m 165 #[.val (.int p1), .val (.int p2), .val (.int p3), .val (.ref b1), .val (.ref w_INT), .val (.ref w_DOUBLE), .val (.ref w_DOUBLE), .val (.ref w_DOUBLE), .val (.int (1 : Int32)), .val (.int (1 : Int32)), .val (.int (1 : Int32))] [(.int (1 : Int32))])) _
    exact retN X18 hx (t := .boolean) Bd.returns (by simp) (hb hby at_165) hr
  · exact ⟨rfl, N18⟩
set_option maxRecDepth 65536 in
set_option maxHeartbeats 40000000 in
theorem rm0_1_0_0 (l : Launch) (Z : State) (a0 : Array Value) (hw : ∀ d ∈ tables_1, d.before a0 Z = true) (ws : List Jvm.Cond) (p1 : Int32) (p2 : Int32) (p3 : Int32) (w_INT : Addr) (w_DOUBLE : Addr) (w_BOOL : Addr) (h0 : Heap) (n0 : Nat) (OL0 : Old Z n0 h0) (pr1 : Sta Z Z.heap "com/example/rigorous_chains/rigorouschains/prism/Type" "INT" "Lcom/example/rigorous_chains/rigorouschains/prism/Type;" (.ref w_INT)) (pr2 : Exa Z Z.heap w_INT "com/example/rigorous_chains/rigorouschains/prism/Type") (pr3 : Sta Z Z.heap "com/example/rigorous_chains/rigorouschains/prism/Type" "DOUBLE" "Lcom/example/rigorous_chains/rigorouschains/prism/Type;" (.ref w_DOUBLE)) (pr4 : Exa Z Z.heap w_DOUBLE "com/example/rigorous_chains/rigorouschains/prism/Type") (pr5 : (p1 &&& (1 : Int32)) = (1 : Int32)) (pr6 : (p2 &&& (1 : Int32)) = (0 : Int32)) (pr7 : (p3 &&& (1 : Int32)) = (0 : Int32)) (pr8 : w_DOUBLE ≠ w_INT) (pr9 : Sta Z Z.heap "com/example/rigorous_chains/rigorouschains/prism/Type" "BOOL" "Lcom/example/rigorous_chains/rigorouschains/prism/Type;" (.ref w_BOOL)) (pr10 : w_DOUBLE ≠ w_BOOL) (pr11 : w_INT ≠ w_DOUBLE) :
    MetFree l x (head1 (Jvm.Cond.code x code maxLocals ret :: ws) room_1) (fun a U => a = #[(.int p1), (.int p2), (.int p3)] ∧ Z.Warmed39 U.vm ∧ U.heap = h0) (fun _ _ _ _ _ => True) (fun _ U o U' => ∃ v L, o = .returned v ∧ Q0 n0 v L ∧ FrameEnd U o U' L 16 128) := by
  refine MetFree.of_bodySF (plainFor_of_name pn_1) hisR ?_
  intro p e s m args below meth c s₁ Bd hml0 hP hK
  obtain ⟨rfl, hZ, hh⟩ := hP
  have hx := Bd.exec
  have hby := Bd.bytes
  have hml : c.maxLocals = 11 := hml0
  have hown : s.vm.findClass "com/example/rigorous_chains/rigorouschains/prism/TypeWidestPinLaw" = some m.cls := findClass_of_methodNamed Bd.named
  have hnm := (name_of_methodNamed Bd.named Bd.method).1
  have X0 : Stand p l e room_1 s m #[(.int p1), (.int p2), (.int p3)] below meth c s₁ [] 0 0 := Stand.of_body Bd
  have e0 : s₁.heap = h0 := by rw [← hh, Bd.state]; rfl
  have N0 := Fr.nil n0
  have pre0 : ∀ t, Steps p.tables e below (s₁.setTop (mkF m 0 #[.val (.int p1), .val (.int p2), .val (.int p3), .unset, .unset, .unset, .unset, .unset, .unset, .unset, .unset] [])) t → Steps p.tables e below (s₁.setTop (entryFrame m #[(.int p1), (.int p2), (.int p3)] maxLocals)) t := fun t k => castTop (ef_0_3 m p1 p2 p3) k
  obtain ⟨T1, h1, k1, X1, e1, E1, A1, O1, st1⟩ := newR X0 hx hZ hown (wd0 hw) (wd1 hw) e0 (g := (mkF m 1 #[.val (.int p1), .val (.int p2), .val (.int p3), .unset, .unset, .unset, .unset, .unset, .unset, .unset, .unset] [(.int (2 : Int32))])) rfl (hb hby at_1) rfl (by decide) (cap := 2) (by decide) (by decide) (by decide) (by decide)
  obtain ⟨b1, g1⟩ : ∃ z, z = h0.size := ⟨_, rfl⟩
  rw [← g1] at A1 st1
  have V1 : Arv Z h1 b1 k1 (.object "com/example/rigorous_chains/rigorouschains/prism/Type") (2 : Int32) [.null, .null] .null := (Arv.new A1 (by decide)).pad (pad_rep [] .null 2)
  have g_b1 : n0 ≤ b1 := (Nat.le_trans (Nat.le_trans (Nat.le_of_eq OL0.1.symm) OL0.2.1) (Nat.le_of_eq g1.symm))
  have sz_b1 : h0.size ≤ b1 := (Nat.le_trans (Keep.refl h0 []).1 (Nat.le_of_eq g1.symm))
  have KK1 : Keep h0 h1 [] := (Keep.refl h0 []).ext E1
  have OL1 := OL0.ext E1
  obtain ⟨T2, X2, e2, st2⟩ := getS2 X1 hx hZ hown (host := "") (Or.inl (wd2 hw)) Via.refl e1 (pr1.ext OL1.2) (g := (mkF m 6 #[.val (.int p1), .val (.int p2), .val (.int p3), .unset, .unset, .unset, .unset, .unset, .unset, .unset, .unset] [(.int (0 : Int32)), (.ref b1), (.ref b1)])) rfl (hb hby at_6)
  obtain ⟨cl3, Ar3, q3, S3, M3, Hs3, G3⟩ := id V1
  have hin3 : ¬ ((0 : Int32) < 0 ∨ cl3.slots.size ≤ ((0 : Int32)).toNatClampNeg) := inb_of S3 ⟨by decide, by decide⟩
  obtain ⟨T4, h4, X4, e4, W4, st4⟩ := stR X2 hx hZ e2 Ar3 (j := (0 : Int32)) hin3 rfl (Sto.ofV Ar3 q3 O1 (Ins.self (pr2.ext OL1.2))) (g := (mkF m 9 #[.val (.int p1), .val (.int p2), .val (.int p3), .unset, .unset, .unset, .unset, .unset, .unset, .unset, .unset] [(.ref w_INT), (.int (0 : Int32)), (.ref b1), (.ref b1)])) rfl rfl (hb hby at_9)
  have V4 : Arv Z h4 b1 k1 (.object "com/example/rigorous_chains/rigorouschains/prism/Type") (2 : Int32) [(.ref w_INT), .null] .null := Arv.set Ar3 q3 S3 M3 Hs3 G3 rfl W4 0 rfl (Nat.le_of_ble_eq_true rfl)
  have KK4 : Keep h0 h4 [] := KK1.wr W4 (Or.inr sz_b1)
  have OL4 := OL1.wr W4 g_b1
  have N4 := Fr.snoc X4 N0 g_b1
  obtain ⟨T5, X5, e5, st5⟩ := getS2 X4 hx hZ hown (host := "") (Or.inl (wd6 hw)) Via.refl e4 (pr3.ext OL4.2) (g := (mkF m 12 #[.val (.int p1), .val (.int p2), .val (.int p3), .unset, .unset, .unset, .unset, .unset, .unset, .unset, .unset] [(.int (1 : Int32)), (.ref b1), (.ref b1)])) rfl (hb hby at_12)
  obtain ⟨cl6, Ar6, q6, S6, M6, Hs6, G6⟩ := id V4
  have hin6 : ¬ ((1 : Int32) < 0 ∨ cl6.slots.size ≤ ((1 : Int32)).toNatClampNeg) := inb_of S6 ⟨by decide, by decide⟩
  obtain ⟨T7, h7, X7, e7, W7, st7⟩ := stR X5 hx hZ e5 Ar6 (j := (1 : Int32)) hin6 rfl (Sto.ofV Ar6 q6 O1 (Ins.self (pr4.ext OL4.2))) (g := (mkF m 15 #[.val (.int p1), .val (.int p2), .val (.int p3), .unset, .unset, .unset, .unset, .unset, .unset, .unset, .unset] [(.ref w_DOUBLE), (.int (1 : Int32)), (.ref b1), (.ref b1)])) rfl rfl (hb hby at_15)
  have V7 : Arv Z h7 b1 k1 (.object "com/example/rigorous_chains/rigorouschains/prism/Type") (2 : Int32) [(.ref w_INT), (.ref w_DOUBLE)] .null := Arv.set Ar6 q6 S6 M6 Hs6 G6 rfl W7 1 rfl (Nat.le_of_ble_eq_true rfl)
  have KK7 : Keep h0 h7 [] := KK4.wr W7 (Or.inr sz_b1)
  have OL7 := OL4.wr W7 g_b1
  have N7 := Fr.snoc X7 N4 g_b1
  obtain ⟨cl8, Ar8, -, S8, -, Hs8, -⟩ := id V7
  have hin8 : ¬ ((1 : Int32) < 0 ∨ cl8.slots.size ≤ ((1 : Int32)).toNatClampNeg) := inb_of S8 ⟨by decide, by decide⟩
  have hat8 : cl8.slots[((1 : Int32)).toNatClampNeg]? = some (.ref w_DOUBLE) := Hs8.at hin8 rfl
  obtain ⟨cl9, Ar9, -, S9, -, Hs9, -⟩ := id V7
  have hin9 : ¬ ((0 : Int32) < 0 ∨ cl9.slots.size ≤ ((0 : Int32)).toNatClampNeg) := inb_of S9 ⟨by decide, by decide⟩
  have hat9 : cl9.slots[((0 : Int32)).toNatClampNeg]? = some (.ref w_INT) := Hs9.at hin9 rfl
  obtain ⟨cl10, Ar10, -, S10, -, Hs10, -⟩ := id V7
  have hin10 : ¬ ((0 : Int32) < 0 ∨ cl10.slots.size ≤ ((0 : Int32)).toNatClampNeg) := inb_of S10 ⟨by decide, by decide⟩
  have hat10 : cl10.slots[((0 : Int32)).toNatClampNeg]? = some (.ref w_INT) := Hs10.at hin10 rfl
  obtain ⟨_, _, ⟨T11, L11, k11, n11⟩, -, X11, ⟨Lc11, hQ11, l11, y11, z11⟩, st11⟩ := Jvm.LawKit.callS X7 hx (y := (⟨"com/example/rigorous_chains/rigorouschains/prism/Type", "widest", "(Lcom/example/rigorous_chains/rigorouschains/prism/Type;Lcom/example/rigorous_chains/rigorouschains/prism/Type;)Lcom/example/rigorous_chains/rigorouschains/prism/Type;"⟩ : MethodName)) hown (mvT hZ (wd8 hw)) (mvT hZ (wd9 hw)) (mvT hZ (wd3 hw)) (mvT hZ (wd10 hw)) (by decide) (backOf (W := 0) (rm1_2 l Z a0 hw [] w_DOUBLE w_INT h7 n0 OL7 pr1 pr8 pr3) hZ (wd10 hw) (wd3 hw) (by decide) (by decide)) (g := (mkF m 42 #[.val (.int p1), .val (.int p2), .val (.int p3), .val (.ref b1), .val (.ref w_DOUBLE), .val (.ref w_INT), .val (.ref w_INT), .unset, .unset, .unset, .unset] [(.ref w_INT), (.ref w_DOUBLE)])) rfl (by rw [hml]; rfl) (argsL := [(.ref w_DOUBLE), (.ref w_INT)]) (rest := []) (lenOf pd_0 rfl) rfl (by show 2 * 0 + _ ≤ _; exact Nat.le_of_eq rfl) (hb hby at_42) (fun _ _ => ⟨rfl, e7, (by decide : 1 + 0 ≤ _), (by decide : 2 + 0 ≤ _)⟩)
  dsimp only [Pt.U, Pt.locs, Pt.cells, Pt.slots] at X11 l11 y11 z11 st11 hQ11
  subst l11 y11 z11
  obtain ⟨rfl, Nq11, ec11⟩ := hQ11
  have N11 := Fr.app N7 Nq11
  obtain ⟨cq12, kq12, q12a, q12b, q12c⟩ := isOf hZ ec11 (pr4.ext OL7.2)
  obtain ⟨_, _, ⟨T12, L12, k12, n12⟩, -, X12, ⟨Lc12, hQ12, l12, y12, z12⟩, st12⟩ := X11.virtualBack hx (y := (⟨"com/example/rigorous_chains/rigorouschains/prism/Type", "isNumeric", "()Z"⟩ : MethodName)) (z := (⟨"com/example/rigorous_chains/rigorouschains/prism/Type", "isNumeric", "()Z"⟩ : MethodName)) hown (mvT hZ (wd13 hw)) (mvT hZ (wd14 hw)) (notFace_of_selects (args := #[]) (mvT hZ (wd16 hw))) (mvT hZ (wd16 hw)) (mvT hZ (wd15 hw)) (by decide) (backOf (W := 0) (rm2_0 l Z a0 hw [] w_DOUBLE w_BOOL h7 n0 OL7 pr9 pr10) hZ (wd17 hw) (wd3 hw) (by decide) (by decide)) q12a q12c (g := (mkF m 56 #[.val (.int p1), .val (.int p2), .val (.int p3), .val (.ref b1), .val (.ref w_DOUBLE), .val (.ref w_INT), .val (.ref w_INT), .val (.ref w_DOUBLE), .unset, .unset, .unset] [(.ref w_DOUBLE)])) rfl (by rw [hml]; rfl) (Steps.refl _) (argsL := []) (rest := []) (lenOf pd_1 rfl) rfl (by show 2 * 0 + _ ≤ _; exact Nat.le_of_eq rfl) (hb hby at_56) (fun _ _ => ⟨rfl, ec11, (by decide : 1 + 0 ≤ _), (by decide : 2 + 0 ≤ _)⟩)
  dsimp only [Pt.U, Pt.locs, Pt.cells, Pt.slots] at X12 l12 y12 z12 st12 hQ12
  subst l12 y12 z12
  obtain ⟨rfl, Nq12, ec12⟩ := hQ12
  have N12 := Fr.app N11 Nq12
  obtain ⟨cq13, kq13, q13a, q13b, q13c⟩ := isOf hZ ec12 (pr4.ext OL7.2)
  obtain ⟨_, _, ⟨T13, L13, k13, n13⟩, -, X13, ⟨Lc13, hQ13, l13, y13, z13⟩, st13⟩ := X12.virtualBack hx (y := (⟨"com/example/rigorous_chains/rigorouschains/prism/Type", "accepts", "(Lcom/example/rigorous_chains/rigorouschains/prism/Type;)Z"⟩ : MethodName)) (z := (⟨"com/example/rigorous_chains/rigorouschains/prism/Type", "accepts", "(Lcom/example/rigorous_chains/rigorouschains/prism/Type;)Z"⟩ : MethodName)) hown (mvT hZ (wd20 hw)) (mvT hZ (wd21 hw)) (notFace_of_selects (args := #[]) (mvT hZ (wd23 hw))) (mvT hZ (wd23 hw)) (mvT hZ (wd22 hw)) (by decide) (backOf (W := 0) (rm3_0 l Z a0 hw [] w_DOUBLE h7 n0 OL7 ) hZ (wd24 hw) (wd3 hw) (by decide) (by decide)) q13a q13c (g := (mkF m 66 #[.val (.int p1), .val (.int p2), .val (.int p3), .val (.ref b1), .val (.ref w_DOUBLE), .val (.ref w_INT), .val (.ref w_INT), .val (.ref w_DOUBLE), .unset, .unset, .unset] [(.ref w_DOUBLE), (.ref w_DOUBLE)])) rfl (by rw [hml]; rfl) (Steps.refl _) (argsL := [(.ref w_DOUBLE)]) (rest := []) (lenOf pd_2 rfl) rfl (by show 2 * 0 + _ ≤ _; exact Nat.le_of_eq rfl) (hb hby at_66) (fun _ _ => ⟨rfl, ec12, (by decide : 1 + 0 ≤ _), (by decide : 2 + 0 ≤ _)⟩)
  dsimp only [Pt.U, Pt.locs, Pt.cells, Pt.slots] at X13 l13 y13 z13 st13 hQ13
  subst l13 y13 z13
  obtain ⟨rfl, Nq13, ec13⟩ := hQ13
  have N13 := Fr.app N12 Nq13
  obtain ⟨cq14, kq14, q14a, q14b, q14c⟩ := isOf hZ ec13 (pr4.ext OL7.2)
  obtain ⟨_, _, ⟨T14, L14, k14, n14⟩, -, X14, ⟨Lc14, hQ14, l14, y14, z14⟩, st14⟩ := X13.virtualBack hx (y := (⟨"com/example/rigorous_chains/rigorouschains/prism/Type", "accepts", "(Lcom/example/rigorous_chains/rigorouschains/prism/Type;)Z"⟩ : MethodName)) (z := (⟨"com/example/rigorous_chains/rigorouschains/prism/Type", "accepts", "(Lcom/example/rigorous_chains/rigorouschains/prism/Type;)Z"⟩ : MethodName)) hown (mvT hZ (wd20 hw)) (mvT hZ (wd21 hw)) (notFace_of_selects (args := #[]) (mvT hZ (wd23 hw))) (mvT hZ (wd23 hw)) (mvT hZ (wd22 hw)) (by decide) (backOf (W := 0) (rm3_1 l Z a0 hw [] w_DOUBLE w_INT h7 n0 OL7 pr8 pr3 pr1) hZ (wd24 hw) (wd3 hw) (by decide) (by decide)) q14a q14c (g := (mkF m 76 #[.val (.int p1), .val (.int p2), .val (.int p3), .val (.ref b1), .val (.ref w_DOUBLE), .val (.ref w_INT), .val (.ref w_INT), .val (.ref w_DOUBLE), .unset, .unset, .unset] [(.ref w_INT), (.ref w_DOUBLE)])) rfl (by rw [hml]; rfl) (Steps.refl _) (argsL := [(.ref w_INT)]) (rest := []) (lenOf pd_2 rfl) rfl (by show 2 * 0 + _ ≤ _; exact Nat.le_of_eq rfl) (hb hby at_76) (fun _ _ => ⟨rfl, ec13, (by decide : 1 + 0 ≤ _), (by decide : 2 + 0 ≤ _)⟩)
  dsimp only [Pt.U, Pt.locs, Pt.cells, Pt.slots] at X14 l14 y14 z14 st14 hQ14
  subst l14 y14 z14
  obtain ⟨rfl, Nq14, ec14⟩ := hQ14
  have N14 := Fr.app N13 Nq14
  obtain ⟨cq15, kq15, q15a, q15b, q15c⟩ := isOf hZ ec14 (pr2.ext OL7.2)
  obtain ⟨_, _, ⟨T15, L15, k15, n15⟩, -, X15, ⟨Lc15, hQ15, l15, y15, z15⟩, st15⟩ := X14.virtualBack hx (y := (⟨"com/example/rigorous_chains/rigorouschains/prism/Type", "accepts", "(Lcom/example/rigorous_chains/rigorouschains/prism/Type;)Z"⟩ : MethodName)) (z := (⟨"com/example/rigorous_chains/rigorouschains/prism/Type", "accepts", "(Lcom/example/rigorous_chains/rigorouschains/prism/Type;)Z"⟩ : MethodName)) hown (mvT hZ (wd20 hw)) (mvT hZ (wd21 hw)) (notFace_of_selects (args := #[]) (mvT hZ (wd23 hw))) (mvT hZ (wd23 hw)) (mvT hZ (wd22 hw)) (by decide) (backOf (W := 0) (rm3_2 l Z a0 hw [] w_INT w_DOUBLE h7 n0 OL7 pr11 pr3) hZ (wd24 hw) (wd3 hw) (by decide) (by decide)) q15a q15c (g := (mkF m 93 #[.val (.int p1), .val (.int p2), .val (.int p3), .val (.ref b1), .val (.ref w_DOUBLE), .val (.ref w_INT), .val (.ref w_INT), .val (.ref w_DOUBLE), .val (.int (1 : Int32)), .unset, .unset] [(.ref w_DOUBLE), (.ref w_INT)])) rfl (by rw [hml]; rfl) (Steps.refl _) (argsL := [(.ref w_DOUBLE)]) (rest := []) (lenOf pd_2 rfl) rfl (by show 2 * 0 + _ ≤ _; exact Nat.le_of_eq rfl) (hb hby at_93) (fun _ _ => ⟨rfl, ec14, (by decide : 1 + 0 ≤ _), (by decide : 2 + 0 ≤ _)⟩)
  dsimp only [Pt.U, Pt.locs, Pt.cells, Pt.slots] at X15 l15 y15 z15 st15 hQ15
  subst l15 y15 z15
  obtain ⟨rfl, Nq15, ec15⟩ := hQ15
  have N15 := Fr.app N14 Nq15
  obtain ⟨_, _, ⟨T16, L16, k16, n16⟩, -, X16, ⟨Lc16, hQ16, l16, y16, z16⟩, st16⟩ := Jvm.LawKit.callS X15 hx (y := (⟨"com/example/rigorous_chains/rigorouschains/prism/Type", "widest", "(Lcom/example/rigorous_chains/rigorouschains/prism/Type;Lcom/example/rigorous_chains/rigorouschains/prism/Type;)Lcom/example/rigorous_chains/rigorouschains/prism/Type;"⟩ : MethodName)) hown (mvT hZ (wd8 hw)) (mvT hZ (wd9 hw)) (mvT hZ (wd3 hw)) (mvT hZ (wd10 hw)) (by decide) (backOf (W := 0) (rm1_1 l Z a0 hw [] w_INT w_DOUBLE h7 n0 OL7 pr1 pr8 pr3) hZ (wd10 hw) (wd3 hw) (by decide) (by decide)) (g := (mkF m 130 #[.val (.int p1), .val (.int p2), .val (.int p3), .val (.ref b1), .val (.ref w_DOUBLE), .val (.ref w_INT), .val (.ref w_INT), .val (.ref w_DOUBLE), .val (.int (1 : Int32)), .val (.int (1 : Int32)), .unset] [(.ref w_DOUBLE), (.ref w_INT)])) rfl (by rw [hml]; rfl) (argsL := [(.ref w_INT), (.ref w_DOUBLE)]) (rest := []) (lenOf pd_0 rfl) rfl (by show 2 * 0 + _ ≤ _; exact Nat.le_of_eq rfl) (hb hby at_130) (fun _ _ => ⟨rfl, ec15, (by decide : 1 + 0 ≤ _), (by decide : 2 + 0 ≤ _)⟩)
  dsimp only [Pt.U, Pt.locs, Pt.cells, Pt.slots] at X16 l16 y16 z16 st16 hQ16
  subst l16 y16 z16
  obtain ⟨rfl, Nq16, ec16⟩ := hQ16
  have N16 := Fr.app N15 Nq16
  obtain ⟨fs, hr, hrun, hended, hW, hsame⟩ := X16.leave (v := some (.int (1 : Int32))) (fun h => by rw [Bd.returns] at h; cases h)
  refine ⟨_, _, pre0 _ ?_, hrun, hended, _, _, rfl, ?_, ⟨_, rfl⟩, hW, hsame.mono (by decide) (by decide)⟩
  · show Steps p.tables e below (s₁.setTop (mkF m 0 #[.val (.int p1), .val (.int p2), .val (.int p3), .unset, .unset, .unset, .unset, .unset, .unset, .unset, .unset] [])) _
    refine XS.iconst X0.here hx rfl (hb hby at_0) ?_
    show Steps p.tables e below (s₁.setTop (mkF m 1 #[.val (.int p1), .val (.int p2), .val (.int p3), .unset, .unset, .unset, .unset, .unset, .unset, .unset, .unset] [(.int (2 : Int32))])) _
    refine st1 _ ?_
    show Steps p.tables e below (T1.setTop (mkF m 4 #[.val (.int p1), .val (.int p2), .val (.int p3), .unset, .unset, .unset, .unset, .unset, .unset, .unset, .unset] [(.ref b1)])) _
    refine XS.dup X1.here hx rfl (hb hby at_4) rfl rfl ?_
    show Steps p.tables e below (T1.setTop (mkF m 5 #[.val (.int p1), .val (.int p2), .val (.int p3), .unset, .unset, .unset, .unset, .unset, .unset, .unset, .unset] [(.ref b1), (.ref b1)])) _
    refine XS.iconst X1.here hx rfl (hb hby at_5) ?_
    show Steps p.tables e below (T1.setTop (mkF m 6 #[.val (.int p1), .val (.int p2), .val (.int p3), .unset, .unset, .unset, .unset, .unset, .unset, .unset, .unset] [(.int (0 : Int32)), (.ref b1), (.ref b1)])) _
    refine st2 _ ?_
    show Steps p.tables e below (T2.setTop (mkF m 9 #[.val (.int p1), .val (.int p2), .val (.int p3), .unset, .unset, .unset, .unset, .unset, .unset, .unset, .unset] [(.ref w_INT), (.int (0 : Int32)), (.ref b1), (.ref b1)])) _
    refine st4 _ ?_
    show Steps p.tables e below (T4.setTop (mkF m 10 #[.val (.int p1), .val (.int p2), .val (.int p3), .unset, .unset, .unset, .unset, .unset, .unset, .unset, .unset] [(.ref b1)])) _
    refine XS.dup X4.here hx rfl (hb hby at_10) rfl rfl ?_
    show Steps p.tables e below (T4.setTop (mkF m 11 #[.val (.int p1), .val (.int p2), .val (.int p3), .unset, .unset, .unset, .unset, .unset, .unset, .unset, .unset] [(.ref b1), (.ref b1)])) _
    refine XS.iconst X4.here hx rfl (hb hby at_11) ?_
    show Steps p.tables e below (T4.setTop (mkF m 12 #[.val (.int p1), .val (.int p2), .val (.int p3), .unset, .unset, .unset, .unset, .unset, .unset, .unset, .unset] [(.int (1 : Int32)), (.ref b1), (.ref b1)])) _
    refine st5 _ ?_
    show Steps p.tables e below (T5.setTop (mkF m 15 #[.val (.int p1), .val (.int p2), .val (.int p3), .unset, .unset, .unset, .unset, .unset, .unset, .unset, .unset] [(.ref w_DOUBLE), (.int (1 : Int32)), (.ref b1), (.ref b1)])) _
    refine st7 _ ?_
    show Steps p.tables e below (T7.setTop (mkF m 16 #[.val (.int p1), .val (.int p2), .val (.int p3), .unset, .unset, .unset, .unset, .unset, .unset, .unset, .unset] [(.ref b1)])) _
    refine XS.astoreN X7.here hx rfl (hb hby at_16) rfl rfl (l' := #[.val (.int p1), .val (.int p2), .val (.int p3), .val (.ref b1), .unset, .unset, .unset, .unset, .unset, .unset, .unset]) rfl ?_
    show Steps p.tables e below (T7.setTop (mkF m 17 #[.val (.int p1), .val (.int p2), .val (.int p3), .val (.ref b1), .unset, .unset, .unset, .unset, .unset, .unset, .unset] [])) _
    refine XS.aloadN X7.here hx rfl (hb hby at_17) rfl rfl ?_
    show Steps p.tables e below (T7.setTop (mkF m 18 #[.val (.int p1), .val (.int p2), .val (.int p3), .val (.ref b1), .unset, .unset, .unset, .unset, .unset, .unset, .unset] [(.ref b1)])) _
    refine XS.iloadN X7.here hx rfl (hb hby at_18) rfl ?_
    show Steps p.tables e below (T7.setTop (mkF m 19 #[.val (.int p1), .val (.int p2), .val (.int p3), .val (.ref b1), .unset, .unset, .unset, .unset, .unset, .unset, .unset] [(.int p1), (.ref b1)])) _
    refine XS.iconst X7.here hx rfl (hb hby at_19) ?_
    show Steps p.tables e below (T7.setTop (mkF m 20 #[.val (.int p1), .val (.int p2), .val (.int p3), .val (.ref b1), .unset, .unset, .unset, .unset, .unset, .unset, .unset] [(.int (1 : Int32)), (.int p1), (.ref b1)])) _
    refine XS.iand X7.here hx rfl (hb hby at_20) rfl ?_
    show Steps p.tables e below (T7.setTop (mkF m 21 #[.val (.int p1), .val (.int p2), .val (.int p3), .val (.ref b1), .unset, .unset, .unset, .unset, .unset, .unset, .unset] [(.int (p1 &&& (1 : Int32))), (.ref b1)])) _
    rw [pr5]
    show Steps p.tables e below (T7.setTop (mkF m 21 #[.val (.int p1), .val (.int p2), .val (.int p3), .val (.ref b1), .unset, .unset, .unset, .unset, .unset, .unset, .unset] [(.int (1 : Int32)), (.ref b1)])) _
    refine X7.aaload hx (j := (1 : Int32)) (v := (.ref w_DOUBLE)) (by rw [e7]; exact Ar8.1) (State.isArrayOf_alike hZ.alike Ar8.2.1) rfl Ar8.2.2 hin8 hat8 (g := (mkF m 21 #[.val (.int p1), .val (.int p2), .val (.int p3), .val (.ref b1), .unset, .unset, .unset, .unset, .unset, .unset, .unset] [(.int (1 : Int32)), (.ref b1)])) rfl rfl (hb hby at_21) _ ?_
    show Steps p.tables e below (T7.setTop (mkF m 22 #[.val (.int p1), .val (.int p2), .val (.int p3), .val (.ref b1), .unset, .unset, .unset, .unset, .unset, .unset, .unset] [(.ref w_DOUBLE)])) _
    refine XS.astore X7.here hx rfl (hb hby at_22) rfl rfl (l' := #[.val (.int p1), .val (.int p2), .val (.int p3), .val (.ref b1), .val (.ref w_DOUBLE), .unset, .unset, .unset, .unset, .unset, .unset]) rfl ?_
    show Steps p.tables e below (T7.setTop (mkF m 24 #[.val (.int p1), .val (.int p2), .val (.int p3), .val (.ref b1), .val (.ref w_DOUBLE), .unset, .unset, .unset, .unset, .unset, .unset] [])) _
    refine XS.aloadN X7.here hx rfl (hb hby at_24) rfl rfl ?_
    show Steps p.tables e below (T7.setTop (mkF m 25 #[.val (.int p1), .val (.int p2), .val (.int p3), .val (.ref b1), .val (.ref w_DOUBLE), .unset, .unset, .unset, .unset, .unset, .unset] [(.ref b1)])) _
    refine XS.iloadN X7.here hx rfl (hb hby at_25) rfl ?_
    show Steps p.tables e below (T7.setTop (mkF m 26 #[.val (.int p1), .val (.int p2), .val (.int p3), .val (.ref b1), .val (.ref w_DOUBLE), .unset, .unset, .unset, .unset, .unset, .unset] [(.int p2), (.ref b1)])) _
    refine XS.iconst X7.here hx rfl (hb hby at_26) ?_
    show Steps p.tables e below (T7.setTop (mkF m 27 #[.val (.int p1), .val (.int p2), .val (.int p3), .val (.ref b1), .val (.ref w_DOUBLE), .unset, .unset, .unset, .unset, .unset, .unset] [(.int (1 : Int32)), (.int p2), (.ref b1)])) _
    refine XS.iand X7.here hx rfl (hb hby at_27) rfl ?_
    show Steps p.tables e below (T7.setTop (mkF m 28 #[.val (.int p1), .val (.int p2), .val (.int p3), .val (.ref b1), .val (.ref w_DOUBLE), .unset, .unset, .unset, .unset, .unset, .unset] [(.int (p2 &&& (1 : Int32))), (.ref b1)])) _
    rw [pr6]
    show Steps p.tables e below (T7.setTop (mkF m 28 #[.val (.int p1), .val (.int p2), .val (.int p3), .val (.ref b1), .val (.ref w_DOUBLE), .unset, .unset, .unset, .unset, .unset, .unset] [(.int (0 : Int32)), (.ref b1)])) _
    refine X7.aaload hx (j := (0 : Int32)) (v := (.ref w_INT)) (by rw [e7]; exact Ar9.1) (State.isArrayOf_alike hZ.alike Ar9.2.1) rfl Ar9.2.2 hin9 hat9 (g := (mkF m 28 #[.val (.int p1), .val (.int p2), .val (.int p3), .val (.ref b1), .val (.ref w_DOUBLE), .unset, .unset, .unset, .unset, .unset, .unset] [(.int (0 : Int32)), (.ref b1)])) rfl rfl (hb hby at_28) _ ?_
    show Steps p.tables e below (T7.setTop (mkF m 29 #[.val (.int p1), .val (.int p2), .val (.int p3), .val (.ref b1), .val (.ref w_DOUBLE), .unset, .unset, .unset, .unset, .unset, .unset] [(.ref w_INT)])) _
    refine XS.astore X7.here hx rfl (hb hby at_29) rfl rfl (l' := #[.val (.int p1), .val (.int p2), .val (.int p3), .val (.ref b1), .val (.ref w_DOUBLE), .val (.ref w_INT), .unset, .unset, .unset, .unset, .unset]) rfl ?_
    show Steps p.tables e below (T7.setTop (mkF m 31 #[.val (.int p1), .val (.int p2), .val (.int p3), .val (.ref b1), .val (.ref w_DOUBLE), .val (.ref w_INT), .unset, .unset, .unset, .unset, .unset] [])) _
    refine XS.aloadN X7.here hx rfl (hb hby at_31) rfl rfl ?_
    show Steps p.tables e below (T7.setTop (mkF m 32 #[.val (.int p1), .val (.int p2), .val (.int p3), .val (.ref b1), .val (.ref w_DOUBLE), .val (.ref w_INT), .unset, .unset, .unset, .unset, .unset] [(.ref b1)])) _
    refine XS.iloadN X7.here hx rfl (hb hby at_32) rfl ?_
    show Steps p.tables e below (T7.setTop (mkF m 33 #[.val (.int p1), .val (.int p2), .val (.int p3), .val (.ref b1), .val (.ref w_DOUBLE), .val (.ref w_INT), .unset, .unset, .unset, .unset, .unset] [(.int p3), (.ref b1)])) _
    refine XS.iconst X7.here hx rfl (hb hby at_33) ?_
    show Steps p.tables e below (T7.setTop (mkF m 34 #[.val (.int p1), .val (.int p2), .val (.int p3), .val (.ref b1), .val (.ref w_DOUBLE), .val (.ref w_INT), .unset, .unset, .unset, .unset, .unset] [(.int (1 : Int32)), (.int p3), (.ref b1)])) _
    refine XS.iand X7.here hx rfl (hb hby at_34) rfl ?_
    show Steps p.tables e below (T7.setTop (mkF m 35 #[.val (.int p1), .val (.int p2), .val (.int p3), .val (.ref b1), .val (.ref w_DOUBLE), .val (.ref w_INT), .unset, .unset, .unset, .unset, .unset] [(.int (p3 &&& (1 : Int32))), (.ref b1)])) _
    rw [pr7]
    show Steps p.tables e below (T7.setTop (mkF m 35 #[.val (.int p1), .val (.int p2), .val (.int p3), .val (.ref b1), .val (.ref w_DOUBLE), .val (.ref w_INT), .unset, .unset, .unset, .unset, .unset] [(.int (0 : Int32)), (.ref b1)])) _
    refine X7.aaload hx (j := (0 : Int32)) (v := (.ref w_INT)) (by rw [e7]; exact Ar10.1) (State.isArrayOf_alike hZ.alike Ar10.2.1) rfl Ar10.2.2 hin10 hat10 (g := (mkF m 35 #[.val (.int p1), .val (.int p2), .val (.int p3), .val (.ref b1), .val (.ref w_DOUBLE), .val (.ref w_INT), .unset, .unset, .unset, .unset, .unset] [(.int (0 : Int32)), (.ref b1)])) rfl rfl (hb hby at_35) _ ?_
    show Steps p.tables e below (T7.setTop (mkF m 36 #[.val (.int p1), .val (.int p2), .val (.int p3), .val (.ref b1), .val (.ref w_DOUBLE), .val (.ref w_INT), .unset, .unset, .unset, .unset, .unset] [(.ref w_INT)])) _
    refine XS.astore X7.here hx rfl (hb hby at_36) rfl rfl (l' := #[.val (.int p1), .val (.int p2), .val (.int p3), .val (.ref b1), .val (.ref w_DOUBLE), .val (.ref w_INT), .val (.ref w_INT), .unset, .unset, .unset, .unset]) rfl ?_
    show Steps p.tables e below (T7.setTop (mkF m 38 #[.val (.int p1), .val (.int p2), .val (.int p3), .val (.ref b1), .val (.ref w_DOUBLE), .val (.ref w_INT), .val (.ref w_INT), .unset, .unset, .unset, .unset] [])) _
    refine XS.aload X7.here hx rfl (hb hby at_38) rfl rfl ?_
    show Steps p.tables e below (T7.setTop (mkF m 40 #[.val (.int p1), .val (.int p2), .val (.int p3), .val (.ref b1), .val (.ref w_DOUBLE), .val (.ref w_INT), .val (.ref w_INT), .unset, .unset, .unset, .unset] [(.ref w_DOUBLE)])) _
    refine XS.aload X7.here hx rfl (hb hby at_40) rfl rfl ?_
    show Steps p.tables e below (T7.setTop (mkF m 42 #[.val (.int p1), .val (.int p2), .val (.int p3), .val (.ref b1), .val (.ref w_DOUBLE), .val (.ref w_INT), .val (.ref w_INT), .unset, .unset, .unset, .unset] [(.ref w_INT), (.ref w_DOUBLE)])) _
    refine st11 _ ?_
    show Steps p.tables e below (T11.setTop (mkF m 45 #[.val (.int p1), .val (.int p2), .val (.int p3), .val (.ref b1), .val (.ref w_DOUBLE), .val (.ref w_INT), .val (.ref w_INT), .unset, .unset, .unset, .unset] [(.ref w_DOUBLE)])) _
    refine XS.astore X11.here hx rfl (hb hby at_45) rfl rfl (l' := #[.val (.int p1), .val (.int p2), .val (.int p3), .val (.ref b1), .val (.ref w_DOUBLE), .val (.ref w_INT), .val (.ref w_INT), .val (.ref w_DOUBLE), .unset, .unset, .unset]) rfl ?_
    show Steps p.tables e below (T11.setTop (mkF m 47 #[.val (.int p1), .val (.int p2), .val (.int p3), .val (.ref b1), .val (.ref w_DOUBLE), .val (.ref w_INT), .val (.ref w_INT), .val (.ref w_DOUBLE), .unset, .unset, .unset] [])) _
    refine XS.aload X11.here hx rfl (hb hby at_47) rfl rfl ?_
    show Steps p.tables e below (T11.setTop (mkF m 49 #[.val (.int p1), .val (.int p2), .val (.int p3), .val (.ref b1), .val (.ref w_DOUBLE), .val (.ref w_INT), .val (.ref w_INT), .val (.ref w_DOUBLE), .unset, .unset, .unset] [(.ref w_DOUBLE)])) _
    refine XS.ifnonnullYes X11.here hx rfl (pc0 := 49) (pc' := 54) rfl (hb hby at_49) rfl (by decide) (by decide) ?_
    show Steps p.tables e below (T11.setTop (mkF m 54 #[.val (.int p1), .val (.int p2), .val (.int p3), .val (.ref b1), .val (.ref w_DOUBLE), .val (.ref w_INT), .val (.ref w_INT), .val (.ref w_DOUBLE), .unset, .unset, .unset] [])) _
    refine XS.aload X11.here hx rfl (hb hby at_54) rfl rfl ?_
    show Steps p.tables e below (T11.setTop (mkF m 56 #[.val (.int p1), .val (.int p2), .val (.int p3), .val (.ref b1), .val (.ref w_DOUBLE), .val (.ref w_INT), .val (.ref w_INT), .val (.ref w_DOUBLE), .unset, .unset, .unset] [(.ref w_DOUBLE)])) _
    refine st12.trans ?_
    show Steps p.tables e below (T12.setTop (mkF m 59 #[.val (.int p1), .val (.int p2), .val (.int p3), .val (.ref b1), .val (.ref w_DOUBLE), .val (.ref w_INT), .val (.ref w_INT), .val (.ref w_DOUBLE), .unset, .unset, .unset] [(.int (1 : Int32))])) _
    refine XS.ifNo X12.here hx rfl (hb hby at_59) rfl ((if0 _ _).trans (feq (by decide : ¬ ((1 : Int32) = (0 : Int32)))).1) ?_
    show Steps p.tables e below (T12.setTop (mkF m 62 #[.val (.int p1), .val (.int p2), .val (.int p3), .val (.ref b1), .val (.ref w_DOUBLE), .val (.ref w_INT), .val (.ref w_INT), .val (.ref w_DOUBLE), .unset, .unset, .unset] [])) _
    refine XS.aload X12.here hx rfl (hb hby at_62) rfl rfl ?_
    show Steps p.tables e below (T12.setTop (mkF m 64 #[.val (.int p1), .val (.int p2), .val (.int p3), .val (.ref b1), .val (.ref w_DOUBLE), .val (.ref w_INT), .val (.ref w_INT), .val (.ref w_DOUBLE), .unset, .unset, .unset] [(.ref w_DOUBLE)])) _
    refine XS.aload X12.here hx rfl (hb hby at_64) rfl rfl ?_
    show Steps p.tables e below (T12.setTop (mkF m 66 #[.val (.int p1), .val (.int p2), .val (.int p3), .val (.ref b1), .val (.ref w_DOUBLE), .val (.ref w_INT), .val (.ref w_INT), .val (.ref w_DOUBLE), .unset, .unset, .unset] [(.ref w_DOUBLE), (.ref w_DOUBLE)])) _
    refine st13.trans ?_
    show Steps p.tables e below (T13.setTop (mkF m 69 #[.val (.int p1), .val (.int p2), .val (.int p3), .val (.ref b1), .val (.ref w_DOUBLE), .val (.ref w_INT), .val (.ref w_INT), .val (.ref w_DOUBLE), .unset, .unset, .unset] [(.int (1 : Int32))])) _
    refine XS.ifNo X13.here hx rfl (hb hby at_69) rfl ((if0 _ _).trans (feq (by decide : ¬ ((1 : Int32) = (0 : Int32)))).1) ?_
    show Steps p.tables e below (T13.setTop (mkF m 72 #[.val (.int p1), .val (.int p2), .val (.int p3), .val (.ref b1), .val (.ref w_DOUBLE), .val (.ref w_INT), .val (.ref w_INT), .val (.ref w_DOUBLE), .unset, .unset, .unset] [])) _
    refine XS.aload X13.here hx rfl (hb hby at_72) rfl rfl ?_
    show Steps p.tables e below (T13.setTop (mkF m 74 #[.val (.int p1), .val (.int p2), .val (.int p3), .val (.ref b1), .val (.ref w_DOUBLE), .val (.ref w_INT), .val (.ref w_INT), .val (.ref w_DOUBLE), .unset, .unset, .unset] [(.ref w_DOUBLE)])) _
    refine XS.aload X13.here hx rfl (hb hby at_74) rfl rfl ?_
    show Steps p.tables e below (T13.setTop (mkF m 76 #[.val (.int p1), .val (.int p2), .val (.int p3), .val (.ref b1), .val (.ref w_DOUBLE), .val (.ref w_INT), .val (.ref w_INT), .val (.ref w_DOUBLE), .unset, .unset, .unset] [(.ref w_INT), (.ref w_DOUBLE)])) _
    refine st14.trans ?_
    show Steps p.tables e below (T14.setTop (mkF m 79 #[.val (.int p1), .val (.int p2), .val (.int p3), .val (.ref b1), .val (.ref w_DOUBLE), .val (.ref w_INT), .val (.ref w_INT), .val (.ref w_DOUBLE), .unset, .unset, .unset] [(.int (1 : Int32))])) _
    refine XS.ifNo X14.here hx rfl (hb hby at_79) rfl ((if0 _ _).trans (feq (by decide : ¬ ((1 : Int32) = (0 : Int32)))).1) ?_
    show Steps p.tables e below (T14.setTop (mkF m 82 #[.val (.int p1), .val (.int p2), .val (.int p3), .val (.ref b1), .val (.ref w_DOUBLE), .val (.ref w_INT), .val (.ref w_INT), .val (.ref w_DOUBLE), .unset, .unset, .unset] [])) _
    refine XS.iconst X14.here hx rfl (hb hby at_82) ?_
    show Steps p.tables e below (T14.setTop (mkF m 83 #[.val (.int p1), .val (.int p2), .val (.int p3), .val (.ref b1), .val (.ref w_DOUBLE), .val (.ref w_INT), .val (.ref w_INT), .val (.ref w_DOUBLE), .unset, .unset, .unset] [(.int (1 : Int32))])) _
    refine XS.goto X14.here hx rfl (pc0 := 83) (pc' := 87) rfl (hb hby at_83) (by decide) (by decide) ?_
    show Steps p.tables e below (T14.setTop (mkF m 87 #[.val (.int p1), .val (.int p2), .val (.int p3), .val (.ref b1), .val (.ref w_DOUBLE), .val (.ref w_INT), .val (.ref w_INT), .val (.ref w_DOUBLE), .unset, .unset, .unset] [(.int (1 : Int32))])) _
    refine XS.istore X14.here hx rfl (hb hby at_87) rfl (l' := #[.val (.int p1), .val (.int p2), .val (.int p3), .val (.ref b1), .val (.ref w_DOUBLE), .val (.ref w_INT), .val (.ref w_INT), .val (.ref w_DOUBLE), .val (.int (1 : Int32)), .unset, .unset]) rfl ?_
    show Steps p.tables e below (T14.setTop (mkF m 89 #[.val (.int p1), .val (.int p2), .val (.int p3), .val (.ref b1), .val (.ref w_DOUBLE), .val (.ref w_INT), .val (.ref w_INT), .val (.ref w_DOUBLE), .val (.int (1 : Int32)), .unset, .unset] [])) _
    refine XS.aload X14.here hx rfl (hb hby at_89) rfl rfl ?_
    show Steps p.tables e below (T14.setTop (mkF m 91 #[.val (.int p1), .val (.int p2), .val (.int p3), .val (.ref b1), .val (.ref w_DOUBLE), .val (.ref w_INT), .val (.ref w_INT), .val (.ref w_DOUBLE), .val (.int (1 : Int32)), .unset, .unset] [(.ref w_INT)])) _
    refine XS.aload X14.here hx rfl (hb hby at_91) rfl rfl ?_
    show Steps p.tables e below (T14.setTop (mkF m 93 #[.val (.int p1), .val (.int p2), .val (.int p3), .val (.ref b1), .val (.ref w_DOUBLE), .val (.ref w_INT), .val (.ref w_INT), .val (.ref w_DOUBLE), .val (.int (1 : Int32)), .unset, .unset] [(.ref w_DOUBLE), (.ref w_INT)])) _
    refine st15.trans ?_
    show Steps p.tables e below (T15.setTop (mkF m 96 #[.val (.int p1), .val (.int p2), .val (.int p3), .val (.ref b1), .val (.ref w_DOUBLE), .val (.ref w_INT), .val (.ref w_INT), .val (.ref w_DOUBLE), .val (.int (1 : Int32)), .unset, .unset] [(.int (0 : Int32))])) _
    refine XS.ifYes X15.here hx rfl (pc0 := 96) (pc' := 119) rfl (hb hby at_96) rfl ((if0 _ _).trans (teq (rfl : (0 : Int32) = (0 : Int32))).1) (by decide) (by decide) ?_
    show Steps p.tables e below (T15.setTop (mkF m 119 #[.val (.int p1), .val (.int p2), .val (.int p3), .val (.ref b1), .val (.ref w_DOUBLE), .val (.ref w_INT), .val (.ref w_INT), .val (.ref w_DOUBLE), .val (.int (1 : Int32)), .unset, .unset] [])) _
    refine XS.iconst X15.here hx rfl (hb hby at_119) ?_
    show Steps p.tables e below (T15.setTop (mkF m 120 #[.val (.int p1), .val (.int p2), .val (.int p3), .val (.ref b1), .val (.ref w_DOUBLE), .val (.ref w_INT), .val (.ref w_INT), .val (.ref w_DOUBLE), .val (.int (1 : Int32)), .unset, .unset] [(.int (1 : Int32))])) _
    refine XS.goto X15.here hx rfl (pc0 := 120) (pc' := 124) rfl (hb hby at_120) (by decide) (by decide) ?_
    show Steps p.tables e below (T15.setTop (mkF m 124 #[.val (.int p1), .val (.int p2), .val (.int p3), .val (.ref b1), .val (.ref w_DOUBLE), .val (.ref w_INT), .val (.ref w_INT), .val (.ref w_DOUBLE), .val (.int (1 : Int32)), .unset, .unset] [(.int (1 : Int32))])) _
    refine XS.istore X15.here hx rfl (hb hby at_124) rfl (l' := #[.val (.int p1), .val (.int p2), .val (.int p3), .val (.ref b1), .val (.ref w_DOUBLE), .val (.ref w_INT), .val (.ref w_INT), .val (.ref w_DOUBLE), .val (.int (1 : Int32)), .val (.int (1 : Int32)), .unset]) rfl ?_
    show Steps p.tables e below (T15.setTop (mkF m 126 #[.val (.int p1), .val (.int p2), .val (.int p3), .val (.ref b1), .val (.ref w_DOUBLE), .val (.ref w_INT), .val (.ref w_INT), .val (.ref w_DOUBLE), .val (.int (1 : Int32)), .val (.int (1 : Int32)), .unset] [])) _
    refine XS.aload X15.here hx rfl (hb hby at_126) rfl rfl ?_
    show Steps p.tables e below (T15.setTop (mkF m 128 #[.val (.int p1), .val (.int p2), .val (.int p3), .val (.ref b1), .val (.ref w_DOUBLE), .val (.ref w_INT), .val (.ref w_INT), .val (.ref w_DOUBLE), .val (.int (1 : Int32)), .val (.int (1 : Int32)), .unset] [(.ref w_INT)])) _
    refine XS.aload X15.here hx rfl (hb hby at_128) rfl rfl ?_
    show Steps p.tables e below (T15.setTop (mkF m 130 #[.val (.int p1), .val (.int p2), .val (.int p3), .val (.ref b1), .val (.ref w_DOUBLE), .val (.ref w_INT), .val (.ref w_INT), .val (.ref w_DOUBLE), .val (.int (1 : Int32)), .val (.int (1 : Int32)), .unset] [(.ref w_DOUBLE), (.ref w_INT)])) _
    refine st16 _ ?_
    show Steps p.tables e below (T16.setTop (mkF m 133 #[.val (.int p1), .val (.int p2), .val (.int p3), .val (.ref b1), .val (.ref w_DOUBLE), .val (.ref w_INT), .val (.ref w_INT), .val (.ref w_DOUBLE), .val (.int (1 : Int32)), .val (.int (1 : Int32)), .unset] [(.ref w_DOUBLE)])) _
    refine XS.aload X16.here hx rfl (hb hby at_133) rfl rfl ?_
    show Steps p.tables e below (T16.setTop (mkF m 135 #[.val (.int p1), .val (.int p2), .val (.int p3), .val (.ref b1), .val (.ref w_DOUBLE), .val (.ref w_INT), .val (.ref w_INT), .val (.ref w_DOUBLE), .val (.int (1 : Int32)), .val (.int (1 : Int32)), .unset] [(.ref w_DOUBLE), (.ref w_DOUBLE)])) _
    refine Jvm.RoadKit.acmp (g := (mkF m 135 #[.val (.int p1), .val (.int p2), .val (.int p3), .val (.ref b1), .val (.ref w_DOUBLE), .val (.ref w_INT), .val (.ref w_INT), .val (.ref w_DOUBLE), .val (.int (1 : Int32)), .val (.int (1 : Int32)), .unset] [(.ref w_DOUBLE), (.ref w_DOUBLE)])) X16 hx rfl rfl rfl (pc0 := 135) (pc' := 138) (same := true) rfl (hb hby at_135) rfl (decide_eq_true rfl) (by decide) (by decide) ?_
    show Steps p.tables e below (T16.setTop (mkF m 138 #[.val (.int p1), .val (.int p2), .val (.int p3), .val (.ref b1), .val (.ref w_DOUBLE), .val (.ref w_INT), .val (.ref w_INT), .val (.ref w_DOUBLE), .val (.int (1 : Int32)), .val (.int (1 : Int32)), .unset] [])) _
    refine XS.iconst X16.here hx rfl (hb hby at_138) ?_
    show Steps p.tables e below (T16.setTop (mkF m 139 #[.val (.int p1), .val (.int p2), .val (.int p3), .val (.ref b1), .val (.ref w_DOUBLE), .val (.ref w_INT), .val (.ref w_INT), .val (.ref w_DOUBLE), .val (.int (1 : Int32)), .val (.int (1 : Int32)), .unset] [(.int (1 : Int32))])) _
    refine XS.goto X16.here hx rfl (pc0 := 139) (pc' := 143) rfl (hb hby at_139) (by decide) (by decide) ?_
    show Steps p.tables e below (T16.setTop (mkF m 143 #[.val (.int p1), .val (.int p2), .val (.int p3), .val (.ref b1), .val (.ref w_DOUBLE), .val (.ref w_INT), .val (.ref w_INT), .val (.ref w_DOUBLE), .val (.int (1 : Int32)), .val (.int (1 : Int32)), .unset] [(.int (1 : Int32))])) _
    refine XS.istore X16.here hx rfl (hb hby at_143) rfl (l' := #[.val (.int p1), .val (.int p2), .val (.int p3), .val (.ref b1), .val (.ref w_DOUBLE), .val (.ref w_INT), .val (.ref w_INT), .val (.ref w_DOUBLE), .val (.int (1 : Int32)), .val (.int (1 : Int32)), .val (.int (1 : Int32))]) rfl ?_
    show Steps p.tables e below (T16.setTop (mkF m 145 #[.val (.int p1), .val (.int p2), .val (.int p3), .val (.ref b1), .val (.ref w_DOUBLE), .val (.ref w_INT), .val (.ref w_INT), .val (.ref w_DOUBLE), .val (.int (1 : Int32)), .val (.int (1 : Int32)), .val (.int (1 : Int32))] [])) _
    refine XS.iload X16.here hx rfl (hb hby at_145) rfl ?_
    show Steps p.tables e below (T16.setTop (mkF m 147 #[.val (.int p1), .val (.int p2), .val (.int p3), .val (.ref b1), .val (.ref w_DOUBLE), .val (.ref w_INT), .val (.ref w_INT), .val (.ref w_DOUBLE), .val (.int (1 : Int32)), .val (.int (1 : Int32)), .val (.int (1 : Int32))] [(.int (1 : Int32))])) _
    refine XS.ifNo X16.here hx rfl (hb hby at_147) rfl ((if0 _ _).trans (feq (by decide : ¬ ((1 : Int32) = (0 : Int32)))).1) ?_
    show Steps p.tables e below (T16.setTop (mkF m 150 #[.val (.int p1), .val (.int p2), .val (.int p3), .val (.ref b1), .val (.ref w_DOUBLE), .val (.ref w_INT), .val (.ref w_INT), .val (.ref w_DOUBLE), .val (.int (1 : Int32)), .val (.int (1 : Int32)), .val (.int (1 : Int32))] [])) _
    refine XS.iload X16.here hx rfl (hb hby at_150) rfl ?_
    show Steps p.tables e below (T16.setTop (mkF m 152 #[.val (.int p1), .val (.int p2), .val (.int p3), .val (.ref b1), .val (.ref w_DOUBLE), .val (.ref w_INT), .val (.ref w_INT), .val (.ref w_DOUBLE), .val (.int (1 : Int32)), .val (.int (1 : Int32)), .val (.int (1 : Int32))] [(.int (1 : Int32))])) _
    refine XS.ifNo X16.here hx rfl (hb hby at_152) rfl ((if0 _ _).trans (feq (by decide : ¬ ((1 : Int32) = (0 : Int32)))).1) ?_
    show Steps p.tables e below (T16.setTop (mkF m 155 #[.val (.int p1), .val (.int p2), .val (.int p3), .val (.ref b1), .val (.ref w_DOUBLE), .val (.ref w_INT), .val (.ref w_INT), .val (.ref w_DOUBLE), .val (.int (1 : Int32)), .val (.int (1 : Int32)), .val (.int (1 : Int32))] [])) _
    refine XS.iload X16.here hx rfl (hb hby at_155) rfl ?_
    show Steps p.tables e below (T16.setTop (mkF m 157 #[.val (.int p1), .val (.int p2), .val (.int p3), .val (.ref b1), .val (.ref w_DOUBLE), .val (.ref w_INT), .val (.ref w_INT), .val (.ref w_DOUBLE), .val (.int (1 : Int32)), .val (.int (1 : Int32)), .val (.int (1 : Int32))] [(.int (1 : Int32))])) _
    refine XS.ifNo X16.here hx rfl (hb hby at_157) rfl ((if0 _ _).trans (feq (by decide : ¬ ((1 : Int32) = (0 : Int32)))).1) ?_
    show Steps p.tables e below (T16.setTop (mkF m 160 #[.val (.int p1), .val (.int p2), .val (.int p3), .val (.ref b1), .val (.ref w_DOUBLE), .val (.ref w_INT), .val (.ref w_INT), .val (.ref w_DOUBLE), .val (.int (1 : Int32)), .val (.int (1 : Int32)), .val (.int (1 : Int32))] [])) _
    refine XS.iconst X16.here hx rfl (hb hby at_160) ?_
    show Steps p.tables e below (T16.setTop (mkF m 161 #[.val (.int p1), .val (.int p2), .val (.int p3), .val (.ref b1), .val (.ref w_DOUBLE), .val (.ref w_INT), .val (.ref w_INT), .val (.ref w_DOUBLE), .val (.int (1 : Int32)), .val (.int (1 : Int32)), .val (.int (1 : Int32))] [(.int (1 : Int32))])) _
    refine XS.goto X16.here hx rfl (pc0 := 161) (pc' := 165) rfl (hb hby at_161) (by decide) (by decide) ?_
    show Steps p.tables e below (T16.setTop (mkF m 165 #[.val (.int p1), .val (.int p2), .val (.int p3), .val (.ref b1), .val (.ref w_DOUBLE), .val (.ref w_INT), .val (.ref w_INT), .val (.ref w_DOUBLE), .val (.int (1 : Int32)), .val (.int (1 : Int32)), .val (.int (1 : Int32))] [(.int (1 : Int32))])) _
    exact retN X16 hx (t := .boolean) Bd.returns (by simp) (hb hby at_165) hr
  · exact ⟨rfl, N16⟩
set_option maxRecDepth 65536 in
set_option maxHeartbeats 40000000 in
theorem rm0_1_0_1 (l : Launch) (Z : State) (a0 : Array Value) (hw : ∀ d ∈ tables_1, d.before a0 Z = true) (ws : List Jvm.Cond) (p1 : Int32) (p2 : Int32) (p3 : Int32) (w_INT : Addr) (w_DOUBLE : Addr) (w_BOOL : Addr) (h0 : Heap) (n0 : Nat) (OL0 : Old Z n0 h0) (pr1 : Sta Z Z.heap "com/example/rigorous_chains/rigorouschains/prism/Type" "INT" "Lcom/example/rigorous_chains/rigorouschains/prism/Type;" (.ref w_INT)) (pr2 : Exa Z Z.heap w_INT "com/example/rigorous_chains/rigorouschains/prism/Type") (pr3 : Sta Z Z.heap "com/example/rigorous_chains/rigorouschains/prism/Type" "DOUBLE" "Lcom/example/rigorous_chains/rigorouschains/prism/Type;" (.ref w_DOUBLE)) (pr4 : Exa Z Z.heap w_DOUBLE "com/example/rigorous_chains/rigorouschains/prism/Type") (pr5 : (p1 &&& (1 : Int32)) = (1 : Int32)) (pr6 : (p2 &&& (1 : Int32)) = (0 : Int32)) (pr7 : (p3 &&& (1 : Int32)) = (1 : Int32)) (pr8 : w_DOUBLE ≠ w_INT) (pr9 : Sta Z Z.heap "com/example/rigorous_chains/rigorouschains/prism/Type" "BOOL" "Lcom/example/rigorous_chains/rigorouschains/prism/Type;" (.ref w_BOOL)) (pr10 : w_DOUBLE ≠ w_BOOL) :
    MetFree l x (head1 (Jvm.Cond.code x code maxLocals ret :: ws) room_1) (fun a U => a = #[(.int p1), (.int p2), (.int p3)] ∧ Z.Warmed39 U.vm ∧ U.heap = h0) (fun _ _ _ _ _ => True) (fun _ U o U' => ∃ v L, o = .returned v ∧ Q0 n0 v L ∧ FrameEnd U o U' L 16 128) := by
  refine MetFree.of_bodySF (plainFor_of_name pn_1) hisR ?_
  intro p e s m args below meth c s₁ Bd hml0 hP hK
  obtain ⟨rfl, hZ, hh⟩ := hP
  have hx := Bd.exec
  have hby := Bd.bytes
  have hml : c.maxLocals = 11 := hml0
  have hown : s.vm.findClass "com/example/rigorous_chains/rigorouschains/prism/TypeWidestPinLaw" = some m.cls := findClass_of_methodNamed Bd.named
  have hnm := (name_of_methodNamed Bd.named Bd.method).1
  have X0 : Stand p l e room_1 s m #[(.int p1), (.int p2), (.int p3)] below meth c s₁ [] 0 0 := Stand.of_body Bd
  have e0 : s₁.heap = h0 := by rw [← hh, Bd.state]; rfl
  have N0 := Fr.nil n0
  have pre0 : ∀ t, Steps p.tables e below (s₁.setTop (mkF m 0 #[.val (.int p1), .val (.int p2), .val (.int p3), .unset, .unset, .unset, .unset, .unset, .unset, .unset, .unset] [])) t → Steps p.tables e below (s₁.setTop (entryFrame m #[(.int p1), (.int p2), (.int p3)] maxLocals)) t := fun t k => castTop (ef_0_3 m p1 p2 p3) k
  obtain ⟨T1, h1, k1, X1, e1, E1, A1, O1, st1⟩ := newR X0 hx hZ hown (wd0 hw) (wd1 hw) e0 (g := (mkF m 1 #[.val (.int p1), .val (.int p2), .val (.int p3), .unset, .unset, .unset, .unset, .unset, .unset, .unset, .unset] [(.int (2 : Int32))])) rfl (hb hby at_1) rfl (by decide) (cap := 2) (by decide) (by decide) (by decide) (by decide)
  obtain ⟨b1, g1⟩ : ∃ z, z = h0.size := ⟨_, rfl⟩
  rw [← g1] at A1 st1
  have V1 : Arv Z h1 b1 k1 (.object "com/example/rigorous_chains/rigorouschains/prism/Type") (2 : Int32) [.null, .null] .null := (Arv.new A1 (by decide)).pad (pad_rep [] .null 2)
  have g_b1 : n0 ≤ b1 := (Nat.le_trans (Nat.le_trans (Nat.le_of_eq OL0.1.symm) OL0.2.1) (Nat.le_of_eq g1.symm))
  have sz_b1 : h0.size ≤ b1 := (Nat.le_trans (Keep.refl h0 []).1 (Nat.le_of_eq g1.symm))
  have KK1 : Keep h0 h1 [] := (Keep.refl h0 []).ext E1
  have OL1 := OL0.ext E1
  obtain ⟨T2, X2, e2, st2⟩ := getS2 X1 hx hZ hown (host := "") (Or.inl (wd2 hw)) Via.refl e1 (pr1.ext OL1.2) (g := (mkF m 6 #[.val (.int p1), .val (.int p2), .val (.int p3), .unset, .unset, .unset, .unset, .unset, .unset, .unset, .unset] [(.int (0 : Int32)), (.ref b1), (.ref b1)])) rfl (hb hby at_6)
  obtain ⟨cl3, Ar3, q3, S3, M3, Hs3, G3⟩ := id V1
  have hin3 : ¬ ((0 : Int32) < 0 ∨ cl3.slots.size ≤ ((0 : Int32)).toNatClampNeg) := inb_of S3 ⟨by decide, by decide⟩
  obtain ⟨T4, h4, X4, e4, W4, st4⟩ := stR X2 hx hZ e2 Ar3 (j := (0 : Int32)) hin3 rfl (Sto.ofV Ar3 q3 O1 (Ins.self (pr2.ext OL1.2))) (g := (mkF m 9 #[.val (.int p1), .val (.int p2), .val (.int p3), .unset, .unset, .unset, .unset, .unset, .unset, .unset, .unset] [(.ref w_INT), (.int (0 : Int32)), (.ref b1), (.ref b1)])) rfl rfl (hb hby at_9)
  have V4 : Arv Z h4 b1 k1 (.object "com/example/rigorous_chains/rigorouschains/prism/Type") (2 : Int32) [(.ref w_INT), .null] .null := Arv.set Ar3 q3 S3 M3 Hs3 G3 rfl W4 0 rfl (Nat.le_of_ble_eq_true rfl)
  have KK4 : Keep h0 h4 [] := KK1.wr W4 (Or.inr sz_b1)
  have OL4 := OL1.wr W4 g_b1
  have N4 := Fr.snoc X4 N0 g_b1
  obtain ⟨T5, X5, e5, st5⟩ := getS2 X4 hx hZ hown (host := "") (Or.inl (wd6 hw)) Via.refl e4 (pr3.ext OL4.2) (g := (mkF m 12 #[.val (.int p1), .val (.int p2), .val (.int p3), .unset, .unset, .unset, .unset, .unset, .unset, .unset, .unset] [(.int (1 : Int32)), (.ref b1), (.ref b1)])) rfl (hb hby at_12)
  obtain ⟨cl6, Ar6, q6, S6, M6, Hs6, G6⟩ := id V4
  have hin6 : ¬ ((1 : Int32) < 0 ∨ cl6.slots.size ≤ ((1 : Int32)).toNatClampNeg) := inb_of S6 ⟨by decide, by decide⟩
  obtain ⟨T7, h7, X7, e7, W7, st7⟩ := stR X5 hx hZ e5 Ar6 (j := (1 : Int32)) hin6 rfl (Sto.ofV Ar6 q6 O1 (Ins.self (pr4.ext OL4.2))) (g := (mkF m 15 #[.val (.int p1), .val (.int p2), .val (.int p3), .unset, .unset, .unset, .unset, .unset, .unset, .unset, .unset] [(.ref w_DOUBLE), (.int (1 : Int32)), (.ref b1), (.ref b1)])) rfl rfl (hb hby at_15)
  have V7 : Arv Z h7 b1 k1 (.object "com/example/rigorous_chains/rigorouschains/prism/Type") (2 : Int32) [(.ref w_INT), (.ref w_DOUBLE)] .null := Arv.set Ar6 q6 S6 M6 Hs6 G6 rfl W7 1 rfl (Nat.le_of_ble_eq_true rfl)
  have KK7 : Keep h0 h7 [] := KK4.wr W7 (Or.inr sz_b1)
  have OL7 := OL4.wr W7 g_b1
  have N7 := Fr.snoc X7 N4 g_b1
  obtain ⟨cl8, Ar8, -, S8, -, Hs8, -⟩ := id V7
  have hin8 : ¬ ((1 : Int32) < 0 ∨ cl8.slots.size ≤ ((1 : Int32)).toNatClampNeg) := inb_of S8 ⟨by decide, by decide⟩
  have hat8 : cl8.slots[((1 : Int32)).toNatClampNeg]? = some (.ref w_DOUBLE) := Hs8.at hin8 rfl
  obtain ⟨cl9, Ar9, -, S9, -, Hs9, -⟩ := id V7
  have hin9 : ¬ ((0 : Int32) < 0 ∨ cl9.slots.size ≤ ((0 : Int32)).toNatClampNeg) := inb_of S9 ⟨by decide, by decide⟩
  have hat9 : cl9.slots[((0 : Int32)).toNatClampNeg]? = some (.ref w_INT) := Hs9.at hin9 rfl
  obtain ⟨cl10, Ar10, -, S10, -, Hs10, -⟩ := id V7
  have hin10 : ¬ ((1 : Int32) < 0 ∨ cl10.slots.size ≤ ((1 : Int32)).toNatClampNeg) := inb_of S10 ⟨by decide, by decide⟩
  have hat10 : cl10.slots[((1 : Int32)).toNatClampNeg]? = some (.ref w_DOUBLE) := Hs10.at hin10 rfl
  obtain ⟨_, _, ⟨T11, L11, k11, n11⟩, -, X11, ⟨Lc11, hQ11, l11, y11, z11⟩, st11⟩ := Jvm.LawKit.callS X7 hx (y := (⟨"com/example/rigorous_chains/rigorouschains/prism/Type", "widest", "(Lcom/example/rigorous_chains/rigorouschains/prism/Type;Lcom/example/rigorous_chains/rigorouschains/prism/Type;)Lcom/example/rigorous_chains/rigorouschains/prism/Type;"⟩ : MethodName)) hown (mvT hZ (wd8 hw)) (mvT hZ (wd9 hw)) (mvT hZ (wd3 hw)) (mvT hZ (wd10 hw)) (by decide) (backOf (W := 0) (rm1_2 l Z a0 hw [] w_DOUBLE w_INT h7 n0 OL7 pr1 pr8 pr3) hZ (wd10 hw) (wd3 hw) (by decide) (by decide)) (g := (mkF m 42 #[.val (.int p1), .val (.int p2), .val (.int p3), .val (.ref b1), .val (.ref w_DOUBLE), .val (.ref w_INT), .val (.ref w_DOUBLE), .unset, .unset, .unset, .unset] [(.ref w_INT), (.ref w_DOUBLE)])) rfl (by rw [hml]; rfl) (argsL := [(.ref w_DOUBLE), (.ref w_INT)]) (rest := []) (lenOf pd_0 rfl) rfl (by show 2 * 0 + _ ≤ _; exact Nat.le_of_eq rfl) (hb hby at_42) (fun _ _ => ⟨rfl, e7, (by decide : 1 + 0 ≤ _), (by decide : 2 + 0 ≤ _)⟩)
  dsimp only [Pt.U, Pt.locs, Pt.cells, Pt.slots] at X11 l11 y11 z11 st11 hQ11
  subst l11 y11 z11
  obtain ⟨rfl, Nq11, ec11⟩ := hQ11
  have N11 := Fr.app N7 Nq11
  obtain ⟨cq12, kq12, q12a, q12b, q12c⟩ := isOf hZ ec11 (pr4.ext OL7.2)
  obtain ⟨_, _, ⟨T12, L12, k12, n12⟩, -, X12, ⟨Lc12, hQ12, l12, y12, z12⟩, st12⟩ := X11.virtualBack hx (y := (⟨"com/example/rigorous_chains/rigorouschains/prism/Type", "isNumeric", "()Z"⟩ : MethodName)) (z := (⟨"com/example/rigorous_chains/rigorouschains/prism/Type", "isNumeric", "()Z"⟩ : MethodName)) hown (mvT hZ (wd13 hw)) (mvT hZ (wd14 hw)) (notFace_of_selects (args := #[]) (mvT hZ (wd16 hw))) (mvT hZ (wd16 hw)) (mvT hZ (wd15 hw)) (by decide) (backOf (W := 0) (rm2_0 l Z a0 hw [] w_DOUBLE w_BOOL h7 n0 OL7 pr9 pr10) hZ (wd17 hw) (wd3 hw) (by decide) (by decide)) q12a q12c (g := (mkF m 56 #[.val (.int p1), .val (.int p2), .val (.int p3), .val (.ref b1), .val (.ref w_DOUBLE), .val (.ref w_INT), .val (.ref w_DOUBLE), .val (.ref w_DOUBLE), .unset, .unset, .unset] [(.ref w_DOUBLE)])) rfl (by rw [hml]; rfl) (Steps.refl _) (argsL := []) (rest := []) (lenOf pd_1 rfl) rfl (by show 2 * 0 + _ ≤ _; exact Nat.le_of_eq rfl) (hb hby at_56) (fun _ _ => ⟨rfl, ec11, (by decide : 1 + 0 ≤ _), (by decide : 2 + 0 ≤ _)⟩)
  dsimp only [Pt.U, Pt.locs, Pt.cells, Pt.slots] at X12 l12 y12 z12 st12 hQ12
  subst l12 y12 z12
  obtain ⟨rfl, Nq12, ec12⟩ := hQ12
  have N12 := Fr.app N11 Nq12
  obtain ⟨cq13, kq13, q13a, q13b, q13c⟩ := isOf hZ ec12 (pr4.ext OL7.2)
  obtain ⟨_, _, ⟨T13, L13, k13, n13⟩, -, X13, ⟨Lc13, hQ13, l13, y13, z13⟩, st13⟩ := X12.virtualBack hx (y := (⟨"com/example/rigorous_chains/rigorouschains/prism/Type", "accepts", "(Lcom/example/rigorous_chains/rigorouschains/prism/Type;)Z"⟩ : MethodName)) (z := (⟨"com/example/rigorous_chains/rigorouschains/prism/Type", "accepts", "(Lcom/example/rigorous_chains/rigorouschains/prism/Type;)Z"⟩ : MethodName)) hown (mvT hZ (wd20 hw)) (mvT hZ (wd21 hw)) (notFace_of_selects (args := #[]) (mvT hZ (wd23 hw))) (mvT hZ (wd23 hw)) (mvT hZ (wd22 hw)) (by decide) (backOf (W := 0) (rm3_0 l Z a0 hw [] w_DOUBLE h7 n0 OL7 ) hZ (wd24 hw) (wd3 hw) (by decide) (by decide)) q13a q13c (g := (mkF m 66 #[.val (.int p1), .val (.int p2), .val (.int p3), .val (.ref b1), .val (.ref w_DOUBLE), .val (.ref w_INT), .val (.ref w_DOUBLE), .val (.ref w_DOUBLE), .unset, .unset, .unset] [(.ref w_DOUBLE), (.ref w_DOUBLE)])) rfl (by rw [hml]; rfl) (Steps.refl _) (argsL := [(.ref w_DOUBLE)]) (rest := []) (lenOf pd_2 rfl) rfl (by show 2 * 0 + _ ≤ _; exact Nat.le_of_eq rfl) (hb hby at_66) (fun _ _ => ⟨rfl, ec12, (by decide : 1 + 0 ≤ _), (by decide : 2 + 0 ≤ _)⟩)
  dsimp only [Pt.U, Pt.locs, Pt.cells, Pt.slots] at X13 l13 y13 z13 st13 hQ13
  subst l13 y13 z13
  obtain ⟨rfl, Nq13, ec13⟩ := hQ13
  have N13 := Fr.app N12 Nq13
  obtain ⟨cq14, kq14, q14a, q14b, q14c⟩ := isOf hZ ec13 (pr4.ext OL7.2)
  obtain ⟨_, _, ⟨T14, L14, k14, n14⟩, -, X14, ⟨Lc14, hQ14, l14, y14, z14⟩, st14⟩ := X13.virtualBack hx (y := (⟨"com/example/rigorous_chains/rigorouschains/prism/Type", "accepts", "(Lcom/example/rigorous_chains/rigorouschains/prism/Type;)Z"⟩ : MethodName)) (z := (⟨"com/example/rigorous_chains/rigorouschains/prism/Type", "accepts", "(Lcom/example/rigorous_chains/rigorouschains/prism/Type;)Z"⟩ : MethodName)) hown (mvT hZ (wd20 hw)) (mvT hZ (wd21 hw)) (notFace_of_selects (args := #[]) (mvT hZ (wd23 hw))) (mvT hZ (wd23 hw)) (mvT hZ (wd22 hw)) (by decide) (backOf (W := 0) (rm3_1 l Z a0 hw [] w_DOUBLE w_INT h7 n0 OL7 pr8 pr3 pr1) hZ (wd24 hw) (wd3 hw) (by decide) (by decide)) q14a q14c (g := (mkF m 76 #[.val (.int p1), .val (.int p2), .val (.int p3), .val (.ref b1), .val (.ref w_DOUBLE), .val (.ref w_INT), .val (.ref w_DOUBLE), .val (.ref w_DOUBLE), .unset, .unset, .unset] [(.ref w_INT), (.ref w_DOUBLE)])) rfl (by rw [hml]; rfl) (Steps.refl _) (argsL := [(.ref w_INT)]) (rest := []) (lenOf pd_2 rfl) rfl (by show 2 * 0 + _ ≤ _; exact Nat.le_of_eq rfl) (hb hby at_76) (fun _ _ => ⟨rfl, ec13, (by decide : 1 + 0 ≤ _), (by decide : 2 + 0 ≤ _)⟩)
  dsimp only [Pt.U, Pt.locs, Pt.cells, Pt.slots] at X14 l14 y14 z14 st14 hQ14
  subst l14 y14 z14
  obtain ⟨rfl, Nq14, ec14⟩ := hQ14
  have N14 := Fr.app N13 Nq14
  obtain ⟨cq15, kq15, q15a, q15b, q15c⟩ := isOf hZ ec14 (pr4.ext OL7.2)
  obtain ⟨_, _, ⟨T15, L15, k15, n15⟩, -, X15, ⟨Lc15, hQ15, l15, y15, z15⟩, st15⟩ := X14.virtualBack hx (y := (⟨"com/example/rigorous_chains/rigorouschains/prism/Type", "accepts", "(Lcom/example/rigorous_chains/rigorouschains/prism/Type;)Z"⟩ : MethodName)) (z := (⟨"com/example/rigorous_chains/rigorouschains/prism/Type", "accepts", "(Lcom/example/rigorous_chains/rigorouschains/prism/Type;)Z"⟩ : MethodName)) hown (mvT hZ (wd20 hw)) (mvT hZ (wd21 hw)) (notFace_of_selects (args := #[]) (mvT hZ (wd23 hw))) (mvT hZ (wd23 hw)) (mvT hZ (wd22 hw)) (by decide) (backOf (W := 0) (rm3_0 l Z a0 hw [] w_DOUBLE h7 n0 OL7 ) hZ (wd24 hw) (wd3 hw) (by decide) (by decide)) q15a q15c (g := (mkF m 93 #[.val (.int p1), .val (.int p2), .val (.int p3), .val (.ref b1), .val (.ref w_DOUBLE), .val (.ref w_INT), .val (.ref w_DOUBLE), .val (.ref w_DOUBLE), .val (.int (1 : Int32)), .unset, .unset] [(.ref w_DOUBLE), (.ref w_DOUBLE)])) rfl (by rw [hml]; rfl) (Steps.refl _) (argsL := [(.ref w_DOUBLE)]) (rest := []) (lenOf pd_2 rfl) rfl (by show 2 * 0 + _ ≤ _; exact Nat.le_of_eq rfl) (hb hby at_93) (fun _ _ => ⟨rfl, ec14, (by decide : 1 + 0 ≤ _), (by decide : 2 + 0 ≤ _)⟩)
  dsimp only [Pt.U, Pt.locs, Pt.cells, Pt.slots] at X15 l15 y15 z15 st15 hQ15
  subst l15 y15 z15
  obtain ⟨rfl, Nq15, ec15⟩ := hQ15
  have N15 := Fr.app N14 Nq15
  obtain ⟨cq16, kq16, q16a, q16b, q16c⟩ := isOf hZ ec15 (pr4.ext OL7.2)
  obtain ⟨_, _, ⟨T16, L16, k16, n16⟩, -, X16, ⟨Lc16, hQ16, l16, y16, z16⟩, st16⟩ := X15.virtualBack hx (y := (⟨"com/example/rigorous_chains/rigorouschains/prism/Type", "accepts", "(Lcom/example/rigorous_chains/rigorouschains/prism/Type;)Z"⟩ : MethodName)) (z := (⟨"com/example/rigorous_chains/rigorouschains/prism/Type", "accepts", "(Lcom/example/rigorous_chains/rigorouschains/prism/Type;)Z"⟩ : MethodName)) hown (mvT hZ (wd20 hw)) (mvT hZ (wd21 hw)) (notFace_of_selects (args := #[]) (mvT hZ (wd23 hw))) (mvT hZ (wd23 hw)) (mvT hZ (wd22 hw)) (by decide) (backOf (W := 0) (rm3_1 l Z a0 hw [] w_DOUBLE w_INT h7 n0 OL7 pr8 pr3 pr1) hZ (wd24 hw) (wd3 hw) (by decide) (by decide)) q16a q16c (g := (mkF m 103 #[.val (.int p1), .val (.int p2), .val (.int p3), .val (.ref b1), .val (.ref w_DOUBLE), .val (.ref w_INT), .val (.ref w_DOUBLE), .val (.ref w_DOUBLE), .val (.int (1 : Int32)), .unset, .unset] [(.ref w_INT), (.ref w_DOUBLE)])) rfl (by rw [hml]; rfl) (Steps.refl _) (argsL := [(.ref w_INT)]) (rest := []) (lenOf pd_2 rfl) rfl (by show 2 * 0 + _ ≤ _; exact Nat.le_of_eq rfl) (hb hby at_103) (fun _ _ => ⟨rfl, ec15, (by decide : 1 + 0 ≤ _), (by decide : 2 + 0 ≤ _)⟩)
  dsimp only [Pt.U, Pt.locs, Pt.cells, Pt.slots] at X16 l16 y16 z16 st16 hQ16
  subst l16 y16 z16
  obtain ⟨rfl, Nq16, ec16⟩ := hQ16
  have N16 := Fr.app N15 Nq16
  obtain ⟨cq17, kq17, q17a, q17b, q17c⟩ := isOf hZ ec16 (pr4.ext OL7.2)
  obtain ⟨_, _, ⟨T17, L17, k17, n17⟩, -, X17, ⟨Lc17, hQ17, l17, y17, z17⟩, st17⟩ := X16.virtualBack hx (y := (⟨"com/example/rigorous_chains/rigorouschains/prism/Type", "accepts", "(Lcom/example/rigorous_chains/rigorouschains/prism/Type;)Z"⟩ : MethodName)) (z := (⟨"com/example/rigorous_chains/rigorouschains/prism/Type", "accepts", "(Lcom/example/rigorous_chains/rigorouschains/prism/Type;)Z"⟩ : MethodName)) hown (mvT hZ (wd20 hw)) (mvT hZ (wd21 hw)) (notFace_of_selects (args := #[]) (mvT hZ (wd23 hw))) (mvT hZ (wd23 hw)) (mvT hZ (wd22 hw)) (by decide) (backOf (W := 0) (rm3_0 l Z a0 hw [] w_DOUBLE h7 n0 OL7 ) hZ (wd24 hw) (wd3 hw) (by decide) (by decide)) q17a q17c (g := (mkF m 113 #[.val (.int p1), .val (.int p2), .val (.int p3), .val (.ref b1), .val (.ref w_DOUBLE), .val (.ref w_INT), .val (.ref w_DOUBLE), .val (.ref w_DOUBLE), .val (.int (1 : Int32)), .unset, .unset] [(.ref w_DOUBLE), (.ref w_DOUBLE)])) rfl (by rw [hml]; rfl) (Steps.refl _) (argsL := [(.ref w_DOUBLE)]) (rest := []) (lenOf pd_2 rfl) rfl (by show 2 * 0 + _ ≤ _; exact Nat.le_of_eq rfl) (hb hby at_113) (fun _ _ => ⟨rfl, ec16, (by decide : 1 + 0 ≤ _), (by decide : 2 + 0 ≤ _)⟩)
  dsimp only [Pt.U, Pt.locs, Pt.cells, Pt.slots] at X17 l17 y17 z17 st17 hQ17
  subst l17 y17 z17
  obtain ⟨rfl, Nq17, ec17⟩ := hQ17
  have N17 := Fr.app N16 Nq17
  obtain ⟨_, _, ⟨T18, L18, k18, n18⟩, -, X18, ⟨Lc18, hQ18, l18, y18, z18⟩, st18⟩ := Jvm.LawKit.callS X17 hx (y := (⟨"com/example/rigorous_chains/rigorouschains/prism/Type", "widest", "(Lcom/example/rigorous_chains/rigorouschains/prism/Type;Lcom/example/rigorous_chains/rigorouschains/prism/Type;)Lcom/example/rigorous_chains/rigorouschains/prism/Type;"⟩ : MethodName)) hown (mvT hZ (wd8 hw)) (mvT hZ (wd9 hw)) (mvT hZ (wd3 hw)) (mvT hZ (wd10 hw)) (by decide) (backOf (W := 0) (rm1_1 l Z a0 hw [] w_INT w_DOUBLE h7 n0 OL7 pr1 pr8 pr3) hZ (wd10 hw) (wd3 hw) (by decide) (by decide)) (g := (mkF m 130 #[.val (.int p1), .val (.int p2), .val (.int p3), .val (.ref b1), .val (.ref w_DOUBLE), .val (.ref w_INT), .val (.ref w_DOUBLE), .val (.ref w_DOUBLE), .val (.int (1 : Int32)), .val (.int (1 : Int32)), .unset] [(.ref w_DOUBLE), (.ref w_INT)])) rfl (by rw [hml]; rfl) (argsL := [(.ref w_INT), (.ref w_DOUBLE)]) (rest := []) (lenOf pd_0 rfl) rfl (by show 2 * 0 + _ ≤ _; exact Nat.le_of_eq rfl) (hb hby at_130) (fun _ _ => ⟨rfl, ec17, (by decide : 1 + 0 ≤ _), (by decide : 2 + 0 ≤ _)⟩)
  dsimp only [Pt.U, Pt.locs, Pt.cells, Pt.slots] at X18 l18 y18 z18 st18 hQ18
  subst l18 y18 z18
  obtain ⟨rfl, Nq18, ec18⟩ := hQ18
  have N18 := Fr.app N17 Nq18
  obtain ⟨fs, hr, hrun, hended, hW, hsame⟩ := X18.leave (v := some (.int (1 : Int32))) (fun h => by rw [Bd.returns] at h; cases h)
  refine ⟨_, _, pre0 _ ?_, hrun, hended, _, _, rfl, ?_, ⟨_, rfl⟩, hW, hsame.mono (by decide) (by decide)⟩
  · show Steps p.tables e below (s₁.setTop (mkF m 0 #[.val (.int p1), .val (.int p2), .val (.int p3), .unset, .unset, .unset, .unset, .unset, .unset, .unset, .unset] [])) _
    refine XS.iconst X0.here hx rfl (hb hby at_0) ?_
    show Steps p.tables e below (s₁.setTop (mkF m 1 #[.val (.int p1), .val (.int p2), .val (.int p3), .unset, .unset, .unset, .unset, .unset, .unset, .unset, .unset] [(.int (2 : Int32))])) _
    refine st1 _ ?_
    show Steps p.tables e below (T1.setTop (mkF m 4 #[.val (.int p1), .val (.int p2), .val (.int p3), .unset, .unset, .unset, .unset, .unset, .unset, .unset, .unset] [(.ref b1)])) _
    refine XS.dup X1.here hx rfl (hb hby at_4) rfl rfl ?_
    show Steps p.tables e below (T1.setTop (mkF m 5 #[.val (.int p1), .val (.int p2), .val (.int p3), .unset, .unset, .unset, .unset, .unset, .unset, .unset, .unset] [(.ref b1), (.ref b1)])) _
    refine XS.iconst X1.here hx rfl (hb hby at_5) ?_
    show Steps p.tables e below (T1.setTop (mkF m 6 #[.val (.int p1), .val (.int p2), .val (.int p3), .unset, .unset, .unset, .unset, .unset, .unset, .unset, .unset] [(.int (0 : Int32)), (.ref b1), (.ref b1)])) _
    refine st2 _ ?_
    show Steps p.tables e below (T2.setTop (mkF m 9 #[.val (.int p1), .val (.int p2), .val (.int p3), .unset, .unset, .unset, .unset, .unset, .unset, .unset, .unset] [(.ref w_INT), (.int (0 : Int32)), (.ref b1), (.ref b1)])) _
    refine st4 _ ?_
    show Steps p.tables e below (T4.setTop (mkF m 10 #[.val (.int p1), .val (.int p2), .val (.int p3), .unset, .unset, .unset, .unset, .unset, .unset, .unset, .unset] [(.ref b1)])) _
    refine XS.dup X4.here hx rfl (hb hby at_10) rfl rfl ?_
    show Steps p.tables e below (T4.setTop (mkF m 11 #[.val (.int p1), .val (.int p2), .val (.int p3), .unset, .unset, .unset, .unset, .unset, .unset, .unset, .unset] [(.ref b1), (.ref b1)])) _
    refine XS.iconst X4.here hx rfl (hb hby at_11) ?_
    show Steps p.tables e below (T4.setTop (mkF m 12 #[.val (.int p1), .val (.int p2), .val (.int p3), .unset, .unset, .unset, .unset, .unset, .unset, .unset, .unset] [(.int (1 : Int32)), (.ref b1), (.ref b1)])) _
    refine st5 _ ?_
    show Steps p.tables e below (T5.setTop (mkF m 15 #[.val (.int p1), .val (.int p2), .val (.int p3), .unset, .unset, .unset, .unset, .unset, .unset, .unset, .unset] [(.ref w_DOUBLE), (.int (1 : Int32)), (.ref b1), (.ref b1)])) _
    refine st7 _ ?_
    show Steps p.tables e below (T7.setTop (mkF m 16 #[.val (.int p1), .val (.int p2), .val (.int p3), .unset, .unset, .unset, .unset, .unset, .unset, .unset, .unset] [(.ref b1)])) _
    refine XS.astoreN X7.here hx rfl (hb hby at_16) rfl rfl (l' := #[.val (.int p1), .val (.int p2), .val (.int p3), .val (.ref b1), .unset, .unset, .unset, .unset, .unset, .unset, .unset]) rfl ?_
    show Steps p.tables e below (T7.setTop (mkF m 17 #[.val (.int p1), .val (.int p2), .val (.int p3), .val (.ref b1), .unset, .unset, .unset, .unset, .unset, .unset, .unset] [])) _
    refine XS.aloadN X7.here hx rfl (hb hby at_17) rfl rfl ?_
    show Steps p.tables e below (T7.setTop (mkF m 18 #[.val (.int p1), .val (.int p2), .val (.int p3), .val (.ref b1), .unset, .unset, .unset, .unset, .unset, .unset, .unset] [(.ref b1)])) _
    refine XS.iloadN X7.here hx rfl (hb hby at_18) rfl ?_
    show Steps p.tables e below (T7.setTop (mkF m 19 #[.val (.int p1), .val (.int p2), .val (.int p3), .val (.ref b1), .unset, .unset, .unset, .unset, .unset, .unset, .unset] [(.int p1), (.ref b1)])) _
    refine XS.iconst X7.here hx rfl (hb hby at_19) ?_
    show Steps p.tables e below (T7.setTop (mkF m 20 #[.val (.int p1), .val (.int p2), .val (.int p3), .val (.ref b1), .unset, .unset, .unset, .unset, .unset, .unset, .unset] [(.int (1 : Int32)), (.int p1), (.ref b1)])) _
    refine XS.iand X7.here hx rfl (hb hby at_20) rfl ?_
    show Steps p.tables e below (T7.setTop (mkF m 21 #[.val (.int p1), .val (.int p2), .val (.int p3), .val (.ref b1), .unset, .unset, .unset, .unset, .unset, .unset, .unset] [(.int (p1 &&& (1 : Int32))), (.ref b1)])) _
    rw [pr5]
    show Steps p.tables e below (T7.setTop (mkF m 21 #[.val (.int p1), .val (.int p2), .val (.int p3), .val (.ref b1), .unset, .unset, .unset, .unset, .unset, .unset, .unset] [(.int (1 : Int32)), (.ref b1)])) _
    refine X7.aaload hx (j := (1 : Int32)) (v := (.ref w_DOUBLE)) (by rw [e7]; exact Ar8.1) (State.isArrayOf_alike hZ.alike Ar8.2.1) rfl Ar8.2.2 hin8 hat8 (g := (mkF m 21 #[.val (.int p1), .val (.int p2), .val (.int p3), .val (.ref b1), .unset, .unset, .unset, .unset, .unset, .unset, .unset] [(.int (1 : Int32)), (.ref b1)])) rfl rfl (hb hby at_21) _ ?_
    show Steps p.tables e below (T7.setTop (mkF m 22 #[.val (.int p1), .val (.int p2), .val (.int p3), .val (.ref b1), .unset, .unset, .unset, .unset, .unset, .unset, .unset] [(.ref w_DOUBLE)])) _
    refine XS.astore X7.here hx rfl (hb hby at_22) rfl rfl (l' := #[.val (.int p1), .val (.int p2), .val (.int p3), .val (.ref b1), .val (.ref w_DOUBLE), .unset, .unset, .unset, .unset, .unset, .unset]) rfl ?_
    show Steps p.tables e below (T7.setTop (mkF m 24 #[.val (.int p1), .val (.int p2), .val (.int p3), .val (.ref b1), .val (.ref w_DOUBLE), .unset, .unset, .unset, .unset, .unset, .unset] [])) _
    refine XS.aloadN X7.here hx rfl (hb hby at_24) rfl rfl ?_
    show Steps p.tables e below (T7.setTop (mkF m 25 #[.val (.int p1), .val (.int p2), .val (.int p3), .val (.ref b1), .val (.ref w_DOUBLE), .unset, .unset, .unset, .unset, .unset, .unset] [(.ref b1)])) _
    refine XS.iloadN X7.here hx rfl (hb hby at_25) rfl ?_
    show Steps p.tables e below (T7.setTop (mkF m 26 #[.val (.int p1), .val (.int p2), .val (.int p3), .val (.ref b1), .val (.ref w_DOUBLE), .unset, .unset, .unset, .unset, .unset, .unset] [(.int p2), (.ref b1)])) _
    refine XS.iconst X7.here hx rfl (hb hby at_26) ?_
    show Steps p.tables e below (T7.setTop (mkF m 27 #[.val (.int p1), .val (.int p2), .val (.int p3), .val (.ref b1), .val (.ref w_DOUBLE), .unset, .unset, .unset, .unset, .unset, .unset] [(.int (1 : Int32)), (.int p2), (.ref b1)])) _
    refine XS.iand X7.here hx rfl (hb hby at_27) rfl ?_
    show Steps p.tables e below (T7.setTop (mkF m 28 #[.val (.int p1), .val (.int p2), .val (.int p3), .val (.ref b1), .val (.ref w_DOUBLE), .unset, .unset, .unset, .unset, .unset, .unset] [(.int (p2 &&& (1 : Int32))), (.ref b1)])) _
    rw [pr6]
    show Steps p.tables e below (T7.setTop (mkF m 28 #[.val (.int p1), .val (.int p2), .val (.int p3), .val (.ref b1), .val (.ref w_DOUBLE), .unset, .unset, .unset, .unset, .unset, .unset] [(.int (0 : Int32)), (.ref b1)])) _
    refine X7.aaload hx (j := (0 : Int32)) (v := (.ref w_INT)) (by rw [e7]; exact Ar9.1) (State.isArrayOf_alike hZ.alike Ar9.2.1) rfl Ar9.2.2 hin9 hat9 (g := (mkF m 28 #[.val (.int p1), .val (.int p2), .val (.int p3), .val (.ref b1), .val (.ref w_DOUBLE), .unset, .unset, .unset, .unset, .unset, .unset] [(.int (0 : Int32)), (.ref b1)])) rfl rfl (hb hby at_28) _ ?_
    show Steps p.tables e below (T7.setTop (mkF m 29 #[.val (.int p1), .val (.int p2), .val (.int p3), .val (.ref b1), .val (.ref w_DOUBLE), .unset, .unset, .unset, .unset, .unset, .unset] [(.ref w_INT)])) _
    refine XS.astore X7.here hx rfl (hb hby at_29) rfl rfl (l' := #[.val (.int p1), .val (.int p2), .val (.int p3), .val (.ref b1), .val (.ref w_DOUBLE), .val (.ref w_INT), .unset, .unset, .unset, .unset, .unset]) rfl ?_
    show Steps p.tables e below (T7.setTop (mkF m 31 #[.val (.int p1), .val (.int p2), .val (.int p3), .val (.ref b1), .val (.ref w_DOUBLE), .val (.ref w_INT), .unset, .unset, .unset, .unset, .unset] [])) _
    refine XS.aloadN X7.here hx rfl (hb hby at_31) rfl rfl ?_
    show Steps p.tables e below (T7.setTop (mkF m 32 #[.val (.int p1), .val (.int p2), .val (.int p3), .val (.ref b1), .val (.ref w_DOUBLE), .val (.ref w_INT), .unset, .unset, .unset, .unset, .unset] [(.ref b1)])) _
    refine XS.iloadN X7.here hx rfl (hb hby at_32) rfl ?_
    show Steps p.tables e below (T7.setTop (mkF m 33 #[.val (.int p1), .val (.int p2), .val (.int p3), .val (.ref b1), .val (.ref w_DOUBLE), .val (.ref w_INT), .unset, .unset, .unset, .unset, .unset] [(.int p3), (.ref b1)])) _
    refine XS.iconst X7.here hx rfl (hb hby at_33) ?_
    show Steps p.tables e below (T7.setTop (mkF m 34 #[.val (.int p1), .val (.int p2), .val (.int p3), .val (.ref b1), .val (.ref w_DOUBLE), .val (.ref w_INT), .unset, .unset, .unset, .unset, .unset] [(.int (1 : Int32)), (.int p3), (.ref b1)])) _
    refine XS.iand X7.here hx rfl (hb hby at_34) rfl ?_
    show Steps p.tables e below (T7.setTop (mkF m 35 #[.val (.int p1), .val (.int p2), .val (.int p3), .val (.ref b1), .val (.ref w_DOUBLE), .val (.ref w_INT), .unset, .unset, .unset, .unset, .unset] [(.int (p3 &&& (1 : Int32))), (.ref b1)])) _
    rw [pr7]
    show Steps p.tables e below (T7.setTop (mkF m 35 #[.val (.int p1), .val (.int p2), .val (.int p3), .val (.ref b1), .val (.ref w_DOUBLE), .val (.ref w_INT), .unset, .unset, .unset, .unset, .unset] [(.int (1 : Int32)), (.ref b1)])) _
    refine X7.aaload hx (j := (1 : Int32)) (v := (.ref w_DOUBLE)) (by rw [e7]; exact Ar10.1) (State.isArrayOf_alike hZ.alike Ar10.2.1) rfl Ar10.2.2 hin10 hat10 (g := (mkF m 35 #[.val (.int p1), .val (.int p2), .val (.int p3), .val (.ref b1), .val (.ref w_DOUBLE), .val (.ref w_INT), .unset, .unset, .unset, .unset, .unset] [(.int (1 : Int32)), (.ref b1)])) rfl rfl (hb hby at_35) _ ?_
    show Steps p.tables e below (T7.setTop (mkF m 36 #[.val (.int p1), .val (.int p2), .val (.int p3), .val (.ref b1), .val (.ref w_DOUBLE), .val (.ref w_INT), .unset, .unset, .unset, .unset, .unset] [(.ref w_DOUBLE)])) _
    refine XS.astore X7.here hx rfl (hb hby at_36) rfl rfl (l' := #[.val (.int p1), .val (.int p2), .val (.int p3), .val (.ref b1), .val (.ref w_DOUBLE), .val (.ref w_INT), .val (.ref w_DOUBLE), .unset, .unset, .unset, .unset]) rfl ?_
    show Steps p.tables e below (T7.setTop (mkF m 38 #[.val (.int p1), .val (.int p2), .val (.int p3), .val (.ref b1), .val (.ref w_DOUBLE), .val (.ref w_INT), .val (.ref w_DOUBLE), .unset, .unset, .unset, .unset] [])) _
    refine XS.aload X7.here hx rfl (hb hby at_38) rfl rfl ?_
    show Steps p.tables e below (T7.setTop (mkF m 40 #[.val (.int p1), .val (.int p2), .val (.int p3), .val (.ref b1), .val (.ref w_DOUBLE), .val (.ref w_INT), .val (.ref w_DOUBLE), .unset, .unset, .unset, .unset] [(.ref w_DOUBLE)])) _
    refine XS.aload X7.here hx rfl (hb hby at_40) rfl rfl ?_
    show Steps p.tables e below (T7.setTop (mkF m 42 #[.val (.int p1), .val (.int p2), .val (.int p3), .val (.ref b1), .val (.ref w_DOUBLE), .val (.ref w_INT), .val (.ref w_DOUBLE), .unset, .unset, .unset, .unset] [(.ref w_INT), (.ref w_DOUBLE)])) _
    refine st11 _ ?_
    show Steps p.tables e below (T11.setTop (mkF m 45 #[.val (.int p1), .val (.int p2), .val (.int p3), .val (.ref b1), .val (.ref w_DOUBLE), .val (.ref w_INT), .val (.ref w_DOUBLE), .unset, .unset, .unset, .unset] [(.ref w_DOUBLE)])) _
    refine XS.astore X11.here hx rfl (hb hby at_45) rfl rfl (l' := #[.val (.int p1), .val (.int p2), .val (.int p3), .val (.ref b1), .val (.ref w_DOUBLE), .val (.ref w_INT), .val (.ref w_DOUBLE), .val (.ref w_DOUBLE), .unset, .unset, .unset]) rfl ?_
    show Steps p.tables e below (T11.setTop (mkF m 47 #[.val (.int p1), .val (.int p2), .val (.int p3), .val (.ref b1), .val (.ref w_DOUBLE), .val (.ref w_INT), .val (.ref w_DOUBLE), .val (.ref w_DOUBLE), .unset, .unset, .unset] [])) _
    refine XS.aload X11.here hx rfl (hb hby at_47) rfl rfl ?_
    show Steps p.tables e below (T11.setTop (mkF m 49 #[.val (.int p1), .val (.int p2), .val (.int p3), .val (.ref b1), .val (.ref w_DOUBLE), .val (.ref w_INT), .val (.ref w_DOUBLE), .val (.ref w_DOUBLE), .unset, .unset, .unset] [(.ref w_DOUBLE)])) _
    refine XS.ifnonnullYes X11.here hx rfl (pc0 := 49) (pc' := 54) rfl (hb hby at_49) rfl (by decide) (by decide) ?_
    show Steps p.tables e below (T11.setTop (mkF m 54 #[.val (.int p1), .val (.int p2), .val (.int p3), .val (.ref b1), .val (.ref w_DOUBLE), .val (.ref w_INT), .val (.ref w_DOUBLE), .val (.ref w_DOUBLE), .unset, .unset, .unset] [])) _
    refine XS.aload X11.here hx rfl (hb hby at_54) rfl rfl ?_
    show Steps p.tables e below (T11.setTop (mkF m 56 #[.val (.int p1), .val (.int p2), .val (.int p3), .val (.ref b1), .val (.ref w_DOUBLE), .val (.ref w_INT), .val (.ref w_DOUBLE), .val (.ref w_DOUBLE), .unset, .unset, .unset] [(.ref w_DOUBLE)])) _
    refine st12.trans ?_
    show Steps p.tables e below (T12.setTop (mkF m 59 #[.val (.int p1), .val (.int p2), .val (.int p3), .val (.ref b1), .val (.ref w_DOUBLE), .val (.ref w_INT), .val (.ref w_DOUBLE), .val (.ref w_DOUBLE), .unset, .unset, .unset] [(.int (1 : Int32))])) _
    refine XS.ifNo X12.here hx rfl (hb hby at_59) rfl ((if0 _ _).trans (feq (by decide : ¬ ((1 : Int32) = (0 : Int32)))).1) ?_
    show Steps p.tables e below (T12.setTop (mkF m 62 #[.val (.int p1), .val (.int p2), .val (.int p3), .val (.ref b1), .val (.ref w_DOUBLE), .val (.ref w_INT), .val (.ref w_DOUBLE), .val (.ref w_DOUBLE), .unset, .unset, .unset] [])) _
    refine XS.aload X12.here hx rfl (hb hby at_62) rfl rfl ?_
    show Steps p.tables e below (T12.setTop (mkF m 64 #[.val (.int p1), .val (.int p2), .val (.int p3), .val (.ref b1), .val (.ref w_DOUBLE), .val (.ref w_INT), .val (.ref w_DOUBLE), .val (.ref w_DOUBLE), .unset, .unset, .unset] [(.ref w_DOUBLE)])) _
    refine XS.aload X12.here hx rfl (hb hby at_64) rfl rfl ?_
    show Steps p.tables e below (T12.setTop (mkF m 66 #[.val (.int p1), .val (.int p2), .val (.int p3), .val (.ref b1), .val (.ref w_DOUBLE), .val (.ref w_INT), .val (.ref w_DOUBLE), .val (.ref w_DOUBLE), .unset, .unset, .unset] [(.ref w_DOUBLE), (.ref w_DOUBLE)])) _
    refine st13.trans ?_
    show Steps p.tables e below (T13.setTop (mkF m 69 #[.val (.int p1), .val (.int p2), .val (.int p3), .val (.ref b1), .val (.ref w_DOUBLE), .val (.ref w_INT), .val (.ref w_DOUBLE), .val (.ref w_DOUBLE), .unset, .unset, .unset] [(.int (1 : Int32))])) _
    refine XS.ifNo X13.here hx rfl (hb hby at_69) rfl ((if0 _ _).trans (feq (by decide : ¬ ((1 : Int32) = (0 : Int32)))).1) ?_
    show Steps p.tables e below (T13.setTop (mkF m 72 #[.val (.int p1), .val (.int p2), .val (.int p3), .val (.ref b1), .val (.ref w_DOUBLE), .val (.ref w_INT), .val (.ref w_DOUBLE), .val (.ref w_DOUBLE), .unset, .unset, .unset] [])) _
    refine XS.aload X13.here hx rfl (hb hby at_72) rfl rfl ?_
    show Steps p.tables e below (T13.setTop (mkF m 74 #[.val (.int p1), .val (.int p2), .val (.int p3), .val (.ref b1), .val (.ref w_DOUBLE), .val (.ref w_INT), .val (.ref w_DOUBLE), .val (.ref w_DOUBLE), .unset, .unset, .unset] [(.ref w_DOUBLE)])) _
    refine XS.aload X13.here hx rfl (hb hby at_74) rfl rfl ?_
    show Steps p.tables e below (T13.setTop (mkF m 76 #[.val (.int p1), .val (.int p2), .val (.int p3), .val (.ref b1), .val (.ref w_DOUBLE), .val (.ref w_INT), .val (.ref w_DOUBLE), .val (.ref w_DOUBLE), .unset, .unset, .unset] [(.ref w_INT), (.ref w_DOUBLE)])) _
    refine st14.trans ?_
    show Steps p.tables e below (T14.setTop (mkF m 79 #[.val (.int p1), .val (.int p2), .val (.int p3), .val (.ref b1), .val (.ref w_DOUBLE), .val (.ref w_INT), .val (.ref w_DOUBLE), .val (.ref w_DOUBLE), .unset, .unset, .unset] [(.int (1 : Int32))])) _
    refine XS.ifNo X14.here hx rfl (hb hby at_79) rfl ((if0 _ _).trans (feq (by decide : ¬ ((1 : Int32) = (0 : Int32)))).1) ?_
    show Steps p.tables e below (T14.setTop (mkF m 82 #[.val (.int p1), .val (.int p2), .val (.int p3), .val (.ref b1), .val (.ref w_DOUBLE), .val (.ref w_INT), .val (.ref w_DOUBLE), .val (.ref w_DOUBLE), .unset, .unset, .unset] [])) _
    refine XS.iconst X14.here hx rfl (hb hby at_82) ?_
    show Steps p.tables e below (T14.setTop (mkF m 83 #[.val (.int p1), .val (.int p2), .val (.int p3), .val (.ref b1), .val (.ref w_DOUBLE), .val (.ref w_INT), .val (.ref w_DOUBLE), .val (.ref w_DOUBLE), .unset, .unset, .unset] [(.int (1 : Int32))])) _
    refine XS.goto X14.here hx rfl (pc0 := 83) (pc' := 87) rfl (hb hby at_83) (by decide) (by decide) ?_
    show Steps p.tables e below (T14.setTop (mkF m 87 #[.val (.int p1), .val (.int p2), .val (.int p3), .val (.ref b1), .val (.ref w_DOUBLE), .val (.ref w_INT), .val (.ref w_DOUBLE), .val (.ref w_DOUBLE), .unset, .unset, .unset] [(.int (1 : Int32))])) _
    refine XS.istore X14.here hx rfl (hb hby at_87) rfl (l' := #[.val (.int p1), .val (.int p2), .val (.int p3), .val (.ref b1), .val (.ref w_DOUBLE), .val (.ref w_INT), .val (.ref w_DOUBLE), .val (.ref w_DOUBLE), .val (.int (1 : Int32)), .unset, .unset]) rfl ?_
    show Steps p.tables e below (T14.setTop (mkF m 89 #[.val (.int p1), .val (.int p2), .val (.int p3), .val (.ref b1), .val (.ref w_DOUBLE), .val (.ref w_INT), .val (.ref w_DOUBLE), .val (.ref w_DOUBLE), .val (.int (1 : Int32)), .unset, .unset] [])) _
    refine XS.aload X14.here hx rfl (hb hby at_89) rfl rfl ?_
    show Steps p.tables e below (T14.setTop (mkF m 91 #[.val (.int p1), .val (.int p2), .val (.int p3), .val (.ref b1), .val (.ref w_DOUBLE), .val (.ref w_INT), .val (.ref w_DOUBLE), .val (.ref w_DOUBLE), .val (.int (1 : Int32)), .unset, .unset] [(.ref w_DOUBLE)])) _
    refine XS.aload X14.here hx rfl (hb hby at_91) rfl rfl ?_
    show Steps p.tables e below (T14.setTop (mkF m 93 #[.val (.int p1), .val (.int p2), .val (.int p3), .val (.ref b1), .val (.ref w_DOUBLE), .val (.ref w_INT), .val (.ref w_DOUBLE), .val (.ref w_DOUBLE), .val (.int (1 : Int32)), .unset, .unset] [(.ref w_DOUBLE), (.ref w_DOUBLE)])) _
    refine st15.trans ?_
    show Steps p.tables e below (T15.setTop (mkF m 96 #[.val (.int p1), .val (.int p2), .val (.int p3), .val (.ref b1), .val (.ref w_DOUBLE), .val (.ref w_INT), .val (.ref w_DOUBLE), .val (.ref w_DOUBLE), .val (.int (1 : Int32)), .unset, .unset] [(.int (1 : Int32))])) _
    refine XS.ifNo X15.here hx rfl (hb hby at_96) rfl ((if0 _ _).trans (feq (by decide : ¬ ((1 : Int32) = (0 : Int32)))).1) ?_
    show Steps p.tables e below (T15.setTop (mkF m 99 #[.val (.int p1), .val (.int p2), .val (.int p3), .val (.ref b1), .val (.ref w_DOUBLE), .val (.ref w_INT), .val (.ref w_DOUBLE), .val (.ref w_DOUBLE), .val (.int (1 : Int32)), .unset, .unset] [])) _
    refine XS.aload X15.here hx rfl (hb hby at_99) rfl rfl ?_
    show Steps p.tables e below (T15.setTop (mkF m 101 #[.val (.int p1), .val (.int p2), .val (.int p3), .val (.ref b1), .val (.ref w_DOUBLE), .val (.ref w_INT), .val (.ref w_DOUBLE), .val (.ref w_DOUBLE), .val (.int (1 : Int32)), .unset, .unset] [(.ref w_DOUBLE)])) _
    refine XS.aload X15.here hx rfl (hb hby at_101) rfl rfl ?_
    show Steps p.tables e below (T15.setTop (mkF m 103 #[.val (.int p1), .val (.int p2), .val (.int p3), .val (.ref b1), .val (.ref w_DOUBLE), .val (.ref w_INT), .val (.ref w_DOUBLE), .val (.ref w_DOUBLE), .val (.int (1 : Int32)), .unset, .unset] [(.ref w_INT), (.ref w_DOUBLE)])) _
    refine st16.trans ?_
    show Steps p.tables e below (T16.setTop (mkF m 106 #[.val (.int p1), .val (.int p2), .val (.int p3), .val (.ref b1), .val (.ref w_DOUBLE), .val (.ref w_INT), .val (.ref w_DOUBLE), .val (.ref w_DOUBLE), .val (.int (1 : Int32)), .unset, .unset] [(.int (1 : Int32))])) _
    refine XS.ifNo X16.here hx rfl (hb hby at_106) rfl ((if0 _ _).trans (feq (by decide : ¬ ((1 : Int32) = (0 : Int32)))).1) ?_
    show Steps p.tables e below (T16.setTop (mkF m 109 #[.val (.int p1), .val (.int p2), .val (.int p3), .val (.ref b1), .val (.ref w_DOUBLE), .val (.ref w_INT), .val (.ref w_DOUBLE), .val (.ref w_DOUBLE), .val (.int (1 : Int32)), .unset, .unset] [])) _
    refine XS.aload X16.here hx rfl (hb hby at_109) rfl rfl ?_
    show Steps p.tables e below (T16.setTop (mkF m 111 #[.val (.int p1), .val (.int p2), .val (.int p3), .val (.ref b1), .val (.ref w_DOUBLE), .val (.ref w_INT), .val (.ref w_DOUBLE), .val (.ref w_DOUBLE), .val (.int (1 : Int32)), .unset, .unset] [(.ref w_DOUBLE)])) _
    refine XS.aload X16.here hx rfl (hb hby at_111) rfl rfl ?_
    show Steps p.tables e below (T16.setTop (mkF m 113 #[.val (.int p1), .val (.int p2), .val (.int p3), .val (.ref b1), .val (.ref w_DOUBLE), .val (.ref w_INT), .val (.ref w_DOUBLE), .val (.ref w_DOUBLE), .val (.int (1 : Int32)), .unset, .unset] [(.ref w_DOUBLE), (.ref w_DOUBLE)])) _
    refine st17.trans ?_
    show Steps p.tables e below (T17.setTop (mkF m 116 #[.val (.int p1), .val (.int p2), .val (.int p3), .val (.ref b1), .val (.ref w_DOUBLE), .val (.ref w_INT), .val (.ref w_DOUBLE), .val (.ref w_DOUBLE), .val (.int (1 : Int32)), .unset, .unset] [(.int (1 : Int32))])) _
    refine XS.ifNo X17.here hx rfl (hb hby at_116) rfl ((if0 _ _).trans (feq (by decide : ¬ ((1 : Int32) = (0 : Int32)))).1) ?_
    show Steps p.tables e below (T17.setTop (mkF m 119 #[.val (.int p1), .val (.int p2), .val (.int p3), .val (.ref b1), .val (.ref w_DOUBLE), .val (.ref w_INT), .val (.ref w_DOUBLE), .val (.ref w_DOUBLE), .val (.int (1 : Int32)), .unset, .unset] [])) _
    refine XS.iconst X17.here hx rfl (hb hby at_119) ?_
    show Steps p.tables e below (T17.setTop (mkF m 120 #[.val (.int p1), .val (.int p2), .val (.int p3), .val (.ref b1), .val (.ref w_DOUBLE), .val (.ref w_INT), .val (.ref w_DOUBLE), .val (.ref w_DOUBLE), .val (.int (1 : Int32)), .unset, .unset] [(.int (1 : Int32))])) _
    refine XS.goto X17.here hx rfl (pc0 := 120) (pc' := 124) rfl (hb hby at_120) (by decide) (by decide) ?_
    show Steps p.tables e below (T17.setTop (mkF m 124 #[.val (.int p1), .val (.int p2), .val (.int p3), .val (.ref b1), .val (.ref w_DOUBLE), .val (.ref w_INT), .val (.ref w_DOUBLE), .val (.ref w_DOUBLE), .val (.int (1 : Int32)), .unset, .unset] [(.int (1 : Int32))])) _
    refine XS.istore X17.here hx rfl (hb hby at_124) rfl (l' := #[.val (.int p1), .val (.int p2), .val (.int p3), .val (.ref b1), .val (.ref w_DOUBLE), .val (.ref w_INT), .val (.ref w_DOUBLE), .val (.ref w_DOUBLE), .val (.int (1 : Int32)), .val (.int (1 : Int32)), .unset]) rfl ?_
    show Steps p.tables e below (T17.setTop (mkF m 126 #[.val (.int p1), .val (.int p2), .val (.int p3), .val (.ref b1), .val (.ref w_DOUBLE), .val (.ref w_INT), .val (.ref w_DOUBLE), .val (.ref w_DOUBLE), .val (.int (1 : Int32)), .val (.int (1 : Int32)), .unset] [])) _
    refine XS.aload X17.here hx rfl (hb hby at_126) rfl rfl ?_
    show Steps p.tables e below (T17.setTop (mkF m 128 #[.val (.int p1), .val (.int p2), .val (.int p3), .val (.ref b1), .val (.ref w_DOUBLE), .val (.ref w_INT), .val (.ref w_DOUBLE), .val (.ref w_DOUBLE), .val (.int (1 : Int32)), .val (.int (1 : Int32)), .unset] [(.ref w_INT)])) _
    refine XS.aload X17.here hx rfl (hb hby at_128) rfl rfl ?_
    show Steps p.tables e below (T17.setTop (mkF m 130 #[.val (.int p1), .val (.int p2), .val (.int p3), .val (.ref b1), .val (.ref w_DOUBLE), .val (.ref w_INT), .val (.ref w_DOUBLE), .val (.ref w_DOUBLE), .val (.int (1 : Int32)), .val (.int (1 : Int32)), .unset] [(.ref w_DOUBLE), (.ref w_INT)])) _
    refine st18 _ ?_
    show Steps p.tables e below (T18.setTop (mkF m 133 #[.val (.int p1), .val (.int p2), .val (.int p3), .val (.ref b1), .val (.ref w_DOUBLE), .val (.ref w_INT), .val (.ref w_DOUBLE), .val (.ref w_DOUBLE), .val (.int (1 : Int32)), .val (.int (1 : Int32)), .unset] [(.ref w_DOUBLE)])) _
    refine XS.aload X18.here hx rfl (hb hby at_133) rfl rfl ?_
    show Steps p.tables e below (T18.setTop (mkF m 135 #[.val (.int p1), .val (.int p2), .val (.int p3), .val (.ref b1), .val (.ref w_DOUBLE), .val (.ref w_INT), .val (.ref w_DOUBLE), .val (.ref w_DOUBLE), .val (.int (1 : Int32)), .val (.int (1 : Int32)), .unset] [(.ref w_DOUBLE), (.ref w_DOUBLE)])) _
    refine Jvm.RoadKit.acmp (g := (mkF m 135 #[.val (.int p1), .val (.int p2), .val (.int p3), .val (.ref b1), .val (.ref w_DOUBLE), .val (.ref w_INT), .val (.ref w_DOUBLE), .val (.ref w_DOUBLE), .val (.int (1 : Int32)), .val (.int (1 : Int32)), .unset] [(.ref w_DOUBLE), (.ref w_DOUBLE)])) X18 hx rfl rfl rfl (pc0 := 135) (pc' := 138) (same := true) rfl (hb hby at_135) rfl (decide_eq_true rfl) (by decide) (by decide) ?_
    show Steps p.tables e below (T18.setTop (mkF m 138 #[.val (.int p1), .val (.int p2), .val (.int p3), .val (.ref b1), .val (.ref w_DOUBLE), .val (.ref w_INT), .val (.ref w_DOUBLE), .val (.ref w_DOUBLE), .val (.int (1 : Int32)), .val (.int (1 : Int32)), .unset] [])) _
    refine XS.iconst X18.here hx rfl (hb hby at_138) ?_
    show Steps p.tables e below (T18.setTop (mkF m 139 #[.val (.int p1), .val (.int p2), .val (.int p3), .val (.ref b1), .val (.ref w_DOUBLE), .val (.ref w_INT), .val (.ref w_DOUBLE), .val (.ref w_DOUBLE), .val (.int (1 : Int32)), .val (.int (1 : Int32)), .unset] [(.int (1 : Int32))])) _
    refine XS.goto X18.here hx rfl (pc0 := 139) (pc' := 143) rfl (hb hby at_139) (by decide) (by decide) ?_
    show Steps p.tables e below (T18.setTop (mkF m 143 #[.val (.int p1), .val (.int p2), .val (.int p3), .val (.ref b1), .val (.ref w_DOUBLE), .val (.ref w_INT), .val (.ref w_DOUBLE), .val (.ref w_DOUBLE), .val (.int (1 : Int32)), .val (.int (1 : Int32)), .unset] [(.int (1 : Int32))])) _
    refine XS.istore X18.here hx rfl (hb hby at_143) rfl (l' := #[.val (.int p1), .val (.int p2), .val (.int p3), .val (.ref b1), .val (.ref w_DOUBLE), .val (.ref w_INT), .val (.ref w_DOUBLE), .val (.ref w_DOUBLE), .val (.int (1 : Int32)), .val (.int (1 : Int32)), .val (.int (1 : Int32))]) rfl ?_
    show Steps p.tables e below (T18.setTop (mkF m 145 #[.val (.int p1), .val (.int p2), .val (.int p3), .val (.ref b1), .val (.ref w_DOUBLE), .val (.ref w_INT), .val (.ref w_DOUBLE), .val (.ref w_DOUBLE), .val (.int (1 : Int32)), .val (.int (1 : Int32)), .val (.int (1 : Int32))] [])) _
    refine XS.iload X18.here hx rfl (hb hby at_145) rfl ?_
    show Steps p.tables e below (T18.setTop (mkF m 147 #[.val (.int p1), .val (.int p2), .val (.int p3), .val (.ref b1), .val (.ref w_DOUBLE), .val (.ref w_INT), .val (.ref w_DOUBLE), .val (.ref w_DOUBLE), .val (.int (1 : Int32)), .val (.int (1 : Int32)), .val (.int (1 : Int32))] [(.int (1 : Int32))])) _
    refine XS.ifNo X18.here hx rfl (hb hby at_147) rfl ((if0 _ _).trans (feq (by decide : ¬ ((1 : Int32) = (0 : Int32)))).1) ?_
    show Steps p.tables e below (T18.setTop (mkF m 150 #[.val (.int p1), .val (.int p2), .val (.int p3), .val (.ref b1), .val (.ref w_DOUBLE), .val (.ref w_INT), .val (.ref w_DOUBLE), .val (.ref w_DOUBLE), .val (.int (1 : Int32)), .val (.int (1 : Int32)), .val (.int (1 : Int32))] [])) _
    refine XS.iload X18.here hx rfl (hb hby at_150) rfl ?_
    show Steps p.tables e below (T18.setTop (mkF m 152 #[.val (.int p1), .val (.int p2), .val (.int p3), .val (.ref b1), .val (.ref w_DOUBLE), .val (.ref w_INT), .val (.ref w_DOUBLE), .val (.ref w_DOUBLE), .val (.int (1 : Int32)), .val (.int (1 : Int32)), .val (.int (1 : Int32))] [(.int (1 : Int32))])) _
    refine XS.ifNo X18.here hx rfl (hb hby at_152) rfl ((if0 _ _).trans (feq (by decide : ¬ ((1 : Int32) = (0 : Int32)))).1) ?_
    show Steps p.tables e below (T18.setTop (mkF m 155 #[.val (.int p1), .val (.int p2), .val (.int p3), .val (.ref b1), .val (.ref w_DOUBLE), .val (.ref w_INT), .val (.ref w_DOUBLE), .val (.ref w_DOUBLE), .val (.int (1 : Int32)), .val (.int (1 : Int32)), .val (.int (1 : Int32))] [])) _
    refine XS.iload X18.here hx rfl (hb hby at_155) rfl ?_
    show Steps p.tables e below (T18.setTop (mkF m 157 #[.val (.int p1), .val (.int p2), .val (.int p3), .val (.ref b1), .val (.ref w_DOUBLE), .val (.ref w_INT), .val (.ref w_DOUBLE), .val (.ref w_DOUBLE), .val (.int (1 : Int32)), .val (.int (1 : Int32)), .val (.int (1 : Int32))] [(.int (1 : Int32))])) _
    refine XS.ifNo X18.here hx rfl (hb hby at_157) rfl ((if0 _ _).trans (feq (by decide : ¬ ((1 : Int32) = (0 : Int32)))).1) ?_
    show Steps p.tables e below (T18.setTop (mkF m 160 #[.val (.int p1), .val (.int p2), .val (.int p3), .val (.ref b1), .val (.ref w_DOUBLE), .val (.ref w_INT), .val (.ref w_DOUBLE), .val (.ref w_DOUBLE), .val (.int (1 : Int32)), .val (.int (1 : Int32)), .val (.int (1 : Int32))] [])) _
    refine XS.iconst X18.here hx rfl (hb hby at_160) ?_
    show Steps p.tables e below (T18.setTop (mkF m 161 #[.val (.int p1), .val (.int p2), .val (.int p3), .val (.ref b1), .val (.ref w_DOUBLE), .val (.ref w_INT), .val (.ref w_DOUBLE), .val (.ref w_DOUBLE), .val (.int (1 : Int32)), .val (.int (1 : Int32)), .val (.int (1 : Int32))] [(.int (1 : Int32))])) _
    refine XS.goto X18.here hx rfl (pc0 := 161) (pc' := 165) rfl (hb hby at_161) (by decide) (by decide) ?_
    show Steps p.tables e below (T18.setTop (mkF m 165 #[.val (.int p1), .val (.int p2), .val (.int p3), .val (.ref b1), .val (.ref w_DOUBLE), .val (.ref w_INT), .val (.ref w_DOUBLE), .val (.ref w_DOUBLE), .val (.int (1 : Int32)), .val (.int (1 : Int32)), .val (.int (1 : Int32))] [(.int (1 : Int32))])) _
    exact retN X18 hx (t := .boolean) Bd.returns (by simp) (hb hby at_165) hr
  · exact ⟨rfl, N18⟩
def Q_rm1_3 (Z : State) (w1 : Addr) (w2 : Addr) (h0 : Heap) (n0 : Nat) (v : Option Value) (h : Heap) (L : List Loc) : Prop := v = some (.ref w1) ∧ Fr n0 L ∧ h = h0
set_option maxRecDepth 65536 in
set_option maxHeartbeats 40000000 in
theorem rm1_3 (l : Launch) (Z : State) (a0 : Array Value) (hw : ∀ d ∈ tables_1, d.before a0 Z = true) (ws : List Jvm.Cond) (w1 : Addr) (w2 : Addr) (h0 : Heap) (n0 : Nat) (OL0 : Old Z n0 h0) (pr1 : Sta Z Z.heap "com/example/rigorous_chains/rigorouschains/prism/Type" "INT" "Lcom/example/rigorous_chains/rigorouschains/prism/Type;" (.ref w2)) (pr2 : w1 ≠ w2) (pr3 : Sta Z Z.heap "com/example/rigorous_chains/rigorouschains/prism/Type" "DOUBLE" "Lcom/example/rigorous_chains/rigorouschains/prism/Type;" (.ref w1)) :
    MetFree l (⟨"com/example/rigorous_chains/rigorouschains/prism/Type", "widest", "(Lcom/example/rigorous_chains/rigorouschains/prism/Type;Lcom/example/rigorous_chains/rigorouschains/prism/Type;)Lcom/example/rigorous_chains/rigorouschains/prism/Type;"⟩ : MethodName) (head1 (Jvm.Cond.code (⟨"com/example/rigorous_chains/rigorouschains/prism/Type", "widest", "(Lcom/example/rigorous_chains/rigorouschains/prism/Type;Lcom/example/rigorous_chains/rigorouschains/prism/Type;)Lcom/example/rigorous_chains/rigorouschains/prism/Type;"⟩ : MethodName) prog_81_method_6_code 3 (some (.object "com/example/rigorous_chains/rigorouschains/prism/Type")) :: ws) ({ frames := 0, cells := 0, slots := 0, locals := 0 } : Room)) (fun a U => a = #[(.ref w1), (.ref w1)] ∧ Z.Warmed39 U.vm ∧ U.heap = h0) (fun _ _ _ _ _ => True) (fun _ U o U' => ∃ v L, o = .returned v ∧ Q_rm1_3 Z w1 w2 h0 n0 v U'.heap L ∧ FrameEnd U o U' L ({ frames := 0, cells := 0, slots := 0, locals := 0 } : Room).cells ({ frames := 0, cells := 0, slots := 0, locals := 0 } : Room).slots) := by
  refine MetFree.of_bodySF (plainFor_of_name pn_0) hisR ?_
  intro p e s m args below meth c s₁ Bd hml0 hP hK
  obtain ⟨rfl, hZ, hh⟩ := hP
  have hx := Bd.exec
  have hby := Bd.bytes
  have hml : c.maxLocals = 3 := hml0
  have hown : s.vm.findClass "com/example/rigorous_chains/rigorouschains/prism/Type" = some m.cls := findClass_of_methodNamed Bd.named
  have hnm := (name_of_methodNamed Bd.named Bd.method).1
  have X0 : Stand p l e ({ frames := 0, cells := 0, slots := 0, locals := 0 } : Room) s m #[(.ref w1), (.ref w1)] below meth c s₁ [] 0 0 := Stand.of_body Bd
  have e0 : s₁.heap = h0 := by rw [← hh, Bd.state]; rfl
  have N0 := Fr.nil n0
  have pre0 : ∀ t, Steps p.tables e below (s₁.setTop (mkF m 0 #[.val (.ref w1), .val (.ref w1), .unset] [])) t → Steps p.tables e below (s₁.setTop (entryFrame m #[(.ref w1), (.ref w1)] 3)) t := fun t k => castTop (ef_1_0 m w1 w1) k
  obtain ⟨T3, X3, e3, st3⟩ := getS2 X0 hx hZ hown (host := "") (Or.inl (wd11 hw)) Via.refl e0 (pr1.ext OL0.2) (g := (mkF m 1 #[.val (.ref w1), .val (.ref w1), .unset] [(.ref w1)])) rfl (hb hby d1_1)
  obtain ⟨T4, X4, e4, st4⟩ := getS2 X3 hx hZ hown (host := "") (Or.inl (wd12 hw)) Via.refl e3 (pr3.ext OL0.2) (g := (mkF m 21 #[.val (.ref w1), .val (.ref w1), .unset] [])) rfl (hb hby d1_21)
  obtain ⟨fs, hr, hrun, hended, hW, hsame⟩ := X4.leave (v := some (.ref w1)) (fun h => by rw [Bd.returns] at h; cases h)
  refine ⟨_, _, pre0 _ ?_, hrun, hended, _, _, rfl, ?_, ⟨_, rfl⟩, hW, hsame.mono (by decide) (by decide)⟩
  · show Steps p.tables e below (s₁.setTop (mkF m 0 #[.val (.ref w1), .val (.ref w1), .unset] [])) _
    refine XS.aloadN X0.here hx rfl (hb hby d1_0) rfl rfl ?_
    show Steps p.tables e below (s₁.setTop (mkF m 1 #[.val (.ref w1), .val (.ref w1), .unset] [(.ref w1)])) _
    refine st3 _ ?_
    show Steps p.tables e below (T3.setTop (mkF m 4 #[.val (.ref w1), .val (.ref w1), .unset] [(.ref w2), (.ref w1)])) _
    refine Jvm.RoadKit.acmp (g := (mkF m 4 #[.val (.ref w1), .val (.ref w1), .unset] [(.ref w2), (.ref w1)])) X3 hx rfl rfl rfl (pc0 := 4) (pc' := 21) (same := false) rfl (hb hby d1_4) rfl (decide_eq_false fun q => pr2 (Value.ref.inj q)) (by decide) (by decide) ?_
    show Steps p.tables e below (T3.setTop (mkF m 21 #[.val (.ref w1), .val (.ref w1), .unset] [])) _
    refine st4 _ ?_
    show Steps p.tables e below (T4.setTop (mkF m 24 #[.val (.ref w1), .val (.ref w1), .unset] [(.ref w1)])) _
    refine XS.astoreN X4.here hx rfl (hb hby d1_24) rfl rfl (l' := #[.val (.ref w1), .val (.ref w1), .val (.ref w1)]) rfl ?_
    show Steps p.tables e below (T4.setTop (mkF m 25 #[.val (.ref w1), .val (.ref w1), .val (.ref w1)] [])) _
    refine XS.aloadN X4.here hx rfl (hb hby d1_25) rfl rfl ?_
    show Steps p.tables e below (T4.setTop (mkF m 26 #[.val (.ref w1), .val (.ref w1), .val (.ref w1)] [(.ref w1)])) _
    jvm_step X4.here [X4.here.top, hx, (hb hby d1_26), X4.method', Bd.returns, Value.isRef, FieldType.isReference]
    first | (intro acts; rw [hr _ acts rfl rfl rfl]) | rw [hr _ _ rfl rfl rfl]
    exact Steps.refl _
  · show Q_rm1_3 Z w1 w2 h0 n0 _ T4.heap _
    rw [e4]
    exact ⟨rfl, N0, rfl⟩
set_option maxRecDepth 65536 in
set_option maxHeartbeats 40000000 in
theorem rm0_1_1_0 (l : Launch) (Z : State) (a0 : Array Value) (hw : ∀ d ∈ tables_1, d.before a0 Z = true) (ws : List Jvm.Cond) (p1 : Int32) (p2 : Int32) (p3 : Int32) (w_INT : Addr) (w_DOUBLE : Addr) (w_BOOL : Addr) (h0 : Heap) (n0 : Nat) (OL0 : Old Z n0 h0) (pr1 : Sta Z Z.heap "com/example/rigorous_chains/rigorouschains/prism/Type" "INT" "Lcom/example/rigorous_chains/rigorouschains/prism/Type;" (.ref w_INT)) (pr2 : Exa Z Z.heap w_INT "com/example/rigorous_chains/rigorouschains/prism/Type") (pr3 : Sta Z Z.heap "com/example/rigorous_chains/rigorouschains/prism/Type" "DOUBLE" "Lcom/example/rigorous_chains/rigorouschains/prism/Type;" (.ref w_DOUBLE)) (pr4 : Exa Z Z.heap w_DOUBLE "com/example/rigorous_chains/rigorouschains/prism/Type") (pr5 : (p1 &&& (1 : Int32)) = (1 : Int32)) (pr6 : (p2 &&& (1 : Int32)) = (1 : Int32)) (pr7 : (p3 &&& (1 : Int32)) = (0 : Int32)) (pr8 : w_DOUBLE ≠ w_INT) (pr9 : Sta Z Z.heap "com/example/rigorous_chains/rigorouschains/prism/Type" "BOOL" "Lcom/example/rigorous_chains/rigorouschains/prism/Type;" (.ref w_BOOL)) (pr10 : w_DOUBLE ≠ w_BOOL) (pr11 : w_INT ≠ w_DOUBLE) :
    MetFree l x (head1 (Jvm.Cond.code x code maxLocals ret :: ws) room_1) (fun a U => a = #[(.int p1), (.int p2), (.int p3)] ∧ Z.Warmed39 U.vm ∧ U.heap = h0) (fun _ _ _ _ _ => True) (fun _ U o U' => ∃ v L, o = .returned v ∧ Q0 n0 v L ∧ FrameEnd U o U' L 16 128) := by
  refine MetFree.of_bodySF (plainFor_of_name pn_1) hisR ?_
  intro p e s m args below meth c s₁ Bd hml0 hP hK
  obtain ⟨rfl, hZ, hh⟩ := hP
  have hx := Bd.exec
  have hby := Bd.bytes
  have hml : c.maxLocals = 11 := hml0
  have hown : s.vm.findClass "com/example/rigorous_chains/rigorouschains/prism/TypeWidestPinLaw" = some m.cls := findClass_of_methodNamed Bd.named
  have hnm := (name_of_methodNamed Bd.named Bd.method).1
  have X0 : Stand p l e room_1 s m #[(.int p1), (.int p2), (.int p3)] below meth c s₁ [] 0 0 := Stand.of_body Bd
  have e0 : s₁.heap = h0 := by rw [← hh, Bd.state]; rfl
  have N0 := Fr.nil n0
  have pre0 : ∀ t, Steps p.tables e below (s₁.setTop (mkF m 0 #[.val (.int p1), .val (.int p2), .val (.int p3), .unset, .unset, .unset, .unset, .unset, .unset, .unset, .unset] [])) t → Steps p.tables e below (s₁.setTop (entryFrame m #[(.int p1), (.int p2), (.int p3)] maxLocals)) t := fun t k => castTop (ef_0_3 m p1 p2 p3) k
  obtain ⟨T1, h1, k1, X1, e1, E1, A1, O1, st1⟩ := newR X0 hx hZ hown (wd0 hw) (wd1 hw) e0 (g := (mkF m 1 #[.val (.int p1), .val (.int p2), .val (.int p3), .unset, .unset, .unset, .unset, .unset, .unset, .unset, .unset] [(.int (2 : Int32))])) rfl (hb hby at_1) rfl (by decide) (cap := 2) (by decide) (by decide) (by decide) (by decide)
  obtain ⟨b1, g1⟩ : ∃ z, z = h0.size := ⟨_, rfl⟩
  rw [← g1] at A1 st1
  have V1 : Arv Z h1 b1 k1 (.object "com/example/rigorous_chains/rigorouschains/prism/Type") (2 : Int32) [.null, .null] .null := (Arv.new A1 (by decide)).pad (pad_rep [] .null 2)
  have g_b1 : n0 ≤ b1 := (Nat.le_trans (Nat.le_trans (Nat.le_of_eq OL0.1.symm) OL0.2.1) (Nat.le_of_eq g1.symm))
  have sz_b1 : h0.size ≤ b1 := (Nat.le_trans (Keep.refl h0 []).1 (Nat.le_of_eq g1.symm))
  have KK1 : Keep h0 h1 [] := (Keep.refl h0 []).ext E1
  have OL1 := OL0.ext E1
  obtain ⟨T2, X2, e2, st2⟩ := getS2 X1 hx hZ hown (host := "") (Or.inl (wd2 hw)) Via.refl e1 (pr1.ext OL1.2) (g := (mkF m 6 #[.val (.int p1), .val (.int p2), .val (.int p3), .unset, .unset, .unset, .unset, .unset, .unset, .unset, .unset] [(.int (0 : Int32)), (.ref b1), (.ref b1)])) rfl (hb hby at_6)
  obtain ⟨cl3, Ar3, q3, S3, M3, Hs3, G3⟩ := id V1
  have hin3 : ¬ ((0 : Int32) < 0 ∨ cl3.slots.size ≤ ((0 : Int32)).toNatClampNeg) := inb_of S3 ⟨by decide, by decide⟩
  obtain ⟨T4, h4, X4, e4, W4, st4⟩ := stR X2 hx hZ e2 Ar3 (j := (0 : Int32)) hin3 rfl (Sto.ofV Ar3 q3 O1 (Ins.self (pr2.ext OL1.2))) (g := (mkF m 9 #[.val (.int p1), .val (.int p2), .val (.int p3), .unset, .unset, .unset, .unset, .unset, .unset, .unset, .unset] [(.ref w_INT), (.int (0 : Int32)), (.ref b1), (.ref b1)])) rfl rfl (hb hby at_9)
  have V4 : Arv Z h4 b1 k1 (.object "com/example/rigorous_chains/rigorouschains/prism/Type") (2 : Int32) [(.ref w_INT), .null] .null := Arv.set Ar3 q3 S3 M3 Hs3 G3 rfl W4 0 rfl (Nat.le_of_ble_eq_true rfl)
  have KK4 : Keep h0 h4 [] := KK1.wr W4 (Or.inr sz_b1)
  have OL4 := OL1.wr W4 g_b1
  have N4 := Fr.snoc X4 N0 g_b1
  obtain ⟨T5, X5, e5, st5⟩ := getS2 X4 hx hZ hown (host := "") (Or.inl (wd6 hw)) Via.refl e4 (pr3.ext OL4.2) (g := (mkF m 12 #[.val (.int p1), .val (.int p2), .val (.int p3), .unset, .unset, .unset, .unset, .unset, .unset, .unset, .unset] [(.int (1 : Int32)), (.ref b1), (.ref b1)])) rfl (hb hby at_12)
  obtain ⟨cl6, Ar6, q6, S6, M6, Hs6, G6⟩ := id V4
  have hin6 : ¬ ((1 : Int32) < 0 ∨ cl6.slots.size ≤ ((1 : Int32)).toNatClampNeg) := inb_of S6 ⟨by decide, by decide⟩
  obtain ⟨T7, h7, X7, e7, W7, st7⟩ := stR X5 hx hZ e5 Ar6 (j := (1 : Int32)) hin6 rfl (Sto.ofV Ar6 q6 O1 (Ins.self (pr4.ext OL4.2))) (g := (mkF m 15 #[.val (.int p1), .val (.int p2), .val (.int p3), .unset, .unset, .unset, .unset, .unset, .unset, .unset, .unset] [(.ref w_DOUBLE), (.int (1 : Int32)), (.ref b1), (.ref b1)])) rfl rfl (hb hby at_15)
  have V7 : Arv Z h7 b1 k1 (.object "com/example/rigorous_chains/rigorouschains/prism/Type") (2 : Int32) [(.ref w_INT), (.ref w_DOUBLE)] .null := Arv.set Ar6 q6 S6 M6 Hs6 G6 rfl W7 1 rfl (Nat.le_of_ble_eq_true rfl)
  have KK7 : Keep h0 h7 [] := KK4.wr W7 (Or.inr sz_b1)
  have OL7 := OL4.wr W7 g_b1
  have N7 := Fr.snoc X7 N4 g_b1
  obtain ⟨cl8, Ar8, -, S8, -, Hs8, -⟩ := id V7
  have hin8 : ¬ ((1 : Int32) < 0 ∨ cl8.slots.size ≤ ((1 : Int32)).toNatClampNeg) := inb_of S8 ⟨by decide, by decide⟩
  have hat8 : cl8.slots[((1 : Int32)).toNatClampNeg]? = some (.ref w_DOUBLE) := Hs8.at hin8 rfl
  obtain ⟨cl9, Ar9, -, S9, -, Hs9, -⟩ := id V7
  have hin9 : ¬ ((1 : Int32) < 0 ∨ cl9.slots.size ≤ ((1 : Int32)).toNatClampNeg) := inb_of S9 ⟨by decide, by decide⟩
  have hat9 : cl9.slots[((1 : Int32)).toNatClampNeg]? = some (.ref w_DOUBLE) := Hs9.at hin9 rfl
  obtain ⟨cl10, Ar10, -, S10, -, Hs10, -⟩ := id V7
  have hin10 : ¬ ((0 : Int32) < 0 ∨ cl10.slots.size ≤ ((0 : Int32)).toNatClampNeg) := inb_of S10 ⟨by decide, by decide⟩
  have hat10 : cl10.slots[((0 : Int32)).toNatClampNeg]? = some (.ref w_INT) := Hs10.at hin10 rfl
  obtain ⟨_, _, ⟨T11, L11, k11, n11⟩, -, X11, ⟨Lc11, hQ11, l11, y11, z11⟩, st11⟩ := Jvm.LawKit.callS X7 hx (y := (⟨"com/example/rigorous_chains/rigorouschains/prism/Type", "widest", "(Lcom/example/rigorous_chains/rigorouschains/prism/Type;Lcom/example/rigorous_chains/rigorouschains/prism/Type;)Lcom/example/rigorous_chains/rigorouschains/prism/Type;"⟩ : MethodName)) hown (mvT hZ (wd8 hw)) (mvT hZ (wd9 hw)) (mvT hZ (wd3 hw)) (mvT hZ (wd10 hw)) (by decide) (backOf (W := 0) (rm1_3 l Z a0 hw [] w_DOUBLE w_INT h7 n0 OL7 pr1 pr8 pr3) hZ (wd10 hw) (wd3 hw) (by decide) (by decide)) (g := (mkF m 42 #[.val (.int p1), .val (.int p2), .val (.int p3), .val (.ref b1), .val (.ref w_DOUBLE), .val (.ref w_DOUBLE), .val (.ref w_INT), .unset, .unset, .unset, .unset] [(.ref w_DOUBLE), (.ref w_DOUBLE)])) rfl (by rw [hml]; rfl) (argsL := [(.ref w_DOUBLE), (.ref w_DOUBLE)]) (rest := []) (lenOf pd_0 rfl) rfl (by show 2 * 0 + _ ≤ _; exact Nat.le_of_eq rfl) (hb hby at_42) (fun _ _ => ⟨rfl, e7, (by decide : 1 + 0 ≤ _), (by decide : 2 + 0 ≤ _)⟩)
  dsimp only [Pt.U, Pt.locs, Pt.cells, Pt.slots] at X11 l11 y11 z11 st11 hQ11
  subst l11 y11 z11
  obtain ⟨rfl, Nq11, ec11⟩ := hQ11
  have N11 := Fr.app N7 Nq11
  obtain ⟨cq12, kq12, q12a, q12b, q12c⟩ := isOf hZ ec11 (pr4.ext OL7.2)
  obtain ⟨_, _, ⟨T12, L12, k12, n12⟩, -, X12, ⟨Lc12, hQ12, l12, y12, z12⟩, st12⟩ := X11.virtualBack hx (y := (⟨"com/example/rigorous_chains/rigorouschains/prism/Type", "isNumeric", "()Z"⟩ : MethodName)) (z := (⟨"com/example/rigorous_chains/rigorouschains/prism/Type", "isNumeric", "()Z"⟩ : MethodName)) hown (mvT hZ (wd13 hw)) (mvT hZ (wd14 hw)) (notFace_of_selects (args := #[]) (mvT hZ (wd16 hw))) (mvT hZ (wd16 hw)) (mvT hZ (wd15 hw)) (by decide) (backOf (W := 0) (rm2_0 l Z a0 hw [] w_DOUBLE w_BOOL h7 n0 OL7 pr9 pr10) hZ (wd17 hw) (wd3 hw) (by decide) (by decide)) q12a q12c (g := (mkF m 56 #[.val (.int p1), .val (.int p2), .val (.int p3), .val (.ref b1), .val (.ref w_DOUBLE), .val (.ref w_DOUBLE), .val (.ref w_INT), .val (.ref w_DOUBLE), .unset, .unset, .unset] [(.ref w_DOUBLE)])) rfl (by rw [hml]; rfl) (Steps.refl _) (argsL := []) (rest := []) (lenOf pd_1 rfl) rfl (by show 2 * 0 + _ ≤ _; exact Nat.le_of_eq rfl) (hb hby at_56) (fun _ _ => ⟨rfl, ec11, (by decide : 1 + 0 ≤ _), (by decide : 2 + 0 ≤ _)⟩)
  dsimp only [Pt.U, Pt.locs, Pt.cells, Pt.slots] at X12 l12 y12 z12 st12 hQ12
  subst l12 y12 z12
  obtain ⟨rfl, Nq12, ec12⟩ := hQ12
  have N12 := Fr.app N11 Nq12
  obtain ⟨cq13, kq13, q13a, q13b, q13c⟩ := isOf hZ ec12 (pr4.ext OL7.2)
  obtain ⟨_, _, ⟨T13, L13, k13, n13⟩, -, X13, ⟨Lc13, hQ13, l13, y13, z13⟩, st13⟩ := X12.virtualBack hx (y := (⟨"com/example/rigorous_chains/rigorouschains/prism/Type", "accepts", "(Lcom/example/rigorous_chains/rigorouschains/prism/Type;)Z"⟩ : MethodName)) (z := (⟨"com/example/rigorous_chains/rigorouschains/prism/Type", "accepts", "(Lcom/example/rigorous_chains/rigorouschains/prism/Type;)Z"⟩ : MethodName)) hown (mvT hZ (wd20 hw)) (mvT hZ (wd21 hw)) (notFace_of_selects (args := #[]) (mvT hZ (wd23 hw))) (mvT hZ (wd23 hw)) (mvT hZ (wd22 hw)) (by decide) (backOf (W := 0) (rm3_0 l Z a0 hw [] w_DOUBLE h7 n0 OL7 ) hZ (wd24 hw) (wd3 hw) (by decide) (by decide)) q13a q13c (g := (mkF m 66 #[.val (.int p1), .val (.int p2), .val (.int p3), .val (.ref b1), .val (.ref w_DOUBLE), .val (.ref w_DOUBLE), .val (.ref w_INT), .val (.ref w_DOUBLE), .unset, .unset, .unset] [(.ref w_DOUBLE), (.ref w_DOUBLE)])) rfl (by rw [hml]; rfl) (Steps.refl _) (argsL := [(.ref w_DOUBLE)]) (rest := []) (lenOf pd_2 rfl) rfl (by show 2 * 0 + _ ≤ _; exact Nat.le_of_eq rfl) (hb hby at_66) (fun _ _ => ⟨rfl, ec12, (by decide : 1 + 0 ≤ _), (by decide : 2 + 0 ≤ _)⟩)
  dsimp only [Pt.U, Pt.locs, Pt.cells, Pt.slots] at X13 l13 y13 z13 st13 hQ13
  subst l13 y13 z13
  obtain ⟨rfl, Nq13, ec13⟩ := hQ13
  have N13 := Fr.app N12 Nq13
  obtain ⟨cq14, kq14, q14a, q14b, q14c⟩ := isOf hZ ec13 (pr4.ext OL7.2)
  obtain ⟨_, _, ⟨T14, L14, k14, n14⟩, -, X14, ⟨Lc14, hQ14, l14, y14, z14⟩, st14⟩ := X13.virtualBack hx (y := (⟨"com/example/rigorous_chains/rigorouschains/prism/Type", "accepts", "(Lcom/example/rigorous_chains/rigorouschains/prism/Type;)Z"⟩ : MethodName)) (z := (⟨"com/example/rigorous_chains/rigorouschains/prism/Type", "accepts", "(Lcom/example/rigorous_chains/rigorouschains/prism/Type;)Z"⟩ : MethodName)) hown (mvT hZ (wd20 hw)) (mvT hZ (wd21 hw)) (notFace_of_selects (args := #[]) (mvT hZ (wd23 hw))) (mvT hZ (wd23 hw)) (mvT hZ (wd22 hw)) (by decide) (backOf (W := 0) (rm3_0 l Z a0 hw [] w_DOUBLE h7 n0 OL7 ) hZ (wd24 hw) (wd3 hw) (by decide) (by decide)) q14a q14c (g := (mkF m 76 #[.val (.int p1), .val (.int p2), .val (.int p3), .val (.ref b1), .val (.ref w_DOUBLE), .val (.ref w_DOUBLE), .val (.ref w_INT), .val (.ref w_DOUBLE), .unset, .unset, .unset] [(.ref w_DOUBLE), (.ref w_DOUBLE)])) rfl (by rw [hml]; rfl) (Steps.refl _) (argsL := [(.ref w_DOUBLE)]) (rest := []) (lenOf pd_2 rfl) rfl (by show 2 * 0 + _ ≤ _; exact Nat.le_of_eq rfl) (hb hby at_76) (fun _ _ => ⟨rfl, ec13, (by decide : 1 + 0 ≤ _), (by decide : 2 + 0 ≤ _)⟩)
  dsimp only [Pt.U, Pt.locs, Pt.cells, Pt.slots] at X14 l14 y14 z14 st14 hQ14
  subst l14 y14 z14
  obtain ⟨rfl, Nq14, ec14⟩ := hQ14
  have N14 := Fr.app N13 Nq14
  obtain ⟨cq15, kq15, q15a, q15b, q15c⟩ := isOf hZ ec14 (pr2.ext OL7.2)
  obtain ⟨_, _, ⟨T15, L15, k15, n15⟩, -, X15, ⟨Lc15, hQ15, l15, y15, z15⟩, st15⟩ := X14.virtualBack hx (y := (⟨"com/example/rigorous_chains/rigorouschains/prism/Type", "accepts", "(Lcom/example/rigorous_chains/rigorouschains/prism/Type;)Z"⟩ : MethodName)) (z := (⟨"com/example/rigorous_chains/rigorouschains/prism/Type", "accepts", "(Lcom/example/rigorous_chains/rigorouschains/prism/Type;)Z"⟩ : MethodName)) hown (mvT hZ (wd20 hw)) (mvT hZ (wd21 hw)) (notFace_of_selects (args := #[]) (mvT hZ (wd23 hw))) (mvT hZ (wd23 hw)) (mvT hZ (wd22 hw)) (by decide) (backOf (W := 0) (rm3_2 l Z a0 hw [] w_INT w_DOUBLE h7 n0 OL7 pr11 pr3) hZ (wd24 hw) (wd3 hw) (by decide) (by decide)) q15a q15c (g := (mkF m 93 #[.val (.int p1), .val (.int p2), .val (.int p3), .val (.ref b1), .val (.ref w_DOUBLE), .val (.ref w_DOUBLE), .val (.ref w_INT), .val (.ref w_DOUBLE), .val (.int (1 : Int32)), .unset, .unset] [(.ref w_DOUBLE), (.ref w_INT)])) rfl (by rw [hml]; rfl) (Steps.refl _) (argsL := [(.ref w_DOUBLE)]) (rest := []) (lenOf pd_2 rfl) rfl (by show 2 * 0 + _ ≤ _; exact Nat.le_of_eq rfl) (hb hby at_93) (fun _ _ => ⟨rfl, ec14, (by decide : 1 + 0 ≤ _), (by decide : 2 + 0 ≤ _)⟩)
  dsimp only [Pt.U, Pt.locs, Pt.cells, Pt.slots] at X15 l15 y15 z15 st15 hQ15
  subst l15 y15 z15
  obtain ⟨rfl, Nq15, ec15⟩ := hQ15
  have N15 := Fr.app N14 Nq15
  obtain ⟨_, _, ⟨T16, L16, k16, n16⟩, -, X16, ⟨Lc16, hQ16, l16, y16, z16⟩, st16⟩ := Jvm.LawKit.callS X15 hx (y := (⟨"com/example/rigorous_chains/rigorouschains/prism/Type", "widest", "(Lcom/example/rigorous_chains/rigorouschains/prism/Type;Lcom/example/rigorous_chains/rigorouschains/prism/Type;)Lcom/example/rigorous_chains/rigorouschains/prism/Type;"⟩ : MethodName)) hown (mvT hZ (wd8 hw)) (mvT hZ (wd9 hw)) (mvT hZ (wd3 hw)) (mvT hZ (wd10 hw)) (by decide) (backOf (W := 0) (rm1_3 l Z a0 hw [] w_DOUBLE w_INT h7 n0 OL7 pr1 pr8 pr3) hZ (wd10 hw) (wd3 hw) (by decide) (by decide)) (g := (mkF m 130 #[.val (.int p1), .val (.int p2), .val (.int p3), .val (.ref b1), .val (.ref w_DOUBLE), .val (.ref w_DOUBLE), .val (.ref w_INT), .val (.ref w_DOUBLE), .val (.int (1 : Int32)), .val (.int (1 : Int32)), .unset] [(.ref w_DOUBLE), (.ref w_DOUBLE)])) rfl (by rw [hml]; rfl) (argsL := [(.ref w_DOUBLE), (.ref w_DOUBLE)]) (rest := []) (lenOf pd_0 rfl) rfl (by show 2 * 0 + _ ≤ _; exact Nat.le_of_eq rfl) (hb hby at_130) (fun _ _ => ⟨rfl, ec15, (by decide : 1 + 0 ≤ _), (by decide : 2 + 0 ≤ _)⟩)
  dsimp only [Pt.U, Pt.locs, Pt.cells, Pt.slots] at X16 l16 y16 z16 st16 hQ16
  subst l16 y16 z16
  obtain ⟨rfl, Nq16, ec16⟩ := hQ16
  have N16 := Fr.app N15 Nq16
  obtain ⟨fs, hr, hrun, hended, hW, hsame⟩ := X16.leave (v := some (.int (1 : Int32))) (fun h => by rw [Bd.returns] at h; cases h)
  refine ⟨_, _, pre0 _ ?_, hrun, hended, _, _, rfl, ?_, ⟨_, rfl⟩, hW, hsame.mono (by decide) (by decide)⟩
  · show Steps p.tables e below (s₁.setTop (mkF m 0 #[.val (.int p1), .val (.int p2), .val (.int p3), .unset, .unset, .unset, .unset, .unset, .unset, .unset, .unset] [])) _
    refine XS.iconst X0.here hx rfl (hb hby at_0) ?_
    show Steps p.tables e below (s₁.setTop (mkF m 1 #[.val (.int p1), .val (.int p2), .val (.int p3), .unset, .unset, .unset, .unset, .unset, .unset, .unset, .unset] [(.int (2 : Int32))])) _
    refine st1 _ ?_
    show Steps p.tables e below (T1.setTop (mkF m 4 #[.val (.int p1), .val (.int p2), .val (.int p3), .unset, .unset, .unset, .unset, .unset, .unset, .unset, .unset] [(.ref b1)])) _
    refine XS.dup X1.here hx rfl (hb hby at_4) rfl rfl ?_
    show Steps p.tables e below (T1.setTop (mkF m 5 #[.val (.int p1), .val (.int p2), .val (.int p3), .unset, .unset, .unset, .unset, .unset, .unset, .unset, .unset] [(.ref b1), (.ref b1)])) _
    refine XS.iconst X1.here hx rfl (hb hby at_5) ?_
    show Steps p.tables e below (T1.setTop (mkF m 6 #[.val (.int p1), .val (.int p2), .val (.int p3), .unset, .unset, .unset, .unset, .unset, .unset, .unset, .unset] [(.int (0 : Int32)), (.ref b1), (.ref b1)])) _
    refine st2 _ ?_
    show Steps p.tables e below (T2.setTop (mkF m 9 #[.val (.int p1), .val (.int p2), .val (.int p3), .unset, .unset, .unset, .unset, .unset, .unset, .unset, .unset] [(.ref w_INT), (.int (0 : Int32)), (.ref b1), (.ref b1)])) _
    refine st4 _ ?_
    show Steps p.tables e below (T4.setTop (mkF m 10 #[.val (.int p1), .val (.int p2), .val (.int p3), .unset, .unset, .unset, .unset, .unset, .unset, .unset, .unset] [(.ref b1)])) _
    refine XS.dup X4.here hx rfl (hb hby at_10) rfl rfl ?_
    show Steps p.tables e below (T4.setTop (mkF m 11 #[.val (.int p1), .val (.int p2), .val (.int p3), .unset, .unset, .unset, .unset, .unset, .unset, .unset, .unset] [(.ref b1), (.ref b1)])) _
    refine XS.iconst X4.here hx rfl (hb hby at_11) ?_
    show Steps p.tables e below (T4.setTop (mkF m 12 #[.val (.int p1), .val (.int p2), .val (.int p3), .unset, .unset, .unset, .unset, .unset, .unset, .unset, .unset] [(.int (1 : Int32)), (.ref b1), (.ref b1)])) _
    refine st5 _ ?_
    show Steps p.tables e below (T5.setTop (mkF m 15 #[.val (.int p1), .val (.int p2), .val (.int p3), .unset, .unset, .unset, .unset, .unset, .unset, .unset, .unset] [(.ref w_DOUBLE), (.int (1 : Int32)), (.ref b1), (.ref b1)])) _
    refine st7 _ ?_
    show Steps p.tables e below (T7.setTop (mkF m 16 #[.val (.int p1), .val (.int p2), .val (.int p3), .unset, .unset, .unset, .unset, .unset, .unset, .unset, .unset] [(.ref b1)])) _
    refine XS.astoreN X7.here hx rfl (hb hby at_16) rfl rfl (l' := #[.val (.int p1), .val (.int p2), .val (.int p3), .val (.ref b1), .unset, .unset, .unset, .unset, .unset, .unset, .unset]) rfl ?_
    show Steps p.tables e below (T7.setTop (mkF m 17 #[.val (.int p1), .val (.int p2), .val (.int p3), .val (.ref b1), .unset, .unset, .unset, .unset, .unset, .unset, .unset] [])) _
    refine XS.aloadN X7.here hx rfl (hb hby at_17) rfl rfl ?_
    show Steps p.tables e below (T7.setTop (mkF m 18 #[.val (.int p1), .val (.int p2), .val (.int p3), .val (.ref b1), .unset, .unset, .unset, .unset, .unset, .unset, .unset] [(.ref b1)])) _
    refine XS.iloadN X7.here hx rfl (hb hby at_18) rfl ?_
    show Steps p.tables e below (T7.setTop (mkF m 19 #[.val (.int p1), .val (.int p2), .val (.int p3), .val (.ref b1), .unset, .unset, .unset, .unset, .unset, .unset, .unset] [(.int p1), (.ref b1)])) _
    refine XS.iconst X7.here hx rfl (hb hby at_19) ?_
    show Steps p.tables e below (T7.setTop (mkF m 20 #[.val (.int p1), .val (.int p2), .val (.int p3), .val (.ref b1), .unset, .unset, .unset, .unset, .unset, .unset, .unset] [(.int (1 : Int32)), (.int p1), (.ref b1)])) _
    refine XS.iand X7.here hx rfl (hb hby at_20) rfl ?_
    show Steps p.tables e below (T7.setTop (mkF m 21 #[.val (.int p1), .val (.int p2), .val (.int p3), .val (.ref b1), .unset, .unset, .unset, .unset, .unset, .unset, .unset] [(.int (p1 &&& (1 : Int32))), (.ref b1)])) _
    rw [pr5]
    show Steps p.tables e below (T7.setTop (mkF m 21 #[.val (.int p1), .val (.int p2), .val (.int p3), .val (.ref b1), .unset, .unset, .unset, .unset, .unset, .unset, .unset] [(.int (1 : Int32)), (.ref b1)])) _
    refine X7.aaload hx (j := (1 : Int32)) (v := (.ref w_DOUBLE)) (by rw [e7]; exact Ar8.1) (State.isArrayOf_alike hZ.alike Ar8.2.1) rfl Ar8.2.2 hin8 hat8 (g := (mkF m 21 #[.val (.int p1), .val (.int p2), .val (.int p3), .val (.ref b1), .unset, .unset, .unset, .unset, .unset, .unset, .unset] [(.int (1 : Int32)), (.ref b1)])) rfl rfl (hb hby at_21) _ ?_
    show Steps p.tables e below (T7.setTop (mkF m 22 #[.val (.int p1), .val (.int p2), .val (.int p3), .val (.ref b1), .unset, .unset, .unset, .unset, .unset, .unset, .unset] [(.ref w_DOUBLE)])) _
    refine XS.astore X7.here hx rfl (hb hby at_22) rfl rfl (l' := #[.val (.int p1), .val (.int p2), .val (.int p3), .val (.ref b1), .val (.ref w_DOUBLE), .unset, .unset, .unset, .unset, .unset, .unset]) rfl ?_
    show Steps p.tables e below (T7.setTop (mkF m 24 #[.val (.int p1), .val (.int p2), .val (.int p3), .val (.ref b1), .val (.ref w_DOUBLE), .unset, .unset, .unset, .unset, .unset, .unset] [])) _
    refine XS.aloadN X7.here hx rfl (hb hby at_24) rfl rfl ?_
    show Steps p.tables e below (T7.setTop (mkF m 25 #[.val (.int p1), .val (.int p2), .val (.int p3), .val (.ref b1), .val (.ref w_DOUBLE), .unset, .unset, .unset, .unset, .unset, .unset] [(.ref b1)])) _
    refine XS.iloadN X7.here hx rfl (hb hby at_25) rfl ?_
    show Steps p.tables e below (T7.setTop (mkF m 26 #[.val (.int p1), .val (.int p2), .val (.int p3), .val (.ref b1), .val (.ref w_DOUBLE), .unset, .unset, .unset, .unset, .unset, .unset] [(.int p2), (.ref b1)])) _
    refine XS.iconst X7.here hx rfl (hb hby at_26) ?_
    show Steps p.tables e below (T7.setTop (mkF m 27 #[.val (.int p1), .val (.int p2), .val (.int p3), .val (.ref b1), .val (.ref w_DOUBLE), .unset, .unset, .unset, .unset, .unset, .unset] [(.int (1 : Int32)), (.int p2), (.ref b1)])) _
    refine XS.iand X7.here hx rfl (hb hby at_27) rfl ?_
    show Steps p.tables e below (T7.setTop (mkF m 28 #[.val (.int p1), .val (.int p2), .val (.int p3), .val (.ref b1), .val (.ref w_DOUBLE), .unset, .unset, .unset, .unset, .unset, .unset] [(.int (p2 &&& (1 : Int32))), (.ref b1)])) _
    rw [pr6]
    show Steps p.tables e below (T7.setTop (mkF m 28 #[.val (.int p1), .val (.int p2), .val (.int p3), .val (.ref b1), .val (.ref w_DOUBLE), .unset, .unset, .unset, .unset, .unset, .unset] [(.int (1 : Int32)), (.ref b1)])) _
    refine X7.aaload hx (j := (1 : Int32)) (v := (.ref w_DOUBLE)) (by rw [e7]; exact Ar9.1) (State.isArrayOf_alike hZ.alike Ar9.2.1) rfl Ar9.2.2 hin9 hat9 (g := (mkF m 28 #[.val (.int p1), .val (.int p2), .val (.int p3), .val (.ref b1), .val (.ref w_DOUBLE), .unset, .unset, .unset, .unset, .unset, .unset] [(.int (1 : Int32)), (.ref b1)])) rfl rfl (hb hby at_28) _ ?_
    show Steps p.tables e below (T7.setTop (mkF m 29 #[.val (.int p1), .val (.int p2), .val (.int p3), .val (.ref b1), .val (.ref w_DOUBLE), .unset, .unset, .unset, .unset, .unset, .unset] [(.ref w_DOUBLE)])) _
    refine XS.astore X7.here hx rfl (hb hby at_29) rfl rfl (l' := #[.val (.int p1), .val (.int p2), .val (.int p3), .val (.ref b1), .val (.ref w_DOUBLE), .val (.ref w_DOUBLE), .unset, .unset, .unset, .unset, .unset]) rfl ?_
    show Steps p.tables e below (T7.setTop (mkF m 31 #[.val (.int p1), .val (.int p2), .val (.int p3), .val (.ref b1), .val (.ref w_DOUBLE), .val (.ref w_DOUBLE), .unset, .unset, .unset, .unset, .unset] [])) _
    refine XS.aloadN X7.here hx rfl (hb hby at_31) rfl rfl ?_
    show Steps p.tables e below (T7.setTop (mkF m 32 #[.val (.int p1), .val (.int p2), .val (.int p3), .val (.ref b1), .val (.ref w_DOUBLE), .val (.ref w_DOUBLE), .unset, .unset, .unset, .unset, .unset] [(.ref b1)])) _
    refine XS.iloadN X7.here hx rfl (hb hby at_32) rfl ?_
    show Steps p.tables e below (T7.setTop (mkF m 33 #[.val (.int p1), .val (.int p2), .val (.int p3), .val (.ref b1), .val (.ref w_DOUBLE), .val (.ref w_DOUBLE), .unset, .unset, .unset, .unset, .unset] [(.int p3), (.ref b1)])) _
    refine XS.iconst X7.here hx rfl (hb hby at_33) ?_
    show Steps p.tables e below (T7.setTop (mkF m 34 #[.val (.int p1), .val (.int p2), .val (.int p3), .val (.ref b1), .val (.ref w_DOUBLE), .val (.ref w_DOUBLE), .unset, .unset, .unset, .unset, .unset] [(.int (1 : Int32)), (.int p3), (.ref b1)])) _
    refine XS.iand X7.here hx rfl (hb hby at_34) rfl ?_
    show Steps p.tables e below (T7.setTop (mkF m 35 #[.val (.int p1), .val (.int p2), .val (.int p3), .val (.ref b1), .val (.ref w_DOUBLE), .val (.ref w_DOUBLE), .unset, .unset, .unset, .unset, .unset] [(.int (p3 &&& (1 : Int32))), (.ref b1)])) _
    rw [pr7]
    show Steps p.tables e below (T7.setTop (mkF m 35 #[.val (.int p1), .val (.int p2), .val (.int p3), .val (.ref b1), .val (.ref w_DOUBLE), .val (.ref w_DOUBLE), .unset, .unset, .unset, .unset, .unset] [(.int (0 : Int32)), (.ref b1)])) _
    refine X7.aaload hx (j := (0 : Int32)) (v := (.ref w_INT)) (by rw [e7]; exact Ar10.1) (State.isArrayOf_alike hZ.alike Ar10.2.1) rfl Ar10.2.2 hin10 hat10 (g := (mkF m 35 #[.val (.int p1), .val (.int p2), .val (.int p3), .val (.ref b1), .val (.ref w_DOUBLE), .val (.ref w_DOUBLE), .unset, .unset, .unset, .unset, .unset] [(.int (0 : Int32)), (.ref b1)])) rfl rfl (hb hby at_35) _ ?_
    show Steps p.tables e below (T7.setTop (mkF m 36 #[.val (.int p1), .val (.int p2), .val (.int p3), .val (.ref b1), .val (.ref w_DOUBLE), .val (.ref w_DOUBLE), .unset, .unset, .unset, .unset, .unset] [(.ref w_INT)])) _
    refine XS.astore X7.here hx rfl (hb hby at_36) rfl rfl (l' := #[.val (.int p1), .val (.int p2), .val (.int p3), .val (.ref b1), .val (.ref w_DOUBLE), .val (.ref w_DOUBLE), .val (.ref w_INT), .unset, .unset, .unset, .unset]) rfl ?_
    show Steps p.tables e below (T7.setTop (mkF m 38 #[.val (.int p1), .val (.int p2), .val (.int p3), .val (.ref b1), .val (.ref w_DOUBLE), .val (.ref w_DOUBLE), .val (.ref w_INT), .unset, .unset, .unset, .unset] [])) _
    refine XS.aload X7.here hx rfl (hb hby at_38) rfl rfl ?_
    show Steps p.tables e below (T7.setTop (mkF m 40 #[.val (.int p1), .val (.int p2), .val (.int p3), .val (.ref b1), .val (.ref w_DOUBLE), .val (.ref w_DOUBLE), .val (.ref w_INT), .unset, .unset, .unset, .unset] [(.ref w_DOUBLE)])) _
    refine XS.aload X7.here hx rfl (hb hby at_40) rfl rfl ?_
    show Steps p.tables e below (T7.setTop (mkF m 42 #[.val (.int p1), .val (.int p2), .val (.int p3), .val (.ref b1), .val (.ref w_DOUBLE), .val (.ref w_DOUBLE), .val (.ref w_INT), .unset, .unset, .unset, .unset] [(.ref w_DOUBLE), (.ref w_DOUBLE)])) _
    refine st11 _ ?_
    show Steps p.tables e below (T11.setTop (mkF m 45 #[.val (.int p1), .val (.int p2), .val (.int p3), .val (.ref b1), .val (.ref w_DOUBLE), .val (.ref w_DOUBLE), .val (.ref w_INT), .unset, .unset, .unset, .unset] [(.ref w_DOUBLE)])) _
    refine XS.astore X11.here hx rfl (hb hby at_45) rfl rfl (l' := #[.val (.int p1), .val (.int p2), .val (.int p3), .val (.ref b1), .val (.ref w_DOUBLE), .val (.ref w_DOUBLE), .val (.ref w_INT), .val (.ref w_DOUBLE), .unset, .unset, .unset]) rfl ?_
    show Steps p.tables e below (T11.setTop (mkF m 47 #[.val (.int p1), .val (.int p2), .val (.int p3), .val (.ref b1), .val (.ref w_DOUBLE), .val (.ref w_DOUBLE), .val (.ref w_INT), .val (.ref w_DOUBLE), .unset, .unset, .unset] [])) _
    refine XS.aload X11.here hx rfl (hb hby at_47) rfl rfl ?_
    show Steps p.tables e below (T11.setTop (mkF m 49 #[.val (.int p1), .val (.int p2), .val (.int p3), .val (.ref b1), .val (.ref w_DOUBLE), .val (.ref w_DOUBLE), .val (.ref w_INT), .val (.ref w_DOUBLE), .unset, .unset, .unset] [(.ref w_DOUBLE)])) _
    refine XS.ifnonnullYes X11.here hx rfl (pc0 := 49) (pc' := 54) rfl (hb hby at_49) rfl (by decide) (by decide) ?_
    show Steps p.tables e below (T11.setTop (mkF m 54 #[.val (.int p1), .val (.int p2), .val (.int p3), .val (.ref b1), .val (.ref w_DOUBLE), .val (.ref w_DOUBLE), .val (.ref w_INT), .val (.ref w_DOUBLE), .unset, .unset, .unset] [])) _
    refine XS.aload X11.here hx rfl (hb hby at_54) rfl rfl ?_
    show Steps p.tables e below (T11.setTop (mkF m 56 #[.val (.int p1), .val (.int p2), .val (.int p3), .val (.ref b1), .val (.ref w_DOUBLE), .val (.ref w_DOUBLE), .val (.ref w_INT), .val (.ref w_DOUBLE), .unset, .unset, .unset] [(.ref w_DOUBLE)])) _
    refine st12.trans ?_
    show Steps p.tables e below (T12.setTop (mkF m 59 #[.val (.int p1), .val (.int p2), .val (.int p3), .val (.ref b1), .val (.ref w_DOUBLE), .val (.ref w_DOUBLE), .val (.ref w_INT), .val (.ref w_DOUBLE), .unset, .unset, .unset] [(.int (1 : Int32))])) _
    refine XS.ifNo X12.here hx rfl (hb hby at_59) rfl ((if0 _ _).trans (feq (by decide : ¬ ((1 : Int32) = (0 : Int32)))).1) ?_
    show Steps p.tables e below (T12.setTop (mkF m 62 #[.val (.int p1), .val (.int p2), .val (.int p3), .val (.ref b1), .val (.ref w_DOUBLE), .val (.ref w_DOUBLE), .val (.ref w_INT), .val (.ref w_DOUBLE), .unset, .unset, .unset] [])) _
    refine XS.aload X12.here hx rfl (hb hby at_62) rfl rfl ?_
    show Steps p.tables e below (T12.setTop (mkF m 64 #[.val (.int p1), .val (.int p2), .val (.int p3), .val (.ref b1), .val (.ref w_DOUBLE), .val (.ref w_DOUBLE), .val (.ref w_INT), .val (.ref w_DOUBLE), .unset, .unset, .unset] [(.ref w_DOUBLE)])) _
    refine XS.aload X12.here hx rfl (hb hby at_64) rfl rfl ?_
    show Steps p.tables e below (T12.setTop (mkF m 66 #[.val (.int p1), .val (.int p2), .val (.int p3), .val (.ref b1), .val (.ref w_DOUBLE), .val (.ref w_DOUBLE), .val (.ref w_INT), .val (.ref w_DOUBLE), .unset, .unset, .unset] [(.ref w_DOUBLE), (.ref w_DOUBLE)])) _
    refine st13.trans ?_
    show Steps p.tables e below (T13.setTop (mkF m 69 #[.val (.int p1), .val (.int p2), .val (.int p3), .val (.ref b1), .val (.ref w_DOUBLE), .val (.ref w_DOUBLE), .val (.ref w_INT), .val (.ref w_DOUBLE), .unset, .unset, .unset] [(.int (1 : Int32))])) _
    refine XS.ifNo X13.here hx rfl (hb hby at_69) rfl ((if0 _ _).trans (feq (by decide : ¬ ((1 : Int32) = (0 : Int32)))).1) ?_
    show Steps p.tables e below (T13.setTop (mkF m 72 #[.val (.int p1), .val (.int p2), .val (.int p3), .val (.ref b1), .val (.ref w_DOUBLE), .val (.ref w_DOUBLE), .val (.ref w_INT), .val (.ref w_DOUBLE), .unset, .unset, .unset] [])) _
    refine XS.aload X13.here hx rfl (hb hby at_72) rfl rfl ?_
    show Steps p.tables e below (T13.setTop (mkF m 74 #[.val (.int p1), .val (.int p2), .val (.int p3), .val (.ref b1), .val (.ref w_DOUBLE), .val (.ref w_DOUBLE), .val (.ref w_INT), .val (.ref w_DOUBLE), .unset, .unset, .unset] [(.ref w_DOUBLE)])) _
    refine XS.aload X13.here hx rfl (hb hby at_74) rfl rfl ?_
    show Steps p.tables e below (T13.setTop (mkF m 76 #[.val (.int p1), .val (.int p2), .val (.int p3), .val (.ref b1), .val (.ref w_DOUBLE), .val (.ref w_DOUBLE), .val (.ref w_INT), .val (.ref w_DOUBLE), .unset, .unset, .unset] [(.ref w_DOUBLE), (.ref w_DOUBLE)])) _
    refine st14.trans ?_
    show Steps p.tables e below (T14.setTop (mkF m 79 #[.val (.int p1), .val (.int p2), .val (.int p3), .val (.ref b1), .val (.ref w_DOUBLE), .val (.ref w_DOUBLE), .val (.ref w_INT), .val (.ref w_DOUBLE), .unset, .unset, .unset] [(.int (1 : Int32))])) _
    refine XS.ifNo X14.here hx rfl (hb hby at_79) rfl ((if0 _ _).trans (feq (by decide : ¬ ((1 : Int32) = (0 : Int32)))).1) ?_
    show Steps p.tables e below (T14.setTop (mkF m 82 #[.val (.int p1), .val (.int p2), .val (.int p3), .val (.ref b1), .val (.ref w_DOUBLE), .val (.ref w_DOUBLE), .val (.ref w_INT), .val (.ref w_DOUBLE), .unset, .unset, .unset] [])) _
    refine XS.iconst X14.here hx rfl (hb hby at_82) ?_
    show Steps p.tables e below (T14.setTop (mkF m 83 #[.val (.int p1), .val (.int p2), .val (.int p3), .val (.ref b1), .val (.ref w_DOUBLE), .val (.ref w_DOUBLE), .val (.ref w_INT), .val (.ref w_DOUBLE), .unset, .unset, .unset] [(.int (1 : Int32))])) _
    refine XS.goto X14.here hx rfl (pc0 := 83) (pc' := 87) rfl (hb hby at_83) (by decide) (by decide) ?_
    show Steps p.tables e below (T14.setTop (mkF m 87 #[.val (.int p1), .val (.int p2), .val (.int p3), .val (.ref b1), .val (.ref w_DOUBLE), .val (.ref w_DOUBLE), .val (.ref w_INT), .val (.ref w_DOUBLE), .unset, .unset, .unset] [(.int (1 : Int32))])) _
    refine XS.istore X14.here hx rfl (hb hby at_87) rfl (l' := #[.val (.int p1), .val (.int p2), .val (.int p3), .val (.ref b1), .val (.ref w_DOUBLE), .val (.ref w_DOUBLE), .val (.ref w_INT), .val (.ref w_DOUBLE), .val (.int (1 : Int32)), .unset, .unset]) rfl ?_
    show Steps p.tables e below (T14.setTop (mkF m 89 #[.val (.int p1), .val (.int p2), .val (.int p3), .val (.ref b1), .val (.ref w_DOUBLE), .val (.ref w_DOUBLE), .val (.ref w_INT), .val (.ref w_DOUBLE), .val (.int (1 : Int32)), .unset, .unset] [])) _
    refine XS.aload X14.here hx rfl (hb hby at_89) rfl rfl ?_
    show Steps p.tables e below (T14.setTop (mkF m 91 #[.val (.int p1), .val (.int p2), .val (.int p3), .val (.ref b1), .val (.ref w_DOUBLE), .val (.ref w_DOUBLE), .val (.ref w_INT), .val (.ref w_DOUBLE), .val (.int (1 : Int32)), .unset, .unset] [(.ref w_INT)])) _
    refine XS.aload X14.here hx rfl (hb hby at_91) rfl rfl ?_
    show Steps p.tables e below (T14.setTop (mkF m 93 #[.val (.int p1), .val (.int p2), .val (.int p3), .val (.ref b1), .val (.ref w_DOUBLE), .val (.ref w_DOUBLE), .val (.ref w_INT), .val (.ref w_DOUBLE), .val (.int (1 : Int32)), .unset, .unset] [(.ref w_DOUBLE), (.ref w_INT)])) _
    refine st15.trans ?_
    show Steps p.tables e below (T15.setTop (mkF m 96 #[.val (.int p1), .val (.int p2), .val (.int p3), .val (.ref b1), .val (.ref w_DOUBLE), .val (.ref w_DOUBLE), .val (.ref w_INT), .val (.ref w_DOUBLE), .val (.int (1 : Int32)), .unset, .unset] [(.int (0 : Int32))])) _
    refine XS.ifYes X15.here hx rfl (pc0 := 96) (pc' := 119) rfl (hb hby at_96) rfl ((if0 _ _).trans (teq (rfl : (0 : Int32) = (0 : Int32))).1) (by decide) (by decide) ?_
    show Steps p.tables e below (T15.setTop (mkF m 119 #[.val (.int p1), .val (.int p2), .val (.int p3), .val (.ref b1), .val (.ref w_DOUBLE), .val (.ref w_DOUBLE), .val (.ref w_INT), .val (.ref w_DOUBLE), .val (.int (1 : Int32)), .unset, .unset] [])) _
    refine XS.iconst X15.here hx rfl (hb hby at_119) ?_
    show Steps p.tables e below (T15.setTop (mkF m 120 #[.val (.int p1), .val (.int p2), .val (.int p3), .val (.ref b1), .val (.ref w_DOUBLE), .val (.ref w_DOUBLE), .val (.ref w_INT), .val (.ref w_DOUBLE), .val (.int (1 : Int32)), .unset, .unset] [(.int (1 : Int32))])) _
    refine XS.goto X15.here hx rfl (pc0 := 120) (pc' := 124) rfl (hb hby at_120) (by decide) (by decide) ?_
    show Steps p.tables e below (T15.setTop (mkF m 124 #[.val (.int p1), .val (.int p2), .val (.int p3), .val (.ref b1), .val (.ref w_DOUBLE), .val (.ref w_DOUBLE), .val (.ref w_INT), .val (.ref w_DOUBLE), .val (.int (1 : Int32)), .unset, .unset] [(.int (1 : Int32))])) _
    refine XS.istore X15.here hx rfl (hb hby at_124) rfl (l' := #[.val (.int p1), .val (.int p2), .val (.int p3), .val (.ref b1), .val (.ref w_DOUBLE), .val (.ref w_DOUBLE), .val (.ref w_INT), .val (.ref w_DOUBLE), .val (.int (1 : Int32)), .val (.int (1 : Int32)), .unset]) rfl ?_
    show Steps p.tables e below (T15.setTop (mkF m 126 #[.val (.int p1), .val (.int p2), .val (.int p3), .val (.ref b1), .val (.ref w_DOUBLE), .val (.ref w_DOUBLE), .val (.ref w_INT), .val (.ref w_DOUBLE), .val (.int (1 : Int32)), .val (.int (1 : Int32)), .unset] [])) _
    refine XS.aload X15.here hx rfl (hb hby at_126) rfl rfl ?_
    show Steps p.tables e below (T15.setTop (mkF m 128 #[.val (.int p1), .val (.int p2), .val (.int p3), .val (.ref b1), .val (.ref w_DOUBLE), .val (.ref w_DOUBLE), .val (.ref w_INT), .val (.ref w_DOUBLE), .val (.int (1 : Int32)), .val (.int (1 : Int32)), .unset] [(.ref w_DOUBLE)])) _
    refine XS.aload X15.here hx rfl (hb hby at_128) rfl rfl ?_
    show Steps p.tables e below (T15.setTop (mkF m 130 #[.val (.int p1), .val (.int p2), .val (.int p3), .val (.ref b1), .val (.ref w_DOUBLE), .val (.ref w_DOUBLE), .val (.ref w_INT), .val (.ref w_DOUBLE), .val (.int (1 : Int32)), .val (.int (1 : Int32)), .unset] [(.ref w_DOUBLE), (.ref w_DOUBLE)])) _
    refine st16 _ ?_
    show Steps p.tables e below (T16.setTop (mkF m 133 #[.val (.int p1), .val (.int p2), .val (.int p3), .val (.ref b1), .val (.ref w_DOUBLE), .val (.ref w_DOUBLE), .val (.ref w_INT), .val (.ref w_DOUBLE), .val (.int (1 : Int32)), .val (.int (1 : Int32)), .unset] [(.ref w_DOUBLE)])) _
    refine XS.aload X16.here hx rfl (hb hby at_133) rfl rfl ?_
    show Steps p.tables e below (T16.setTop (mkF m 135 #[.val (.int p1), .val (.int p2), .val (.int p3), .val (.ref b1), .val (.ref w_DOUBLE), .val (.ref w_DOUBLE), .val (.ref w_INT), .val (.ref w_DOUBLE), .val (.int (1 : Int32)), .val (.int (1 : Int32)), .unset] [(.ref w_DOUBLE), (.ref w_DOUBLE)])) _
    refine Jvm.RoadKit.acmp (g := (mkF m 135 #[.val (.int p1), .val (.int p2), .val (.int p3), .val (.ref b1), .val (.ref w_DOUBLE), .val (.ref w_DOUBLE), .val (.ref w_INT), .val (.ref w_DOUBLE), .val (.int (1 : Int32)), .val (.int (1 : Int32)), .unset] [(.ref w_DOUBLE), (.ref w_DOUBLE)])) X16 hx rfl rfl rfl (pc0 := 135) (pc' := 138) (same := true) rfl (hb hby at_135) rfl (decide_eq_true rfl) (by decide) (by decide) ?_
    show Steps p.tables e below (T16.setTop (mkF m 138 #[.val (.int p1), .val (.int p2), .val (.int p3), .val (.ref b1), .val (.ref w_DOUBLE), .val (.ref w_DOUBLE), .val (.ref w_INT), .val (.ref w_DOUBLE), .val (.int (1 : Int32)), .val (.int (1 : Int32)), .unset] [])) _
    refine XS.iconst X16.here hx rfl (hb hby at_138) ?_
    show Steps p.tables e below (T16.setTop (mkF m 139 #[.val (.int p1), .val (.int p2), .val (.int p3), .val (.ref b1), .val (.ref w_DOUBLE), .val (.ref w_DOUBLE), .val (.ref w_INT), .val (.ref w_DOUBLE), .val (.int (1 : Int32)), .val (.int (1 : Int32)), .unset] [(.int (1 : Int32))])) _
    refine XS.goto X16.here hx rfl (pc0 := 139) (pc' := 143) rfl (hb hby at_139) (by decide) (by decide) ?_
    show Steps p.tables e below (T16.setTop (mkF m 143 #[.val (.int p1), .val (.int p2), .val (.int p3), .val (.ref b1), .val (.ref w_DOUBLE), .val (.ref w_DOUBLE), .val (.ref w_INT), .val (.ref w_DOUBLE), .val (.int (1 : Int32)), .val (.int (1 : Int32)), .unset] [(.int (1 : Int32))])) _
    refine XS.istore X16.here hx rfl (hb hby at_143) rfl (l' := #[.val (.int p1), .val (.int p2), .val (.int p3), .val (.ref b1), .val (.ref w_DOUBLE), .val (.ref w_DOUBLE), .val (.ref w_INT), .val (.ref w_DOUBLE), .val (.int (1 : Int32)), .val (.int (1 : Int32)), .val (.int (1 : Int32))]) rfl ?_
    show Steps p.tables e below (T16.setTop (mkF m 145 #[.val (.int p1), .val (.int p2), .val (.int p3), .val (.ref b1), .val (.ref w_DOUBLE), .val (.ref w_DOUBLE), .val (.ref w_INT), .val (.ref w_DOUBLE), .val (.int (1 : Int32)), .val (.int (1 : Int32)), .val (.int (1 : Int32))] [])) _
    refine XS.iload X16.here hx rfl (hb hby at_145) rfl ?_
    show Steps p.tables e below (T16.setTop (mkF m 147 #[.val (.int p1), .val (.int p2), .val (.int p3), .val (.ref b1), .val (.ref w_DOUBLE), .val (.ref w_DOUBLE), .val (.ref w_INT), .val (.ref w_DOUBLE), .val (.int (1 : Int32)), .val (.int (1 : Int32)), .val (.int (1 : Int32))] [(.int (1 : Int32))])) _
    refine XS.ifNo X16.here hx rfl (hb hby at_147) rfl ((if0 _ _).trans (feq (by decide : ¬ ((1 : Int32) = (0 : Int32)))).1) ?_
    show Steps p.tables e below (T16.setTop (mkF m 150 #[.val (.int p1), .val (.int p2), .val (.int p3), .val (.ref b1), .val (.ref w_DOUBLE), .val (.ref w_DOUBLE), .val (.ref w_INT), .val (.ref w_DOUBLE), .val (.int (1 : Int32)), .val (.int (1 : Int32)), .val (.int (1 : Int32))] [])) _
    refine XS.iload X16.here hx rfl (hb hby at_150) rfl ?_
    show Steps p.tables e below (T16.setTop (mkF m 152 #[.val (.int p1), .val (.int p2), .val (.int p3), .val (.ref b1), .val (.ref w_DOUBLE), .val (.ref w_DOUBLE), .val (.ref w_INT), .val (.ref w_DOUBLE), .val (.int (1 : Int32)), .val (.int (1 : Int32)), .val (.int (1 : Int32))] [(.int (1 : Int32))])) _
    refine XS.ifNo X16.here hx rfl (hb hby at_152) rfl ((if0 _ _).trans (feq (by decide : ¬ ((1 : Int32) = (0 : Int32)))).1) ?_
    show Steps p.tables e below (T16.setTop (mkF m 155 #[.val (.int p1), .val (.int p2), .val (.int p3), .val (.ref b1), .val (.ref w_DOUBLE), .val (.ref w_DOUBLE), .val (.ref w_INT), .val (.ref w_DOUBLE), .val (.int (1 : Int32)), .val (.int (1 : Int32)), .val (.int (1 : Int32))] [])) _
    refine XS.iload X16.here hx rfl (hb hby at_155) rfl ?_
    show Steps p.tables e below (T16.setTop (mkF m 157 #[.val (.int p1), .val (.int p2), .val (.int p3), .val (.ref b1), .val (.ref w_DOUBLE), .val (.ref w_DOUBLE), .val (.ref w_INT), .val (.ref w_DOUBLE), .val (.int (1 : Int32)), .val (.int (1 : Int32)), .val (.int (1 : Int32))] [(.int (1 : Int32))])) _
    refine XS.ifNo X16.here hx rfl (hb hby at_157) rfl ((if0 _ _).trans (feq (by decide : ¬ ((1 : Int32) = (0 : Int32)))).1) ?_
    show Steps p.tables e below (T16.setTop (mkF m 160 #[.val (.int p1), .val (.int p2), .val (.int p3), .val (.ref b1), .val (.ref w_DOUBLE), .val (.ref w_DOUBLE), .val (.ref w_INT), .val (.ref w_DOUBLE), .val (.int (1 : Int32)), .val (.int (1 : Int32)), .val (.int (1 : Int32))] [])) _
    refine XS.iconst X16.here hx rfl (hb hby at_160) ?_
    show Steps p.tables e below (T16.setTop (mkF m 161 #[.val (.int p1), .val (.int p2), .val (.int p3), .val (.ref b1), .val (.ref w_DOUBLE), .val (.ref w_DOUBLE), .val (.ref w_INT), .val (.ref w_DOUBLE), .val (.int (1 : Int32)), .val (.int (1 : Int32)), .val (.int (1 : Int32))] [(.int (1 : Int32))])) _
    refine XS.goto X16.here hx rfl (pc0 := 161) (pc' := 165) rfl (hb hby at_161) (by decide) (by decide) ?_
    show Steps p.tables e below (T16.setTop (mkF m 165 #[.val (.int p1), .val (.int p2), .val (.int p3), .val (.ref b1), .val (.ref w_DOUBLE), .val (.ref w_DOUBLE), .val (.ref w_INT), .val (.ref w_DOUBLE), .val (.int (1 : Int32)), .val (.int (1 : Int32)), .val (.int (1 : Int32))] [(.int (1 : Int32))])) _
    exact retN X16 hx (t := .boolean) Bd.returns (by simp) (hb hby at_165) hr
  · exact ⟨rfl, N16⟩
set_option maxRecDepth 65536 in
set_option maxHeartbeats 40000000 in
theorem rm0_1_1_1 (l : Launch) (Z : State) (a0 : Array Value) (hw : ∀ d ∈ tables_1, d.before a0 Z = true) (ws : List Jvm.Cond) (p1 : Int32) (p2 : Int32) (p3 : Int32) (w_INT : Addr) (w_DOUBLE : Addr) (w_BOOL : Addr) (h0 : Heap) (n0 : Nat) (OL0 : Old Z n0 h0) (pr1 : Sta Z Z.heap "com/example/rigorous_chains/rigorouschains/prism/Type" "INT" "Lcom/example/rigorous_chains/rigorouschains/prism/Type;" (.ref w_INT)) (pr2 : Exa Z Z.heap w_INT "com/example/rigorous_chains/rigorouschains/prism/Type") (pr3 : Sta Z Z.heap "com/example/rigorous_chains/rigorouschains/prism/Type" "DOUBLE" "Lcom/example/rigorous_chains/rigorouschains/prism/Type;" (.ref w_DOUBLE)) (pr4 : Exa Z Z.heap w_DOUBLE "com/example/rigorous_chains/rigorouschains/prism/Type") (pr5 : (p1 &&& (1 : Int32)) = (1 : Int32)) (pr6 : (p2 &&& (1 : Int32)) = (1 : Int32)) (pr7 : (p3 &&& (1 : Int32)) = (1 : Int32)) (pr8 : w_DOUBLE ≠ w_INT) (pr9 : Sta Z Z.heap "com/example/rigorous_chains/rigorouschains/prism/Type" "BOOL" "Lcom/example/rigorous_chains/rigorouschains/prism/Type;" (.ref w_BOOL)) (pr10 : w_DOUBLE ≠ w_BOOL) :
    MetFree l x (head1 (Jvm.Cond.code x code maxLocals ret :: ws) room_1) (fun a U => a = #[(.int p1), (.int p2), (.int p3)] ∧ Z.Warmed39 U.vm ∧ U.heap = h0) (fun _ _ _ _ _ => True) (fun _ U o U' => ∃ v L, o = .returned v ∧ Q0 n0 v L ∧ FrameEnd U o U' L 16 128) := by
  refine MetFree.of_bodySF (plainFor_of_name pn_1) hisR ?_
  intro p e s m args below meth c s₁ Bd hml0 hP hK
  obtain ⟨rfl, hZ, hh⟩ := hP
  have hx := Bd.exec
  have hby := Bd.bytes
  have hml : c.maxLocals = 11 := hml0
  have hown : s.vm.findClass "com/example/rigorous_chains/rigorouschains/prism/TypeWidestPinLaw" = some m.cls := findClass_of_methodNamed Bd.named
  have hnm := (name_of_methodNamed Bd.named Bd.method).1
  have X0 : Stand p l e room_1 s m #[(.int p1), (.int p2), (.int p3)] below meth c s₁ [] 0 0 := Stand.of_body Bd
  have e0 : s₁.heap = h0 := by rw [← hh, Bd.state]; rfl
  have N0 := Fr.nil n0
  have pre0 : ∀ t, Steps p.tables e below (s₁.setTop (mkF m 0 #[.val (.int p1), .val (.int p2), .val (.int p3), .unset, .unset, .unset, .unset, .unset, .unset, .unset, .unset] [])) t → Steps p.tables e below (s₁.setTop (entryFrame m #[(.int p1), (.int p2), (.int p3)] maxLocals)) t := fun t k => castTop (ef_0_3 m p1 p2 p3) k
  obtain ⟨T1, h1, k1, X1, e1, E1, A1, O1, st1⟩ := newR X0 hx hZ hown (wd0 hw) (wd1 hw) e0 (g := (mkF m 1 #[.val (.int p1), .val (.int p2), .val (.int p3), .unset, .unset, .unset, .unset, .unset, .unset, .unset, .unset] [(.int (2 : Int32))])) rfl (hb hby at_1) rfl (by decide) (cap := 2) (by decide) (by decide) (by decide) (by decide)
  obtain ⟨b1, g1⟩ : ∃ z, z = h0.size := ⟨_, rfl⟩
  rw [← g1] at A1 st1
  have V1 : Arv Z h1 b1 k1 (.object "com/example/rigorous_chains/rigorouschains/prism/Type") (2 : Int32) [.null, .null] .null := (Arv.new A1 (by decide)).pad (pad_rep [] .null 2)
  have g_b1 : n0 ≤ b1 := (Nat.le_trans (Nat.le_trans (Nat.le_of_eq OL0.1.symm) OL0.2.1) (Nat.le_of_eq g1.symm))
  have sz_b1 : h0.size ≤ b1 := (Nat.le_trans (Keep.refl h0 []).1 (Nat.le_of_eq g1.symm))
  have KK1 : Keep h0 h1 [] := (Keep.refl h0 []).ext E1
  have OL1 := OL0.ext E1
  obtain ⟨T2, X2, e2, st2⟩ := getS2 X1 hx hZ hown (host := "") (Or.inl (wd2 hw)) Via.refl e1 (pr1.ext OL1.2) (g := (mkF m 6 #[.val (.int p1), .val (.int p2), .val (.int p3), .unset, .unset, .unset, .unset, .unset, .unset, .unset, .unset] [(.int (0 : Int32)), (.ref b1), (.ref b1)])) rfl (hb hby at_6)
  obtain ⟨cl3, Ar3, q3, S3, M3, Hs3, G3⟩ := id V1
  have hin3 : ¬ ((0 : Int32) < 0 ∨ cl3.slots.size ≤ ((0 : Int32)).toNatClampNeg) := inb_of S3 ⟨by decide, by decide⟩
  obtain ⟨T4, h4, X4, e4, W4, st4⟩ := stR X2 hx hZ e2 Ar3 (j := (0 : Int32)) hin3 rfl (Sto.ofV Ar3 q3 O1 (Ins.self (pr2.ext OL1.2))) (g := (mkF m 9 #[.val (.int p1), .val (.int p2), .val (.int p3), .unset, .unset, .unset, .unset, .unset, .unset, .unset, .unset] [(.ref w_INT), (.int (0 : Int32)), (.ref b1), (.ref b1)])) rfl rfl (hb hby at_9)
  have V4 : Arv Z h4 b1 k1 (.object "com/example/rigorous_chains/rigorouschains/prism/Type") (2 : Int32) [(.ref w_INT), .null] .null := Arv.set Ar3 q3 S3 M3 Hs3 G3 rfl W4 0 rfl (Nat.le_of_ble_eq_true rfl)
  have KK4 : Keep h0 h4 [] := KK1.wr W4 (Or.inr sz_b1)
  have OL4 := OL1.wr W4 g_b1
  have N4 := Fr.snoc X4 N0 g_b1
  obtain ⟨T5, X5, e5, st5⟩ := getS2 X4 hx hZ hown (host := "") (Or.inl (wd6 hw)) Via.refl e4 (pr3.ext OL4.2) (g := (mkF m 12 #[.val (.int p1), .val (.int p2), .val (.int p3), .unset, .unset, .unset, .unset, .unset, .unset, .unset, .unset] [(.int (1 : Int32)), (.ref b1), (.ref b1)])) rfl (hb hby at_12)
  obtain ⟨cl6, Ar6, q6, S6, M6, Hs6, G6⟩ := id V4
  have hin6 : ¬ ((1 : Int32) < 0 ∨ cl6.slots.size ≤ ((1 : Int32)).toNatClampNeg) := inb_of S6 ⟨by decide, by decide⟩
  obtain ⟨T7, h7, X7, e7, W7, st7⟩ := stR X5 hx hZ e5 Ar6 (j := (1 : Int32)) hin6 rfl (Sto.ofV Ar6 q6 O1 (Ins.self (pr4.ext OL4.2))) (g := (mkF m 15 #[.val (.int p1), .val (.int p2), .val (.int p3), .unset, .unset, .unset, .unset, .unset, .unset, .unset, .unset] [(.ref w_DOUBLE), (.int (1 : Int32)), (.ref b1), (.ref b1)])) rfl rfl (hb hby at_15)
  have V7 : Arv Z h7 b1 k1 (.object "com/example/rigorous_chains/rigorouschains/prism/Type") (2 : Int32) [(.ref w_INT), (.ref w_DOUBLE)] .null := Arv.set Ar6 q6 S6 M6 Hs6 G6 rfl W7 1 rfl (Nat.le_of_ble_eq_true rfl)
  have KK7 : Keep h0 h7 [] := KK4.wr W7 (Or.inr sz_b1)
  have OL7 := OL4.wr W7 g_b1
  have N7 := Fr.snoc X7 N4 g_b1
  obtain ⟨cl8, Ar8, -, S8, -, Hs8, -⟩ := id V7
  have hin8 : ¬ ((1 : Int32) < 0 ∨ cl8.slots.size ≤ ((1 : Int32)).toNatClampNeg) := inb_of S8 ⟨by decide, by decide⟩
  have hat8 : cl8.slots[((1 : Int32)).toNatClampNeg]? = some (.ref w_DOUBLE) := Hs8.at hin8 rfl
  obtain ⟨cl9, Ar9, -, S9, -, Hs9, -⟩ := id V7
  have hin9 : ¬ ((1 : Int32) < 0 ∨ cl9.slots.size ≤ ((1 : Int32)).toNatClampNeg) := inb_of S9 ⟨by decide, by decide⟩
  have hat9 : cl9.slots[((1 : Int32)).toNatClampNeg]? = some (.ref w_DOUBLE) := Hs9.at hin9 rfl
  obtain ⟨cl10, Ar10, -, S10, -, Hs10, -⟩ := id V7
  have hin10 : ¬ ((1 : Int32) < 0 ∨ cl10.slots.size ≤ ((1 : Int32)).toNatClampNeg) := inb_of S10 ⟨by decide, by decide⟩
  have hat10 : cl10.slots[((1 : Int32)).toNatClampNeg]? = some (.ref w_DOUBLE) := Hs10.at hin10 rfl
  obtain ⟨_, _, ⟨T11, L11, k11, n11⟩, -, X11, ⟨Lc11, hQ11, l11, y11, z11⟩, st11⟩ := Jvm.LawKit.callS X7 hx (y := (⟨"com/example/rigorous_chains/rigorouschains/prism/Type", "widest", "(Lcom/example/rigorous_chains/rigorouschains/prism/Type;Lcom/example/rigorous_chains/rigorouschains/prism/Type;)Lcom/example/rigorous_chains/rigorouschains/prism/Type;"⟩ : MethodName)) hown (mvT hZ (wd8 hw)) (mvT hZ (wd9 hw)) (mvT hZ (wd3 hw)) (mvT hZ (wd10 hw)) (by decide) (backOf (W := 0) (rm1_3 l Z a0 hw [] w_DOUBLE w_INT h7 n0 OL7 pr1 pr8 pr3) hZ (wd10 hw) (wd3 hw) (by decide) (by decide)) (g := (mkF m 42 #[.val (.int p1), .val (.int p2), .val (.int p3), .val (.ref b1), .val (.ref w_DOUBLE), .val (.ref w_DOUBLE), .val (.ref w_DOUBLE), .unset, .unset, .unset, .unset] [(.ref w_DOUBLE), (.ref w_DOUBLE)])) rfl (by rw [hml]; rfl) (argsL := [(.ref w_DOUBLE), (.ref w_DOUBLE)]) (rest := []) (lenOf pd_0 rfl) rfl (by show 2 * 0 + _ ≤ _; exact Nat.le_of_eq rfl) (hb hby at_42) (fun _ _ => ⟨rfl, e7, (by decide : 1 + 0 ≤ _), (by decide : 2 + 0 ≤ _)⟩)
  dsimp only [Pt.U, Pt.locs, Pt.cells, Pt.slots] at X11 l11 y11 z11 st11 hQ11
  subst l11 y11 z11
  obtain ⟨rfl, Nq11, ec11⟩ := hQ11
  have N11 := Fr.app N7 Nq11
  obtain ⟨cq12, kq12, q12a, q12b, q12c⟩ := isOf hZ ec11 (pr4.ext OL7.2)
  obtain ⟨_, _, ⟨T12, L12, k12, n12⟩, -, X12, ⟨Lc12, hQ12, l12, y12, z12⟩, st12⟩ := X11.virtualBack hx (y := (⟨"com/example/rigorous_chains/rigorouschains/prism/Type", "isNumeric", "()Z"⟩ : MethodName)) (z := (⟨"com/example/rigorous_chains/rigorouschains/prism/Type", "isNumeric", "()Z"⟩ : MethodName)) hown (mvT hZ (wd13 hw)) (mvT hZ (wd14 hw)) (notFace_of_selects (args := #[]) (mvT hZ (wd16 hw))) (mvT hZ (wd16 hw)) (mvT hZ (wd15 hw)) (by decide) (backOf (W := 0) (rm2_0 l Z a0 hw [] w_DOUBLE w_BOOL h7 n0 OL7 pr9 pr10) hZ (wd17 hw) (wd3 hw) (by decide) (by decide)) q12a q12c (g := (mkF m 56 #[.val (.int p1), .val (.int p2), .val (.int p3), .val (.ref b1), .val (.ref w_DOUBLE), .val (.ref w_DOUBLE), .val (.ref w_DOUBLE), .val (.ref w_DOUBLE), .unset, .unset, .unset] [(.ref w_DOUBLE)])) rfl (by rw [hml]; rfl) (Steps.refl _) (argsL := []) (rest := []) (lenOf pd_1 rfl) rfl (by show 2 * 0 + _ ≤ _; exact Nat.le_of_eq rfl) (hb hby at_56) (fun _ _ => ⟨rfl, ec11, (by decide : 1 + 0 ≤ _), (by decide : 2 + 0 ≤ _)⟩)
  dsimp only [Pt.U, Pt.locs, Pt.cells, Pt.slots] at X12 l12 y12 z12 st12 hQ12
  subst l12 y12 z12
  obtain ⟨rfl, Nq12, ec12⟩ := hQ12
  have N12 := Fr.app N11 Nq12
  obtain ⟨cq13, kq13, q13a, q13b, q13c⟩ := isOf hZ ec12 (pr4.ext OL7.2)
  obtain ⟨_, _, ⟨T13, L13, k13, n13⟩, -, X13, ⟨Lc13, hQ13, l13, y13, z13⟩, st13⟩ := X12.virtualBack hx (y := (⟨"com/example/rigorous_chains/rigorouschains/prism/Type", "accepts", "(Lcom/example/rigorous_chains/rigorouschains/prism/Type;)Z"⟩ : MethodName)) (z := (⟨"com/example/rigorous_chains/rigorouschains/prism/Type", "accepts", "(Lcom/example/rigorous_chains/rigorouschains/prism/Type;)Z"⟩ : MethodName)) hown (mvT hZ (wd20 hw)) (mvT hZ (wd21 hw)) (notFace_of_selects (args := #[]) (mvT hZ (wd23 hw))) (mvT hZ (wd23 hw)) (mvT hZ (wd22 hw)) (by decide) (backOf (W := 0) (rm3_0 l Z a0 hw [] w_DOUBLE h7 n0 OL7 ) hZ (wd24 hw) (wd3 hw) (by decide) (by decide)) q13a q13c (g := (mkF m 66 #[.val (.int p1), .val (.int p2), .val (.int p3), .val (.ref b1), .val (.ref w_DOUBLE), .val (.ref w_DOUBLE), .val (.ref w_DOUBLE), .val (.ref w_DOUBLE), .unset, .unset, .unset] [(.ref w_DOUBLE), (.ref w_DOUBLE)])) rfl (by rw [hml]; rfl) (Steps.refl _) (argsL := [(.ref w_DOUBLE)]) (rest := []) (lenOf pd_2 rfl) rfl (by show 2 * 0 + _ ≤ _; exact Nat.le_of_eq rfl) (hb hby at_66) (fun _ _ => ⟨rfl, ec12, (by decide : 1 + 0 ≤ _), (by decide : 2 + 0 ≤ _)⟩)
  dsimp only [Pt.U, Pt.locs, Pt.cells, Pt.slots] at X13 l13 y13 z13 st13 hQ13
  subst l13 y13 z13
  obtain ⟨rfl, Nq13, ec13⟩ := hQ13
  have N13 := Fr.app N12 Nq13
  obtain ⟨cq14, kq14, q14a, q14b, q14c⟩ := isOf hZ ec13 (pr4.ext OL7.2)
  obtain ⟨_, _, ⟨T14, L14, k14, n14⟩, -, X14, ⟨Lc14, hQ14, l14, y14, z14⟩, st14⟩ := X13.virtualBack hx (y := (⟨"com/example/rigorous_chains/rigorouschains/prism/Type", "accepts", "(Lcom/example/rigorous_chains/rigorouschains/prism/Type;)Z"⟩ : MethodName)) (z := (⟨"com/example/rigorous_chains/rigorouschains/prism/Type", "accepts", "(Lcom/example/rigorous_chains/rigorouschains/prism/Type;)Z"⟩ : MethodName)) hown (mvT hZ (wd20 hw)) (mvT hZ (wd21 hw)) (notFace_of_selects (args := #[]) (mvT hZ (wd23 hw))) (mvT hZ (wd23 hw)) (mvT hZ (wd22 hw)) (by decide) (backOf (W := 0) (rm3_0 l Z a0 hw [] w_DOUBLE h7 n0 OL7 ) hZ (wd24 hw) (wd3 hw) (by decide) (by decide)) q14a q14c (g := (mkF m 76 #[.val (.int p1), .val (.int p2), .val (.int p3), .val (.ref b1), .val (.ref w_DOUBLE), .val (.ref w_DOUBLE), .val (.ref w_DOUBLE), .val (.ref w_DOUBLE), .unset, .unset, .unset] [(.ref w_DOUBLE), (.ref w_DOUBLE)])) rfl (by rw [hml]; rfl) (Steps.refl _) (argsL := [(.ref w_DOUBLE)]) (rest := []) (lenOf pd_2 rfl) rfl (by show 2 * 0 + _ ≤ _; exact Nat.le_of_eq rfl) (hb hby at_76) (fun _ _ => ⟨rfl, ec13, (by decide : 1 + 0 ≤ _), (by decide : 2 + 0 ≤ _)⟩)
  dsimp only [Pt.U, Pt.locs, Pt.cells, Pt.slots] at X14 l14 y14 z14 st14 hQ14
  subst l14 y14 z14
  obtain ⟨rfl, Nq14, ec14⟩ := hQ14
  have N14 := Fr.app N13 Nq14
  obtain ⟨cq15, kq15, q15a, q15b, q15c⟩ := isOf hZ ec14 (pr4.ext OL7.2)
  obtain ⟨_, _, ⟨T15, L15, k15, n15⟩, -, X15, ⟨Lc15, hQ15, l15, y15, z15⟩, st15⟩ := X14.virtualBack hx (y := (⟨"com/example/rigorous_chains/rigorouschains/prism/Type", "accepts", "(Lcom/example/rigorous_chains/rigorouschains/prism/Type;)Z"⟩ : MethodName)) (z := (⟨"com/example/rigorous_chains/rigorouschains/prism/Type", "accepts", "(Lcom/example/rigorous_chains/rigorouschains/prism/Type;)Z"⟩ : MethodName)) hown (mvT hZ (wd20 hw)) (mvT hZ (wd21 hw)) (notFace_of_selects (args := #[]) (mvT hZ (wd23 hw))) (mvT hZ (wd23 hw)) (mvT hZ (wd22 hw)) (by decide) (backOf (W := 0) (rm3_0 l Z a0 hw [] w_DOUBLE h7 n0 OL7 ) hZ (wd24 hw) (wd3 hw) (by decide) (by decide)) q15a q15c (g := (mkF m 93 #[.val (.int p1), .val (.int p2), .val (.int p3), .val (.ref b1), .val (.ref w_DOUBLE), .val (.ref w_DOUBLE), .val (.ref w_DOUBLE), .val (.ref w_DOUBLE), .val (.int (1 : Int32)), .unset, .unset] [(.ref w_DOUBLE), (.ref w_DOUBLE)])) rfl (by rw [hml]; rfl) (Steps.refl _) (argsL := [(.ref w_DOUBLE)]) (rest := []) (lenOf pd_2 rfl) rfl (by show 2 * 0 + _ ≤ _; exact Nat.le_of_eq rfl) (hb hby at_93) (fun _ _ => ⟨rfl, ec14, (by decide : 1 + 0 ≤ _), (by decide : 2 + 0 ≤ _)⟩)
  dsimp only [Pt.U, Pt.locs, Pt.cells, Pt.slots] at X15 l15 y15 z15 st15 hQ15
  subst l15 y15 z15
  obtain ⟨rfl, Nq15, ec15⟩ := hQ15
  have N15 := Fr.app N14 Nq15
  obtain ⟨cq16, kq16, q16a, q16b, q16c⟩ := isOf hZ ec15 (pr4.ext OL7.2)
  obtain ⟨_, _, ⟨T16, L16, k16, n16⟩, -, X16, ⟨Lc16, hQ16, l16, y16, z16⟩, st16⟩ := X15.virtualBack hx (y := (⟨"com/example/rigorous_chains/rigorouschains/prism/Type", "accepts", "(Lcom/example/rigorous_chains/rigorouschains/prism/Type;)Z"⟩ : MethodName)) (z := (⟨"com/example/rigorous_chains/rigorouschains/prism/Type", "accepts", "(Lcom/example/rigorous_chains/rigorouschains/prism/Type;)Z"⟩ : MethodName)) hown (mvT hZ (wd20 hw)) (mvT hZ (wd21 hw)) (notFace_of_selects (args := #[]) (mvT hZ (wd23 hw))) (mvT hZ (wd23 hw)) (mvT hZ (wd22 hw)) (by decide) (backOf (W := 0) (rm3_0 l Z a0 hw [] w_DOUBLE h7 n0 OL7 ) hZ (wd24 hw) (wd3 hw) (by decide) (by decide)) q16a q16c (g := (mkF m 103 #[.val (.int p1), .val (.int p2), .val (.int p3), .val (.ref b1), .val (.ref w_DOUBLE), .val (.ref w_DOUBLE), .val (.ref w_DOUBLE), .val (.ref w_DOUBLE), .val (.int (1 : Int32)), .unset, .unset] [(.ref w_DOUBLE), (.ref w_DOUBLE)])) rfl (by rw [hml]; rfl) (Steps.refl _) (argsL := [(.ref w_DOUBLE)]) (rest := []) (lenOf pd_2 rfl) rfl (by show 2 * 0 + _ ≤ _; exact Nat.le_of_eq rfl) (hb hby at_103) (fun _ _ => ⟨rfl, ec15, (by decide : 1 + 0 ≤ _), (by decide : 2 + 0 ≤ _)⟩)
  dsimp only [Pt.U, Pt.locs, Pt.cells, Pt.slots] at X16 l16 y16 z16 st16 hQ16
  subst l16 y16 z16
  obtain ⟨rfl, Nq16, ec16⟩ := hQ16
  have N16 := Fr.app N15 Nq16
  obtain ⟨cq17, kq17, q17a, q17b, q17c⟩ := isOf hZ ec16 (pr4.ext OL7.2)
  obtain ⟨_, _, ⟨T17, L17, k17, n17⟩, -, X17, ⟨Lc17, hQ17, l17, y17, z17⟩, st17⟩ := X16.virtualBack hx (y := (⟨"com/example/rigorous_chains/rigorouschains/prism/Type", "accepts", "(Lcom/example/rigorous_chains/rigorouschains/prism/Type;)Z"⟩ : MethodName)) (z := (⟨"com/example/rigorous_chains/rigorouschains/prism/Type", "accepts", "(Lcom/example/rigorous_chains/rigorouschains/prism/Type;)Z"⟩ : MethodName)) hown (mvT hZ (wd20 hw)) (mvT hZ (wd21 hw)) (notFace_of_selects (args := #[]) (mvT hZ (wd23 hw))) (mvT hZ (wd23 hw)) (mvT hZ (wd22 hw)) (by decide) (backOf (W := 0) (rm3_0 l Z a0 hw [] w_DOUBLE h7 n0 OL7 ) hZ (wd24 hw) (wd3 hw) (by decide) (by decide)) q17a q17c (g := (mkF m 113 #[.val (.int p1), .val (.int p2), .val (.int p3), .val (.ref b1), .val (.ref w_DOUBLE), .val (.ref w_DOUBLE), .val (.ref w_DOUBLE), .val (.ref w_DOUBLE), .val (.int (1 : Int32)), .unset, .unset] [(.ref w_DOUBLE), (.ref w_DOUBLE)])) rfl (by rw [hml]; rfl) (Steps.refl _) (argsL := [(.ref w_DOUBLE)]) (rest := []) (lenOf pd_2 rfl) rfl (by show 2 * 0 + _ ≤ _; exact Nat.le_of_eq rfl) (hb hby at_113) (fun _ _ => ⟨rfl, ec16, (by decide : 1 + 0 ≤ _), (by decide : 2 + 0 ≤ _)⟩)
  dsimp only [Pt.U, Pt.locs, Pt.cells, Pt.slots] at X17 l17 y17 z17 st17 hQ17
  subst l17 y17 z17
  obtain ⟨rfl, Nq17, ec17⟩ := hQ17
  have N17 := Fr.app N16 Nq17
  obtain ⟨_, _, ⟨T18, L18, k18, n18⟩, -, X18, ⟨Lc18, hQ18, l18, y18, z18⟩, st18⟩ := Jvm.LawKit.callS X17 hx (y := (⟨"com/example/rigorous_chains/rigorouschains/prism/Type", "widest", "(Lcom/example/rigorous_chains/rigorouschains/prism/Type;Lcom/example/rigorous_chains/rigorouschains/prism/Type;)Lcom/example/rigorous_chains/rigorouschains/prism/Type;"⟩ : MethodName)) hown (mvT hZ (wd8 hw)) (mvT hZ (wd9 hw)) (mvT hZ (wd3 hw)) (mvT hZ (wd10 hw)) (by decide) (backOf (W := 0) (rm1_3 l Z a0 hw [] w_DOUBLE w_INT h7 n0 OL7 pr1 pr8 pr3) hZ (wd10 hw) (wd3 hw) (by decide) (by decide)) (g := (mkF m 130 #[.val (.int p1), .val (.int p2), .val (.int p3), .val (.ref b1), .val (.ref w_DOUBLE), .val (.ref w_DOUBLE), .val (.ref w_DOUBLE), .val (.ref w_DOUBLE), .val (.int (1 : Int32)), .val (.int (1 : Int32)), .unset] [(.ref w_DOUBLE), (.ref w_DOUBLE)])) rfl (by rw [hml]; rfl) (argsL := [(.ref w_DOUBLE), (.ref w_DOUBLE)]) (rest := []) (lenOf pd_0 rfl) rfl (by show 2 * 0 + _ ≤ _; exact Nat.le_of_eq rfl) (hb hby at_130) (fun _ _ => ⟨rfl, ec17, (by decide : 1 + 0 ≤ _), (by decide : 2 + 0 ≤ _)⟩)
  dsimp only [Pt.U, Pt.locs, Pt.cells, Pt.slots] at X18 l18 y18 z18 st18 hQ18
  subst l18 y18 z18
  obtain ⟨rfl, Nq18, ec18⟩ := hQ18
  have N18 := Fr.app N17 Nq18
  obtain ⟨fs, hr, hrun, hended, hW, hsame⟩ := X18.leave (v := some (.int (1 : Int32))) (fun h => by rw [Bd.returns] at h; cases h)
  refine ⟨_, _, pre0 _ ?_, hrun, hended, _, _, rfl, ?_, ⟨_, rfl⟩, hW, hsame.mono (by decide) (by decide)⟩
  · show Steps p.tables e below (s₁.setTop (mkF m 0 #[.val (.int p1), .val (.int p2), .val (.int p3), .unset, .unset, .unset, .unset, .unset, .unset, .unset, .unset] [])) _
    refine XS.iconst X0.here hx rfl (hb hby at_0) ?_
    show Steps p.tables e below (s₁.setTop (mkF m 1 #[.val (.int p1), .val (.int p2), .val (.int p3), .unset, .unset, .unset, .unset, .unset, .unset, .unset, .unset] [(.int (2 : Int32))])) _
    refine st1 _ ?_
    show Steps p.tables e below (T1.setTop (mkF m 4 #[.val (.int p1), .val (.int p2), .val (.int p3), .unset, .unset, .unset, .unset, .unset, .unset, .unset, .unset] [(.ref b1)])) _
    refine XS.dup X1.here hx rfl (hb hby at_4) rfl rfl ?_
    show Steps p.tables e below (T1.setTop (mkF m 5 #[.val (.int p1), .val (.int p2), .val (.int p3), .unset, .unset, .unset, .unset, .unset, .unset, .unset, .unset] [(.ref b1), (.ref b1)])) _
    refine XS.iconst X1.here hx rfl (hb hby at_5) ?_
    show Steps p.tables e below (T1.setTop (mkF m 6 #[.val (.int p1), .val (.int p2), .val (.int p3), .unset, .unset, .unset, .unset, .unset, .unset, .unset, .unset] [(.int (0 : Int32)), (.ref b1), (.ref b1)])) _
    refine st2 _ ?_
    show Steps p.tables e below (T2.setTop (mkF m 9 #[.val (.int p1), .val (.int p2), .val (.int p3), .unset, .unset, .unset, .unset, .unset, .unset, .unset, .unset] [(.ref w_INT), (.int (0 : Int32)), (.ref b1), (.ref b1)])) _
    refine st4 _ ?_
    show Steps p.tables e below (T4.setTop (mkF m 10 #[.val (.int p1), .val (.int p2), .val (.int p3), .unset, .unset, .unset, .unset, .unset, .unset, .unset, .unset] [(.ref b1)])) _
    refine XS.dup X4.here hx rfl (hb hby at_10) rfl rfl ?_
    show Steps p.tables e below (T4.setTop (mkF m 11 #[.val (.int p1), .val (.int p2), .val (.int p3), .unset, .unset, .unset, .unset, .unset, .unset, .unset, .unset] [(.ref b1), (.ref b1)])) _
    refine XS.iconst X4.here hx rfl (hb hby at_11) ?_
    show Steps p.tables e below (T4.setTop (mkF m 12 #[.val (.int p1), .val (.int p2), .val (.int p3), .unset, .unset, .unset, .unset, .unset, .unset, .unset, .unset] [(.int (1 : Int32)), (.ref b1), (.ref b1)])) _
    refine st5 _ ?_
    show Steps p.tables e below (T5.setTop (mkF m 15 #[.val (.int p1), .val (.int p2), .val (.int p3), .unset, .unset, .unset, .unset, .unset, .unset, .unset, .unset] [(.ref w_DOUBLE), (.int (1 : Int32)), (.ref b1), (.ref b1)])) _
    refine st7 _ ?_
    show Steps p.tables e below (T7.setTop (mkF m 16 #[.val (.int p1), .val (.int p2), .val (.int p3), .unset, .unset, .unset, .unset, .unset, .unset, .unset, .unset] [(.ref b1)])) _
    refine XS.astoreN X7.here hx rfl (hb hby at_16) rfl rfl (l' := #[.val (.int p1), .val (.int p2), .val (.int p3), .val (.ref b1), .unset, .unset, .unset, .unset, .unset, .unset, .unset]) rfl ?_
    show Steps p.tables e below (T7.setTop (mkF m 17 #[.val (.int p1), .val (.int p2), .val (.int p3), .val (.ref b1), .unset, .unset, .unset, .unset, .unset, .unset, .unset] [])) _
    refine XS.aloadN X7.here hx rfl (hb hby at_17) rfl rfl ?_
    show Steps p.tables e below (T7.setTop (mkF m 18 #[.val (.int p1), .val (.int p2), .val (.int p3), .val (.ref b1), .unset, .unset, .unset, .unset, .unset, .unset, .unset] [(.ref b1)])) _
    refine XS.iloadN X7.here hx rfl (hb hby at_18) rfl ?_
    show Steps p.tables e below (T7.setTop (mkF m 19 #[.val (.int p1), .val (.int p2), .val (.int p3), .val (.ref b1), .unset, .unset, .unset, .unset, .unset, .unset, .unset] [(.int p1), (.ref b1)])) _
    refine XS.iconst X7.here hx rfl (hb hby at_19) ?_
    show Steps p.tables e below (T7.setTop (mkF m 20 #[.val (.int p1), .val (.int p2), .val (.int p3), .val (.ref b1), .unset, .unset, .unset, .unset, .unset, .unset, .unset] [(.int (1 : Int32)), (.int p1), (.ref b1)])) _
    refine XS.iand X7.here hx rfl (hb hby at_20) rfl ?_
    show Steps p.tables e below (T7.setTop (mkF m 21 #[.val (.int p1), .val (.int p2), .val (.int p3), .val (.ref b1), .unset, .unset, .unset, .unset, .unset, .unset, .unset] [(.int (p1 &&& (1 : Int32))), (.ref b1)])) _
    rw [pr5]
    show Steps p.tables e below (T7.setTop (mkF m 21 #[.val (.int p1), .val (.int p2), .val (.int p3), .val (.ref b1), .unset, .unset, .unset, .unset, .unset, .unset, .unset] [(.int (1 : Int32)), (.ref b1)])) _
    refine X7.aaload hx (j := (1 : Int32)) (v := (.ref w_DOUBLE)) (by rw [e7]; exact Ar8.1) (State.isArrayOf_alike hZ.alike Ar8.2.1) rfl Ar8.2.2 hin8 hat8 (g := (mkF m 21 #[.val (.int p1), .val (.int p2), .val (.int p3), .val (.ref b1), .unset, .unset, .unset, .unset, .unset, .unset, .unset] [(.int (1 : Int32)), (.ref b1)])) rfl rfl (hb hby at_21) _ ?_
    show Steps p.tables e below (T7.setTop (mkF m 22 #[.val (.int p1), .val (.int p2), .val (.int p3), .val (.ref b1), .unset, .unset, .unset, .unset, .unset, .unset, .unset] [(.ref w_DOUBLE)])) _
    refine XS.astore X7.here hx rfl (hb hby at_22) rfl rfl (l' := #[.val (.int p1), .val (.int p2), .val (.int p3), .val (.ref b1), .val (.ref w_DOUBLE), .unset, .unset, .unset, .unset, .unset, .unset]) rfl ?_
    show Steps p.tables e below (T7.setTop (mkF m 24 #[.val (.int p1), .val (.int p2), .val (.int p3), .val (.ref b1), .val (.ref w_DOUBLE), .unset, .unset, .unset, .unset, .unset, .unset] [])) _
    refine XS.aloadN X7.here hx rfl (hb hby at_24) rfl rfl ?_
    show Steps p.tables e below (T7.setTop (mkF m 25 #[.val (.int p1), .val (.int p2), .val (.int p3), .val (.ref b1), .val (.ref w_DOUBLE), .unset, .unset, .unset, .unset, .unset, .unset] [(.ref b1)])) _
    refine XS.iloadN X7.here hx rfl (hb hby at_25) rfl ?_
    show Steps p.tables e below (T7.setTop (mkF m 26 #[.val (.int p1), .val (.int p2), .val (.int p3), .val (.ref b1), .val (.ref w_DOUBLE), .unset, .unset, .unset, .unset, .unset, .unset] [(.int p2), (.ref b1)])) _
    refine XS.iconst X7.here hx rfl (hb hby at_26) ?_
    show Steps p.tables e below (T7.setTop (mkF m 27 #[.val (.int p1), .val (.int p2), .val (.int p3), .val (.ref b1), .val (.ref w_DOUBLE), .unset, .unset, .unset, .unset, .unset, .unset] [(.int (1 : Int32)), (.int p2), (.ref b1)])) _
    refine XS.iand X7.here hx rfl (hb hby at_27) rfl ?_
    show Steps p.tables e below (T7.setTop (mkF m 28 #[.val (.int p1), .val (.int p2), .val (.int p3), .val (.ref b1), .val (.ref w_DOUBLE), .unset, .unset, .unset, .unset, .unset, .unset] [(.int (p2 &&& (1 : Int32))), (.ref b1)])) _
    rw [pr6]
    show Steps p.tables e below (T7.setTop (mkF m 28 #[.val (.int p1), .val (.int p2), .val (.int p3), .val (.ref b1), .val (.ref w_DOUBLE), .unset, .unset, .unset, .unset, .unset, .unset] [(.int (1 : Int32)), (.ref b1)])) _
    refine X7.aaload hx (j := (1 : Int32)) (v := (.ref w_DOUBLE)) (by rw [e7]; exact Ar9.1) (State.isArrayOf_alike hZ.alike Ar9.2.1) rfl Ar9.2.2 hin9 hat9 (g := (mkF m 28 #[.val (.int p1), .val (.int p2), .val (.int p3), .val (.ref b1), .val (.ref w_DOUBLE), .unset, .unset, .unset, .unset, .unset, .unset] [(.int (1 : Int32)), (.ref b1)])) rfl rfl (hb hby at_28) _ ?_
    show Steps p.tables e below (T7.setTop (mkF m 29 #[.val (.int p1), .val (.int p2), .val (.int p3), .val (.ref b1), .val (.ref w_DOUBLE), .unset, .unset, .unset, .unset, .unset, .unset] [(.ref w_DOUBLE)])) _
    refine XS.astore X7.here hx rfl (hb hby at_29) rfl rfl (l' := #[.val (.int p1), .val (.int p2), .val (.int p3), .val (.ref b1), .val (.ref w_DOUBLE), .val (.ref w_DOUBLE), .unset, .unset, .unset, .unset, .unset]) rfl ?_
    show Steps p.tables e below (T7.setTop (mkF m 31 #[.val (.int p1), .val (.int p2), .val (.int p3), .val (.ref b1), .val (.ref w_DOUBLE), .val (.ref w_DOUBLE), .unset, .unset, .unset, .unset, .unset] [])) _
    refine XS.aloadN X7.here hx rfl (hb hby at_31) rfl rfl ?_
    show Steps p.tables e below (T7.setTop (mkF m 32 #[.val (.int p1), .val (.int p2), .val (.int p3), .val (.ref b1), .val (.ref w_DOUBLE), .val (.ref w_DOUBLE), .unset, .unset, .unset, .unset, .unset] [(.ref b1)])) _
    refine XS.iloadN X7.here hx rfl (hb hby at_32) rfl ?_
    show Steps p.tables e below (T7.setTop (mkF m 33 #[.val (.int p1), .val (.int p2), .val (.int p3), .val (.ref b1), .val (.ref w_DOUBLE), .val (.ref w_DOUBLE), .unset, .unset, .unset, .unset, .unset] [(.int p3), (.ref b1)])) _
    refine XS.iconst X7.here hx rfl (hb hby at_33) ?_
    show Steps p.tables e below (T7.setTop (mkF m 34 #[.val (.int p1), .val (.int p2), .val (.int p3), .val (.ref b1), .val (.ref w_DOUBLE), .val (.ref w_DOUBLE), .unset, .unset, .unset, .unset, .unset] [(.int (1 : Int32)), (.int p3), (.ref b1)])) _
    refine XS.iand X7.here hx rfl (hb hby at_34) rfl ?_
    show Steps p.tables e below (T7.setTop (mkF m 35 #[.val (.int p1), .val (.int p2), .val (.int p3), .val (.ref b1), .val (.ref w_DOUBLE), .val (.ref w_DOUBLE), .unset, .unset, .unset, .unset, .unset] [(.int (p3 &&& (1 : Int32))), (.ref b1)])) _
    rw [pr7]
    show Steps p.tables e below (T7.setTop (mkF m 35 #[.val (.int p1), .val (.int p2), .val (.int p3), .val (.ref b1), .val (.ref w_DOUBLE), .val (.ref w_DOUBLE), .unset, .unset, .unset, .unset, .unset] [(.int (1 : Int32)), (.ref b1)])) _
    refine X7.aaload hx (j := (1 : Int32)) (v := (.ref w_DOUBLE)) (by rw [e7]; exact Ar10.1) (State.isArrayOf_alike hZ.alike Ar10.2.1) rfl Ar10.2.2 hin10 hat10 (g := (mkF m 35 #[.val (.int p1), .val (.int p2), .val (.int p3), .val (.ref b1), .val (.ref w_DOUBLE), .val (.ref w_DOUBLE), .unset, .unset, .unset, .unset, .unset] [(.int (1 : Int32)), (.ref b1)])) rfl rfl (hb hby at_35) _ ?_
    show Steps p.tables e below (T7.setTop (mkF m 36 #[.val (.int p1), .val (.int p2), .val (.int p3), .val (.ref b1), .val (.ref w_DOUBLE), .val (.ref w_DOUBLE), .unset, .unset, .unset, .unset, .unset] [(.ref w_DOUBLE)])) _
    refine XS.astore X7.here hx rfl (hb hby at_36) rfl rfl (l' := #[.val (.int p1), .val (.int p2), .val (.int p3), .val (.ref b1), .val (.ref w_DOUBLE), .val (.ref w_DOUBLE), .val (.ref w_DOUBLE), .unset, .unset, .unset, .unset]) rfl ?_
    show Steps p.tables e below (T7.setTop (mkF m 38 #[.val (.int p1), .val (.int p2), .val (.int p3), .val (.ref b1), .val (.ref w_DOUBLE), .val (.ref w_DOUBLE), .val (.ref w_DOUBLE), .unset, .unset, .unset, .unset] [])) _
    refine XS.aload X7.here hx rfl (hb hby at_38) rfl rfl ?_
    show Steps p.tables e below (T7.setTop (mkF m 40 #[.val (.int p1), .val (.int p2), .val (.int p3), .val (.ref b1), .val (.ref w_DOUBLE), .val (.ref w_DOUBLE), .val (.ref w_DOUBLE), .unset, .unset, .unset, .unset] [(.ref w_DOUBLE)])) _
    refine XS.aload X7.here hx rfl (hb hby at_40) rfl rfl ?_
    show Steps p.tables e below (T7.setTop (mkF m 42 #[.val (.int p1), .val (.int p2), .val (.int p3), .val (.ref b1), .val (.ref w_DOUBLE), .val (.ref w_DOUBLE), .val (.ref w_DOUBLE), .unset, .unset, .unset, .unset] [(.ref w_DOUBLE), (.ref w_DOUBLE)])) _
    refine st11 _ ?_
    show Steps p.tables e below (T11.setTop (mkF m 45 #[.val (.int p1), .val (.int p2), .val (.int p3), .val (.ref b1), .val (.ref w_DOUBLE), .val (.ref w_DOUBLE), .val (.ref w_DOUBLE), .unset, .unset, .unset, .unset] [(.ref w_DOUBLE)])) _
    refine XS.astore X11.here hx rfl (hb hby at_45) rfl rfl (l' := #[.val (.int p1), .val (.int p2), .val (.int p3), .val (.ref b1), .val (.ref w_DOUBLE), .val (.ref w_DOUBLE), .val (.ref w_DOUBLE), .val (.ref w_DOUBLE), .unset, .unset, .unset]) rfl ?_
    show Steps p.tables e below (T11.setTop (mkF m 47 #[.val (.int p1), .val (.int p2), .val (.int p3), .val (.ref b1), .val (.ref w_DOUBLE), .val (.ref w_DOUBLE), .val (.ref w_DOUBLE), .val (.ref w_DOUBLE), .unset, .unset, .unset] [])) _
    refine XS.aload X11.here hx rfl (hb hby at_47) rfl rfl ?_
    show Steps p.tables e below (T11.setTop (mkF m 49 #[.val (.int p1), .val (.int p2), .val (.int p3), .val (.ref b1), .val (.ref w_DOUBLE), .val (.ref w_DOUBLE), .val (.ref w_DOUBLE), .val (.ref w_DOUBLE), .unset, .unset, .unset] [(.ref w_DOUBLE)])) _
    refine XS.ifnonnullYes X11.here hx rfl (pc0 := 49) (pc' := 54) rfl (hb hby at_49) rfl (by decide) (by decide) ?_
    show Steps p.tables e below (T11.setTop (mkF m 54 #[.val (.int p1), .val (.int p2), .val (.int p3), .val (.ref b1), .val (.ref w_DOUBLE), .val (.ref w_DOUBLE), .val (.ref w_DOUBLE), .val (.ref w_DOUBLE), .unset, .unset, .unset] [])) _
    refine XS.aload X11.here hx rfl (hb hby at_54) rfl rfl ?_
    show Steps p.tables e below (T11.setTop (mkF m 56 #[.val (.int p1), .val (.int p2), .val (.int p3), .val (.ref b1), .val (.ref w_DOUBLE), .val (.ref w_DOUBLE), .val (.ref w_DOUBLE), .val (.ref w_DOUBLE), .unset, .unset, .unset] [(.ref w_DOUBLE)])) _
    refine st12.trans ?_
    show Steps p.tables e below (T12.setTop (mkF m 59 #[.val (.int p1), .val (.int p2), .val (.int p3), .val (.ref b1), .val (.ref w_DOUBLE), .val (.ref w_DOUBLE), .val (.ref w_DOUBLE), .val (.ref w_DOUBLE), .unset, .unset, .unset] [(.int (1 : Int32))])) _
    refine XS.ifNo X12.here hx rfl (hb hby at_59) rfl ((if0 _ _).trans (feq (by decide : ¬ ((1 : Int32) = (0 : Int32)))).1) ?_
    show Steps p.tables e below (T12.setTop (mkF m 62 #[.val (.int p1), .val (.int p2), .val (.int p3), .val (.ref b1), .val (.ref w_DOUBLE), .val (.ref w_DOUBLE), .val (.ref w_DOUBLE), .val (.ref w_DOUBLE), .unset, .unset, .unset] [])) _
    refine XS.aload X12.here hx rfl (hb hby at_62) rfl rfl ?_
    show Steps p.tables e below (T12.setTop (mkF m 64 #[.val (.int p1), .val (.int p2), .val (.int p3), .val (.ref b1), .val (.ref w_DOUBLE), .val (.ref w_DOUBLE), .val (.ref w_DOUBLE), .val (.ref w_DOUBLE), .unset, .unset, .unset] [(.ref w_DOUBLE)])) _
    refine XS.aload X12.here hx rfl (hb hby at_64) rfl rfl ?_
    show Steps p.tables e below (T12.setTop (mkF m 66 #[.val (.int p1), .val (.int p2), .val (.int p3), .val (.ref b1), .val (.ref w_DOUBLE), .val (.ref w_DOUBLE), .val (.ref w_DOUBLE), .val (.ref w_DOUBLE), .unset, .unset, .unset] [(.ref w_DOUBLE), (.ref w_DOUBLE)])) _
    refine st13.trans ?_
    show Steps p.tables e below (T13.setTop (mkF m 69 #[.val (.int p1), .val (.int p2), .val (.int p3), .val (.ref b1), .val (.ref w_DOUBLE), .val (.ref w_DOUBLE), .val (.ref w_DOUBLE), .val (.ref w_DOUBLE), .unset, .unset, .unset] [(.int (1 : Int32))])) _
    refine XS.ifNo X13.here hx rfl (hb hby at_69) rfl ((if0 _ _).trans (feq (by decide : ¬ ((1 : Int32) = (0 : Int32)))).1) ?_
    show Steps p.tables e below (T13.setTop (mkF m 72 #[.val (.int p1), .val (.int p2), .val (.int p3), .val (.ref b1), .val (.ref w_DOUBLE), .val (.ref w_DOUBLE), .val (.ref w_DOUBLE), .val (.ref w_DOUBLE), .unset, .unset, .unset] [])) _
    refine XS.aload X13.here hx rfl (hb hby at_72) rfl rfl ?_
    show Steps p.tables e below (T13.setTop (mkF m 74 #[.val (.int p1), .val (.int p2), .val (.int p3), .val (.ref b1), .val (.ref w_DOUBLE), .val (.ref w_DOUBLE), .val (.ref w_DOUBLE), .val (.ref w_DOUBLE), .unset, .unset, .unset] [(.ref w_DOUBLE)])) _
    refine XS.aload X13.here hx rfl (hb hby at_74) rfl rfl ?_
    show Steps p.tables e below (T13.setTop (mkF m 76 #[.val (.int p1), .val (.int p2), .val (.int p3), .val (.ref b1), .val (.ref w_DOUBLE), .val (.ref w_DOUBLE), .val (.ref w_DOUBLE), .val (.ref w_DOUBLE), .unset, .unset, .unset] [(.ref w_DOUBLE), (.ref w_DOUBLE)])) _
    refine st14.trans ?_
    show Steps p.tables e below (T14.setTop (mkF m 79 #[.val (.int p1), .val (.int p2), .val (.int p3), .val (.ref b1), .val (.ref w_DOUBLE), .val (.ref w_DOUBLE), .val (.ref w_DOUBLE), .val (.ref w_DOUBLE), .unset, .unset, .unset] [(.int (1 : Int32))])) _
    refine XS.ifNo X14.here hx rfl (hb hby at_79) rfl ((if0 _ _).trans (feq (by decide : ¬ ((1 : Int32) = (0 : Int32)))).1) ?_
    show Steps p.tables e below (T14.setTop (mkF m 82 #[.val (.int p1), .val (.int p2), .val (.int p3), .val (.ref b1), .val (.ref w_DOUBLE), .val (.ref w_DOUBLE), .val (.ref w_DOUBLE), .val (.ref w_DOUBLE), .unset, .unset, .unset] [])) _
    refine XS.iconst X14.here hx rfl (hb hby at_82) ?_
    show Steps p.tables e below (T14.setTop (mkF m 83 #[.val (.int p1), .val (.int p2), .val (.int p3), .val (.ref b1), .val (.ref w_DOUBLE), .val (.ref w_DOUBLE), .val (.ref w_DOUBLE), .val (.ref w_DOUBLE), .unset, .unset, .unset] [(.int (1 : Int32))])) _
    refine XS.goto X14.here hx rfl (pc0 := 83) (pc' := 87) rfl (hb hby at_83) (by decide) (by decide) ?_
    show Steps p.tables e below (T14.setTop (mkF m 87 #[.val (.int p1), .val (.int p2), .val (.int p3), .val (.ref b1), .val (.ref w_DOUBLE), .val (.ref w_DOUBLE), .val (.ref w_DOUBLE), .val (.ref w_DOUBLE), .unset, .unset, .unset] [(.int (1 : Int32))])) _
    refine XS.istore X14.here hx rfl (hb hby at_87) rfl (l' := #[.val (.int p1), .val (.int p2), .val (.int p3), .val (.ref b1), .val (.ref w_DOUBLE), .val (.ref w_DOUBLE), .val (.ref w_DOUBLE), .val (.ref w_DOUBLE), .val (.int (1 : Int32)), .unset, .unset]) rfl ?_
    show Steps p.tables e below (T14.setTop (mkF m 89 #[.val (.int p1), .val (.int p2), .val (.int p3), .val (.ref b1), .val (.ref w_DOUBLE), .val (.ref w_DOUBLE), .val (.ref w_DOUBLE), .val (.ref w_DOUBLE), .val (.int (1 : Int32)), .unset, .unset] [])) _
    refine XS.aload X14.here hx rfl (hb hby at_89) rfl rfl ?_
    show Steps p.tables e below (T14.setTop (mkF m 91 #[.val (.int p1), .val (.int p2), .val (.int p3), .val (.ref b1), .val (.ref w_DOUBLE), .val (.ref w_DOUBLE), .val (.ref w_DOUBLE), .val (.ref w_DOUBLE), .val (.int (1 : Int32)), .unset, .unset] [(.ref w_DOUBLE)])) _
    refine XS.aload X14.here hx rfl (hb hby at_91) rfl rfl ?_
    show Steps p.tables e below (T14.setTop (mkF m 93 #[.val (.int p1), .val (.int p2), .val (.int p3), .val (.ref b1), .val (.ref w_DOUBLE), .val (.ref w_DOUBLE), .val (.ref w_DOUBLE), .val (.ref w_DOUBLE), .val (.int (1 : Int32)), .unset, .unset] [(.ref w_DOUBLE), (.ref w_DOUBLE)])) _
    refine st15.trans ?_
    show Steps p.tables e below (T15.setTop (mkF m 96 #[.val (.int p1), .val (.int p2), .val (.int p3), .val (.ref b1), .val (.ref w_DOUBLE), .val (.ref w_DOUBLE), .val (.ref w_DOUBLE), .val (.ref w_DOUBLE), .val (.int (1 : Int32)), .unset, .unset] [(.int (1 : Int32))])) _
    refine XS.ifNo X15.here hx rfl (hb hby at_96) rfl ((if0 _ _).trans (feq (by decide : ¬ ((1 : Int32) = (0 : Int32)))).1) ?_
    show Steps p.tables e below (T15.setTop (mkF m 99 #[.val (.int p1), .val (.int p2), .val (.int p3), .val (.ref b1), .val (.ref w_DOUBLE), .val (.ref w_DOUBLE), .val (.ref w_DOUBLE), .val (.ref w_DOUBLE), .val (.int (1 : Int32)), .unset, .unset] [])) _
    refine XS.aload X15.here hx rfl (hb hby at_99) rfl rfl ?_
    show Steps p.tables e below (T15.setTop (mkF m 101 #[.val (.int p1), .val (.int p2), .val (.int p3), .val (.ref b1), .val (.ref w_DOUBLE), .val (.ref w_DOUBLE), .val (.ref w_DOUBLE), .val (.ref w_DOUBLE), .val (.int (1 : Int32)), .unset, .unset] [(.ref w_DOUBLE)])) _
    refine XS.aload X15.here hx rfl (hb hby at_101) rfl rfl ?_
    show Steps p.tables e below (T15.setTop (mkF m 103 #[.val (.int p1), .val (.int p2), .val (.int p3), .val (.ref b1), .val (.ref w_DOUBLE), .val (.ref w_DOUBLE), .val (.ref w_DOUBLE), .val (.ref w_DOUBLE), .val (.int (1 : Int32)), .unset, .unset] [(.ref w_DOUBLE), (.ref w_DOUBLE)])) _
    refine st16.trans ?_
    show Steps p.tables e below (T16.setTop (mkF m 106 #[.val (.int p1), .val (.int p2), .val (.int p3), .val (.ref b1), .val (.ref w_DOUBLE), .val (.ref w_DOUBLE), .val (.ref w_DOUBLE), .val (.ref w_DOUBLE), .val (.int (1 : Int32)), .unset, .unset] [(.int (1 : Int32))])) _
    refine XS.ifNo X16.here hx rfl (hb hby at_106) rfl ((if0 _ _).trans (feq (by decide : ¬ ((1 : Int32) = (0 : Int32)))).1) ?_
    show Steps p.tables e below (T16.setTop (mkF m 109 #[.val (.int p1), .val (.int p2), .val (.int p3), .val (.ref b1), .val (.ref w_DOUBLE), .val (.ref w_DOUBLE), .val (.ref w_DOUBLE), .val (.ref w_DOUBLE), .val (.int (1 : Int32)), .unset, .unset] [])) _
    refine XS.aload X16.here hx rfl (hb hby at_109) rfl rfl ?_
    show Steps p.tables e below (T16.setTop (mkF m 111 #[.val (.int p1), .val (.int p2), .val (.int p3), .val (.ref b1), .val (.ref w_DOUBLE), .val (.ref w_DOUBLE), .val (.ref w_DOUBLE), .val (.ref w_DOUBLE), .val (.int (1 : Int32)), .unset, .unset] [(.ref w_DOUBLE)])) _
    refine XS.aload X16.here hx rfl (hb hby at_111) rfl rfl ?_
    show Steps p.tables e below (T16.setTop (mkF m 113 #[.val (.int p1), .val (.int p2), .val (.int p3), .val (.ref b1), .val (.ref w_DOUBLE), .val (.ref w_DOUBLE), .val (.ref w_DOUBLE), .val (.ref w_DOUBLE), .val (.int (1 : Int32)), .unset, .unset] [(.ref w_DOUBLE), (.ref w_DOUBLE)])) _
    refine st17.trans ?_
    show Steps p.tables e below (T17.setTop (mkF m 116 #[.val (.int p1), .val (.int p2), .val (.int p3), .val (.ref b1), .val (.ref w_DOUBLE), .val (.ref w_DOUBLE), .val (.ref w_DOUBLE), .val (.ref w_DOUBLE), .val (.int (1 : Int32)), .unset, .unset] [(.int (1 : Int32))])) _
    refine XS.ifNo X17.here hx rfl (hb hby at_116) rfl ((if0 _ _).trans (feq (by decide : ¬ ((1 : Int32) = (0 : Int32)))).1) ?_
    show Steps p.tables e below (T17.setTop (mkF m 119 #[.val (.int p1), .val (.int p2), .val (.int p3), .val (.ref b1), .val (.ref w_DOUBLE), .val (.ref w_DOUBLE), .val (.ref w_DOUBLE), .val (.ref w_DOUBLE), .val (.int (1 : Int32)), .unset, .unset] [])) _
    refine XS.iconst X17.here hx rfl (hb hby at_119) ?_
    show Steps p.tables e below (T17.setTop (mkF m 120 #[.val (.int p1), .val (.int p2), .val (.int p3), .val (.ref b1), .val (.ref w_DOUBLE), .val (.ref w_DOUBLE), .val (.ref w_DOUBLE), .val (.ref w_DOUBLE), .val (.int (1 : Int32)), .unset, .unset] [(.int (1 : Int32))])) _
    refine XS.goto X17.here hx rfl (pc0 := 120) (pc' := 124) rfl (hb hby at_120) (by decide) (by decide) ?_
    show Steps p.tables e below (T17.setTop (mkF m 124 #[.val (.int p1), .val (.int p2), .val (.int p3), .val (.ref b1), .val (.ref w_DOUBLE), .val (.ref w_DOUBLE), .val (.ref w_DOUBLE), .val (.ref w_DOUBLE), .val (.int (1 : Int32)), .unset, .unset] [(.int (1 : Int32))])) _
    refine XS.istore X17.here hx rfl (hb hby at_124) rfl (l' := #[.val (.int p1), .val (.int p2), .val (.int p3), .val (.ref b1), .val (.ref w_DOUBLE), .val (.ref w_DOUBLE), .val (.ref w_DOUBLE), .val (.ref w_DOUBLE), .val (.int (1 : Int32)), .val (.int (1 : Int32)), .unset]) rfl ?_
    show Steps p.tables e below (T17.setTop (mkF m 126 #[.val (.int p1), .val (.int p2), .val (.int p3), .val (.ref b1), .val (.ref w_DOUBLE), .val (.ref w_DOUBLE), .val (.ref w_DOUBLE), .val (.ref w_DOUBLE), .val (.int (1 : Int32)), .val (.int (1 : Int32)), .unset] [])) _
    refine XS.aload X17.here hx rfl (hb hby at_126) rfl rfl ?_
    show Steps p.tables e below (T17.setTop (mkF m 128 #[.val (.int p1), .val (.int p2), .val (.int p3), .val (.ref b1), .val (.ref w_DOUBLE), .val (.ref w_DOUBLE), .val (.ref w_DOUBLE), .val (.ref w_DOUBLE), .val (.int (1 : Int32)), .val (.int (1 : Int32)), .unset] [(.ref w_DOUBLE)])) _
    refine XS.aload X17.here hx rfl (hb hby at_128) rfl rfl ?_
    show Steps p.tables e below (T17.setTop (mkF m 130 #[.val (.int p1), .val (.int p2), .val (.int p3), .val (.ref b1), .val (.ref w_DOUBLE), .val (.ref w_DOUBLE), .val (.ref w_DOUBLE), .val (.ref w_DOUBLE), .val (.int (1 : Int32)), .val (.int (1 : Int32)), .unset] [(.ref w_DOUBLE), (.ref w_DOUBLE)])) _
    refine st18 _ ?_
    show Steps p.tables e below (T18.setTop (mkF m 133 #[.val (.int p1), .val (.int p2), .val (.int p3), .val (.ref b1), .val (.ref w_DOUBLE), .val (.ref w_DOUBLE), .val (.ref w_DOUBLE), .val (.ref w_DOUBLE), .val (.int (1 : Int32)), .val (.int (1 : Int32)), .unset] [(.ref w_DOUBLE)])) _
    refine XS.aload X18.here hx rfl (hb hby at_133) rfl rfl ?_
    show Steps p.tables e below (T18.setTop (mkF m 135 #[.val (.int p1), .val (.int p2), .val (.int p3), .val (.ref b1), .val (.ref w_DOUBLE), .val (.ref w_DOUBLE), .val (.ref w_DOUBLE), .val (.ref w_DOUBLE), .val (.int (1 : Int32)), .val (.int (1 : Int32)), .unset] [(.ref w_DOUBLE), (.ref w_DOUBLE)])) _
    refine Jvm.RoadKit.acmp (g := (mkF m 135 #[.val (.int p1), .val (.int p2), .val (.int p3), .val (.ref b1), .val (.ref w_DOUBLE), .val (.ref w_DOUBLE), .val (.ref w_DOUBLE), .val (.ref w_DOUBLE), .val (.int (1 : Int32)), .val (.int (1 : Int32)), .unset] [(.ref w_DOUBLE), (.ref w_DOUBLE)])) X18 hx rfl rfl rfl (pc0 := 135) (pc' := 138) (same := true) rfl (hb hby at_135) rfl (decide_eq_true rfl) (by decide) (by decide) ?_
    show Steps p.tables e below (T18.setTop (mkF m 138 #[.val (.int p1), .val (.int p2), .val (.int p3), .val (.ref b1), .val (.ref w_DOUBLE), .val (.ref w_DOUBLE), .val (.ref w_DOUBLE), .val (.ref w_DOUBLE), .val (.int (1 : Int32)), .val (.int (1 : Int32)), .unset] [])) _
    refine XS.iconst X18.here hx rfl (hb hby at_138) ?_
    show Steps p.tables e below (T18.setTop (mkF m 139 #[.val (.int p1), .val (.int p2), .val (.int p3), .val (.ref b1), .val (.ref w_DOUBLE), .val (.ref w_DOUBLE), .val (.ref w_DOUBLE), .val (.ref w_DOUBLE), .val (.int (1 : Int32)), .val (.int (1 : Int32)), .unset] [(.int (1 : Int32))])) _
    refine XS.goto X18.here hx rfl (pc0 := 139) (pc' := 143) rfl (hb hby at_139) (by decide) (by decide) ?_
    show Steps p.tables e below (T18.setTop (mkF m 143 #[.val (.int p1), .val (.int p2), .val (.int p3), .val (.ref b1), .val (.ref w_DOUBLE), .val (.ref w_DOUBLE), .val (.ref w_DOUBLE), .val (.ref w_DOUBLE), .val (.int (1 : Int32)), .val (.int (1 : Int32)), .unset] [(.int (1 : Int32))])) _
    refine XS.istore X18.here hx rfl (hb hby at_143) rfl (l' := #[.val (.int p1), .val (.int p2), .val (.int p3), .val (.ref b1), .val (.ref w_DOUBLE), .val (.ref w_DOUBLE), .val (.ref w_DOUBLE), .val (.ref w_DOUBLE), .val (.int (1 : Int32)), .val (.int (1 : Int32)), .val (.int (1 : Int32))]) rfl ?_
    show Steps p.tables e below (T18.setTop (mkF m 145 #[.val (.int p1), .val (.int p2), .val (.int p3), .val (.ref b1), .val (.ref w_DOUBLE), .val (.ref w_DOUBLE), .val (.ref w_DOUBLE), .val (.ref w_DOUBLE), .val (.int (1 : Int32)), .val (.int (1 : Int32)), .val (.int (1 : Int32))] [])) _
    refine XS.iload X18.here hx rfl (hb hby at_145) rfl ?_
    show Steps p.tables e below (T18.setTop (mkF m 147 #[.val (.int p1), .val (.int p2), .val (.int p3), .val (.ref b1), .val (.ref w_DOUBLE), .val (.ref w_DOUBLE), .val (.ref w_DOUBLE), .val (.ref w_DOUBLE), .val (.int (1 : Int32)), .val (.int (1 : Int32)), .val (.int (1 : Int32))] [(.int (1 : Int32))])) _
    refine XS.ifNo X18.here hx rfl (hb hby at_147) rfl ((if0 _ _).trans (feq (by decide : ¬ ((1 : Int32) = (0 : Int32)))).1) ?_
    show Steps p.tables e below (T18.setTop (mkF m 150 #[.val (.int p1), .val (.int p2), .val (.int p3), .val (.ref b1), .val (.ref w_DOUBLE), .val (.ref w_DOUBLE), .val (.ref w_DOUBLE), .val (.ref w_DOUBLE), .val (.int (1 : Int32)), .val (.int (1 : Int32)), .val (.int (1 : Int32))] [])) _
    refine XS.iload X18.here hx rfl (hb hby at_150) rfl ?_
    show Steps p.tables e below (T18.setTop (mkF m 152 #[.val (.int p1), .val (.int p2), .val (.int p3), .val (.ref b1), .val (.ref w_DOUBLE), .val (.ref w_DOUBLE), .val (.ref w_DOUBLE), .val (.ref w_DOUBLE), .val (.int (1 : Int32)), .val (.int (1 : Int32)), .val (.int (1 : Int32))] [(.int (1 : Int32))])) _
    refine XS.ifNo X18.here hx rfl (hb hby at_152) rfl ((if0 _ _).trans (feq (by decide : ¬ ((1 : Int32) = (0 : Int32)))).1) ?_
    show Steps p.tables e below (T18.setTop (mkF m 155 #[.val (.int p1), .val (.int p2), .val (.int p3), .val (.ref b1), .val (.ref w_DOUBLE), .val (.ref w_DOUBLE), .val (.ref w_DOUBLE), .val (.ref w_DOUBLE), .val (.int (1 : Int32)), .val (.int (1 : Int32)), .val (.int (1 : Int32))] [])) _
    refine XS.iload X18.here hx rfl (hb hby at_155) rfl ?_
    show Steps p.tables e below (T18.setTop (mkF m 157 #[.val (.int p1), .val (.int p2), .val (.int p3), .val (.ref b1), .val (.ref w_DOUBLE), .val (.ref w_DOUBLE), .val (.ref w_DOUBLE), .val (.ref w_DOUBLE), .val (.int (1 : Int32)), .val (.int (1 : Int32)), .val (.int (1 : Int32))] [(.int (1 : Int32))])) _
    refine XS.ifNo X18.here hx rfl (hb hby at_157) rfl ((if0 _ _).trans (feq (by decide : ¬ ((1 : Int32) = (0 : Int32)))).1) ?_
    show Steps p.tables e below (T18.setTop (mkF m 160 #[.val (.int p1), .val (.int p2), .val (.int p3), .val (.ref b1), .val (.ref w_DOUBLE), .val (.ref w_DOUBLE), .val (.ref w_DOUBLE), .val (.ref w_DOUBLE), .val (.int (1 : Int32)), .val (.int (1 : Int32)), .val (.int (1 : Int32))] [])) _
    refine XS.iconst X18.here hx rfl (hb hby at_160) ?_
    show Steps p.tables e below (T18.setTop (mkF m 161 #[.val (.int p1), .val (.int p2), .val (.int p3), .val (.ref b1), .val (.ref w_DOUBLE), .val (.ref w_DOUBLE), .val (.ref w_DOUBLE), .val (.ref w_DOUBLE), .val (.int (1 : Int32)), .val (.int (1 : Int32)), .val (.int (1 : Int32))] [(.int (1 : Int32))])) _
    refine XS.goto X18.here hx rfl (pc0 := 161) (pc' := 165) rfl (hb hby at_161) (by decide) (by decide) ?_
    show Steps p.tables e below (T18.setTop (mkF m 165 #[.val (.int p1), .val (.int p2), .val (.int p3), .val (.ref b1), .val (.ref w_DOUBLE), .val (.ref w_DOUBLE), .val (.ref w_DOUBLE), .val (.ref w_DOUBLE), .val (.int (1 : Int32)), .val (.int (1 : Int32)), .val (.int (1 : Int32))] [(.int (1 : Int32))])) _
    exact retN X18 hx (t := .boolean) Bd.returns (by simp) (hb hby at_165) hr
  · exact ⟨rfl, N18⟩
set_option maxRecDepth 65536 in
set_option maxHeartbeats 40000000 in
theorem comes_1 {Post : Tables → Env → Array Value → State → Outcome → State → Prop} (hpost : ∀ tb e args s v u, (limb_1_1.after args s (.returned v) u = true ∧ limb_1_2.after args s (.returned v) u = true ∧ True) → FrameEnd s (.returned v) u (Jvm.fieldLocs frame_1_writes args s ++ Jvm.arrayLocs frame_1_arrays args s ++ Jvm.staticLocs frame_1_statics s) 16 128 → Post tb e args s (.returned v) u) :
    ArmFor flags0 classFile x code maxLocals ret World_1 tables_1 room_1 Calls_1 rest_1 Pre_1 Post := by
  intro l hfl _ _ p e ha hc hk s m args below hf hA hF happ hP
  obtain ⟨hcalls, hrest, hpre⟩ := hP
  obtain ⟨-, -, -, hnamed, -, -, -, hat⟩ := (Spec.applies_iff hf).mp happ
  obtain ⟨hg, hn⟩ := and_e (Cond.before_iff.mp (show (Jvm.Cond.and given_1 narrow_1).before args s = true from hpre))
  obtain ⟨g20, g21⟩ := and_e hg
  obtain ⟨g22, g23⟩ := and_e g21
  obtain ⟨g24, g25⟩ := and_e g23
  obtain ⟨w0, w1, w2, rfl⟩ : ∃ w0 w1 w2 : Value, args = #[w0, w1, w2] := by
    have hs : args.size = 3 := by simpa [Cond.value, given_1] using g20
    obtain ⟨L⟩ := args
    match L, hs with
    | [w0, w1, w2], _ => exact ⟨w0, w1, w2, rfl⟩
  have hw := fun d (hd : d ∈ tables_1) => atoms_spec (ws := Jvm.Cond.code x code maxLocals ret :: tables_1) hat d (List.mem_cons_of_mem _ hd)
  have hfit : Fit s := fun {y c} hc i hi => by
    obtain ⟨ha, rfl⟩ := Array.getElem?_eq_some_iff.mp hc
    have q := List.all_eq_true.mp ((Array.all_eq_true_iff_forall_mem.mp hF) _ (Array.getElem_mem ha)) i (List.mem_range.mpr hi)
    simpa [Array.getElem?_eq_getElem hi] using q
  obtain ⟨i0, ei0⟩ := is_v g22
  obtain rfl : w0 = (.int i0) := Option.some.inj ei0
  obtain ⟨i1, ei1⟩ := is_v g24
  obtain rfl : w1 = (.int i1) := Option.some.inj ei1
  obtain ⟨i2, ei2⟩ := is_v g25
  obtain rfl : w2 = (.int i2) := Option.some.inj ei2
  obtain ⟨n1, n2⟩ := and_e hn
  obtain ⟨n3, n4⟩ := and_e n2
  obtain ⟨n5, n6⟩ := and_e n4
  obtain ⟨n7, n8⟩ := and_e n6
  obtain ⟨n9, n10⟩ := and_e n8
  obtain ⟨w_INT, ev11⟩ := exa_v n1
  have S_Type_INT : Sta s s.heap "com/example/rigorous_chains/rigorouschains/prism/Type" "INT" "Lcom/example/rigorous_chains/rigorouschains/prism/Type;" (.ref w_INT) := Sta.start ev11 (Or.inr ⟨(wd3 hw), (wd4 hw)⟩)
  have E_w_INT : Exa s s.heap w_INT "com/example/rigorous_chains/rigorouschains/prism/Type" := Exa.start ev11 n1
  obtain ⟨w_DOUBLE, ev12⟩ := exa_v n3
  have S_Type_DOUBLE : Sta s s.heap "com/example/rigorous_chains/rigorouschains/prism/Type" "DOUBLE" "Lcom/example/rigorous_chains/rigorouschains/prism/Type;" (.ref w_DOUBLE) := Sta.start ev12 (Or.inr ⟨(wd3 hw), (wd7 hw)⟩)
  have E_w_DOUBLE : Exa s s.heap w_DOUBLE "com/example/rigorous_chains/rigorouschains/prism/Type" := Exa.start ev12 n3
  obtain ⟨w_BOOL, ev13⟩ := exa_v n9
  have S_Type_BOOL : Sta s s.heap "com/example/rigorous_chains/rigorouschains/prism/Type" "BOOL" "Lcom/example/rigorous_chains/rigorouschains/prism/Type;" (.ref w_BOOL) := Sta.start ev13 (Or.inr ⟨(wd3 hw), (wd19 hw)⟩)
  have E_w_BOOL : Exa s s.heap w_BOOL "com/example/rigorous_chains/rigorouschains/prism/Type" := Exa.start ev13 n9
  have ev14 := own_eqI n5
  have F_15 : Fld s s.heap w_DOUBLE "java/lang/Enum" "ordinal" "I" (.int (2 : Int32)) := Fld.start ((fld_at ev12).symm.trans ev14)
  have ev16 := own_eqI n7
  have F_17 : Fld s s.heap w_INT "java/lang/Enum" "ordinal" "I" (.int (1 : Int32)) := Fld.start ((fld_at ev11).symm.trans ev16)
  have ev18 := own_eqI n10
  have F_19 : Fld s s.heap w_BOOL "java/lang/Enum" "ordinal" "I" (.int (0 : Int32)) := Fld.start ((fld_at ev13).symm.trans ev18)
  have R : MetFree l x (head1 (Jvm.Cond.code x code maxLocals ret :: tables_1) room_1) (fun a U => a = #[(.int i0), (.int i1), (.int i2)] ∧ s.Warmed39 U.vm ∧ U.heap = s.heap) (fun _ _ _ _ _ => True) (fun _ U o U' => ∃ v L, o = .returned v ∧ Q0 s.heap.size v L ∧ FrameEnd U o U' L 16 128) := by
    rcases and_one i0 with hs0 | hs0
    · rcases and_one i1 with hs1 | hs1
      · rcases and_one i2 with hs2 | hs2
        · exact rm0_0_0_0 l s _ hw tables_1 i0 i1 i2 w_INT w_DOUBLE w_BOOL s.heap s.heap.size (Old.start s) S_Type_INT E_w_INT S_Type_DOUBLE E_w_DOUBLE hs0 hs1 hs2 S_Type_BOOL (Fld.ne F_17 F_19 (by decide))
        · exact rm0_0_0_1 l s _ hw tables_1 i0 i1 i2 w_INT w_DOUBLE w_BOOL s.heap s.heap.size (Old.start s) S_Type_INT E_w_INT S_Type_DOUBLE E_w_DOUBLE hs0 hs1 hs2 S_Type_BOOL (Fld.ne F_17 F_19 (by decide)) (Fld.ne F_15 F_17 (by decide))
      · rcases and_one i2 with hs2 | hs2
        · exact rm0_0_1_0 l s _ hw tables_1 i0 i1 i2 w_INT w_DOUBLE w_BOOL s.heap s.heap.size (Old.start s) S_Type_INT E_w_INT S_Type_DOUBLE E_w_DOUBLE hs0 hs1 hs2 (Fld.ne F_15 F_17 (by decide)) S_Type_BOOL (Fld.ne F_15 F_19 (by decide)) (Fld.ne F_17 F_15 (by decide))
        · exact rm0_0_1_1 l s _ hw tables_1 i0 i1 i2 w_INT w_DOUBLE w_BOOL s.heap s.heap.size (Old.start s) S_Type_INT E_w_INT S_Type_DOUBLE E_w_DOUBLE hs0 hs1 hs2 (Fld.ne F_15 F_17 (by decide)) S_Type_BOOL (Fld.ne F_15 F_19 (by decide))
    · rcases and_one i1 with hs1 | hs1
      · rcases and_one i2 with hs2 | hs2
        · exact rm0_1_0_0 l s _ hw tables_1 i0 i1 i2 w_INT w_DOUBLE w_BOOL s.heap s.heap.size (Old.start s) S_Type_INT E_w_INT S_Type_DOUBLE E_w_DOUBLE hs0 hs1 hs2 (Fld.ne F_15 F_17 (by decide)) S_Type_BOOL (Fld.ne F_15 F_19 (by decide)) (Fld.ne F_17 F_15 (by decide))
        · exact rm0_1_0_1 l s _ hw tables_1 i0 i1 i2 w_INT w_DOUBLE w_BOOL s.heap s.heap.size (Old.start s) S_Type_INT E_w_INT S_Type_DOUBLE E_w_DOUBLE hs0 hs1 hs2 (Fld.ne F_15 F_17 (by decide)) S_Type_BOOL (Fld.ne F_15 F_19 (by decide))
      · rcases and_one i2 with hs2 | hs2
        · exact rm0_1_1_0 l s _ hw tables_1 i0 i1 i2 w_INT w_DOUBLE w_BOOL s.heap s.heap.size (Old.start s) S_Type_INT E_w_INT S_Type_DOUBLE E_w_DOUBLE hs0 hs1 hs2 (Fld.ne F_15 F_17 (by decide)) S_Type_BOOL (Fld.ne F_15 F_19 (by decide)) (Fld.ne F_17 F_15 (by decide))
        · exact rm0_1_1_1 l s _ hw tables_1 i0 i1 i2 w_INT w_DOUBLE w_BOOL s.heap s.heap.size (Old.start s) S_Type_INT E_w_INT S_Type_DOUBLE E_w_DOUBLE hs0 hs1 hs2 (Fld.ne F_15 F_17 (by decide)) S_Type_BOOL (Fld.ne F_15 F_19 (by decide))
  obtain ⟨n, o, h1, h2, h3, _, L, rfl, ⟨rfl, N⟩, hq⟩ := R p e ha hc hk s m _ below hf ((Spec.applies_iff_loose hf).mp happ).1 ⟨rfl, State.Warmed39.refl s, rfl⟩ trivial
  refine ⟨n, _, h1, h2, h3, hpost _ _ _ _ _ _ ⟨Cond.after_iff.mpr rfl, Cond.after_iff.mpr (eq_i res_at (Term.int_eval (1)) rfl), trivial⟩ ⟨hq.1, hq.2.1, (hq.2.2.sift fun y hy => Or.inr (N y hy)).mono (by decide) (by decide)⟩⟩
theorem main_1_1 : Claimed_1_1 := comes_1 fun _ _ _ _ _ _ h hF => ⟨h.1, hF⟩
theorem main_1_2 : Claimed_1_2 := comes_1 fun _ _ _ _ _ _ h hF => ⟨h.2.1, hF⟩
end Jvm.Pilot.@@N@@
namespace Jvm.Pilot.@@N@@
open Jvm Jvm.ClassFile Sem Op Lib Jvm.Free Jvm.Stand Jvm.Pilot.@@N@@.Jvm.D
/-! MADE BY PROGRAM (witnessworld.py) out of the Statement's table words and the real class files: 13 classes; the members and pool entries that the words name. The judged class is class 1, her method 1. -/
namespace start1
open Jvm.ClassFile
def u (s : String) : CpInfo := .utf8 (stringToUtf16 s)
/-- a pool by its gaps: so many unusable entries, then the entry; so many at the end -/
def gap : Nat → List CpInfo → List CpInfo
  | 0, r => r
  | n + 1, r => .unusable :: gap n r
def poolList (es : List (Nat × CpInfo)) (last : Nat) : List CpInfo := es.foldr (fun e r => gap e.1 (e.2 :: r)) (gap last [])
def pool (es : List (Nat × CpInfo)) (last : Nat) : Array CpInfo := ⟨poolList es last⟩
def fileOf (pool : Array CpInfo) (this : Nat) (attrs : Array Attribute := #[]) (ms : Array MethodInfo := #[]) (fl : Nat := 33) (sup : Nat := 0) (ifs : Array Nat := #[]) (fds : Array FieldInfo := #[]) : ClassFile where
  minorVersion := 0
  majorVersion := 65
  constantPool := pool
  accessFlags := fl
  thisClass := this
  superClass := sup
  interfaces := ifs
  fields := fds
  methods := ms
  attributes := attrs
def plain (name : String) (sup : Option ClassId) : Class where
  name := name
  kind := .ordinary
  loader := none
  accessFlags := 33
  super := sup
  interfaces := #[]
  cf := none
  fields := #[]
  methods := #[]
  instanceTypes := #[]
  staticTypes := #[]
  resolved := #[]
  callSites := []
  init := .initialized
  statics := none
  mirror := none

def pool0 : Array CpInfo := pool [(5, u "<init>"), (0, u "()V"), (1, .class_ 10), (1, u "java/lang/Object")] 113

def k0m0 : Method := { name := "<init>", desc := "()V", sig := { parameters := [], returnType := none }, accessFlags := 1, code := none }
/-- java/lang/Object -/
def k0 : Class := { plain "java/lang/Object" none with
  accessFlags := 33
  interfaces := #[]
  cf := some (fileOf pool0 8 #[] #[{ accessFlags := 1, nameIndex := 5, descriptorIndex := 6, attributes := #[] }] 33 0 #[] #[])
  fields := #[]
  methods := #[k0m0]
  instanceTypes := #[]
  staticTypes := #[]
  resolved := Array.replicate 124 none
  statics := none }

def pool1 : Array CpInfo := pool [(2, .class_ 4), (1, u "java/lang/Object"), (0, u "<init>"), (0, u "()V"), (0, .class_ 8), (0, u "com/example/rigorous_chains/rigorouschains/prism/Type"), (0, .fieldref 7 10), (0, .nameAndType 11 12), (0, u "INT"), (0, u "Lcom/example/rigorous_chains/rigorouschains/prism/Type;"), (0, .fieldref 7 14), (0, .nameAndType 15 12), (0, u "DOUBLE"), (0, .methodref 7 17), (0, .nameAndType 18 19), (0, u "widest"), (0, u "(Lcom/example/rigorous_chains/rigorouschains/prism/Type;Lcom/example/rigorous_chains/rigorouschains/prism/Type;)Lcom/example/rigorous_chains/rigorouschains/prism/Type;"), (0, .methodref 7 21), (0, .nameAndType 22 23), (0, u "isNumeric"), (0, u "()Z"), (0, .methodref 7 25), (0, .nameAndType 26 27), (0, u "accepts"), (0, u "(Lcom/example/rigorous_chains/rigorouschains/prism/Type;)Z"), (0, .class_ 29), (0, u "com/example/rigorous_chains/rigorouschains/prism/TypeWidestPinLaw"), (2, u "law"), (0, u "(III)Z")] 5

def k1m0 : Method := { name := "<init>", desc := "()V", sig := { parameters := [], returnType := none }, accessFlags := 1, code := none }
def k1c1 : Code := { maxStack := 4, maxLocals := 11, code := code, exceptionTable := #[], attributes := #[] }
def k1m1 : Method := { name := "law", desc := "(III)Z", sig := { parameters := [.int, .int, .int], returnType := some .boolean }, accessFlags := 9, code := some k1c1 }
/-- com/example/rigorous_chains/rigorouschains/prism/TypeWidestPinLaw -/
def k1 : Class := { plain "com/example/rigorous_chains/rigorouschains/prism/TypeWidestPinLaw" (some 0) with
  accessFlags := 49
  interfaces := #[]
  cf := some (fileOf pool1 28 #[] #[{ accessFlags := 1, nameIndex := 5, descriptorIndex := 6, attributes := #[] }, { accessFlags := 9, nameIndex := 32, descriptorIndex := 33, attributes := #[] }] 49 2 #[] #[])
  fields := #[]
  methods := #[k1m0, k1m1]
  instanceTypes := #[]
  staticTypes := #[]
  resolved := Array.replicate 39 none
  statics := none }

def pool2 : Array CpInfo := pool [(1, .class_ 2), (0, u "java/lang/constant/Constable"), (0, .class_ 4), (0, u "java/lang/Object")] 6

/-- java/lang/constant/Constable -/
def k2 : Class := { plain "java/lang/constant/Constable" (some 0) with
  accessFlags := 1537
  interfaces := #[]
  cf := some (fileOf pool2 1 #[] #[] 1537 3 #[] #[])
  fields := #[]
  methods := #[]
  instanceTypes := #[]
  staticTypes := #[]
  resolved := Array.replicate 11 none
  statics := none }

def pool3 : Array CpInfo := pool [(1, .class_ 2), (0, u "java/lang/Comparable"), (0, .class_ 4), (0, u "java/lang/Object")] 7

/-- java/lang/Comparable -/
def k3 : Class := { plain "java/lang/Comparable" (some 0) with
  accessFlags := 1537
  interfaces := #[]
  cf := some (fileOf pool3 1 #[] #[] 1537 3 #[] #[])
  fields := #[]
  methods := #[]
  instanceTypes := #[]
  staticTypes := #[]
  resolved := Array.replicate 12 none
  statics := none }

def pool4 : Array CpInfo := pool [(1, .class_ 2), (0, u "java/io/Serializable"), (0, .class_ 4), (0, u "java/lang/Object")] 2

/-- java/io/Serializable -/
def k4 : Class := { plain "java/io/Serializable" (some 0) with
  accessFlags := 1537
  interfaces := #[]
  cf := some (fileOf pool4 1 #[] #[] 1537 3 #[] #[])
  fields := #[]
  methods := #[]
  instanceTypes := #[]
  staticTypes := #[]
  resolved := Array.replicate 7 none
  statics := none }

def pool5 : Array CpInfo := pool [(2, .class_ 4), (1, u "java/lang/Enum"), (0, u "name"), (0, u "Ljava/lang/String;"), (2, u "ordinal"), (0, u "I"), (1, .class_ 14), (1, u "java/lang/Object"), (4, u "hash"), (86, .class_ 108), (1, u "java/lang/Enum$EnumDesc"), (2, .class_ 112), (0, u "java/lang/constant/Constable"), (0, .class_ 114), (0, u "java/lang/Comparable"), (0, .class_ 116), (0, u "java/io/Serializable")] 87

/-- java/lang/Enum -/
def k5 : Class := { plain "java/lang/Enum" (some 0) with
  accessFlags := 1057
  interfaces := #[2, 3, 4]
  cf := some (fileOf pool5 2 #[.nestMembers #[106]] #[] 1057 12 #[111, 113, 115] #[{ accessFlags := 18, nameIndex := 5, descriptorIndex := 6, attributes := #[] }, { accessFlags := 18, nameIndex := 9, descriptorIndex := 10, attributes := #[] }, { accessFlags := 2, nameIndex := 19, descriptorIndex := 10, attributes := #[] }])
  fields := #[{ name := "name", type := (.object "java/lang/String"), accessFlags := 18, slot := 0, constantValue := 0 }, { name := "ordinal", type := .int, accessFlags := 18, slot := 1, constantValue := 0 }, { name := "hash", type := .int, accessFlags := 2, slot := 2, constantValue := 0 }]
  methods := #[]
  instanceTypes := #[(.object "java/lang/String"), .int, .int]
  staticTypes := #[]
  resolved := Array.replicate 204 none
  statics := none }

def pool6 : Array CpInfo := pool [(1, .class_ 2), (0, u "com/example/rigorous_chains/rigorouschains/prism/Type"), (0, .fieldref 1 4), (0, .nameAndType 5 6), (0, u "BOOL"), (0, u "Lcom/example/rigorous_chains/rigorouschains/prism/Type;"), (0, .fieldref 1 8), (0, .nameAndType 9 6), (0, u "INT"), (0, .fieldref 1 11), (0, .nameAndType 12 6), (0, u "DOUBLE"), (2, u "$VALUES"), (0, u "[Lcom/example/rigorous_chains/rigorouschains/prism/Type;"), (6, .class_ 25), (1, u "java/lang/Enum"), (8, u "keyword"), (0, u "Ljava/lang/String;"), (23, u "isNumeric"), (0, u "()Z"), (1, u "accepts"), (0, u "(Lcom/example/rigorous_chains/rigorouschains/prism/Type;)Z"), (0, u "widest"), (0, u "(Lcom/example/rigorous_chains/rigorouschains/prism/Type;Lcom/example/rigorous_chains/rigorouschains/prism/Type;)Lcom/example/rigorous_chains/rigorouschains/prism/Type;")] 7

def k6c0 : Code := { maxStack := 2, maxLocals := 1, code := prog_81_method_4_code, exceptionTable := #[], attributes := #[] }
def k6m0 : Method := { name := "isNumeric", desc := "()Z", sig := { parameters := [], returnType := some .boolean }, accessFlags := 1, code := some k6c0 }
def k6c1 : Code := { maxStack := 2, maxLocals := 2, code := prog_81_method_5_code, exceptionTable := #[], attributes := #[] }
def k6m1 : Method := { name := "accepts", desc := "(Lcom/example/rigorous_chains/rigorouschains/prism/Type;)Z", sig := { parameters := [(.object "com/example/rigorous_chains/rigorouschains/prism/Type")], returnType := some .boolean }, accessFlags := 1, code := some k6c1 }
def k6c2 : Code := { maxStack := 2, maxLocals := 3, code := prog_81_method_6_code, exceptionTable := #[], attributes := #[] }
def k6m2 : Method := { name := "widest", desc := "(Lcom/example/rigorous_chains/rigorouschains/prism/Type;Lcom/example/rigorous_chains/rigorouschains/prism/Type;)Lcom/example/rigorous_chains/rigorouschains/prism/Type;", sig := { parameters := [(.object "com/example/rigorous_chains/rigorouschains/prism/Type"), (.object "com/example/rigorous_chains/rigorouschains/prism/Type")], returnType := some (.object "com/example/rigorous_chains/rigorouschains/prism/Type") }, accessFlags := 8, code := some k6c2 }
/-- com/example/rigorous_chains/rigorouschains/prism/Type -/
def k6 : Class := { plain "com/example/rigorous_chains/rigorouschains/prism/Type" (some 5) with
  accessFlags := 16433
  interfaces := #[]
  cf := some (fileOf pool6 1 #[] #[{ accessFlags := 1, nameIndex := 59, descriptorIndex := 60, attributes := #[] }, { accessFlags := 1, nameIndex := 62, descriptorIndex := 63, attributes := #[] }, { accessFlags := 8, nameIndex := 64, descriptorIndex := 65, attributes := #[] }] 16433 23 #[] #[{ accessFlags := 16409, nameIndex := 5, descriptorIndex := 6, attributes := #[] }, { accessFlags := 16409, nameIndex := 9, descriptorIndex := 6, attributes := #[] }, { accessFlags := 16409, nameIndex := 12, descriptorIndex := 6, attributes := #[] }, { accessFlags := 18, nameIndex := 34, descriptorIndex := 35, attributes := #[] }, { accessFlags := 4122, nameIndex := 15, descriptorIndex := 16, attributes := #[] }])
  fields := #[{ name := "BOOL", type := (.object "com/example/rigorous_chains/rigorouschains/prism/Type"), accessFlags := 16409, slot := 0, constantValue := 0 }, { name := "INT", type := (.object "com/example/rigorous_chains/rigorouschains/prism/Type"), accessFlags := 16409, slot := 1, constantValue := 0 }, { name := "DOUBLE", type := (.object "com/example/rigorous_chains/rigorouschains/prism/Type"), accessFlags := 16409, slot := 2, constantValue := 0 }, { name := "keyword", type := (.object "java/lang/String"), accessFlags := 18, slot := 3, constantValue := 0 }, { name := "$VALUES", type := (.array (.object "com/example/rigorous_chains/rigorouschains/prism/Type")), accessFlags := 4122, slot := 3, constantValue := 0 }]
  methods := #[k6m0, k6m1, k6m2]
  instanceTypes := #[(.object "java/lang/String"), .int, .int, (.object "java/lang/String")]
  staticTypes := #[(.object "com/example/rigorous_chains/rigorouschains/prism/Type"), (.object "com/example/rigorous_chains/rigorouschains/prism/Type"), (.object "com/example/rigorous_chains/rigorouschains/prism/Type"), (.array (.object "com/example/rigorous_chains/rigorouschains/prism/Type"))]
  resolved := Array.replicate 73 none
  statics := some 0 }

def pool7 : Array CpInfo := pool [(1, u "java/lang/Cloneable"), (0, .class_ 1), (0, u "java/lang/Object"), (0, .class_ 3)] 3

/-- java/lang/Cloneable -/
def k7 : Class := { plain "java/lang/Cloneable" (some 0) with
  accessFlags := 1537
  interfaces := #[]
  cf := some (fileOf pool7 2 #[] #[] 1537 4 #[] #[])
  fields := #[]
  methods := #[]
  instanceTypes := #[]
  staticTypes := #[]
  resolved := Array.replicate 8 none
  statics := none }

/-- the primitive byte -/
def k8 : Class := { plain "byte" none with kind := .primitive 'B', accessFlags := 0x411 }
/-- [B -/
def k9 : Class := { plain "[B" (some 0) with kind := .array 8 .byte, interfaces := #[7, 4], accessFlags := 1041 }

/-- the primitive int -/
def k10 : Class := { plain "int" none with kind := .primitive 'I', accessFlags := 0x411 }
/-- [I -/
def k11 : Class := { plain "[I" (some 0) with kind := .array 10 .int, interfaces := #[7, 4], accessFlags := 1041 }

/-- [Lcom/example/rigorous_chains/rigorouschains/prism/Type; -/
def k12 : Class := { plain "[Lcom/example/rigorous_chains/rigorouschains/prism/Type;" (some 0) with kind := .array 6 (.object "com/example/rigorous_chains/rigorouschains/prism/Type"), interfaces := #[7, 4], accessFlags := 1041 }

def heap : Heap := #[{ cls := 6, slots := #[.ref 3, .ref 1, .ref 2, .null], vm := .statics 6 },
  { cls := 6, slots := #[.null, .int 1, .int 0, .null], vm := .none },
  { cls := 6, slots := #[.null, .int 2, .int 0, .null], vm := .none },
  { cls := 6, slots := #[.null, .int 0, .int 0, .null], vm := .none }]
def classes : Array Class := #[k0, k1, k2, k3, k4, k5, k6, k7, k8, k9, k10, k11, k12]
def interned : List (Array UInt16 × Addr) := []
def slotsUsed : Nat := 16
def theMethod : MethodId := ⟨1, 1⟩
def args0 : Array Value := #[.int 5, .int 1, .int 2]
def aboutOver (below : List Frame) : State where
  vm := { classes := classes, interned := interned.toArray }
  heap := heap
  slotsUsed := slotsUsed
  threads := #[{ frames := .invoking theMethod args0 :: below }]
def below0 : List Frame := [.native { method := ⟨0, 0⟩, args := #[] }]
def about1 : State := aboutOver below0
def p0 : Program := .bare "" "" ""
def e0 : Env := launch0.env 0 0 0
theorem w_frames : about1.frames = Frame.invoking theMethod args0 :: below0 := rfl
set_option maxRecDepth 65536 in
theorem w_args : argsFit about1.vm theMethod args0 = true := by decide +kernel
set_option maxRecDepth 65536 in
theorem w_heap : heapFits about1 = true := by decide +kernel
set_option maxRecDepth 65536 in
theorem w_runnable : about1.curStatus? = some .runnable := by decide +kernel
set_option maxRecDepth 65536 in
theorem w_alone : about1.alone = true := by decide +kernel
set_option maxRecDepth 65536 in
theorem w_named : about1.methodNamed? x = some theMethod := by decide +kernel
set_option maxRecDepth 65536 in
theorem w_hears : about1.hears theMethod below0 = true := by decide +kernel
set_option maxRecDepth 65536 in
theorem w_ripe : about1.ripe theMethod args0 below0 = true := by decide +kernel
theorem w_running : about1.status = .running := rfl
set_option maxRecDepth 65536 in
theorem w_room : about1.hasRoom e0.platform room_1 = true :=
  launch0.hasRoom_least _ room_1 (by decide +kernel) (by decide +kernel) (by decide +kernel) (by decide +kernel) (by decide +kernel) (by decide +kernel)
theorem allAtoms_all (ts : List Jvm.Cond) (a : Array Jvm.Value) (st : Jvm.State) : (allAtoms ts).before a st = ts.all (fun c => c.before a st) := by
  induction ts with
  | nil => rfl
  | cons c t ih =>
    show (Jvm.Cond.and c (allAtoms t)).before a st = _
    rw [Jvm.Cond.before_and, ih, List.all_cons]
def words1 : List Jvm.Cond := Jvm.Cond.code x code maxLocals ret :: tables_1
/-- a 'code' word, met by the world's own term for the bytes: nothing is compared byte by byte -/
theorem code_word {y : MethodName} {bytes : ByteArray} {mx : Nat} {rt : Option FieldType} {a : Array Value} {s : State} {m : MethodId} {meth : Method} {c : Code} (h1 : s.methodNamed? y = some m) (h2 : s.vm.method? m = some meth) (h3 : meth.code = some c) (h4 : c.code = bytes)
    (h5 : (c.maxLocals == mx && c.exceptionTable.isEmpty && decide (c.maxStack ≤ mostOperands) && decide (meth.sig.returnType = rt) && !meth.locks && decide (parseMethodDescriptor y.desc = some meth.sig)) = true) : (Jvm.Cond.code y bytes mx rt).before a s = true := by
  simp only [Bool.and_eq_true, beq_iff_eq, Bool.not_eq_true', decide_eq_true_eq] at h5
  obtain ⟨⟨⟨⟨⟨g1, g2⟩, g3⟩, g4⟩, g5⟩, g6⟩ := h5
  simp [Cond.before, Cond.holds, Cond.value, h1, h2, h3, h4, g1, g2, g3, g4, g5, g6]
def isCode : Jvm.Cond → Bool
  | .code _ _ _ _ => true
  | _ => false
theorem all_split {L : List Jvm.Cond} {P : Jvm.Cond → Bool} (h1 : L.all (fun c => isCode c || P c) = true) (h2 : ∀ c ∈ L.filter isCode, P c = true) : L.all P = true := by
  refine List.all_eq_true.mpr fun c hc => ?_
  have h := List.all_eq_true.mp h1 c hc
  rcases Bool.eq_false_or_eq_true (isCode c) with hi | hi
  · exact h2 c (List.mem_filter.mpr ⟨hc, hi⟩)
  · simpa [hi] using h
set_option maxRecDepth 65536 in
theorem w_c0 : (Jvm.Cond.code x code maxLocals ret).before args0 about1 = true := code_word (m := ⟨1, 1⟩) (meth := k1m1) (c := k1c1) (by decide +kernel) rfl rfl rfl (by decide +kernel)
set_option maxRecDepth 65536 in
theorem w_c1 : (Jvm.Cond.code ({ cls := "com/example/rigorous_chains/rigorouschains/prism/Type", name := "widest", desc := "(Lcom/example/rigorous_chains/rigorouschains/prism/Type;Lcom/example/rigorous_chains/rigorouschains/prism/Type;)Lcom/example/rigorous_chains/rigorouschains/prism/Type;" } : Jvm.MethodName) prog_81_method_6_code (3 : Nat) (Option.some (Jvm.ClassFile.FieldType.object "com/example/rigorous_chains/rigorouschains/prism/Type"))).before args0 about1 = true := code_word (m := ⟨6, 2⟩) (meth := k6m2) (c := k6c2) (by decide +kernel) rfl rfl rfl (by decide +kernel)
set_option maxRecDepth 65536 in
theorem w_c2 : (Jvm.Cond.code ({ cls := "com/example/rigorous_chains/rigorouschains/prism/Type", name := "isNumeric", desc := "()Z" } : Jvm.MethodName) prog_81_method_4_code (1 : Nat) (Option.some Jvm.ClassFile.FieldType.boolean)).before args0 about1 = true := code_word (m := ⟨6, 0⟩) (meth := k6m0) (c := k6c0) (by decide +kernel) rfl rfl rfl (by decide +kernel)
set_option maxRecDepth 65536 in
theorem w_c3 : (Jvm.Cond.code ({ cls := "com/example/rigorous_chains/rigorouschains/prism/Type", name := "accepts", desc := "(Lcom/example/rigorous_chains/rigorouschains/prism/Type;)Z" } : Jvm.MethodName) prog_81_method_5_code (2 : Nat) (Option.some Jvm.ClassFile.FieldType.boolean)).before args0 about1 = true := code_word (m := ⟨6, 1⟩) (meth := k6m1) (c := k6c1) (by decide +kernel) rfl rfl rfl (by decide +kernel)
def codes1 : List Jvm.Cond := [Jvm.Cond.code x code maxLocals ret, Jvm.Cond.code ({ cls := "com/example/rigorous_chains/rigorouschains/prism/Type", name := "widest", desc := "(Lcom/example/rigorous_chains/rigorouschains/prism/Type;Lcom/example/rigorous_chains/rigorouschains/prism/Type;)Lcom/example/rigorous_chains/rigorouschains/prism/Type;" } : Jvm.MethodName) prog_81_method_6_code (3 : Nat) (Option.some (Jvm.ClassFile.FieldType.object "com/example/rigorous_chains/rigorouschains/prism/Type")), Jvm.Cond.code ({ cls := "com/example/rigorous_chains/rigorouschains/prism/Type", name := "isNumeric", desc := "()Z" } : Jvm.MethodName) prog_81_method_4_code (1 : Nat) (Option.some Jvm.ClassFile.FieldType.boolean), Jvm.Cond.code ({ cls := "com/example/rigorous_chains/rigorouschains/prism/Type", name := "accepts", desc := "(Lcom/example/rigorous_chains/rigorouschains/prism/Type;)Z" } : Jvm.MethodName) prog_81_method_5_code (2 : Nat) (Option.some Jvm.ClassFile.FieldType.boolean)]
set_option maxRecDepth 65536 in
theorem codes_eq : words1.filter isCode = codes1 := rfl
theorem w_codes : ∀ c ∈ words1.filter isCode, c.before args0 about1 = true := by
  rw [codes_eq]
  intro c hc
  simp only [codes1, List.mem_cons, List.not_mem_nil, or_false] at hc
  rcases hc with rfl | rfl | rfl | rfl
  · exact w_c0
  · exact w_c1
  · exact w_c2
  · exact w_c3
set_option maxRecDepth 65536 in
theorem w_t1 : (words1.take 24).all (fun c => isCode c || c.before args0 about1) = true := by decide +kernel
set_option maxRecDepth 65536 in
theorem w_t2 : (words1.drop 24).all (fun c => isCode c || c.before args0 about1) = true := by decide +kernel
theorem w_tables : (allAtoms (Jvm.Cond.code x code maxLocals ret :: tables_1)).before args0 about1 = true := by
  rw [allAtoms_all]
  show words1.all (fun c => c.before args0 about1) = true
  refine all_split ?_ w_codes
  rw [← List.take_append_drop 24 words1, List.all_append, w_t1, w_t2]
  rfl
set_option maxRecDepth 65536 in
theorem w_case : (Jvm.Cond.and given_1 narrow_1).before args0 about1 = true := by decide +kernel
theorem w_applies : (headSpec (Jvm.Cond.code x code maxLocals ret :: tables_1) room_1).applies x e0.platform about1 = true :=
  (Spec.applies_iff w_frames).mpr ⟨w_running, w_runnable, w_alone, w_named, w_hears, w_ripe, w_room, w_tables⟩
theorem atStart : AtStart classFile x code maxLocals ret World_1 tables_1 room_1 Calls_1 rest_1 Pre_1 launch0 p0 e0 about1 theMethod args0 below0 :=
  ⟨lists_1, trivial, launch0.admits_env _ _ _, launch0.least_env, fairChoices_fair.cas, fairChoices_fair.clock, w_frames, w_args, w_heap, w_applies, trivial, trivial, w_case⟩
end start1
theorem witness_1 : WitnessClaimed_1 := ⟨start1.p0, start1.e0, start1.about1, start1.theMethod, start1.args0, start1.below0, start1.atStart⟩
end Jvm.Pilot.@@N@@
