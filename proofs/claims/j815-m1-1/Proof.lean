import JvmDerived
import JvmDerived.Pilot.@@N@@Statement
import JvmDerived.Pilot.@@N@@Code
set_option linter.unusedVariables false
set_option linter.unusedSimpArgs false
namespace Jvm.RoadKit
open Sem ClassFile Op Lib Jvm.Stand Jvm.Free Jvm.LawKit
section New
variable {p : Program} {l : Launch} {e : Env} {R : Room} {s : State} {m : MethodId} {args : Array Value} {below : List Frame} {meth : Method} {c : Code} {T : State} {locs : List Loc} {cells slots : Nat}
theorem retI (X : Stand p l e R s m args below meth c T locs cells slots) (hx : p.tables.exec = Jvm.exec) {pc : Nat} {Ls : Array Slot} {z : Int32} {rest : List Value} (hret : meth.sig.returnType = some .int) (hd : decode c.code pc = .ok (.ireturn, 1)) {fs : List Frame}
    (hl : ∀ (f : JFrame) (acts : List Action), f.method = m → f.locked = none → f.entered = [] → (doReturn e (T.setTop f) acts (some (.int z))).1 = T.setFrames fs) : Steps p.tables e below (T.setTop (mkF m pc Ls (.int z :: rest))) (T.setFrames fs) := by
  have hm' : T.vm.method? m = some meth := X.method'
  have hn : narrow .int (.int z) = .int z := rfl
  show Steps p.tables e below (T.setTop { method := m, pc := pc, locals := Ls, stack := _ :: rest, locked := none }) _
  jvm_step X.here [X.here.top, hx, hd, hm', hret, hn]
  first | (intro acts; rw [hl _ acts rfl rfl rfl]) | rw [hl _ _ rfl rfl rfl]
  exact Steps.refl _
end New
end Jvm.RoadKit
namespace Jvm.Pilot.@@N@@
open Jvm Jvm.ClassFile Sem Op Lib Jvm.Free Jvm.Stand Jvm.LawKit Jvm.RoadKit Bundle Jvm.Pilot.@@N@@.Jvm.D
theorem own_eqI {args : Array Value} {s : State} {t : Term} {k : Int32} (h : (Jvm.Cond.eq t (.int k)).value args s none s [] = some true) : t.eval args s none [] s = some (.int k) := by
  obtain ⟨x, y, hx, hy, -, k2⟩ := cmp_v (Or.inl h)
  obtain rfl : y = .int k := (Option.some.inj ((Term.int_eval k).symm.trans hy)).symm
  obtain ⟨z, rfl⟩ := k2
  have := gotT (Cond.eq_ints hx (Term.int_eval k)) h
  rw [hx, this]
def Q0 (n0 : Nat) (v : Option Value) (L : List Loc) : Prop := v = some (.int 1) ∧ Fr n0 L
theorem own_mod3 (x : Int32) : ((x &&& (2147483647 : Int32)) % (3 : Int32)) = (0 : Int32) ∨ ((x &&& (2147483647 : Int32)) % (3 : Int32)) = (1 : Int32) ∨ ((x &&& (2147483647 : Int32)) % (3 : Int32)) = (2 : Int32) := by
  have e1 := c_mask x 2147483647 31 (by decide) (by decide)
  have e2 := (c_irem (x &&& (2147483647 : Int32)) (3 : Int32) 3 (by decide)).1 (by omega)
  generalize ((x &&& (2147483647 : Int32)) % (3 : Int32)) = r at *
  have hd : r.toInt = 0 ∨ r.toInt = 1 ∨ r.toInt = 2 := by omega
  rcases hd with h | h | h
  · exact Or.inl (Int32.toInt_inj.mp (h.trans (by decide)))
  · exact Or.inr (Or.inl (Int32.toInt_inj.mp (h.trans (by decide))))
  · exact Or.inr (Or.inr (Int32.toInt_inj.mp (h.trans (by decide))))
theorem wd0 {a0 : Array Value} {Z : State} (hw : ∀ d ∈ tables_1, d.before a0 Z = true) : (Jvm.Cond.methodLink "com/example/rowforge/rowforge/TruthAndPinLaw" (20 : Nat) ({ cls := "com/example/rowforge/rowforge/TruthAndPinLaw", name := "pick", desc := "(I)Lcom/example/rowforge/rowforge/Truth;" } : Jvm.MethodName)).before a0 Z = true := hw _ (List.mem_of_getElem? (i := 0) rfl)
theorem wd1 {a0 : Array Value} {Z : State} (hw : ∀ d ∈ tables_1, d.before a0 Z = true) : (Jvm.Cond.static ({ cls := "com/example/rowforge/rowforge/TruthAndPinLaw", name := "pick", desc := "(I)Lcom/example/rowforge/rowforge/Truth;" } : Jvm.MethodName)).before a0 Z = true := hw _ (List.mem_of_getElem? (i := 1) rfl)
theorem wd2 {a0 : Array Value} {Z : State} (hw : ∀ d ∈ tables_1, d.before a0 Z = true) : (Jvm.Cond.initialized "com/example/rowforge/rowforge/TruthAndPinLaw").before a0 Z = true := hw _ (List.mem_of_getElem? (i := 2) rfl)
theorem wd3 {a0 : Array Value} {Z : State} (hw : ∀ d ∈ tables_1, d.before a0 Z = true) : (Jvm.Cond.code ({ cls := "com/example/rowforge/rowforge/TruthAndPinLaw", name := "pick", desc := "(I)Lcom/example/rowforge/rowforge/Truth;" } : Jvm.MethodName) method_2_code (2 : Nat) (Option.some (Jvm.ClassFile.FieldType.object "com/example/rowforge/rowforge/Truth"))).before a0 Z = true := hw _ (List.mem_of_getElem? (i := 3) rfl)
theorem wd4 {a0 : Array Value} {Z : State} (hw : ∀ d ∈ tables_1, d.before a0 Z = true) : (Jvm.Cond.constant "com/example/rowforge/rowforge/TruthAndPinLaw" (7 : Nat) (2147483647 : Int32)).before a0 Z = true := hw _ (List.mem_of_getElem? (i := 4) rfl)
theorem wd5 {a0 : Array Value} {Z : State} (hw : ∀ d ∈ tables_1, d.before a0 Z = true) : (Jvm.Cond.fieldLink "com/example/rowforge/rowforge/TruthAndPinLaw" (8 : Nat) "com/example/rowforge/rowforge/Truth" "FALSE" "Lcom/example/rowforge/rowforge/Truth;").before a0 Z = true := hw _ (List.mem_of_getElem? (i := 5) rfl)
theorem wd6 {a0 : Array Value} {Z : State} (hw : ∀ d ∈ tables_1, d.before a0 Z = true) : (Jvm.Cond.initialized "com/example/rowforge/rowforge/Truth").before a0 Z = true := hw _ (List.mem_of_getElem? (i := 6) rfl)
theorem wd7 {a0 : Array Value} {Z : State} (hw : ∀ d ∈ tables_1, d.before a0 Z = true) : (Jvm.Cond.laysStatic "com/example/rowforge/rowforge/Truth" "FALSE" "Lcom/example/rowforge/rowforge/Truth;").before a0 Z = true := hw _ (List.mem_of_getElem? (i := 7) rfl)
theorem wd8 {a0 : Array Value} {Z : State} (hw : ∀ d ∈ tables_1, d.before a0 Z = true) : (Jvm.Cond.methodLink "com/example/rowforge/rowforge/TruthAndPinLaw" (26 : Nat) ({ cls := "com/example/rowforge/rowforge/Truth", name := "and", desc := "(Lcom/example/rowforge/rowforge/Truth;)Lcom/example/rowforge/rowforge/Truth;" } : Jvm.MethodName)).before a0 Z = true := hw _ (List.mem_of_getElem? (i := 8) rfl)
theorem wd9 {a0 : Array Value} {Z : State} (hw : ∀ d ∈ tables_1, d.before a0 Z = true) : (Jvm.Cond.declares ({ cls := "com/example/rowforge/rowforge/Truth", name := "and", desc := "(Lcom/example/rowforge/rowforge/Truth;)Lcom/example/rowforge/rowforge/Truth;" } : Jvm.MethodName)).before a0 Z = true := hw _ (List.mem_of_getElem? (i := 9) rfl)
theorem wd10 {a0 : Array Value} {Z : State} (hw : ∀ d ∈ tables_1, d.before a0 Z = true) : (Jvm.Cond.instanceMethod ({ cls := "com/example/rowforge/rowforge/Truth", name := "and", desc := "(Lcom/example/rowforge/rowforge/Truth;)Lcom/example/rowforge/rowforge/Truth;" } : Jvm.MethodName)).before a0 Z = true := hw _ (List.mem_of_getElem? (i := 10) rfl)
theorem wd11 {a0 : Array Value} {Z : State} (hw : ∀ d ∈ tables_1, d.before a0 Z = true) : (Jvm.Cond.selects "com/example/rowforge/rowforge/Truth" ({ cls := "com/example/rowforge/rowforge/Truth", name := "and", desc := "(Lcom/example/rowforge/rowforge/Truth;)Lcom/example/rowforge/rowforge/Truth;" } : Jvm.MethodName) ({ cls := "com/example/rowforge/rowforge/Truth", name := "and", desc := "(Lcom/example/rowforge/rowforge/Truth;)Lcom/example/rowforge/rowforge/Truth;" } : Jvm.MethodName)).before a0 Z = true := hw _ (List.mem_of_getElem? (i := 11) rfl)
theorem wd12 {a0 : Array Value} {Z : State} (hw : ∀ d ∈ tables_1, d.before a0 Z = true) : (Jvm.Cond.code ({ cls := "com/example/rowforge/rowforge/Truth", name := "and", desc := "(Lcom/example/rowforge/rowforge/Truth;)Lcom/example/rowforge/rowforge/Truth;" } : Jvm.MethodName) prog_36_method_6_code (3 : Nat) (Option.some (Jvm.ClassFile.FieldType.object "com/example/rowforge/rowforge/Truth"))).before a0 Z = true := hw _ (List.mem_of_getElem? (i := 12) rfl)
theorem wd13 {a0 : Array Value} {Z : State} (hw : ∀ d ∈ tables_1, d.before a0 Z = true) : (Jvm.Cond.fieldLink "com/example/rowforge/rowforge/Truth" (7 : Nat) "com/example/rowforge/rowforge/Truth" "FALSE" "Lcom/example/rowforge/rowforge/Truth;").before a0 Z = true := hw _ (List.mem_of_getElem? (i := 13) rfl)
theorem wd14 {a0 : Array Value} {Z : State} (hw : ∀ d ∈ tables_1, d.before a0 Z = true) : (Jvm.Cond.methodLink "com/example/rowforge/rowforge/TruthAndPinLaw" (30 : Nat) ({ cls := "com/example/rowforge/rowforge/TruthAndPinLaw", name := "rank", desc := "(Lcom/example/rowforge/rowforge/Truth;)I" } : Jvm.MethodName)).before a0 Z = true := hw _ (List.mem_of_getElem? (i := 14) rfl)
theorem wd15 {a0 : Array Value} {Z : State} (hw : ∀ d ∈ tables_1, d.before a0 Z = true) : (Jvm.Cond.static ({ cls := "com/example/rowforge/rowforge/TruthAndPinLaw", name := "rank", desc := "(Lcom/example/rowforge/rowforge/Truth;)I" } : Jvm.MethodName)).before a0 Z = true := hw _ (List.mem_of_getElem? (i := 15) rfl)
theorem wd16 {a0 : Array Value} {Z : State} (hw : ∀ d ∈ tables_1, d.before a0 Z = true) : (Jvm.Cond.code ({ cls := "com/example/rowforge/rowforge/TruthAndPinLaw", name := "rank", desc := "(Lcom/example/rowforge/rowforge/Truth;)I" } : Jvm.MethodName) method_3_code (1 : Nat) (Option.some Jvm.ClassFile.FieldType.int)).before a0 Z = true := hw _ (List.mem_of_getElem? (i := 16) rfl)
theorem wd17 {a0 : Array Value} {Z : State} (hw : ∀ d ∈ tables_1, d.before a0 Z = true) : (Jvm.Cond.methodLink "com/example/rowforge/rowforge/TruthAndPinLaw" (34 : Nat) ({ cls := "java/lang/Math", name := "min", desc := "(II)I" } : Jvm.MethodName)).before a0 Z = true := hw _ (List.mem_of_getElem? (i := 17) rfl)
theorem wd18 {a0 : Array Value} {Z : State} (hw : ∀ d ∈ tables_1, d.before a0 Z = true) : (Jvm.Cond.static ({ cls := "java/lang/Math", name := "min", desc := "(II)I" } : Jvm.MethodName)).before a0 Z = true := hw _ (List.mem_of_getElem? (i := 18) rfl)
theorem wd19 {a0 : Array Value} {Z : State} (hw : ∀ d ∈ tables_1, d.before a0 Z = true) : (Jvm.Cond.initialized "java/lang/Math").before a0 Z = true := hw _ (List.mem_of_getElem? (i := 19) rfl)
theorem wd20 {a0 : Array Value} {Z : State} (hw : ∀ d ∈ tables_1, d.before a0 Z = true) : (Jvm.Cond.code ({ cls := "java/lang/Math", name := "min", desc := "(II)I" } : Jvm.MethodName) jdk_29_method_69_code (2 : Nat) (Option.some Jvm.ClassFile.FieldType.int)).before a0 Z = true := hw _ (List.mem_of_getElem? (i := 20) rfl)
theorem wd21 {a0 : Array Value} {Z : State} (hw : ∀ d ∈ tables_1, d.before a0 Z = true) : (Jvm.Cond.fieldLink "com/example/rowforge/rowforge/TruthAndPinLaw" (17 : Nat) "com/example/rowforge/rowforge/Truth" "TRUE" "Lcom/example/rowforge/rowforge/Truth;").before a0 Z = true := hw _ (List.mem_of_getElem? (i := 21) rfl)
theorem wd22 {a0 : Array Value} {Z : State} (hw : ∀ d ∈ tables_1, d.before a0 Z = true) : (Jvm.Cond.laysStatic "com/example/rowforge/rowforge/Truth" "TRUE" "Lcom/example/rowforge/rowforge/Truth;").before a0 Z = true := hw _ (List.mem_of_getElem? (i := 22) rfl)
theorem wd23 {a0 : Array Value} {Z : State} (hw : ∀ d ∈ tables_1, d.before a0 Z = true) : (Jvm.Cond.fieldLink "com/example/rowforge/rowforge/TruthAndPinLaw" (14 : Nat) "com/example/rowforge/rowforge/Truth" "UNKNOWN" "Lcom/example/rowforge/rowforge/Truth;").before a0 Z = true := hw _ (List.mem_of_getElem? (i := 23) rfl)
theorem wd24 {a0 : Array Value} {Z : State} (hw : ∀ d ∈ tables_1, d.before a0 Z = true) : (Jvm.Cond.laysStatic "com/example/rowforge/rowforge/Truth" "UNKNOWN" "Lcom/example/rowforge/rowforge/Truth;").before a0 Z = true := hw _ (List.mem_of_getElem? (i := 24) rfl)
theorem wd25 {a0 : Array Value} {Z : State} (hw : ∀ d ∈ tables_1, d.before a0 Z = true) : (Jvm.Cond.fieldLink "com/example/rowforge/rowforge/Truth" (3 : Nat) "com/example/rowforge/rowforge/Truth" "TRUE" "Lcom/example/rowforge/rowforge/Truth;").before a0 Z = true := hw _ (List.mem_of_getElem? (i := 25) rfl)
theorem wd26 {a0 : Array Value} {Z : State} (hw : ∀ d ∈ tables_1, d.before a0 Z = true) : (Jvm.Cond.fieldLink "com/example/rowforge/rowforge/Truth" (10 : Nat) "com/example/rowforge/rowforge/Truth" "UNKNOWN" "Lcom/example/rowforge/rowforge/Truth;").before a0 Z = true := hw _ (List.mem_of_getElem? (i := 26) rfl)
theorem d1_0 : decode method_2_code 0 = .ok (.iload_n 0, 1) := by decide +kernel
theorem d1_1 : decode method_2_code 1 = .ok (.ldc 7, 2) := by decide +kernel
theorem d1_3 : decode method_2_code 3 = .ok (.iand, 1) := by decide +kernel
theorem d1_4 : decode method_2_code 4 = .ok (.iconst 3, 1) := by decide +kernel
theorem d1_5 : decode method_2_code 5 = .ok (.irem, 1) := by decide +kernel
theorem d1_6 : decode method_2_code 6 = .ok (.istore_n 1, 1) := by decide +kernel
theorem d1_7 : decode method_2_code 7 = .ok (.iload_n 1, 1) := by decide +kernel
theorem d1_8 : decode method_2_code 8 = .ok (.ifCond .ne 7, 3) := by decide +kernel
theorem d1_11 : decode method_2_code 11 = .ok (.getstatic 8, 3) := by decide +kernel
theorem d1_14 : decode method_2_code 14 = .ok (.areturn, 1) := by decide +kernel
theorem ef_1_0 (m : MethodId) (x0 : Int32) : entryFrame m #[(.int x0)] 2 = mkF m 0 #[.val (.int x0), .unset] [] := by first | (simp [entryFrame, mkF, argsToLocals, Value.category]; done) | rfl
theorem pn_0 : plainName "com/example/rowforge/rowforge/TruthAndPinLaw" = true := by first | (simp [plainName, overriddenIn]; done) | decide +kernel
def Q_rm1_0 (Z : State) (p1 : Int32) (w2 : Addr) (h0 : Heap) (n0 : Nat) (v : Option Value) (h : Heap) (L : List Loc) : Prop := v = some (.ref w2) ∧ Fr n0 L ∧ h = h0
set_option maxRecDepth 65536 in
set_option maxHeartbeats 40000000 in
theorem rm1_0 (l : Launch) (Z : State) (a0 : Array Value) (hw : ∀ d ∈ tables_1, d.before a0 Z = true) (ws : List Jvm.Cond) (p1 : Int32) (w2 : Addr) (h0 : Heap) (n0 : Nat) (OL0 : Old Z n0 h0) (pr1 : ((p1 &&& (2147483647 : Int32)) % (3 : Int32)) = (0 : Int32)) (pr2 : Sta Z Z.heap "com/example/rowforge/rowforge/Truth" "FALSE" "Lcom/example/rowforge/rowforge/Truth;" (.ref w2)) :
    MetFree l (⟨"com/example/rowforge/rowforge/TruthAndPinLaw", "pick", "(I)Lcom/example/rowforge/rowforge/Truth;"⟩ : MethodName) (head1 (Jvm.Cond.code (⟨"com/example/rowforge/rowforge/TruthAndPinLaw", "pick", "(I)Lcom/example/rowforge/rowforge/Truth;"⟩ : MethodName) method_2_code 2 (some (.object "com/example/rowforge/rowforge/Truth")) :: ws) ({ frames := 0, cells := 0, slots := 0, locals := 0 } : Room)) (fun a U => a = #[(.int p1)] ∧ Z.Warmed39 U.vm ∧ U.heap = h0) (fun _ _ _ _ _ => True) (fun _ U o U' => ∃ v L, o = .returned v ∧ Q_rm1_0 Z p1 w2 h0 n0 v U'.heap L ∧ FrameEnd U o U' L ({ frames := 0, cells := 0, slots := 0, locals := 0 } : Room).cells ({ frames := 0, cells := 0, slots := 0, locals := 0 } : Room).slots) := by
  refine MetFree.of_bodySF (plainFor_of_name pn_0) hisR ?_
  intro p e s m args below meth c s₁ Bd hml0 hP hK
  obtain ⟨rfl, hZ, hh⟩ := hP
  have hx := Bd.exec
  have hby := Bd.bytes
  have hml : c.maxLocals = 2 := hml0
  have hown : s.vm.findClass "com/example/rowforge/rowforge/TruthAndPinLaw" = some m.cls := findClass_of_methodNamed Bd.named
  have hnm := (name_of_methodNamed Bd.named Bd.method).1
  have X0 : Stand p l e ({ frames := 0, cells := 0, slots := 0, locals := 0 } : Room) s m #[(.int p1)] below meth c s₁ [] 0 0 := Stand.of_body Bd
  have e0 : s₁.heap = h0 := by rw [← hh, Bd.state]; rfl
  have N0 := Fr.nil n0
  have pre0 : ∀ t, Steps p.tables e below (s₁.setTop (mkF m 0 #[.val (.int p1), .unset] [])) t → Steps p.tables e below (s₁.setTop (entryFrame m #[(.int p1)] 2)) t := fun t k => castTop (ef_1_0 m p1) k
  obtain ⟨T3, X3, e3, st3⟩ := getS2 X0 hx hZ hown (host := "") (Or.inl (wd5 hw)) Via.refl e0 (pr2.ext OL0.2) (g := (mkF m 11 #[.val (.int p1), .val (.int (0 : Int32))] [])) rfl (hb hby d1_11)
  obtain ⟨fs, hr, hrun, hended, hW, hsame⟩ := X3.leave (v := some (.ref w2)) (fun h => by rw [Bd.returns] at h; cases h)
  refine ⟨_, _, pre0 _ ?_, hrun, hended, _, _, rfl, ?_, ⟨_, rfl⟩, hW, hsame.mono (by decide) (by decide)⟩
  · show Steps p.tables e below (s₁.setTop (mkF m 0 #[.val (.int p1), .unset] [])) _
    refine XS.iloadN X0.here hx rfl (hb hby d1_0) rfl ?_
    show Steps p.tables e below (s₁.setTop (mkF m 1 #[.val (.int p1), .unset] [(.int p1)])) _
    refine X0.ldcInt hx hown (mvT hZ (wd4 hw)) (g := (mkF m 1 #[.val (.int p1), .unset] [(.int p1)])) rfl (hb hby d1_1) _ ?_
    show Steps p.tables e below (s₁.setTop (mkF m 3 #[.val (.int p1), .unset] [(.int (2147483647 : Int32)), (.int p1)])) _
    refine XS.iand X0.here hx rfl (hb hby d1_3) rfl ?_
    show Steps p.tables e below (s₁.setTop (mkF m 4 #[.val (.int p1), .unset] [(.int (p1 &&& (2147483647 : Int32)))])) _
    refine XS.iconst X0.here hx rfl (hb hby d1_4) ?_
    show Steps p.tables e below (s₁.setTop (mkF m 5 #[.val (.int p1), .unset] [(.int (3 : Int32)), (.int (p1 &&& (2147483647 : Int32)))])) _
    refine iremM X0 hx rfl (hb hby d1_5) rfl (by decide) ?_
    show Steps p.tables e below (s₁.setTop (mkF m 6 #[.val (.int p1), .unset] [(.int ((p1 &&& (2147483647 : Int32)) % (3 : Int32)))])) _
    rw [pr1]
    show Steps p.tables e below (s₁.setTop (mkF m 6 #[.val (.int p1), .unset] [(.int (0 : Int32))])) _
    refine XS.istoreN X0.here hx rfl (hb hby d1_6) rfl (l' := #[.val (.int p1), .val (.int (0 : Int32))]) rfl ?_
    show Steps p.tables e below (s₁.setTop (mkF m 7 #[.val (.int p1), .val (.int (0 : Int32))] [])) _
    refine XS.iloadN X0.here hx rfl (hb hby d1_7) rfl ?_
    show Steps p.tables e below (s₁.setTop (mkF m 8 #[.val (.int p1), .val (.int (0 : Int32))] [(.int (0 : Int32))])) _
    refine XS.ifNo X0.here hx rfl (hb hby d1_8) rfl ((if0 _ _).trans (teq (rfl : (0 : Int32) = (0 : Int32))).2) ?_
    show Steps p.tables e below (s₁.setTop (mkF m 11 #[.val (.int p1), .val (.int (0 : Int32))] [])) _
    refine st3 _ ?_
    show Steps p.tables e below (T3.setTop (mkF m 14 #[.val (.int p1), .val (.int (0 : Int32))] [(.ref w2)])) _
    jvm_step X3.here [X3.here.top, hx, (hb hby d1_14), X3.method', Bd.returns, Value.isRef, FieldType.isReference]
    first | (intro acts; rw [hr _ acts rfl rfl rfl]) | rw [hr _ _ rfl rfl rfl]
    exact Steps.refl _
  · show Q_rm1_0 Z p1 w2 h0 n0 _ T3.heap _
    rw [e3]
    exact ⟨rfl, N0, rfl⟩
theorem pd_0 : parseMethodDescriptor "(I)Lcom/example/rowforge/rowforge/Truth;" = some ⟨[.int], some (.object "com/example/rowforge/rowforge/Truth")⟩ := by decide +kernel
theorem d2_0 : decode prog_36_method_6_code 0 = .ok (.aload_n 0, 1) := by decide +kernel
theorem d2_1 : decode prog_36_method_6_code 1 = .ok (.getstatic 7, 3) := by decide +kernel
theorem d2_4 : decode prog_36_method_6_code 4 = .ok (.if_acmp .eq 10, 3) := by decide +kernel
theorem d2_14 : decode prog_36_method_6_code 14 = .ok (.getstatic 7, 3) := by decide +kernel
theorem d2_17 : decode prog_36_method_6_code 17 = .ok (.astore_n 2, 1) := by decide +kernel
theorem d2_18 : decode prog_36_method_6_code 18 = .ok (.goto 28, 3) := by decide +kernel
theorem d2_46 : decode prog_36_method_6_code 46 = .ok (.aload_n 2, 1) := by decide +kernel
theorem d2_47 : decode prog_36_method_6_code 47 = .ok (.areturn, 1) := by decide +kernel
theorem ef_2_1 (m : MethodId) (x0 : Addr) (x1 : Addr) : entryFrame m #[(.ref x0), (.ref x1)] 3 = mkF m 0 #[.val (.ref x0), .val (.ref x1), .unset] [] := by first | (simp [entryFrame, mkF, argsToLocals, Value.category]; done) | rfl
theorem pn_1 : plainName "com/example/rowforge/rowforge/Truth" = true := by first | (simp [plainName, overriddenIn]; done) | decide +kernel
def Q_rm2_0 (Z : State) (w1 : Addr) (h0 : Heap) (n0 : Nat) (v : Option Value) (h : Heap) (L : List Loc) : Prop := v = some (.ref w1) ∧ Fr n0 L ∧ h = h0
set_option maxRecDepth 65536 in
set_option maxHeartbeats 40000000 in
theorem rm2_0 (l : Launch) (Z : State) (a0 : Array Value) (hw : ∀ d ∈ tables_1, d.before a0 Z = true) (ws : List Jvm.Cond) (w1 : Addr) (h0 : Heap) (n0 : Nat) (OL0 : Old Z n0 h0) (pr1 : Sta Z Z.heap "com/example/rowforge/rowforge/Truth" "FALSE" "Lcom/example/rowforge/rowforge/Truth;" (.ref w1)) :
    MetFree l (⟨"com/example/rowforge/rowforge/Truth", "and", "(Lcom/example/rowforge/rowforge/Truth;)Lcom/example/rowforge/rowforge/Truth;"⟩ : MethodName) (head1 (Jvm.Cond.code (⟨"com/example/rowforge/rowforge/Truth", "and", "(Lcom/example/rowforge/rowforge/Truth;)Lcom/example/rowforge/rowforge/Truth;"⟩ : MethodName) prog_36_method_6_code 3 (some (.object "com/example/rowforge/rowforge/Truth")) :: ws) ({ frames := 0, cells := 0, slots := 0, locals := 0 } : Room)) (fun a U => a = #[(.ref w1), (.ref w1)] ∧ Z.Warmed39 U.vm ∧ U.heap = h0) (fun _ _ _ _ _ => True) (fun _ U o U' => ∃ v L, o = .returned v ∧ Q_rm2_0 Z w1 h0 n0 v U'.heap L ∧ FrameEnd U o U' L ({ frames := 0, cells := 0, slots := 0, locals := 0 } : Room).cells ({ frames := 0, cells := 0, slots := 0, locals := 0 } : Room).slots) := by
  refine MetFree.of_bodySF (plainFor_of_name pn_1) hisR ?_
  intro p e s m args below meth c s₁ Bd hml0 hP hK
  obtain ⟨rfl, hZ, hh⟩ := hP
  have hx := Bd.exec
  have hby := Bd.bytes
  have hml : c.maxLocals = 3 := hml0
  have hown : s.vm.findClass "com/example/rowforge/rowforge/Truth" = some m.cls := findClass_of_methodNamed Bd.named
  have hnm := (name_of_methodNamed Bd.named Bd.method).1
  have X0 : Stand p l e ({ frames := 0, cells := 0, slots := 0, locals := 0 } : Room) s m #[(.ref w1), (.ref w1)] below meth c s₁ [] 0 0 := Stand.of_body Bd
  have e0 : s₁.heap = h0 := by rw [← hh, Bd.state]; rfl
  have N0 := Fr.nil n0
  have pre0 : ∀ t, Steps p.tables e below (s₁.setTop (mkF m 0 #[.val (.ref w1), .val (.ref w1), .unset] [])) t → Steps p.tables e below (s₁.setTop (entryFrame m #[(.ref w1), (.ref w1)] 3)) t := fun t k => castTop (ef_2_1 m w1 w1) k
  obtain ⟨T2, X2, e2, st2⟩ := getS2 X0 hx hZ hown (host := "") (Or.inl (wd13 hw)) Via.refl e0 (pr1.ext OL0.2) (g := (mkF m 1 #[.val (.ref w1), .val (.ref w1), .unset] [(.ref w1)])) rfl (hb hby d2_1)
  obtain ⟨T3, X3, e3, st3⟩ := getS2 X2 hx hZ hown (host := "") (Or.inl (wd13 hw)) Via.refl e2 (pr1.ext OL0.2) (g := (mkF m 14 #[.val (.ref w1), .val (.ref w1), .unset] [])) rfl (hb hby d2_14)
  obtain ⟨fs, hr, hrun, hended, hW, hsame⟩ := X3.leave (v := some (.ref w1)) (fun h => by rw [Bd.returns] at h; cases h)
  refine ⟨_, _, pre0 _ ?_, hrun, hended, _, _, rfl, ?_, ⟨_, rfl⟩, hW, hsame.mono (by decide) (by decide)⟩
  · show Steps p.tables e below (s₁.setTop (mkF m 0 #[.val (.ref w1), .val (.ref w1), .unset] [])) _
    refine XS.aloadN X0.here hx rfl (hb hby d2_0) rfl rfl ?_
    show Steps p.tables e below (s₁.setTop (mkF m 1 #[.val (.ref w1), .val (.ref w1), .unset] [(.ref w1)])) _
    refine st2 _ ?_
    show Steps p.tables e below (T2.setTop (mkF m 4 #[.val (.ref w1), .val (.ref w1), .unset] [(.ref w1), (.ref w1)])) _
    refine Jvm.RoadKit.acmp (g := (mkF m 4 #[.val (.ref w1), .val (.ref w1), .unset] [(.ref w1), (.ref w1)])) X2 hx rfl rfl rfl (pc0 := 4) (pc' := 14) (same := true) rfl (hb hby d2_4) rfl (decide_eq_true rfl) (by decide) (by decide) ?_
    show Steps p.tables e below (T2.setTop (mkF m 14 #[.val (.ref w1), .val (.ref w1), .unset] [])) _
    refine st3 _ ?_
    show Steps p.tables e below (T3.setTop (mkF m 17 #[.val (.ref w1), .val (.ref w1), .unset] [(.ref w1)])) _
    refine XS.astoreN X3.here hx rfl (hb hby d2_17) rfl rfl (l' := #[.val (.ref w1), .val (.ref w1), .val (.ref w1)]) rfl ?_
    show Steps p.tables e below (T3.setTop (mkF m 18 #[.val (.ref w1), .val (.ref w1), .val (.ref w1)] [])) _
    refine XS.goto X3.here hx rfl (pc0 := 18) (pc' := 46) rfl (hb hby d2_18) (by decide) (by decide) ?_
    show Steps p.tables e below (T3.setTop (mkF m 46 #[.val (.ref w1), .val (.ref w1), .val (.ref w1)] [])) _
    refine XS.aloadN X3.here hx rfl (hb hby d2_46) rfl rfl ?_
    show Steps p.tables e below (T3.setTop (mkF m 47 #[.val (.ref w1), .val (.ref w1), .val (.ref w1)] [(.ref w1)])) _
    jvm_step X3.here [X3.here.top, hx, (hb hby d2_47), X3.method', Bd.returns, Value.isRef, FieldType.isReference]
    first | (intro acts; rw [hr _ acts rfl rfl rfl]) | rw [hr _ _ rfl rfl rfl]
    exact Steps.refl _
  · show Q_rm2_0 Z w1 h0 n0 _ T3.heap _
    rw [e3]
    exact ⟨rfl, N0, rfl⟩
theorem pd_1 : parseMethodDescriptor "(Lcom/example/rowforge/rowforge/Truth;)Lcom/example/rowforge/rowforge/Truth;" = some ⟨[(.object "com/example/rowforge/rowforge/Truth")], some (.object "com/example/rowforge/rowforge/Truth")⟩ := by decide +kernel
theorem d3_0 : decode method_3_code 0 = .ok (.aload_n 0, 1) := by decide +kernel
theorem d3_1 : decode method_3_code 1 = .ok (.getstatic 8, 3) := by decide +kernel
theorem d3_4 : decode method_3_code 4 = .ok (.if_acmp .ne 5, 3) := by decide +kernel
theorem d3_7 : decode method_3_code 7 = .ok (.iconst 0, 1) := by decide +kernel
theorem d3_8 : decode method_3_code 8 = .ok (.ireturn, 1) := by decide +kernel
theorem ef_3_2 (m : MethodId) (x0 : Addr) : entryFrame m #[(.ref x0)] 1 = mkF m 0 #[.val (.ref x0)] [] := by first | (simp [entryFrame, mkF, argsToLocals, Value.category]; done) | rfl
def Q_rm3_0 (Z : State) (w1 : Addr) (h0 : Heap) (n0 : Nat) (v : Option Value) (h : Heap) (L : List Loc) : Prop := v = some (.int (0 : Int32)) ∧ Fr n0 L ∧ h = h0
set_option maxRecDepth 65536 in
set_option maxHeartbeats 40000000 in
theorem rm3_0 (l : Launch) (Z : State) (a0 : Array Value) (hw : ∀ d ∈ tables_1, d.before a0 Z = true) (ws : List Jvm.Cond) (w1 : Addr) (h0 : Heap) (n0 : Nat) (OL0 : Old Z n0 h0) (pr1 : Sta Z Z.heap "com/example/rowforge/rowforge/Truth" "FALSE" "Lcom/example/rowforge/rowforge/Truth;" (.ref w1)) :
    MetFree l (⟨"com/example/rowforge/rowforge/TruthAndPinLaw", "rank", "(Lcom/example/rowforge/rowforge/Truth;)I"⟩ : MethodName) (head1 (Jvm.Cond.code (⟨"com/example/rowforge/rowforge/TruthAndPinLaw", "rank", "(Lcom/example/rowforge/rowforge/Truth;)I"⟩ : MethodName) method_3_code 1 (some .int) :: ws) ({ frames := 0, cells := 0, slots := 0, locals := 0 } : Room)) (fun a U => a = #[(.ref w1)] ∧ Z.Warmed39 U.vm ∧ U.heap = h0) (fun _ _ _ _ _ => True) (fun _ U o U' => ∃ v L, o = .returned v ∧ Q_rm3_0 Z w1 h0 n0 v U'.heap L ∧ FrameEnd U o U' L ({ frames := 0, cells := 0, slots := 0, locals := 0 } : Room).cells ({ frames := 0, cells := 0, slots := 0, locals := 0 } : Room).slots) := by
  refine MetFree.of_bodySF (plainFor_of_name pn_0) hisR ?_
  intro p e s m args below meth c s₁ Bd hml0 hP hK
  obtain ⟨rfl, hZ, hh⟩ := hP
  have hx := Bd.exec
  have hby := Bd.bytes
  have hml : c.maxLocals = 1 := hml0
  have hown : s.vm.findClass "com/example/rowforge/rowforge/TruthAndPinLaw" = some m.cls := findClass_of_methodNamed Bd.named
  have hnm := (name_of_methodNamed Bd.named Bd.method).1
  have X0 : Stand p l e ({ frames := 0, cells := 0, slots := 0, locals := 0 } : Room) s m #[(.ref w1)] below meth c s₁ [] 0 0 := Stand.of_body Bd
  have e0 : s₁.heap = h0 := by rw [← hh, Bd.state]; rfl
  have N0 := Fr.nil n0
  have pre0 : ∀ t, Steps p.tables e below (s₁.setTop (mkF m 0 #[.val (.ref w1)] [])) t → Steps p.tables e below (s₁.setTop (entryFrame m #[(.ref w1)] 1)) t := fun t k => castTop (ef_3_2 m w1) k
  obtain ⟨T2, X2, e2, st2⟩ := getS2 X0 hx hZ hown (host := "") (Or.inl (wd5 hw)) Via.refl e0 (pr1.ext OL0.2) (g := (mkF m 1 #[.val (.ref w1)] [(.ref w1)])) rfl (hb hby d3_1)
  obtain ⟨fs, hr, hrun, hended, hW, hsame⟩ := X2.leave (v := some (.int (0 : Int32))) (fun h => by rw [Bd.returns] at h; cases h)
  refine ⟨_, _, pre0 _ ?_, hrun, hended, _, _, rfl, ?_, ⟨_, rfl⟩, hW, hsame.mono (by decide) (by decide)⟩
  · show Steps p.tables e below (s₁.setTop (mkF m 0 #[.val (.ref w1)] [])) _
    refine XS.aloadN X0.here hx rfl (hb hby d3_0) rfl rfl ?_
    show Steps p.tables e below (s₁.setTop (mkF m 1 #[.val (.ref w1)] [(.ref w1)])) _
    refine st2 _ ?_
    show Steps p.tables e below (T2.setTop (mkF m 4 #[.val (.ref w1)] [(.ref w1), (.ref w1)])) _
    refine Jvm.RoadKit.acmp (g := (mkF m 4 #[.val (.ref w1)] [(.ref w1), (.ref w1)])) X2 hx rfl rfl rfl (pc0 := 4) (pc' := 7) (same := true) rfl (hb hby d3_4) rfl (decide_eq_true rfl) (by decide) (by decide) ?_
    show Steps p.tables e below (T2.setTop (mkF m 7 #[.val (.ref w1)] [])) _
    refine XS.iconst X2.here hx rfl (hb hby d3_7) ?_
    show Steps p.tables e below (T2.setTop (mkF m 8 #[.val (.ref w1)] [(.int (0 : Int32))])) _
    exact retI X2 hx Bd.returns (hb hby d3_8) hr
  · show Q_rm3_0 Z w1 h0 n0 _ T2.heap _
    rw [e2]
    exact ⟨rfl, N0, rfl⟩
theorem pd_2 : parseMethodDescriptor "(Lcom/example/rowforge/rowforge/Truth;)I" = some ⟨[(.object "com/example/rowforge/rowforge/Truth")], some .int⟩ := by decide +kernel
theorem d4_0 : decode jdk_29_method_69_code 0 = .ok (.iload_n 0, 1) := by decide +kernel
theorem d4_1 : decode jdk_29_method_69_code 1 = .ok (.iload_n 1, 1) := by decide +kernel
theorem d4_2 : decode jdk_29_method_69_code 2 = .ok (.if_icmp .gt 7, 3) := by decide +kernel
theorem d4_5 : decode jdk_29_method_69_code 5 = .ok (.iload_n 0, 1) := by decide +kernel
theorem d4_6 : decode jdk_29_method_69_code 6 = .ok (.goto 4, 3) := by decide +kernel
theorem d4_10 : decode jdk_29_method_69_code 10 = .ok (.ireturn, 1) := by decide +kernel
theorem ef_4_3 (m : MethodId)  : entryFrame m #[(.int (0 : Int32)), (.int (0 : Int32))] 2 = mkF m 0 #[.val (.int (0 : Int32)), .val (.int (0 : Int32))] [] := by first | (simp [entryFrame, mkF, argsToLocals, Value.category]; done) | rfl
def Q_rm4_0 (Z : State)  (h0 : Heap) (n0 : Nat) (v : Option Value) (h : Heap) (L : List Loc) : Prop := v = some (.int (0 : Int32)) ∧ Fr n0 L ∧ h = h0
set_option maxRecDepth 65536 in
set_option maxHeartbeats 40000000 in
theorem rm4_0 (l : Launch) (Z : State) (a0 : Array Value) (hw : ∀ d ∈ tables_1, d.before a0 Z = true) (ws : List Jvm.Cond)  (h0 : Heap) (n0 : Nat) (OL0 : Old Z n0 h0)  :
    MetFree l (⟨"java/lang/Math", "min", "(II)I"⟩ : MethodName) (head1 (Jvm.Cond.code (⟨"java/lang/Math", "min", "(II)I"⟩ : MethodName) jdk_29_method_69_code 2 (some .int) :: ws) ({ frames := 0, cells := 0, slots := 0, locals := 0 } : Room)) (fun a U => a = #[(.int (0 : Int32)), (.int (0 : Int32))] ∧ Z.Warmed39 U.vm ∧ U.heap = h0) (fun _ _ _ _ _ => True) (fun _ U o U' => ∃ v L, o = .returned v ∧ Q_rm4_0 Z  h0 n0 v U'.heap L ∧ FrameEnd U o U' L ({ frames := 0, cells := 0, slots := 0, locals := 0 } : Room).cells ({ frames := 0, cells := 0, slots := 0, locals := 0 } : Room).slots) := by
  refine MetFree.of_bodySF (Jvm.Free.JP.mathPlain rfl (by decide +kernel)) hisR ?_
  intro p e s m args below meth c s₁ Bd hml0 hP hK
  obtain ⟨rfl, hZ, hh⟩ := hP
  have hx := Bd.exec
  have hby := Bd.bytes
  have hml : c.maxLocals = 2 := hml0
  have hown : s.vm.findClass "java/lang/Math" = some m.cls := findClass_of_methodNamed Bd.named
  have hnm := (name_of_methodNamed Bd.named Bd.method).1
  have X0 : Stand p l e ({ frames := 0, cells := 0, slots := 0, locals := 0 } : Room) s m #[(.int (0 : Int32)), (.int (0 : Int32))] below meth c s₁ [] 0 0 := Stand.of_body Bd
  have e0 : s₁.heap = h0 := by rw [← hh, Bd.state]; rfl
  have N0 := Fr.nil n0
  have pre0 : ∀ t, Steps p.tables e below (s₁.setTop (mkF m 0 #[.val (.int (0 : Int32)), .val (.int (0 : Int32))] [])) t → Steps p.tables e below (s₁.setTop (entryFrame m #[(.int (0 : Int32)), (.int (0 : Int32))] 2)) t := fun t k => castTop (ef_4_3 m ) k
  obtain ⟨fs, hr, hrun, hended, hW, hsame⟩ := X0.leave (v := some (.int (0 : Int32))) (fun h => by rw [Bd.returns] at h; cases h)
  refine ⟨_, _, pre0 _ ?_, hrun, hended, _, _, rfl, ?_, ⟨_, rfl⟩, hW, hsame.mono (by decide) (by decide)⟩
  · show Steps p.tables e below (s₁.setTop (mkF m 0 #[.val (.int (0 : Int32)), .val (.int (0 : Int32))] [])) _
    refine XS.iloadN X0.here hx rfl (hb hby d4_0) rfl ?_
    show Steps p.tables e below (s₁.setTop (mkF m 1 #[.val (.int (0 : Int32)), .val (.int (0 : Int32))] [(.int (0 : Int32))])) _
    refine XS.iloadN X0.here hx rfl (hb hby d4_1) rfl ?_
    show Steps p.tables e below (s₁.setTop (mkF m 2 #[.val (.int (0 : Int32)), .val (.int (0 : Int32))] [(.int (0 : Int32)), (.int (0 : Int32))])) _
    refine XS.icmpNo X0.here hx rfl (hb hby d4_2) rfl (flt (by decide : ¬ ((0 : Int32) < (0 : Int32)))).2.2.1 ?_
    show Steps p.tables e below (s₁.setTop (mkF m 5 #[.val (.int (0 : Int32)), .val (.int (0 : Int32))] [])) _
    refine XS.iloadN X0.here hx rfl (hb hby d4_5) rfl ?_
    show Steps p.tables e below (s₁.setTop (mkF m 6 #[.val (.int (0 : Int32)), .val (.int (0 : Int32))] [(.int (0 : Int32))])) _
    refine XS.goto X0.here hx rfl (pc0 := 6) (pc' := 10) rfl (hb hby d4_6) (by decide) (by decide) ?_
    show Steps p.tables e below (s₁.setTop (mkF m 10 #[.val (.int (0 : Int32)), .val (.int (0 : Int32))] [(.int (0 : Int32))])) _
    exact retI X0 hx Bd.returns (hb hby d4_10) hr
  · show Q_rm4_0 Z  h0 n0 _ s₁.heap _
    rw [e0]
    exact ⟨rfl, N0, rfl⟩
theorem pd_3 : parseMethodDescriptor "(II)I" = some ⟨[.int, .int], some .int⟩ := by decide +kernel
theorem ef_0_4 (m : MethodId) (x0 : Int32) (x1 : Int32) : entryFrame m #[(.int x0), (.int x1)] maxLocals = mkF m 0 #[.val (.int x0), .val (.int x1), .unset, .unset, .unset] [] := by first | (simp [entryFrame, mkF, argsToLocals, Value.category, maxLocals]; done) | rfl
set_option maxRecDepth 65536 in
set_option maxHeartbeats 40000000 in
theorem rm0_0_0 (l : Launch) (Z : State) (a0 : Array Value) (hw : ∀ d ∈ tables_1, d.before a0 Z = true) (ws : List Jvm.Cond) (p1 : Int32) (p2 : Int32) (w_FALSE : Addr) (h0 : Heap) (n0 : Nat) (OL0 : Old Z n0 h0) (pr1 : ((p1 &&& (2147483647 : Int32)) % (3 : Int32)) = (0 : Int32)) (pr2 : Sta Z Z.heap "com/example/rowforge/rowforge/Truth" "FALSE" "Lcom/example/rowforge/rowforge/Truth;" (.ref w_FALSE)) (pr3 : ((p2 &&& (2147483647 : Int32)) % (3 : Int32)) = (0 : Int32)) (pr4 : Exa Z Z.heap w_FALSE "com/example/rowforge/rowforge/Truth") :
    MetFree l x (head1 (Jvm.Cond.code x code maxLocals ret :: ws) room_1) (fun a U => a = #[(.int p1), (.int p2)] ∧ Z.Warmed39 U.vm ∧ U.heap = h0) (fun _ _ _ _ _ => True) (fun _ U o U' => ∃ v L, o = .returned v ∧ Q0 n0 v L ∧ FrameEnd U o U' L 0 0) := by
  refine MetFree.of_bodySF (plainFor_of_name pn_0) hisR ?_
  intro p e s m args below meth c s₁ Bd hml0 hP hK
  obtain ⟨rfl, hZ, hh⟩ := hP
  have hx := Bd.exec
  have hby := Bd.bytes
  have hml : c.maxLocals = 5 := hml0
  have hown : s.vm.findClass "com/example/rowforge/rowforge/TruthAndPinLaw" = some m.cls := findClass_of_methodNamed Bd.named
  have hnm := (name_of_methodNamed Bd.named Bd.method).1
  have X0 : Stand p l e room_1 s m #[(.int p1), (.int p2)] below meth c s₁ [] 0 0 := Stand.of_body Bd
  have e0 : s₁.heap = h0 := by rw [← hh, Bd.state]; rfl
  have N0 := Fr.nil n0
  have pre0 : ∀ t, Steps p.tables e below (s₁.setTop (mkF m 0 #[.val (.int p1), .val (.int p2), .unset, .unset, .unset] [])) t → Steps p.tables e below (s₁.setTop (entryFrame m #[(.int p1), (.int p2)] maxLocals)) t := fun t k => castTop (ef_0_4 m p1 p2) k
  obtain ⟨_, _, ⟨T1, L1, k1, n1⟩, -, X1, ⟨Lc1, hQ1, l1, y1, z1⟩, st1⟩ := Jvm.LawKit.callS X0 hx (y := (⟨"com/example/rowforge/rowforge/TruthAndPinLaw", "pick", "(I)Lcom/example/rowforge/rowforge/Truth;"⟩ : MethodName)) hown (mvT hZ (wd0 hw)) (mvT hZ (wd1 hw)) (mvT hZ (wd2 hw)) (mvT hZ (wd3 hw)) (by decide) (backOf (W := 0) (rm1_0 l Z a0 hw [] p1 w_FALSE h0 n0 OL0 pr1 pr2) hZ (wd3 hw) (wd2 hw) (by decide) (by decide)) (g := (mkF m 1 #[.val (.int p1), .val (.int p2), .unset, .unset, .unset] [(.int p1)])) rfl (by rw [hml]; rfl) (argsL := [(.int p1)]) (rest := []) (lenOf pd_0 rfl) rfl (by show 2 * 0 + _ ≤ _; exact Nat.le_of_eq rfl) (hb hby at_1) (fun _ _ => ⟨rfl, e0, (by decide : 0 + 0 ≤ _), (by decide : 0 + 0 ≤ _)⟩)
  dsimp only [Pt.U, Pt.locs, Pt.cells, Pt.slots] at X1 l1 y1 z1 st1 hQ1
  subst l1 y1 z1
  obtain ⟨rfl, Nq1, ec1⟩ := hQ1
  have N1 := Fr.app N0 Nq1
  obtain ⟨_, _, ⟨T2, L2, k2, n2⟩, -, X2, ⟨Lc2, hQ2, l2, y2, z2⟩, st2⟩ := Jvm.LawKit.callS X1 hx (y := (⟨"com/example/rowforge/rowforge/TruthAndPinLaw", "pick", "(I)Lcom/example/rowforge/rowforge/Truth;"⟩ : MethodName)) hown (mvT hZ (wd0 hw)) (mvT hZ (wd1 hw)) (mvT hZ (wd2 hw)) (mvT hZ (wd3 hw)) (by decide) (backOf (W := 0) (rm1_0 l Z a0 hw [] p2 w_FALSE h0 n0 OL0 pr3 pr2) hZ (wd3 hw) (wd2 hw) (by decide) (by decide)) (g := (mkF m 6 #[.val (.int p1), .val (.int p2), .val (.ref w_FALSE), .unset, .unset] [(.int p2)])) rfl (by rw [hml]; rfl) (argsL := [(.int p2)]) (rest := []) (lenOf pd_0 rfl) rfl (by show 2 * 0 + _ ≤ _; exact Nat.le_of_eq rfl) (hb hby at_6) (fun _ _ => ⟨rfl, ec1, (by decide : 0 + 0 ≤ _), (by decide : 0 + 0 ≤ _)⟩)
  dsimp only [Pt.U, Pt.locs, Pt.cells, Pt.slots] at X2 l2 y2 z2 st2 hQ2
  subst l2 y2 z2
  obtain ⟨rfl, Nq2, ec2⟩ := hQ2
  have N2 := Fr.app N1 Nq2
  obtain ⟨cq3, kq3, q3a, q3b, q3c⟩ := isOf hZ ec2 (pr4.ext OL0.2)
  obtain ⟨_, _, ⟨T3, L3, k3, n3⟩, -, X3, ⟨Lc3, hQ3, l3, y3, z3⟩, st3⟩ := X2.virtualBack hx (y := (⟨"com/example/rowforge/rowforge/Truth", "and", "(Lcom/example/rowforge/rowforge/Truth;)Lcom/example/rowforge/rowforge/Truth;"⟩ : MethodName)) (z := (⟨"com/example/rowforge/rowforge/Truth", "and", "(Lcom/example/rowforge/rowforge/Truth;)Lcom/example/rowforge/rowforge/Truth;"⟩ : MethodName)) hown (mvT hZ (wd8 hw)) (mvT hZ (wd9 hw)) (notFace_of_selects (args := #[]) (mvT hZ (wd11 hw))) (mvT hZ (wd11 hw)) (mvT hZ (wd10 hw)) (by decide) (backOf (W := 0) (rm2_0 l Z a0 hw [] w_FALSE h0 n0 OL0 pr2) hZ (wd12 hw) (wd6 hw) (by decide) (by decide)) q3a q3c (g := (mkF m 12 #[.val (.int p1), .val (.int p2), .val (.ref w_FALSE), .val (.ref w_FALSE), .unset] [(.ref w_FALSE), (.ref w_FALSE)])) rfl (by rw [hml]; rfl) (Steps.refl _) (argsL := [(.ref w_FALSE)]) (rest := []) (lenOf pd_1 rfl) rfl (by show 2 * 0 + _ ≤ _; exact Nat.le_of_eq rfl) (hb hby at_12) (fun _ _ => ⟨rfl, ec2, (by decide : 0 + 0 ≤ _), (by decide : 0 + 0 ≤ _)⟩)
  dsimp only [Pt.U, Pt.locs, Pt.cells, Pt.slots] at X3 l3 y3 z3 st3 hQ3
  subst l3 y3 z3
  obtain ⟨rfl, Nq3, ec3⟩ := hQ3
  have N3 := Fr.app N2 Nq3
  obtain ⟨_, _, ⟨T4, L4, k4, n4⟩, -, X4, ⟨Lc4, hQ4, l4, y4, z4⟩, st4⟩ := Jvm.LawKit.callS X3 hx (y := (⟨"com/example/rowforge/rowforge/TruthAndPinLaw", "rank", "(Lcom/example/rowforge/rowforge/Truth;)I"⟩ : MethodName)) hown (mvT hZ (wd14 hw)) (mvT hZ (wd15 hw)) (mvT hZ (wd2 hw)) (mvT hZ (wd16 hw)) (by decide) (backOf (W := 0) (rm3_0 l Z a0 hw [] w_FALSE h0 n0 OL0 pr2) hZ (wd16 hw) (wd2 hw) (by decide) (by decide)) (g := (mkF m 19 #[.val (.int p1), .val (.int p2), .val (.ref w_FALSE), .val (.ref w_FALSE), .val (.ref w_FALSE)] [(.ref w_FALSE)])) rfl (by rw [hml]; rfl) (argsL := [(.ref w_FALSE)]) (rest := []) (lenOf pd_2 rfl) rfl (by show 2 * 0 + _ ≤ _; exact Nat.le_of_eq rfl) (hb hby at_19) (fun _ _ => ⟨rfl, ec3, (by decide : 0 + 0 ≤ _), (by decide : 0 + 0 ≤ _)⟩)
  dsimp only [Pt.U, Pt.locs, Pt.cells, Pt.slots] at X4 l4 y4 z4 st4 hQ4
  subst l4 y4 z4
  obtain ⟨rfl, Nq4, ec4⟩ := hQ4
  have N4 := Fr.app N3 Nq4
  obtain ⟨_, _, ⟨T5, L5, k5, n5⟩, -, X5, ⟨Lc5, hQ5, l5, y5, z5⟩, st5⟩ := Jvm.LawKit.callS X4 hx (y := (⟨"com/example/rowforge/rowforge/TruthAndPinLaw", "rank", "(Lcom/example/rowforge/rowforge/Truth;)I"⟩ : MethodName)) hown (mvT hZ (wd14 hw)) (mvT hZ (wd15 hw)) (mvT hZ (wd2 hw)) (mvT hZ (wd16 hw)) (by decide) (backOf (W := 1) (rm3_0 l Z a0 hw [] w_FALSE h0 n0 OL0 pr2) hZ (wd16 hw) (wd2 hw) (by decide) (by decide)) (g := (mkF m 23 #[.val (.int p1), .val (.int p2), .val (.ref w_FALSE), .val (.ref w_FALSE), .val (.ref w_FALSE)] [(.ref w_FALSE), (.int (0 : Int32))])) rfl (by rw [hml]; rfl) (argsL := [(.ref w_FALSE)]) (rest := [(.int (0 : Int32))]) (lenOf pd_2 rfl) rfl (by show 2 * 0 + _ ≤ _; exact Nat.le_of_eq rfl) (hb hby at_23) (fun _ _ => ⟨rfl, ec4, (by decide : 0 + 0 ≤ _), (by decide : 0 + 0 ≤ _)⟩)
  dsimp only [Pt.U, Pt.locs, Pt.cells, Pt.slots] at X5 l5 y5 z5 st5 hQ5
  subst l5 y5 z5
  obtain ⟨rfl, Nq5, ec5⟩ := hQ5
  have N5 := Fr.app N4 Nq5
  obtain ⟨_, _, ⟨T6, L6, k6, n6⟩, -, X6, ⟨Lc6, hQ6, l6, y6, z6⟩, st6⟩ := Jvm.LawKit.callS X5 hx (y := (⟨"com/example/rowforge/rowforge/TruthAndPinLaw", "rank", "(Lcom/example/rowforge/rowforge/Truth;)I"⟩ : MethodName)) hown (mvT hZ (wd14 hw)) (mvT hZ (wd15 hw)) (mvT hZ (wd2 hw)) (mvT hZ (wd16 hw)) (by decide) (backOf (W := 2) (rm3_0 l Z a0 hw [] w_FALSE h0 n0 OL0 pr2) hZ (wd16 hw) (wd2 hw) (by decide) (by decide)) (g := (mkF m 27 #[.val (.int p1), .val (.int p2), .val (.ref w_FALSE), .val (.ref w_FALSE), .val (.ref w_FALSE)] [(.ref w_FALSE), (.int (0 : Int32)), (.int (0 : Int32))])) rfl (by rw [hml]; rfl) (argsL := [(.ref w_FALSE)]) (rest := [(.int (0 : Int32)), (.int (0 : Int32))]) (lenOf pd_2 rfl) rfl (by show 2 * 0 + _ ≤ _; exact Nat.le_of_eq rfl) (hb hby at_27) (fun _ _ => ⟨rfl, ec5, (by decide : 0 + 0 ≤ _), (by decide : 0 + 0 ≤ _)⟩)
  dsimp only [Pt.U, Pt.locs, Pt.cells, Pt.slots] at X6 l6 y6 z6 st6 hQ6
  subst l6 y6 z6
  obtain ⟨rfl, Nq6, ec6⟩ := hQ6
  have N6 := Fr.app N5 Nq6
  obtain ⟨_, _, ⟨T7, L7, k7, n7⟩, -, X7, ⟨Lc7, hQ7, l7, y7, z7⟩, st7⟩ := Jvm.LawKit.callS X6 hx (y := (⟨"java/lang/Math", "min", "(II)I"⟩ : MethodName)) hown (mvT hZ (wd17 hw)) (mvT hZ (wd18 hw)) (mvT hZ (wd19 hw)) (mvT hZ (wd20 hw)) (by decide) (backOf (W := 1) (rm4_0 l Z a0 hw []  h0 n0 OL0 ) hZ (wd20 hw) (wd19 hw) (by decide) (by decide)) (g := (mkF m 30 #[.val (.int p1), .val (.int p2), .val (.ref w_FALSE), .val (.ref w_FALSE), .val (.ref w_FALSE)] [(.int (0 : Int32)), (.int (0 : Int32)), (.int (0 : Int32))])) rfl (by rw [hml]; rfl) (argsL := [(.int (0 : Int32)), (.int (0 : Int32))]) (rest := [(.int (0 : Int32))]) (lenOf pd_3 rfl) rfl (by show 2 * 0 + _ ≤ _; exact Nat.le_of_eq rfl) (hb hby at_30) (fun _ _ => ⟨rfl, ec6, (by decide : 0 + 0 ≤ _), (by decide : 0 + 0 ≤ _)⟩)
  dsimp only [Pt.U, Pt.locs, Pt.cells, Pt.slots] at X7 l7 y7 z7 st7 hQ7
  subst l7 y7 z7
  obtain ⟨rfl, Nq7, ec7⟩ := hQ7
  have N7 := Fr.app N6 Nq7
  obtain ⟨fs, hr, hrun, hended, hW, hsame⟩ := X7.leave (v := some (.int (1 : Int32))) (fun h => by rw [Bd.returns] at h; cases h)
  refine ⟨_, _, pre0 _ ?_, hrun, hended, _, _, rfl, ?_, ⟨_, rfl⟩, hW, hsame.mono (by decide) (by decide)⟩
  · show Steps p.tables e below (s₁.setTop (mkF m 0 #[.val (.int p1), .val (.int p2), .unset, .unset, .unset] [])) _
    refine XS.iloadN X0.here hx rfl (hb hby at_0) rfl ?_
    show Steps p.tables e below (s₁.setTop (mkF m 1 #[.val (.int p1), .val (.int p2), .unset, .unset, .unset] [(.int p1)])) _
    refine st1 _ ?_
    show Steps p.tables e below (T1.setTop (mkF m 4 #[.val (.int p1), .val (.int p2), .unset, .unset, .unset] [(.ref w_FALSE)])) _
    refine XS.astoreN X1.here hx rfl (hb hby at_4) rfl rfl (l' := #[.val (.int p1), .val (.int p2), .val (.ref w_FALSE), .unset, .unset]) rfl ?_
    show Steps p.tables e below (T1.setTop (mkF m 5 #[.val (.int p1), .val (.int p2), .val (.ref w_FALSE), .unset, .unset] [])) _
    refine XS.iloadN X1.here hx rfl (hb hby at_5) rfl ?_
    show Steps p.tables e below (T1.setTop (mkF m 6 #[.val (.int p1), .val (.int p2), .val (.ref w_FALSE), .unset, .unset] [(.int p2)])) _
    refine st2 _ ?_
    show Steps p.tables e below (T2.setTop (mkF m 9 #[.val (.int p1), .val (.int p2), .val (.ref w_FALSE), .unset, .unset] [(.ref w_FALSE)])) _
    refine XS.astoreN X2.here hx rfl (hb hby at_9) rfl rfl (l' := #[.val (.int p1), .val (.int p2), .val (.ref w_FALSE), .val (.ref w_FALSE), .unset]) rfl ?_
    show Steps p.tables e below (T2.setTop (mkF m 10 #[.val (.int p1), .val (.int p2), .val (.ref w_FALSE), .val (.ref w_FALSE), .unset] [])) _
    refine XS.aloadN X2.here hx rfl (hb hby at_10) rfl rfl ?_
    show Steps p.tables e below (T2.setTop (mkF m 11 #[.val (.int p1), .val (.int p2), .val (.ref w_FALSE), .val (.ref w_FALSE), .unset] [(.ref w_FALSE)])) _
    refine XS.aloadN X2.here hx rfl (hb hby at_11) rfl rfl ?_
    show Steps p.tables e below (T2.setTop (mkF m 12 #[.val (.int p1), .val (.int p2), .val (.ref w_FALSE), .val (.ref w_FALSE), .unset] [(.ref w_FALSE), (.ref w_FALSE)])) _
    refine st3.trans ?_
    show Steps p.tables e below (T3.setTop (mkF m 15 #[.val (.int p1), .val (.int p2), .val (.ref w_FALSE), .val (.ref w_FALSE), .unset] [(.ref w_FALSE)])) _
    refine XS.astore X3.here hx rfl (hb hby at_15) rfl rfl (l' := #[.val (.int p1), .val (.int p2), .val (.ref w_FALSE), .val (.ref w_FALSE), .val (.ref w_FALSE)]) rfl ?_
    show Steps p.tables e below (T3.setTop (mkF m 17 #[.val (.int p1), .val (.int p2), .val (.ref w_FALSE), .val (.ref w_FALSE), .val (.ref w_FALSE)] [])) _
    refine XS.aload X3.here hx rfl (hb hby at_17) rfl rfl ?_
    show Steps p.tables e below (T3.setTop (mkF m 19 #[.val (.int p1), .val (.int p2), .val (.ref w_FALSE), .val (.ref w_FALSE), .val (.ref w_FALSE)] [(.ref w_FALSE)])) _
    refine st4 _ ?_
    show Steps p.tables e below (T4.setTop (mkF m 22 #[.val (.int p1), .val (.int p2), .val (.ref w_FALSE), .val (.ref w_FALSE), .val (.ref w_FALSE)] [(.int (0 : Int32))])) _
    refine XS.aloadN X4.here hx rfl (hb hby at_22) rfl rfl ?_
    show Steps p.tables e below (T4.setTop (mkF m 23 #[.val (.int p1), .val (.int p2), .val (.ref w_FALSE), .val (.ref w_FALSE), .val (.ref w_FALSE)] [(.ref w_FALSE), (.int (0 : Int32))])) _
    refine st5 _ ?_
    show Steps p.tables e below (T5.setTop (mkF m 26 #[.val (.int p1), .val (.int p2), .val (.ref w_FALSE), .val (.ref w_FALSE), .val (.ref w_FALSE)] [(.int (0 : Int32)), (.int (0 : Int32))])) _
    refine XS.aloadN X5.here hx rfl (hb hby at_26) rfl rfl ?_
    show Steps p.tables e below (T5.setTop (mkF m 27 #[.val (.int p1), .val (.int p2), .val (.ref w_FALSE), .val (.ref w_FALSE), .val (.ref w_FALSE)] [(.ref w_FALSE), (.int (0 : Int32)), (.int (0 : Int32))])) _
    refine st6 _ ?_
    show Steps p.tables e below (T6.setTop (mkF m 30 #[.val (.int p1), .val (.int p2), .val (.ref w_FALSE), .val (.ref w_FALSE), .val (.ref w_FALSE)] [(.int (0 : Int32)), (.int (0 : Int32)), (.int (0 : Int32))])) _
    refine st7 _ ?_
    show Steps p.tables e below (T7.setTop (mkF m 33 #[.val (.int p1), .val (.int p2), .val (.ref w_FALSE), .val (.ref w_FALSE), .val (.ref w_FALSE)] [(.int (0 : Int32)), (.int (0 : Int32))])) _
    refine XS.icmpNo X7.here hx rfl (hb hby at_33) rfl (teq (rfl : (0 : Int32) = (0 : Int32))).2 ?_
    show Steps p.tables e below (T7.setTop (mkF m 36 #[.val (.int p1), .val (.int p2), .val (.ref w_FALSE), .val (.ref w_FALSE), .val (.ref w_FALSE)] [])) _
    refine XS.iconst X7.here hx rfl (hb hby at_36) ?_
    show Steps p.tables e below (T7.setTop (mkF m 37 #[.val (.int p1), .val (.int p2), .val (.ref w_FALSE), .val (.ref w_FALSE), .val (.ref w_FALSE)] [(.int (1 : Int32))])) _
    refine XS.goto X7.here hx rfl (pc0 := 37) (pc' := 41) rfl (hb hby at_37) (by decide) (by decide) ?_
    show Steps p.tables e below (T7.setTop (mkF m 41 #[.val (.int p1), .val (.int p2), .val (.ref w_FALSE), .val (.ref w_FALSE), .val (.ref w_FALSE)] [(.int (1 : Int32))])) _
    exact retN X7 hx (t := .boolean) Bd.returns (by simp) (hb hby at_41) hr
  · exact ⟨rfl, N7⟩
theorem d1_15 : decode method_2_code 15 = .ok (.iload_n 1, 1) := by decide +kernel
theorem d1_16 : decode method_2_code 16 = .ok (.iconst 1, 1) := by decide +kernel
theorem d1_17 : decode method_2_code 17 = .ok (.if_icmp .ne 7, 3) := by decide +kernel
theorem d1_20 : decode method_2_code 20 = .ok (.getstatic 14, 3) := by decide +kernel
theorem d1_23 : decode method_2_code 23 = .ok (.areturn, 1) := by decide +kernel
def Q_rm1_1 (Z : State) (p1 : Int32) (w2 : Addr) (h0 : Heap) (n0 : Nat) (v : Option Value) (h : Heap) (L : List Loc) : Prop := v = some (.ref w2) ∧ Fr n0 L ∧ h = h0
set_option maxRecDepth 65536 in
set_option maxHeartbeats 40000000 in
theorem rm1_1 (l : Launch) (Z : State) (a0 : Array Value) (hw : ∀ d ∈ tables_1, d.before a0 Z = true) (ws : List Jvm.Cond) (p1 : Int32) (w2 : Addr) (h0 : Heap) (n0 : Nat) (OL0 : Old Z n0 h0) (pr1 : ((p1 &&& (2147483647 : Int32)) % (3 : Int32)) = (1 : Int32)) (pr2 : Sta Z Z.heap "com/example/rowforge/rowforge/Truth" "UNKNOWN" "Lcom/example/rowforge/rowforge/Truth;" (.ref w2)) :
    MetFree l (⟨"com/example/rowforge/rowforge/TruthAndPinLaw", "pick", "(I)Lcom/example/rowforge/rowforge/Truth;"⟩ : MethodName) (head1 (Jvm.Cond.code (⟨"com/example/rowforge/rowforge/TruthAndPinLaw", "pick", "(I)Lcom/example/rowforge/rowforge/Truth;"⟩ : MethodName) method_2_code 2 (some (.object "com/example/rowforge/rowforge/Truth")) :: ws) ({ frames := 0, cells := 0, slots := 0, locals := 0 } : Room)) (fun a U => a = #[(.int p1)] ∧ Z.Warmed39 U.vm ∧ U.heap = h0) (fun _ _ _ _ _ => True) (fun _ U o U' => ∃ v L, o = .returned v ∧ Q_rm1_1 Z p1 w2 h0 n0 v U'.heap L ∧ FrameEnd U o U' L ({ frames := 0, cells := 0, slots := 0, locals := 0 } : Room).cells ({ frames := 0, cells := 0, slots := 0, locals := 0 } : Room).slots) := by
  refine MetFree.of_bodySF (plainFor_of_name pn_0) hisR ?_
  intro p e s m args below meth c s₁ Bd hml0 hP hK
  obtain ⟨rfl, hZ, hh⟩ := hP
  have hx := Bd.exec
  have hby := Bd.bytes
  have hml : c.maxLocals = 2 := hml0
  have hown : s.vm.findClass "com/example/rowforge/rowforge/TruthAndPinLaw" = some m.cls := findClass_of_methodNamed Bd.named
  have hnm := (name_of_methodNamed Bd.named Bd.method).1
  have X0 : Stand p l e ({ frames := 0, cells := 0, slots := 0, locals := 0 } : Room) s m #[(.int p1)] below meth c s₁ [] 0 0 := Stand.of_body Bd
  have e0 : s₁.heap = h0 := by rw [← hh, Bd.state]; rfl
  have N0 := Fr.nil n0
  have pre0 : ∀ t, Steps p.tables e below (s₁.setTop (mkF m 0 #[.val (.int p1), .unset] [])) t → Steps p.tables e below (s₁.setTop (entryFrame m #[(.int p1)] 2)) t := fun t k => castTop (ef_1_0 m p1) k
  obtain ⟨T3, X3, e3, st3⟩ := getS2 X0 hx hZ hown (host := "") (Or.inl (wd23 hw)) Via.refl e0 (pr2.ext OL0.2) (g := (mkF m 20 #[.val (.int p1), .val (.int (1 : Int32))] [])) rfl (hb hby d1_20)
  obtain ⟨fs, hr, hrun, hended, hW, hsame⟩ := X3.leave (v := some (.ref w2)) (fun h => by rw [Bd.returns] at h; cases h)
  refine ⟨_, _, pre0 _ ?_, hrun, hended, _, _, rfl, ?_, ⟨_, rfl⟩, hW, hsame.mono (by decide) (by decide)⟩
  · show Steps p.tables e below (s₁.setTop (mkF m 0 #[.val (.int p1), .unset] [])) _
    refine XS.iloadN X0.here hx rfl (hb hby d1_0) rfl ?_
    show Steps p.tables e below (s₁.setTop (mkF m 1 #[.val (.int p1), .unset] [(.int p1)])) _
    refine X0.ldcInt hx hown (mvT hZ (wd4 hw)) (g := (mkF m 1 #[.val (.int p1), .unset] [(.int p1)])) rfl (hb hby d1_1) _ ?_
    show Steps p.tables e below (s₁.setTop (mkF m 3 #[.val (.int p1), .unset] [(.int (2147483647 : Int32)), (.int p1)])) _
    refine XS.iand X0.here hx rfl (hb hby d1_3) rfl ?_
    show Steps p.tables e below (s₁.setTop (mkF m 4 #[.val (.int p1), .unset] [(.int (p1 &&& (2147483647 : Int32)))])) _
    refine XS.iconst X0.here hx rfl (hb hby d1_4) ?_
    show Steps p.tables e below (s₁.setTop (mkF m 5 #[.val (.int p1), .unset] [(.int (3 : Int32)), (.int (p1 &&& (2147483647 : Int32)))])) _
    refine iremM X0 hx rfl (hb hby d1_5) rfl (by decide) ?_
    show Steps p.tables e below (s₁.setTop (mkF m 6 #[.val (.int p1), .unset] [(.int ((p1 &&& (2147483647 : Int32)) % (3 : Int32)))])) _
    rw [pr1]
    show Steps p.tables e below (s₁.setTop (mkF m 6 #[.val (.int p1), .unset] [(.int (1 : Int32))])) _
    refine XS.istoreN X0.here hx rfl (hb hby d1_6) rfl (l' := #[.val (.int p1), .val (.int (1 : Int32))]) rfl ?_
    show Steps p.tables e below (s₁.setTop (mkF m 7 #[.val (.int p1), .val (.int (1 : Int32))] [])) _
    refine XS.iloadN X0.here hx rfl (hb hby d1_7) rfl ?_
    show Steps p.tables e below (s₁.setTop (mkF m 8 #[.val (.int p1), .val (.int (1 : Int32))] [(.int (1 : Int32))])) _
    refine XS.ifYes X0.here hx rfl (pc0 := 8) (pc' := 15) rfl (hb hby d1_8) rfl ((if0 _ _).trans (feq (by decide : ¬ ((1 : Int32) = (0 : Int32)))).2) (by decide) (by decide) ?_
    show Steps p.tables e below (s₁.setTop (mkF m 15 #[.val (.int p1), .val (.int (1 : Int32))] [])) _
    refine XS.iloadN X0.here hx rfl (hb hby d1_15) rfl ?_
    show Steps p.tables e below (s₁.setTop (mkF m 16 #[.val (.int p1), .val (.int (1 : Int32))] [(.int (1 : Int32))])) _
    refine XS.iconst X0.here hx rfl (hb hby d1_16) ?_
    show Steps p.tables e below (s₁.setTop (mkF m 17 #[.val (.int p1), .val (.int (1 : Int32))] [(.int (1 : Int32)), (.int (1 : Int32))])) _
    refine XS.icmpNo X0.here hx rfl (hb hby d1_17) rfl (teq (rfl : (1 : Int32) = (1 : Int32))).2 ?_
    show Steps p.tables e below (s₁.setTop (mkF m 20 #[.val (.int p1), .val (.int (1 : Int32))] [])) _
    refine st3 _ ?_
    show Steps p.tables e below (T3.setTop (mkF m 23 #[.val (.int p1), .val (.int (1 : Int32))] [(.ref w2)])) _
    jvm_step X3.here [X3.here.top, hx, (hb hby d1_23), X3.method', Bd.returns, Value.isRef, FieldType.isReference]
    first | (intro acts; rw [hr _ acts rfl rfl rfl]) | rw [hr _ _ rfl rfl rfl]
    exact Steps.refl _
  · show Q_rm1_1 Z p1 w2 h0 n0 _ T3.heap _
    rw [e3]
    exact ⟨rfl, N0, rfl⟩
def Q_rm2_1 (Z : State) (w1 : Addr) (w2 : Addr) (h0 : Heap) (n0 : Nat) (v : Option Value) (h : Heap) (L : List Loc) : Prop := v = some (.ref w1) ∧ Fr n0 L ∧ h = h0
set_option maxRecDepth 65536 in
set_option maxHeartbeats 40000000 in
theorem rm2_1 (l : Launch) (Z : State) (a0 : Array Value) (hw : ∀ d ∈ tables_1, d.before a0 Z = true) (ws : List Jvm.Cond) (w1 : Addr) (w2 : Addr) (h0 : Heap) (n0 : Nat) (OL0 : Old Z n0 h0) (pr1 : Sta Z Z.heap "com/example/rowforge/rowforge/Truth" "FALSE" "Lcom/example/rowforge/rowforge/Truth;" (.ref w1)) :
    MetFree l (⟨"com/example/rowforge/rowforge/Truth", "and", "(Lcom/example/rowforge/rowforge/Truth;)Lcom/example/rowforge/rowforge/Truth;"⟩ : MethodName) (head1 (Jvm.Cond.code (⟨"com/example/rowforge/rowforge/Truth", "and", "(Lcom/example/rowforge/rowforge/Truth;)Lcom/example/rowforge/rowforge/Truth;"⟩ : MethodName) prog_36_method_6_code 3 (some (.object "com/example/rowforge/rowforge/Truth")) :: ws) ({ frames := 0, cells := 0, slots := 0, locals := 0 } : Room)) (fun a U => a = #[(.ref w1), (.ref w2)] ∧ Z.Warmed39 U.vm ∧ U.heap = h0) (fun _ _ _ _ _ => True) (fun _ U o U' => ∃ v L, o = .returned v ∧ Q_rm2_1 Z w1 w2 h0 n0 v U'.heap L ∧ FrameEnd U o U' L ({ frames := 0, cells := 0, slots := 0, locals := 0 } : Room).cells ({ frames := 0, cells := 0, slots := 0, locals := 0 } : Room).slots) := by
  refine MetFree.of_bodySF (plainFor_of_name pn_1) hisR ?_
  intro p e s m args below meth c s₁ Bd hml0 hP hK
  obtain ⟨rfl, hZ, hh⟩ := hP
  have hx := Bd.exec
  have hby := Bd.bytes
  have hml : c.maxLocals = 3 := hml0
  have hown : s.vm.findClass "com/example/rowforge/rowforge/Truth" = some m.cls := findClass_of_methodNamed Bd.named
  have hnm := (name_of_methodNamed Bd.named Bd.method).1
  have X0 : Stand p l e ({ frames := 0, cells := 0, slots := 0, locals := 0 } : Room) s m #[(.ref w1), (.ref w2)] below meth c s₁ [] 0 0 := Stand.of_body Bd
  have e0 : s₁.heap = h0 := by rw [← hh, Bd.state]; rfl
  have N0 := Fr.nil n0
  have pre0 : ∀ t, Steps p.tables e below (s₁.setTop (mkF m 0 #[.val (.ref w1), .val (.ref w2), .unset] [])) t → Steps p.tables e below (s₁.setTop (entryFrame m #[(.ref w1), (.ref w2)] 3)) t := fun t k => castTop (ef_2_1 m w1 w2) k
  obtain ⟨T3, X3, e3, st3⟩ := getS2 X0 hx hZ hown (host := "") (Or.inl (wd13 hw)) Via.refl e0 (pr1.ext OL0.2) (g := (mkF m 1 #[.val (.ref w1), .val (.ref w2), .unset] [(.ref w1)])) rfl (hb hby d2_1)
  obtain ⟨T4, X4, e4, st4⟩ := getS2 X3 hx hZ hown (host := "") (Or.inl (wd13 hw)) Via.refl e3 (pr1.ext OL0.2) (g := (mkF m 14 #[.val (.ref w1), .val (.ref w2), .unset] [])) rfl (hb hby d2_14)
  obtain ⟨fs, hr, hrun, hended, hW, hsame⟩ := X4.leave (v := some (.ref w1)) (fun h => by rw [Bd.returns] at h; cases h)
  refine ⟨_, _, pre0 _ ?_, hrun, hended, _, _, rfl, ?_, ⟨_, rfl⟩, hW, hsame.mono (by decide) (by decide)⟩
  · show Steps p.tables e below (s₁.setTop (mkF m 0 #[.val (.ref w1), .val (.ref w2), .unset] [])) _
    refine XS.aloadN X0.here hx rfl (hb hby d2_0) rfl rfl ?_
    show Steps p.tables e below (s₁.setTop (mkF m 1 #[.val (.ref w1), .val (.ref w2), .unset] [(.ref w1)])) _
    refine st3 _ ?_
    show Steps p.tables e below (T3.setTop (mkF m 4 #[.val (.ref w1), .val (.ref w2), .unset] [(.ref w1), (.ref w1)])) _
    refine Jvm.RoadKit.acmp (g := (mkF m 4 #[.val (.ref w1), .val (.ref w2), .unset] [(.ref w1), (.ref w1)])) X3 hx rfl rfl rfl (pc0 := 4) (pc' := 14) (same := true) rfl (hb hby d2_4) rfl (decide_eq_true rfl) (by decide) (by decide) ?_
    show Steps p.tables e below (T3.setTop (mkF m 14 #[.val (.ref w1), .val (.ref w2), .unset] [])) _
    refine st4 _ ?_
    show Steps p.tables e below (T4.setTop (mkF m 17 #[.val (.ref w1), .val (.ref w2), .unset] [(.ref w1)])) _
    refine XS.astoreN X4.here hx rfl (hb hby d2_17) rfl rfl (l' := #[.val (.ref w1), .val (.ref w2), .val (.ref w1)]) rfl ?_
    show Steps p.tables e below (T4.setTop (mkF m 18 #[.val (.ref w1), .val (.ref w2), .val (.ref w1)] [])) _
    refine XS.goto X4.here hx rfl (pc0 := 18) (pc' := 46) rfl (hb hby d2_18) (by decide) (by decide) ?_
    show Steps p.tables e below (T4.setTop (mkF m 46 #[.val (.ref w1), .val (.ref w2), .val (.ref w1)] [])) _
    refine XS.aloadN X4.here hx rfl (hb hby d2_46) rfl rfl ?_
    show Steps p.tables e below (T4.setTop (mkF m 47 #[.val (.ref w1), .val (.ref w2), .val (.ref w1)] [(.ref w1)])) _
    jvm_step X4.here [X4.here.top, hx, (hb hby d2_47), X4.method', Bd.returns, Value.isRef, FieldType.isReference]
    first | (intro acts; rw [hr _ acts rfl rfl rfl]) | rw [hr _ _ rfl rfl rfl]
    exact Steps.refl _
  · show Q_rm2_1 Z w1 w2 h0 n0 _ T4.heap _
    rw [e4]
    exact ⟨rfl, N0, rfl⟩
theorem d3_9 : decode method_3_code 9 = .ok (.aload_n 0, 1) := by decide +kernel
theorem d3_10 : decode method_3_code 10 = .ok (.getstatic 14, 3) := by decide +kernel
theorem d3_13 : decode method_3_code 13 = .ok (.if_acmp .ne 5, 3) := by decide +kernel
theorem d3_16 : decode method_3_code 16 = .ok (.iconst 1, 1) := by decide +kernel
theorem d3_17 : decode method_3_code 17 = .ok (.ireturn, 1) := by decide +kernel
def Q_rm3_1 (Z : State) (w1 : Addr) (w2 : Addr) (h0 : Heap) (n0 : Nat) (v : Option Value) (h : Heap) (L : List Loc) : Prop := v = some (.int (1 : Int32)) ∧ Fr n0 L ∧ h = h0
set_option maxRecDepth 65536 in
set_option maxHeartbeats 40000000 in
theorem rm3_1 (l : Launch) (Z : State) (a0 : Array Value) (hw : ∀ d ∈ tables_1, d.before a0 Z = true) (ws : List Jvm.Cond) (w1 : Addr) (w2 : Addr) (h0 : Heap) (n0 : Nat) (OL0 : Old Z n0 h0) (pr1 : Sta Z Z.heap "com/example/rowforge/rowforge/Truth" "FALSE" "Lcom/example/rowforge/rowforge/Truth;" (.ref w2)) (pr2 : w1 ≠ w2) (pr3 : Sta Z Z.heap "com/example/rowforge/rowforge/Truth" "UNKNOWN" "Lcom/example/rowforge/rowforge/Truth;" (.ref w1)) :
    MetFree l (⟨"com/example/rowforge/rowforge/TruthAndPinLaw", "rank", "(Lcom/example/rowforge/rowforge/Truth;)I"⟩ : MethodName) (head1 (Jvm.Cond.code (⟨"com/example/rowforge/rowforge/TruthAndPinLaw", "rank", "(Lcom/example/rowforge/rowforge/Truth;)I"⟩ : MethodName) method_3_code 1 (some .int) :: ws) ({ frames := 0, cells := 0, slots := 0, locals := 0 } : Room)) (fun a U => a = #[(.ref w1)] ∧ Z.Warmed39 U.vm ∧ U.heap = h0) (fun _ _ _ _ _ => True) (fun _ U o U' => ∃ v L, o = .returned v ∧ Q_rm3_1 Z w1 w2 h0 n0 v U'.heap L ∧ FrameEnd U o U' L ({ frames := 0, cells := 0, slots := 0, locals := 0 } : Room).cells ({ frames := 0, cells := 0, slots := 0, locals := 0 } : Room).slots) := by
  refine MetFree.of_bodySF (plainFor_of_name pn_0) hisR ?_
  intro p e s m args below meth c s₁ Bd hml0 hP hK
  obtain ⟨rfl, hZ, hh⟩ := hP
  have hx := Bd.exec
  have hby := Bd.bytes
  have hml : c.maxLocals = 1 := hml0
  have hown : s.vm.findClass "com/example/rowforge/rowforge/TruthAndPinLaw" = some m.cls := findClass_of_methodNamed Bd.named
  have hnm := (name_of_methodNamed Bd.named Bd.method).1
  have X0 : Stand p l e ({ frames := 0, cells := 0, slots := 0, locals := 0 } : Room) s m #[(.ref w1)] below meth c s₁ [] 0 0 := Stand.of_body Bd
  have e0 : s₁.heap = h0 := by rw [← hh, Bd.state]; rfl
  have N0 := Fr.nil n0
  have pre0 : ∀ t, Steps p.tables e below (s₁.setTop (mkF m 0 #[.val (.ref w1)] [])) t → Steps p.tables e below (s₁.setTop (entryFrame m #[(.ref w1)] 1)) t := fun t k => castTop (ef_3_2 m w1) k
  obtain ⟨T3, X3, e3, st3⟩ := getS2 X0 hx hZ hown (host := "") (Or.inl (wd5 hw)) Via.refl e0 (pr1.ext OL0.2) (g := (mkF m 1 #[.val (.ref w1)] [(.ref w1)])) rfl (hb hby d3_1)
  obtain ⟨T4, X4, e4, st4⟩ := getS2 X3 hx hZ hown (host := "") (Or.inl (wd23 hw)) Via.refl e3 (pr3.ext OL0.2) (g := (mkF m 10 #[.val (.ref w1)] [(.ref w1)])) rfl (hb hby d3_10)
  obtain ⟨fs, hr, hrun, hended, hW, hsame⟩ := X4.leave (v := some (.int (1 : Int32))) (fun h => by rw [Bd.returns] at h; cases h)
  refine ⟨_, _, pre0 _ ?_, hrun, hended, _, _, rfl, ?_, ⟨_, rfl⟩, hW, hsame.mono (by decide) (by decide)⟩
  · show Steps p.tables e below (s₁.setTop (mkF m 0 #[.val (.ref w1)] [])) _
    refine XS.aloadN X0.here hx rfl (hb hby d3_0) rfl rfl ?_
    show Steps p.tables e below (s₁.setTop (mkF m 1 #[.val (.ref w1)] [(.ref w1)])) _
    refine st3 _ ?_
    show Steps p.tables e below (T3.setTop (mkF m 4 #[.val (.ref w1)] [(.ref w2), (.ref w1)])) _
    refine Jvm.RoadKit.acmp (g := (mkF m 4 #[.val (.ref w1)] [(.ref w2), (.ref w1)])) X3 hx rfl rfl rfl (pc0 := 4) (pc' := 9) (same := false) rfl (hb hby d3_4) rfl (decide_eq_false fun q => pr2 (Value.ref.inj q)) (by decide) (by decide) ?_
    show Steps p.tables e below (T3.setTop (mkF m 9 #[.val (.ref w1)] [])) _
    refine XS.aloadN X3.here hx rfl (hb hby d3_9) rfl rfl ?_
    show Steps p.tables e below (T3.setTop (mkF m 10 #[.val (.ref w1)] [(.ref w1)])) _
    refine st4 _ ?_
    show Steps p.tables e below (T4.setTop (mkF m 13 #[.val (.ref w1)] [(.ref w1), (.ref w1)])) _
    refine Jvm.RoadKit.acmp (g := (mkF m 13 #[.val (.ref w1)] [(.ref w1), (.ref w1)])) X4 hx rfl rfl rfl (pc0 := 13) (pc' := 16) (same := true) rfl (hb hby d3_13) rfl (decide_eq_true rfl) (by decide) (by decide) ?_
    show Steps p.tables e below (T4.setTop (mkF m 16 #[.val (.ref w1)] [])) _
    refine XS.iconst X4.here hx rfl (hb hby d3_16) ?_
    show Steps p.tables e below (T4.setTop (mkF m 17 #[.val (.ref w1)] [(.int (1 : Int32))])) _
    exact retI X4 hx Bd.returns (hb hby d3_17) hr
  · show Q_rm3_1 Z w1 w2 h0 n0 _ T4.heap _
    rw [e4]
    exact ⟨rfl, N0, rfl⟩
theorem ef_4_5 (m : MethodId)  : entryFrame m #[(.int (0 : Int32)), (.int (1 : Int32))] 2 = mkF m 0 #[.val (.int (0 : Int32)), .val (.int (1 : Int32))] [] := by first | (simp [entryFrame, mkF, argsToLocals, Value.category]; done) | rfl
def Q_rm4_1 (Z : State)  (h0 : Heap) (n0 : Nat) (v : Option Value) (h : Heap) (L : List Loc) : Prop := v = some (.int (0 : Int32)) ∧ Fr n0 L ∧ h = h0
set_option maxRecDepth 65536 in
set_option maxHeartbeats 40000000 in
theorem rm4_1 (l : Launch) (Z : State) (a0 : Array Value) (hw : ∀ d ∈ tables_1, d.before a0 Z = true) (ws : List Jvm.Cond)  (h0 : Heap) (n0 : Nat) (OL0 : Old Z n0 h0)  :
    MetFree l (⟨"java/lang/Math", "min", "(II)I"⟩ : MethodName) (head1 (Jvm.Cond.code (⟨"java/lang/Math", "min", "(II)I"⟩ : MethodName) jdk_29_method_69_code 2 (some .int) :: ws) ({ frames := 0, cells := 0, slots := 0, locals := 0 } : Room)) (fun a U => a = #[(.int (0 : Int32)), (.int (1 : Int32))] ∧ Z.Warmed39 U.vm ∧ U.heap = h0) (fun _ _ _ _ _ => True) (fun _ U o U' => ∃ v L, o = .returned v ∧ Q_rm4_1 Z  h0 n0 v U'.heap L ∧ FrameEnd U o U' L ({ frames := 0, cells := 0, slots := 0, locals := 0 } : Room).cells ({ frames := 0, cells := 0, slots := 0, locals := 0 } : Room).slots) := by
  refine MetFree.of_bodySF (Jvm.Free.JP.mathPlain rfl (by decide +kernel)) hisR ?_
  intro p e s m args below meth c s₁ Bd hml0 hP hK
  obtain ⟨rfl, hZ, hh⟩ := hP
  have hx := Bd.exec
  have hby := Bd.bytes
  have hml : c.maxLocals = 2 := hml0
  have hown : s.vm.findClass "java/lang/Math" = some m.cls := findClass_of_methodNamed Bd.named
  have hnm := (name_of_methodNamed Bd.named Bd.method).1
  have X0 : Stand p l e ({ frames := 0, cells := 0, slots := 0, locals := 0 } : Room) s m #[(.int (0 : Int32)), (.int (1 : Int32))] below meth c s₁ [] 0 0 := Stand.of_body Bd
  have e0 : s₁.heap = h0 := by rw [← hh, Bd.state]; rfl
  have N0 := Fr.nil n0
  have pre0 : ∀ t, Steps p.tables e below (s₁.setTop (mkF m 0 #[.val (.int (0 : Int32)), .val (.int (1 : Int32))] [])) t → Steps p.tables e below (s₁.setTop (entryFrame m #[(.int (0 : Int32)), (.int (1 : Int32))] 2)) t := fun t k => castTop (ef_4_5 m ) k
  obtain ⟨fs, hr, hrun, hended, hW, hsame⟩ := X0.leave (v := some (.int (0 : Int32))) (fun h => by rw [Bd.returns] at h; cases h)
  refine ⟨_, _, pre0 _ ?_, hrun, hended, _, _, rfl, ?_, ⟨_, rfl⟩, hW, hsame.mono (by decide) (by decide)⟩
  · show Steps p.tables e below (s₁.setTop (mkF m 0 #[.val (.int (0 : Int32)), .val (.int (1 : Int32))] [])) _
    refine XS.iloadN X0.here hx rfl (hb hby d4_0) rfl ?_
    show Steps p.tables e below (s₁.setTop (mkF m 1 #[.val (.int (0 : Int32)), .val (.int (1 : Int32))] [(.int (0 : Int32))])) _
    refine XS.iloadN X0.here hx rfl (hb hby d4_1) rfl ?_
    show Steps p.tables e below (s₁.setTop (mkF m 2 #[.val (.int (0 : Int32)), .val (.int (1 : Int32))] [(.int (1 : Int32)), (.int (0 : Int32))])) _
    refine XS.icmpNo X0.here hx rfl (hb hby d4_2) rfl (flt (by decide : ¬ ((1 : Int32) < (0 : Int32)))).2.2.1 ?_
    show Steps p.tables e below (s₁.setTop (mkF m 5 #[.val (.int (0 : Int32)), .val (.int (1 : Int32))] [])) _
    refine XS.iloadN X0.here hx rfl (hb hby d4_5) rfl ?_
    show Steps p.tables e below (s₁.setTop (mkF m 6 #[.val (.int (0 : Int32)), .val (.int (1 : Int32))] [(.int (0 : Int32))])) _
    refine XS.goto X0.here hx rfl (pc0 := 6) (pc' := 10) rfl (hb hby d4_6) (by decide) (by decide) ?_
    show Steps p.tables e below (s₁.setTop (mkF m 10 #[.val (.int (0 : Int32)), .val (.int (1 : Int32))] [(.int (0 : Int32))])) _
    exact retI X0 hx Bd.returns (hb hby d4_10) hr
  · show Q_rm4_1 Z  h0 n0 _ s₁.heap _
    rw [e0]
    exact ⟨rfl, N0, rfl⟩
set_option maxRecDepth 65536 in
set_option maxHeartbeats 40000000 in
theorem rm0_0_1 (l : Launch) (Z : State) (a0 : Array Value) (hw : ∀ d ∈ tables_1, d.before a0 Z = true) (ws : List Jvm.Cond) (p1 : Int32) (p2 : Int32) (w_FALSE : Addr) (w_UNKNOWN : Addr) (h0 : Heap) (n0 : Nat) (OL0 : Old Z n0 h0) (pr1 : ((p1 &&& (2147483647 : Int32)) % (3 : Int32)) = (0 : Int32)) (pr2 : Sta Z Z.heap "com/example/rowforge/rowforge/Truth" "FALSE" "Lcom/example/rowforge/rowforge/Truth;" (.ref w_FALSE)) (pr3 : ((p2 &&& (2147483647 : Int32)) % (3 : Int32)) = (1 : Int32)) (pr4 : Sta Z Z.heap "com/example/rowforge/rowforge/Truth" "UNKNOWN" "Lcom/example/rowforge/rowforge/Truth;" (.ref w_UNKNOWN)) (pr5 : Exa Z Z.heap w_FALSE "com/example/rowforge/rowforge/Truth") (pr6 : w_UNKNOWN ≠ w_FALSE) :
    MetFree l x (head1 (Jvm.Cond.code x code maxLocals ret :: ws) room_1) (fun a U => a = #[(.int p1), (.int p2)] ∧ Z.Warmed39 U.vm ∧ U.heap = h0) (fun _ _ _ _ _ => True) (fun _ U o U' => ∃ v L, o = .returned v ∧ Q0 n0 v L ∧ FrameEnd U o U' L 0 0) := by
  refine MetFree.of_bodySF (plainFor_of_name pn_0) hisR ?_
  intro p e s m args below meth c s₁ Bd hml0 hP hK
  obtain ⟨rfl, hZ, hh⟩ := hP
  have hx := Bd.exec
  have hby := Bd.bytes
  have hml : c.maxLocals = 5 := hml0
  have hown : s.vm.findClass "com/example/rowforge/rowforge/TruthAndPinLaw" = some m.cls := findClass_of_methodNamed Bd.named
  have hnm := (name_of_methodNamed Bd.named Bd.method).1
  have X0 : Stand p l e room_1 s m #[(.int p1), (.int p2)] below meth c s₁ [] 0 0 := Stand.of_body Bd
  have e0 : s₁.heap = h0 := by rw [← hh, Bd.state]; rfl
  have N0 := Fr.nil n0
  have pre0 : ∀ t, Steps p.tables e below (s₁.setTop (mkF m 0 #[.val (.int p1), .val (.int p2), .unset, .unset, .unset] [])) t → Steps p.tables e below (s₁.setTop (entryFrame m #[(.int p1), (.int p2)] maxLocals)) t := fun t k => castTop (ef_0_4 m p1 p2) k
  obtain ⟨_, _, ⟨T1, L1, k1, n1⟩, -, X1, ⟨Lc1, hQ1, l1, y1, z1⟩, st1⟩ := Jvm.LawKit.callS X0 hx (y := (⟨"com/example/rowforge/rowforge/TruthAndPinLaw", "pick", "(I)Lcom/example/rowforge/rowforge/Truth;"⟩ : MethodName)) hown (mvT hZ (wd0 hw)) (mvT hZ (wd1 hw)) (mvT hZ (wd2 hw)) (mvT hZ (wd3 hw)) (by decide) (backOf (W := 0) (rm1_0 l Z a0 hw [] p1 w_FALSE h0 n0 OL0 pr1 pr2) hZ (wd3 hw) (wd2 hw) (by decide) (by decide)) (g := (mkF m 1 #[.val (.int p1), .val (.int p2), .unset, .unset, .unset] [(.int p1)])) rfl (by rw [hml]; rfl) (argsL := [(.int p1)]) (rest := []) (lenOf pd_0 rfl) rfl (by show 2 * 0 + _ ≤ _; exact Nat.le_of_eq rfl) (hb hby at_1) (fun _ _ => ⟨rfl, e0, (by decide : 0 + 0 ≤ _), (by decide : 0 + 0 ≤ _)⟩)
  dsimp only [Pt.U, Pt.locs, Pt.cells, Pt.slots] at X1 l1 y1 z1 st1 hQ1
  subst l1 y1 z1
  obtain ⟨rfl, Nq1, ec1⟩ := hQ1
  have N1 := Fr.app N0 Nq1
  obtain ⟨_, _, ⟨T2, L2, k2, n2⟩, -, X2, ⟨Lc2, hQ2, l2, y2, z2⟩, st2⟩ := Jvm.LawKit.callS X1 hx (y := (⟨"com/example/rowforge/rowforge/TruthAndPinLaw", "pick", "(I)Lcom/example/rowforge/rowforge/Truth;"⟩ : MethodName)) hown (mvT hZ (wd0 hw)) (mvT hZ (wd1 hw)) (mvT hZ (wd2 hw)) (mvT hZ (wd3 hw)) (by decide) (backOf (W := 0) (rm1_1 l Z a0 hw [] p2 w_UNKNOWN h0 n0 OL0 pr3 pr4) hZ (wd3 hw) (wd2 hw) (by decide) (by decide)) (g := (mkF m 6 #[.val (.int p1), .val (.int p2), .val (.ref w_FALSE), .unset, .unset] [(.int p2)])) rfl (by rw [hml]; rfl) (argsL := [(.int p2)]) (rest := []) (lenOf pd_0 rfl) rfl (by show 2 * 0 + _ ≤ _; exact Nat.le_of_eq rfl) (hb hby at_6) (fun _ _ => ⟨rfl, ec1, (by decide : 0 + 0 ≤ _), (by decide : 0 + 0 ≤ _)⟩)
  dsimp only [Pt.U, Pt.locs, Pt.cells, Pt.slots] at X2 l2 y2 z2 st2 hQ2
  subst l2 y2 z2
  obtain ⟨rfl, Nq2, ec2⟩ := hQ2
  have N2 := Fr.app N1 Nq2
  obtain ⟨cq3, kq3, q3a, q3b, q3c⟩ := isOf hZ ec2 (pr5.ext OL0.2)
  obtain ⟨_, _, ⟨T3, L3, k3, n3⟩, -, X3, ⟨Lc3, hQ3, l3, y3, z3⟩, st3⟩ := X2.virtualBack hx (y := (⟨"com/example/rowforge/rowforge/Truth", "and", "(Lcom/example/rowforge/rowforge/Truth;)Lcom/example/rowforge/rowforge/Truth;"⟩ : MethodName)) (z := (⟨"com/example/rowforge/rowforge/Truth", "and", "(Lcom/example/rowforge/rowforge/Truth;)Lcom/example/rowforge/rowforge/Truth;"⟩ : MethodName)) hown (mvT hZ (wd8 hw)) (mvT hZ (wd9 hw)) (notFace_of_selects (args := #[]) (mvT hZ (wd11 hw))) (mvT hZ (wd11 hw)) (mvT hZ (wd10 hw)) (by decide) (backOf (W := 0) (rm2_1 l Z a0 hw [] w_FALSE w_UNKNOWN h0 n0 OL0 pr2) hZ (wd12 hw) (wd6 hw) (by decide) (by decide)) q3a q3c (g := (mkF m 12 #[.val (.int p1), .val (.int p2), .val (.ref w_FALSE), .val (.ref w_UNKNOWN), .unset] [(.ref w_UNKNOWN), (.ref w_FALSE)])) rfl (by rw [hml]; rfl) (Steps.refl _) (argsL := [(.ref w_UNKNOWN)]) (rest := []) (lenOf pd_1 rfl) rfl (by show 2 * 0 + _ ≤ _; exact Nat.le_of_eq rfl) (hb hby at_12) (fun _ _ => ⟨rfl, ec2, (by decide : 0 + 0 ≤ _), (by decide : 0 + 0 ≤ _)⟩)
  dsimp only [Pt.U, Pt.locs, Pt.cells, Pt.slots] at X3 l3 y3 z3 st3 hQ3
  subst l3 y3 z3
  obtain ⟨rfl, Nq3, ec3⟩ := hQ3
  have N3 := Fr.app N2 Nq3
  obtain ⟨_, _, ⟨T4, L4, k4, n4⟩, -, X4, ⟨Lc4, hQ4, l4, y4, z4⟩, st4⟩ := Jvm.LawKit.callS X3 hx (y := (⟨"com/example/rowforge/rowforge/TruthAndPinLaw", "rank", "(Lcom/example/rowforge/rowforge/Truth;)I"⟩ : MethodName)) hown (mvT hZ (wd14 hw)) (mvT hZ (wd15 hw)) (mvT hZ (wd2 hw)) (mvT hZ (wd16 hw)) (by decide) (backOf (W := 0) (rm3_0 l Z a0 hw [] w_FALSE h0 n0 OL0 pr2) hZ (wd16 hw) (wd2 hw) (by decide) (by decide)) (g := (mkF m 19 #[.val (.int p1), .val (.int p2), .val (.ref w_FALSE), .val (.ref w_UNKNOWN), .val (.ref w_FALSE)] [(.ref w_FALSE)])) rfl (by rw [hml]; rfl) (argsL := [(.ref w_FALSE)]) (rest := []) (lenOf pd_2 rfl) rfl (by show 2 * 0 + _ ≤ _; exact Nat.le_of_eq rfl) (hb hby at_19) (fun _ _ => ⟨rfl, ec3, (by decide : 0 + 0 ≤ _), (by decide : 0 + 0 ≤ _)⟩)
  dsimp only [Pt.U, Pt.locs, Pt.cells, Pt.slots] at X4 l4 y4 z4 st4 hQ4
  subst l4 y4 z4
  obtain ⟨rfl, Nq4, ec4⟩ := hQ4
  have N4 := Fr.app N3 Nq4
  obtain ⟨_, _, ⟨T5, L5, k5, n5⟩, -, X5, ⟨Lc5, hQ5, l5, y5, z5⟩, st5⟩ := Jvm.LawKit.callS X4 hx (y := (⟨"com/example/rowforge/rowforge/TruthAndPinLaw", "rank", "(Lcom/example/rowforge/rowforge/Truth;)I"⟩ : MethodName)) hown (mvT hZ (wd14 hw)) (mvT hZ (wd15 hw)) (mvT hZ (wd2 hw)) (mvT hZ (wd16 hw)) (by decide) (backOf (W := 1) (rm3_0 l Z a0 hw [] w_FALSE h0 n0 OL0 pr2) hZ (wd16 hw) (wd2 hw) (by decide) (by decide)) (g := (mkF m 23 #[.val (.int p1), .val (.int p2), .val (.ref w_FALSE), .val (.ref w_UNKNOWN), .val (.ref w_FALSE)] [(.ref w_FALSE), (.int (0 : Int32))])) rfl (by rw [hml]; rfl) (argsL := [(.ref w_FALSE)]) (rest := [(.int (0 : Int32))]) (lenOf pd_2 rfl) rfl (by show 2 * 0 + _ ≤ _; exact Nat.le_of_eq rfl) (hb hby at_23) (fun _ _ => ⟨rfl, ec4, (by decide : 0 + 0 ≤ _), (by decide : 0 + 0 ≤ _)⟩)
  dsimp only [Pt.U, Pt.locs, Pt.cells, Pt.slots] at X5 l5 y5 z5 st5 hQ5
  subst l5 y5 z5
  obtain ⟨rfl, Nq5, ec5⟩ := hQ5
  have N5 := Fr.app N4 Nq5
  obtain ⟨_, _, ⟨T6, L6, k6, n6⟩, -, X6, ⟨Lc6, hQ6, l6, y6, z6⟩, st6⟩ := Jvm.LawKit.callS X5 hx (y := (⟨"com/example/rowforge/rowforge/TruthAndPinLaw", "rank", "(Lcom/example/rowforge/rowforge/Truth;)I"⟩ : MethodName)) hown (mvT hZ (wd14 hw)) (mvT hZ (wd15 hw)) (mvT hZ (wd2 hw)) (mvT hZ (wd16 hw)) (by decide) (backOf (W := 2) (rm3_1 l Z a0 hw [] w_UNKNOWN w_FALSE h0 n0 OL0 pr2 pr6 pr4) hZ (wd16 hw) (wd2 hw) (by decide) (by decide)) (g := (mkF m 27 #[.val (.int p1), .val (.int p2), .val (.ref w_FALSE), .val (.ref w_UNKNOWN), .val (.ref w_FALSE)] [(.ref w_UNKNOWN), (.int (0 : Int32)), (.int (0 : Int32))])) rfl (by rw [hml]; rfl) (argsL := [(.ref w_UNKNOWN)]) (rest := [(.int (0 : Int32)), (.int (0 : Int32))]) (lenOf pd_2 rfl) rfl (by show 2 * 0 + _ ≤ _; exact Nat.le_of_eq rfl) (hb hby at_27) (fun _ _ => ⟨rfl, ec5, (by decide : 0 + 0 ≤ _), (by decide : 0 + 0 ≤ _)⟩)
  dsimp only [Pt.U, Pt.locs, Pt.cells, Pt.slots] at X6 l6 y6 z6 st6 hQ6
  subst l6 y6 z6
  obtain ⟨rfl, Nq6, ec6⟩ := hQ6
  have N6 := Fr.app N5 Nq6
  obtain ⟨_, _, ⟨T7, L7, k7, n7⟩, -, X7, ⟨Lc7, hQ7, l7, y7, z7⟩, st7⟩ := Jvm.LawKit.callS X6 hx (y := (⟨"java/lang/Math", "min", "(II)I"⟩ : MethodName)) hown (mvT hZ (wd17 hw)) (mvT hZ (wd18 hw)) (mvT hZ (wd19 hw)) (mvT hZ (wd20 hw)) (by decide) (backOf (W := 1) (rm4_1 l Z a0 hw []  h0 n0 OL0 ) hZ (wd20 hw) (wd19 hw) (by decide) (by decide)) (g := (mkF m 30 #[.val (.int p1), .val (.int p2), .val (.ref w_FALSE), .val (.ref w_UNKNOWN), .val (.ref w_FALSE)] [(.int (1 : Int32)), (.int (0 : Int32)), (.int (0 : Int32))])) rfl (by rw [hml]; rfl) (argsL := [(.int (0 : Int32)), (.int (1 : Int32))]) (rest := [(.int (0 : Int32))]) (lenOf pd_3 rfl) rfl (by show 2 * 0 + _ ≤ _; exact Nat.le_of_eq rfl) (hb hby at_30) (fun _ _ => ⟨rfl, ec6, (by decide : 0 + 0 ≤ _), (by decide : 0 + 0 ≤ _)⟩)
  dsimp only [Pt.U, Pt.locs, Pt.cells, Pt.slots] at X7 l7 y7 z7 st7 hQ7
  subst l7 y7 z7
  obtain ⟨rfl, Nq7, ec7⟩ := hQ7
  have N7 := Fr.app N6 Nq7
  obtain ⟨fs, hr, hrun, hended, hW, hsame⟩ := X7.leave (v := some (.int (1 : Int32))) (fun h => by rw [Bd.returns] at h; cases h)
  refine ⟨_, _, pre0 _ ?_, hrun, hended, _, _, rfl, ?_, ⟨_, rfl⟩, hW, hsame.mono (by decide) (by decide)⟩
  · show Steps p.tables e below (s₁.setTop (mkF m 0 #[.val (.int p1), .val (.int p2), .unset, .unset, .unset] [])) _
    refine XS.iloadN X0.here hx rfl (hb hby at_0) rfl ?_
    show Steps p.tables e below (s₁.setTop (mkF m 1 #[.val (.int p1), .val (.int p2), .unset, .unset, .unset] [(.int p1)])) _
    refine st1 _ ?_
    show Steps p.tables e below (T1.setTop (mkF m 4 #[.val (.int p1), .val (.int p2), .unset, .unset, .unset] [(.ref w_FALSE)])) _
    refine XS.astoreN X1.here hx rfl (hb hby at_4) rfl rfl (l' := #[.val (.int p1), .val (.int p2), .val (.ref w_FALSE), .unset, .unset]) rfl ?_
    show Steps p.tables e below (T1.setTop (mkF m 5 #[.val (.int p1), .val (.int p2), .val (.ref w_FALSE), .unset, .unset] [])) _
    refine XS.iloadN X1.here hx rfl (hb hby at_5) rfl ?_
    show Steps p.tables e below (T1.setTop (mkF m 6 #[.val (.int p1), .val (.int p2), .val (.ref w_FALSE), .unset, .unset] [(.int p2)])) _
    refine st2 _ ?_
    show Steps p.tables e below (T2.setTop (mkF m 9 #[.val (.int p1), .val (.int p2), .val (.ref w_FALSE), .unset, .unset] [(.ref w_UNKNOWN)])) _
    refine XS.astoreN X2.here hx rfl (hb hby at_9) rfl rfl (l' := #[.val (.int p1), .val (.int p2), .val (.ref w_FALSE), .val (.ref w_UNKNOWN), .unset]) rfl ?_
    show Steps p.tables e below (T2.setTop (mkF m 10 #[.val (.int p1), .val (.int p2), .val (.ref w_FALSE), .val (.ref w_UNKNOWN), .unset] [])) _
    refine XS.aloadN X2.here hx rfl (hb hby at_10) rfl rfl ?_
    show Steps p.tables e below (T2.setTop (mkF m 11 #[.val (.int p1), .val (.int p2), .val (.ref w_FALSE), .val (.ref w_UNKNOWN), .unset] [(.ref w_FALSE)])) _
    refine XS.aloadN X2.here hx rfl (hb hby at_11) rfl rfl ?_
    show Steps p.tables e below (T2.setTop (mkF m 12 #[.val (.int p1), .val (.int p2), .val (.ref w_FALSE), .val (.ref w_UNKNOWN), .unset] [(.ref w_UNKNOWN), (.ref w_FALSE)])) _
    refine st3.trans ?_
    show Steps p.tables e below (T3.setTop (mkF m 15 #[.val (.int p1), .val (.int p2), .val (.ref w_FALSE), .val (.ref w_UNKNOWN), .unset] [(.ref w_FALSE)])) _
    refine XS.astore X3.here hx rfl (hb hby at_15) rfl rfl (l' := #[.val (.int p1), .val (.int p2), .val (.ref w_FALSE), .val (.ref w_UNKNOWN), .val (.ref w_FALSE)]) rfl ?_
    show Steps p.tables e below (T3.setTop (mkF m 17 #[.val (.int p1), .val (.int p2), .val (.ref w_FALSE), .val (.ref w_UNKNOWN), .val (.ref w_FALSE)] [])) _
    refine XS.aload X3.here hx rfl (hb hby at_17) rfl rfl ?_
    show Steps p.tables e below (T3.setTop (mkF m 19 #[.val (.int p1), .val (.int p2), .val (.ref w_FALSE), .val (.ref w_UNKNOWN), .val (.ref w_FALSE)] [(.ref w_FALSE)])) _
    refine st4 _ ?_
    show Steps p.tables e below (T4.setTop (mkF m 22 #[.val (.int p1), .val (.int p2), .val (.ref w_FALSE), .val (.ref w_UNKNOWN), .val (.ref w_FALSE)] [(.int (0 : Int32))])) _
    refine XS.aloadN X4.here hx rfl (hb hby at_22) rfl rfl ?_
    show Steps p.tables e below (T4.setTop (mkF m 23 #[.val (.int p1), .val (.int p2), .val (.ref w_FALSE), .val (.ref w_UNKNOWN), .val (.ref w_FALSE)] [(.ref w_FALSE), (.int (0 : Int32))])) _
    refine st5 _ ?_
    show Steps p.tables e below (T5.setTop (mkF m 26 #[.val (.int p1), .val (.int p2), .val (.ref w_FALSE), .val (.ref w_UNKNOWN), .val (.ref w_FALSE)] [(.int (0 : Int32)), (.int (0 : Int32))])) _
    refine XS.aloadN X5.here hx rfl (hb hby at_26) rfl rfl ?_
    show Steps p.tables e below (T5.setTop (mkF m 27 #[.val (.int p1), .val (.int p2), .val (.ref w_FALSE), .val (.ref w_UNKNOWN), .val (.ref w_FALSE)] [(.ref w_UNKNOWN), (.int (0 : Int32)), (.int (0 : Int32))])) _
    refine st6 _ ?_
    show Steps p.tables e below (T6.setTop (mkF m 30 #[.val (.int p1), .val (.int p2), .val (.ref w_FALSE), .val (.ref w_UNKNOWN), .val (.ref w_FALSE)] [(.int (1 : Int32)), (.int (0 : Int32)), (.int (0 : Int32))])) _
    refine st7 _ ?_
    show Steps p.tables e below (T7.setTop (mkF m 33 #[.val (.int p1), .val (.int p2), .val (.ref w_FALSE), .val (.ref w_UNKNOWN), .val (.ref w_FALSE)] [(.int (0 : Int32)), (.int (0 : Int32))])) _
    refine XS.icmpNo X7.here hx rfl (hb hby at_33) rfl (teq (rfl : (0 : Int32) = (0 : Int32))).2 ?_
    show Steps p.tables e below (T7.setTop (mkF m 36 #[.val (.int p1), .val (.int p2), .val (.ref w_FALSE), .val (.ref w_UNKNOWN), .val (.ref w_FALSE)] [])) _
    refine XS.iconst X7.here hx rfl (hb hby at_36) ?_
    show Steps p.tables e below (T7.setTop (mkF m 37 #[.val (.int p1), .val (.int p2), .val (.ref w_FALSE), .val (.ref w_UNKNOWN), .val (.ref w_FALSE)] [(.int (1 : Int32))])) _
    refine XS.goto X7.here hx rfl (pc0 := 37) (pc' := 41) rfl (hb hby at_37) (by decide) (by decide) ?_
    show Steps p.tables e below (T7.setTop (mkF m 41 #[.val (.int p1), .val (.int p2), .val (.ref w_FALSE), .val (.ref w_UNKNOWN), .val (.ref w_FALSE)] [(.int (1 : Int32))])) _
    exact retN X7 hx (t := .boolean) Bd.returns (by simp) (hb hby at_41) hr
  · exact ⟨rfl, N7⟩
theorem d1_24 : decode method_2_code 24 = .ok (.getstatic 17, 3) := by decide +kernel
theorem d1_27 : decode method_2_code 27 = .ok (.areturn, 1) := by decide +kernel
def Q_rm1_2 (Z : State) (p1 : Int32) (w2 : Addr) (h0 : Heap) (n0 : Nat) (v : Option Value) (h : Heap) (L : List Loc) : Prop := v = some (.ref w2) ∧ Fr n0 L ∧ h = h0
set_option maxRecDepth 65536 in
set_option maxHeartbeats 40000000 in
theorem rm1_2 (l : Launch) (Z : State) (a0 : Array Value) (hw : ∀ d ∈ tables_1, d.before a0 Z = true) (ws : List Jvm.Cond) (p1 : Int32) (w2 : Addr) (h0 : Heap) (n0 : Nat) (OL0 : Old Z n0 h0) (pr1 : ((p1 &&& (2147483647 : Int32)) % (3 : Int32)) = (2 : Int32)) (pr2 : Sta Z Z.heap "com/example/rowforge/rowforge/Truth" "TRUE" "Lcom/example/rowforge/rowforge/Truth;" (.ref w2)) :
    MetFree l (⟨"com/example/rowforge/rowforge/TruthAndPinLaw", "pick", "(I)Lcom/example/rowforge/rowforge/Truth;"⟩ : MethodName) (head1 (Jvm.Cond.code (⟨"com/example/rowforge/rowforge/TruthAndPinLaw", "pick", "(I)Lcom/example/rowforge/rowforge/Truth;"⟩ : MethodName) method_2_code 2 (some (.object "com/example/rowforge/rowforge/Truth")) :: ws) ({ frames := 0, cells := 0, slots := 0, locals := 0 } : Room)) (fun a U => a = #[(.int p1)] ∧ Z.Warmed39 U.vm ∧ U.heap = h0) (fun _ _ _ _ _ => True) (fun _ U o U' => ∃ v L, o = .returned v ∧ Q_rm1_2 Z p1 w2 h0 n0 v U'.heap L ∧ FrameEnd U o U' L ({ frames := 0, cells := 0, slots := 0, locals := 0 } : Room).cells ({ frames := 0, cells := 0, slots := 0, locals := 0 } : Room).slots) := by
  refine MetFree.of_bodySF (plainFor_of_name pn_0) hisR ?_
  intro p e s m args below meth c s₁ Bd hml0 hP hK
  obtain ⟨rfl, hZ, hh⟩ := hP
  have hx := Bd.exec
  have hby := Bd.bytes
  have hml : c.maxLocals = 2 := hml0
  have hown : s.vm.findClass "com/example/rowforge/rowforge/TruthAndPinLaw" = some m.cls := findClass_of_methodNamed Bd.named
  have hnm := (name_of_methodNamed Bd.named Bd.method).1
  have X0 : Stand p l e ({ frames := 0, cells := 0, slots := 0, locals := 0 } : Room) s m #[(.int p1)] below meth c s₁ [] 0 0 := Stand.of_body Bd
  have e0 : s₁.heap = h0 := by rw [← hh, Bd.state]; rfl
  have N0 := Fr.nil n0
  have pre0 : ∀ t, Steps p.tables e below (s₁.setTop (mkF m 0 #[.val (.int p1), .unset] [])) t → Steps p.tables e below (s₁.setTop (entryFrame m #[(.int p1)] 2)) t := fun t k => castTop (ef_1_0 m p1) k
  obtain ⟨T3, X3, e3, st3⟩ := getS2 X0 hx hZ hown (host := "") (Or.inl (wd21 hw)) Via.refl e0 (pr2.ext OL0.2) (g := (mkF m 24 #[.val (.int p1), .val (.int (2 : Int32))] [])) rfl (hb hby d1_24)
  obtain ⟨fs, hr, hrun, hended, hW, hsame⟩ := X3.leave (v := some (.ref w2)) (fun h => by rw [Bd.returns] at h; cases h)
  refine ⟨_, _, pre0 _ ?_, hrun, hended, _, _, rfl, ?_, ⟨_, rfl⟩, hW, hsame.mono (by decide) (by decide)⟩
  · show Steps p.tables e below (s₁.setTop (mkF m 0 #[.val (.int p1), .unset] [])) _
    refine XS.iloadN X0.here hx rfl (hb hby d1_0) rfl ?_
    show Steps p.tables e below (s₁.setTop (mkF m 1 #[.val (.int p1), .unset] [(.int p1)])) _
    refine X0.ldcInt hx hown (mvT hZ (wd4 hw)) (g := (mkF m 1 #[.val (.int p1), .unset] [(.int p1)])) rfl (hb hby d1_1) _ ?_
    show Steps p.tables e below (s₁.setTop (mkF m 3 #[.val (.int p1), .unset] [(.int (2147483647 : Int32)), (.int p1)])) _
    refine XS.iand X0.here hx rfl (hb hby d1_3) rfl ?_
    show Steps p.tables e below (s₁.setTop (mkF m 4 #[.val (.int p1), .unset] [(.int (p1 &&& (2147483647 : Int32)))])) _
    refine XS.iconst X0.here hx rfl (hb hby d1_4) ?_
    show Steps p.tables e below (s₁.setTop (mkF m 5 #[.val (.int p1), .unset] [(.int (3 : Int32)), (.int (p1 &&& (2147483647 : Int32)))])) _
    refine iremM X0 hx rfl (hb hby d1_5) rfl (by decide) ?_
    show Steps p.tables e below (s₁.setTop (mkF m 6 #[.val (.int p1), .unset] [(.int ((p1 &&& (2147483647 : Int32)) % (3 : Int32)))])) _
    rw [pr1]
    show Steps p.tables e below (s₁.setTop (mkF m 6 #[.val (.int p1), .unset] [(.int (2 : Int32))])) _
    refine XS.istoreN X0.here hx rfl (hb hby d1_6) rfl (l' := #[.val (.int p1), .val (.int (2 : Int32))]) rfl ?_
    show Steps p.tables e below (s₁.setTop (mkF m 7 #[.val (.int p1), .val (.int (2 : Int32))] [])) _
    refine XS.iloadN X0.here hx rfl (hb hby d1_7) rfl ?_
    show Steps p.tables e below (s₁.setTop (mkF m 8 #[.val (.int p1), .val (.int (2 : Int32))] [(.int (2 : Int32))])) _
    refine XS.ifYes X0.here hx rfl (pc0 := 8) (pc' := 15) rfl (hb hby d1_8) rfl ((if0 _ _).trans (feq (by decide : ¬ ((2 : Int32) = (0 : Int32)))).2) (by decide) (by decide) ?_
    show Steps p.tables e below (s₁.setTop (mkF m 15 #[.val (.int p1), .val (.int (2 : Int32))] [])) _
    refine XS.iloadN X0.here hx rfl (hb hby d1_15) rfl ?_
    show Steps p.tables e below (s₁.setTop (mkF m 16 #[.val (.int p1), .val (.int (2 : Int32))] [(.int (2 : Int32))])) _
    refine XS.iconst X0.here hx rfl (hb hby d1_16) ?_
    show Steps p.tables e below (s₁.setTop (mkF m 17 #[.val (.int p1), .val (.int (2 : Int32))] [(.int (1 : Int32)), (.int (2 : Int32))])) _
    refine XS.icmpYes X0.here hx rfl (pc0 := 17) (pc' := 24) rfl (hb hby d1_17) rfl (feq (by decide : ¬ ((2 : Int32) = (1 : Int32)))).2 (by decide) (by decide) ?_
    show Steps p.tables e below (s₁.setTop (mkF m 24 #[.val (.int p1), .val (.int (2 : Int32))] [])) _
    refine st3 _ ?_
    show Steps p.tables e below (T3.setTop (mkF m 27 #[.val (.int p1), .val (.int (2 : Int32))] [(.ref w2)])) _
    jvm_step X3.here [X3.here.top, hx, (hb hby d1_27), X3.method', Bd.returns, Value.isRef, FieldType.isReference]
    first | (intro acts; rw [hr _ acts rfl rfl rfl]) | rw [hr _ _ rfl rfl rfl]
    exact Steps.refl _
  · show Q_rm1_2 Z p1 w2 h0 n0 _ T3.heap _
    rw [e3]
    exact ⟨rfl, N0, rfl⟩
theorem d3_18 : decode method_3_code 18 = .ok (.aload_n 0, 1) := by decide +kernel
theorem d3_19 : decode method_3_code 19 = .ok (.getstatic 17, 3) := by decide +kernel
theorem d3_22 : decode method_3_code 22 = .ok (.if_acmp .ne 5, 3) := by decide +kernel
theorem d3_25 : decode method_3_code 25 = .ok (.iconst 2, 1) := by decide +kernel
theorem d3_26 : decode method_3_code 26 = .ok (.ireturn, 1) := by decide +kernel
def Q_rm3_2 (Z : State) (w1 : Addr) (w2 : Addr) (w4 : Addr) (h0 : Heap) (n0 : Nat) (v : Option Value) (h : Heap) (L : List Loc) : Prop := v = some (.int (2 : Int32)) ∧ Fr n0 L ∧ h = h0
set_option maxRecDepth 65536 in
set_option maxHeartbeats 40000000 in
theorem rm3_2 (l : Launch) (Z : State) (a0 : Array Value) (hw : ∀ d ∈ tables_1, d.before a0 Z = true) (ws : List Jvm.Cond) (w1 : Addr) (w2 : Addr) (w4 : Addr) (h0 : Heap) (n0 : Nat) (OL0 : Old Z n0 h0) (pr1 : Sta Z Z.heap "com/example/rowforge/rowforge/Truth" "FALSE" "Lcom/example/rowforge/rowforge/Truth;" (.ref w2)) (pr2 : w1 ≠ w2) (pr3 : Sta Z Z.heap "com/example/rowforge/rowforge/Truth" "UNKNOWN" "Lcom/example/rowforge/rowforge/Truth;" (.ref w4)) (pr4 : w1 ≠ w4) (pr5 : Sta Z Z.heap "com/example/rowforge/rowforge/Truth" "TRUE" "Lcom/example/rowforge/rowforge/Truth;" (.ref w1)) :
    MetFree l (⟨"com/example/rowforge/rowforge/TruthAndPinLaw", "rank", "(Lcom/example/rowforge/rowforge/Truth;)I"⟩ : MethodName) (head1 (Jvm.Cond.code (⟨"com/example/rowforge/rowforge/TruthAndPinLaw", "rank", "(Lcom/example/rowforge/rowforge/Truth;)I"⟩ : MethodName) method_3_code 1 (some .int) :: ws) ({ frames := 0, cells := 0, slots := 0, locals := 0 } : Room)) (fun a U => a = #[(.ref w1)] ∧ Z.Warmed39 U.vm ∧ U.heap = h0) (fun _ _ _ _ _ => True) (fun _ U o U' => ∃ v L, o = .returned v ∧ Q_rm3_2 Z w1 w2 w4 h0 n0 v U'.heap L ∧ FrameEnd U o U' L ({ frames := 0, cells := 0, slots := 0, locals := 0 } : Room).cells ({ frames := 0, cells := 0, slots := 0, locals := 0 } : Room).slots) := by
  refine MetFree.of_bodySF (plainFor_of_name pn_0) hisR ?_
  intro p e s m args below meth c s₁ Bd hml0 hP hK
  obtain ⟨rfl, hZ, hh⟩ := hP
  have hx := Bd.exec
  have hby := Bd.bytes
  have hml : c.maxLocals = 1 := hml0
  have hown : s.vm.findClass "com/example/rowforge/rowforge/TruthAndPinLaw" = some m.cls := findClass_of_methodNamed Bd.named
  have hnm := (name_of_methodNamed Bd.named Bd.method).1
  have X0 : Stand p l e ({ frames := 0, cells := 0, slots := 0, locals := 0 } : Room) s m #[(.ref w1)] below meth c s₁ [] 0 0 := Stand.of_body Bd
  have e0 : s₁.heap = h0 := by rw [← hh, Bd.state]; rfl
  have N0 := Fr.nil n0
  have pre0 : ∀ t, Steps p.tables e below (s₁.setTop (mkF m 0 #[.val (.ref w1)] [])) t → Steps p.tables e below (s₁.setTop (entryFrame m #[(.ref w1)] 1)) t := fun t k => castTop (ef_3_2 m w1) k
  obtain ⟨T3, X3, e3, st3⟩ := getS2 X0 hx hZ hown (host := "") (Or.inl (wd5 hw)) Via.refl e0 (pr1.ext OL0.2) (g := (mkF m 1 #[.val (.ref w1)] [(.ref w1)])) rfl (hb hby d3_1)
  obtain ⟨T5, X5, e5, st5⟩ := getS2 X3 hx hZ hown (host := "") (Or.inl (wd23 hw)) Via.refl e3 (pr3.ext OL0.2) (g := (mkF m 10 #[.val (.ref w1)] [(.ref w1)])) rfl (hb hby d3_10)
  obtain ⟨T6, X6, e6, st6⟩ := getS2 X5 hx hZ hown (host := "") (Or.inl (wd21 hw)) Via.refl e5 (pr5.ext OL0.2) (g := (mkF m 19 #[.val (.ref w1)] [(.ref w1)])) rfl (hb hby d3_19)
  obtain ⟨fs, hr, hrun, hended, hW, hsame⟩ := X6.leave (v := some (.int (2 : Int32))) (fun h => by rw [Bd.returns] at h; cases h)
  refine ⟨_, _, pre0 _ ?_, hrun, hended, _, _, rfl, ?_, ⟨_, rfl⟩, hW, hsame.mono (by decide) (by decide)⟩
  · show Steps p.tables e below (s₁.setTop (mkF m 0 #[.val (.ref w1)] [])) _
    refine XS.aloadN X0.here hx rfl (hb hby d3_0) rfl rfl ?_
    show Steps p.tables e below (s₁.setTop (mkF m 1 #[.val (.ref w1)] [(.ref w1)])) _
    refine st3 _ ?_
    show Steps p.tables e below (T3.setTop (mkF m 4 #[.val (.ref w1)] [(.ref w2), (.ref w1)])) _
    refine Jvm.RoadKit.acmp (g := (mkF m 4 #[.val (.ref w1)] [(.ref w2), (.ref w1)])) X3 hx rfl rfl rfl (pc0 := 4) (pc' := 9) (same := false) rfl (hb hby d3_4) rfl (decide_eq_false fun q => pr2 (Value.ref.inj q)) (by decide) (by decide) ?_
    show Steps p.tables e below (T3.setTop (mkF m 9 #[.val (.ref w1)] [])) _
    refine XS.aloadN X3.here hx rfl (hb hby d3_9) rfl rfl ?_
    show Steps p.tables e below (T3.setTop (mkF m 10 #[.val (.ref w1)] [(.ref w1)])) _
    refine st5 _ ?_
    show Steps p.tables e below (T5.setTop (mkF m 13 #[.val (.ref w1)] [(.ref w4), (.ref w1)])) _
    refine Jvm.RoadKit.acmp (g := (mkF m 13 #[.val (.ref w1)] [(.ref w4), (.ref w1)])) X5 hx rfl rfl rfl (pc0 := 13) (pc' := 18) (same := false) rfl (hb hby d3_13) rfl (decide_eq_false fun q => pr4 (Value.ref.inj q)) (by decide) (by decide) ?_
    show Steps p.tables e below (T5.setTop (mkF m 18 #[.val (.ref w1)] [])) _
    refine XS.aloadN X5.here hx rfl (hb hby d3_18) rfl rfl ?_
    show Steps p.tables e below (T5.setTop (mkF m 19 #[.val (.ref w1)] [(.ref w1)])) _
    refine st6 _ ?_
    show Steps p.tables e below (T6.setTop (mkF m 22 #[.val (.ref w1)] [(.ref w1), (.ref w1)])) _
    refine Jvm.RoadKit.acmp (g := (mkF m 22 #[.val (.ref w1)] [(.ref w1), (.ref w1)])) X6 hx rfl rfl rfl (pc0 := 22) (pc' := 25) (same := true) rfl (hb hby d3_22) rfl (decide_eq_true rfl) (by decide) (by decide) ?_
    show Steps p.tables e below (T6.setTop (mkF m 25 #[.val (.ref w1)] [])) _
    refine XS.iconst X6.here hx rfl (hb hby d3_25) ?_
    show Steps p.tables e below (T6.setTop (mkF m 26 #[.val (.ref w1)] [(.int (2 : Int32))])) _
    exact retI X6 hx Bd.returns (hb hby d3_26) hr
  · show Q_rm3_2 Z w1 w2 w4 h0 n0 _ T6.heap _
    rw [e6]
    exact ⟨rfl, N0, rfl⟩
theorem ef_4_6 (m : MethodId)  : entryFrame m #[(.int (0 : Int32)), (.int (2 : Int32))] 2 = mkF m 0 #[.val (.int (0 : Int32)), .val (.int (2 : Int32))] [] := by first | (simp [entryFrame, mkF, argsToLocals, Value.category]; done) | rfl
def Q_rm4_2 (Z : State)  (h0 : Heap) (n0 : Nat) (v : Option Value) (h : Heap) (L : List Loc) : Prop := v = some (.int (0 : Int32)) ∧ Fr n0 L ∧ h = h0
set_option maxRecDepth 65536 in
set_option maxHeartbeats 40000000 in
theorem rm4_2 (l : Launch) (Z : State) (a0 : Array Value) (hw : ∀ d ∈ tables_1, d.before a0 Z = true) (ws : List Jvm.Cond)  (h0 : Heap) (n0 : Nat) (OL0 : Old Z n0 h0)  :
    MetFree l (⟨"java/lang/Math", "min", "(II)I"⟩ : MethodName) (head1 (Jvm.Cond.code (⟨"java/lang/Math", "min", "(II)I"⟩ : MethodName) jdk_29_method_69_code 2 (some .int) :: ws) ({ frames := 0, cells := 0, slots := 0, locals := 0 } : Room)) (fun a U => a = #[(.int (0 : Int32)), (.int (2 : Int32))] ∧ Z.Warmed39 U.vm ∧ U.heap = h0) (fun _ _ _ _ _ => True) (fun _ U o U' => ∃ v L, o = .returned v ∧ Q_rm4_2 Z  h0 n0 v U'.heap L ∧ FrameEnd U o U' L ({ frames := 0, cells := 0, slots := 0, locals := 0 } : Room).cells ({ frames := 0, cells := 0, slots := 0, locals := 0 } : Room).slots) := by
  refine MetFree.of_bodySF (Jvm.Free.JP.mathPlain rfl (by decide +kernel)) hisR ?_
  intro p e s m args below meth c s₁ Bd hml0 hP hK
  obtain ⟨rfl, hZ, hh⟩ := hP
  have hx := Bd.exec
  have hby := Bd.bytes
  have hml : c.maxLocals = 2 := hml0
  have hown : s.vm.findClass "java/lang/Math" = some m.cls := findClass_of_methodNamed Bd.named
  have hnm := (name_of_methodNamed Bd.named Bd.method).1
  have X0 : Stand p l e ({ frames := 0, cells := 0, slots := 0, locals := 0 } : Room) s m #[(.int (0 : Int32)), (.int (2 : Int32))] below meth c s₁ [] 0 0 := Stand.of_body Bd
  have e0 : s₁.heap = h0 := by rw [← hh, Bd.state]; rfl
  have N0 := Fr.nil n0
  have pre0 : ∀ t, Steps p.tables e below (s₁.setTop (mkF m 0 #[.val (.int (0 : Int32)), .val (.int (2 : Int32))] [])) t → Steps p.tables e below (s₁.setTop (entryFrame m #[(.int (0 : Int32)), (.int (2 : Int32))] 2)) t := fun t k => castTop (ef_4_6 m ) k
  obtain ⟨fs, hr, hrun, hended, hW, hsame⟩ := X0.leave (v := some (.int (0 : Int32))) (fun h => by rw [Bd.returns] at h; cases h)
  refine ⟨_, _, pre0 _ ?_, hrun, hended, _, _, rfl, ?_, ⟨_, rfl⟩, hW, hsame.mono (by decide) (by decide)⟩
  · show Steps p.tables e below (s₁.setTop (mkF m 0 #[.val (.int (0 : Int32)), .val (.int (2 : Int32))] [])) _
    refine XS.iloadN X0.here hx rfl (hb hby d4_0) rfl ?_
    show Steps p.tables e below (s₁.setTop (mkF m 1 #[.val (.int (0 : Int32)), .val (.int (2 : Int32))] [(.int (0 : Int32))])) _
    refine XS.iloadN X0.here hx rfl (hb hby d4_1) rfl ?_
    show Steps p.tables e below (s₁.setTop (mkF m 2 #[.val (.int (0 : Int32)), .val (.int (2 : Int32))] [(.int (2 : Int32)), (.int (0 : Int32))])) _
    refine XS.icmpNo X0.here hx rfl (hb hby d4_2) rfl (flt (by decide : ¬ ((2 : Int32) < (0 : Int32)))).2.2.1 ?_
    show Steps p.tables e below (s₁.setTop (mkF m 5 #[.val (.int (0 : Int32)), .val (.int (2 : Int32))] [])) _
    refine XS.iloadN X0.here hx rfl (hb hby d4_5) rfl ?_
    show Steps p.tables e below (s₁.setTop (mkF m 6 #[.val (.int (0 : Int32)), .val (.int (2 : Int32))] [(.int (0 : Int32))])) _
    refine XS.goto X0.here hx rfl (pc0 := 6) (pc' := 10) rfl (hb hby d4_6) (by decide) (by decide) ?_
    show Steps p.tables e below (s₁.setTop (mkF m 10 #[.val (.int (0 : Int32)), .val (.int (2 : Int32))] [(.int (0 : Int32))])) _
    exact retI X0 hx Bd.returns (hb hby d4_10) hr
  · show Q_rm4_2 Z  h0 n0 _ s₁.heap _
    rw [e0]
    exact ⟨rfl, N0, rfl⟩
set_option maxRecDepth 65536 in
set_option maxHeartbeats 40000000 in
theorem rm0_0_2 (l : Launch) (Z : State) (a0 : Array Value) (hw : ∀ d ∈ tables_1, d.before a0 Z = true) (ws : List Jvm.Cond) (p1 : Int32) (p2 : Int32) (w_FALSE : Addr) (w_TRUE : Addr) (w_UNKNOWN : Addr) (h0 : Heap) (n0 : Nat) (OL0 : Old Z n0 h0) (pr1 : ((p1 &&& (2147483647 : Int32)) % (3 : Int32)) = (0 : Int32)) (pr2 : Sta Z Z.heap "com/example/rowforge/rowforge/Truth" "FALSE" "Lcom/example/rowforge/rowforge/Truth;" (.ref w_FALSE)) (pr3 : ((p2 &&& (2147483647 : Int32)) % (3 : Int32)) = (2 : Int32)) (pr4 : Sta Z Z.heap "com/example/rowforge/rowforge/Truth" "TRUE" "Lcom/example/rowforge/rowforge/Truth;" (.ref w_TRUE)) (pr5 : Exa Z Z.heap w_FALSE "com/example/rowforge/rowforge/Truth") (pr6 : w_TRUE ≠ w_FALSE) (pr7 : Sta Z Z.heap "com/example/rowforge/rowforge/Truth" "UNKNOWN" "Lcom/example/rowforge/rowforge/Truth;" (.ref w_UNKNOWN)) (pr8 : w_TRUE ≠ w_UNKNOWN) :
    MetFree l x (head1 (Jvm.Cond.code x code maxLocals ret :: ws) room_1) (fun a U => a = #[(.int p1), (.int p2)] ∧ Z.Warmed39 U.vm ∧ U.heap = h0) (fun _ _ _ _ _ => True) (fun _ U o U' => ∃ v L, o = .returned v ∧ Q0 n0 v L ∧ FrameEnd U o U' L 0 0) := by
  refine MetFree.of_bodySF (plainFor_of_name pn_0) hisR ?_
  intro p e s m args below meth c s₁ Bd hml0 hP hK
  obtain ⟨rfl, hZ, hh⟩ := hP
  have hx := Bd.exec
  have hby := Bd.bytes
  have hml : c.maxLocals = 5 := hml0
  have hown : s.vm.findClass "com/example/rowforge/rowforge/TruthAndPinLaw" = some m.cls := findClass_of_methodNamed Bd.named
  have hnm := (name_of_methodNamed Bd.named Bd.method).1
  have X0 : Stand p l e room_1 s m #[(.int p1), (.int p2)] below meth c s₁ [] 0 0 := Stand.of_body Bd
  have e0 : s₁.heap = h0 := by rw [← hh, Bd.state]; rfl
  have N0 := Fr.nil n0
  have pre0 : ∀ t, Steps p.tables e below (s₁.setTop (mkF m 0 #[.val (.int p1), .val (.int p2), .unset, .unset, .unset] [])) t → Steps p.tables e below (s₁.setTop (entryFrame m #[(.int p1), (.int p2)] maxLocals)) t := fun t k => castTop (ef_0_4 m p1 p2) k
  obtain ⟨_, _, ⟨T1, L1, k1, n1⟩, -, X1, ⟨Lc1, hQ1, l1, y1, z1⟩, st1⟩ := Jvm.LawKit.callS X0 hx (y := (⟨"com/example/rowforge/rowforge/TruthAndPinLaw", "pick", "(I)Lcom/example/rowforge/rowforge/Truth;"⟩ : MethodName)) hown (mvT hZ (wd0 hw)) (mvT hZ (wd1 hw)) (mvT hZ (wd2 hw)) (mvT hZ (wd3 hw)) (by decide) (backOf (W := 0) (rm1_0 l Z a0 hw [] p1 w_FALSE h0 n0 OL0 pr1 pr2) hZ (wd3 hw) (wd2 hw) (by decide) (by decide)) (g := (mkF m 1 #[.val (.int p1), .val (.int p2), .unset, .unset, .unset] [(.int p1)])) rfl (by rw [hml]; rfl) (argsL := [(.int p1)]) (rest := []) (lenOf pd_0 rfl) rfl (by show 2 * 0 + _ ≤ _; exact Nat.le_of_eq rfl) (hb hby at_1) (fun _ _ => ⟨rfl, e0, (by decide : 0 + 0 ≤ _), (by decide : 0 + 0 ≤ _)⟩)
  dsimp only [Pt.U, Pt.locs, Pt.cells, Pt.slots] at X1 l1 y1 z1 st1 hQ1
  subst l1 y1 z1
  obtain ⟨rfl, Nq1, ec1⟩ := hQ1
  have N1 := Fr.app N0 Nq1
  obtain ⟨_, _, ⟨T2, L2, k2, n2⟩, -, X2, ⟨Lc2, hQ2, l2, y2, z2⟩, st2⟩ := Jvm.LawKit.callS X1 hx (y := (⟨"com/example/rowforge/rowforge/TruthAndPinLaw", "pick", "(I)Lcom/example/rowforge/rowforge/Truth;"⟩ : MethodName)) hown (mvT hZ (wd0 hw)) (mvT hZ (wd1 hw)) (mvT hZ (wd2 hw)) (mvT hZ (wd3 hw)) (by decide) (backOf (W := 0) (rm1_2 l Z a0 hw [] p2 w_TRUE h0 n0 OL0 pr3 pr4) hZ (wd3 hw) (wd2 hw) (by decide) (by decide)) (g := (mkF m 6 #[.val (.int p1), .val (.int p2), .val (.ref w_FALSE), .unset, .unset] [(.int p2)])) rfl (by rw [hml]; rfl) (argsL := [(.int p2)]) (rest := []) (lenOf pd_0 rfl) rfl (by show 2 * 0 + _ ≤ _; exact Nat.le_of_eq rfl) (hb hby at_6) (fun _ _ => ⟨rfl, ec1, (by decide : 0 + 0 ≤ _), (by decide : 0 + 0 ≤ _)⟩)
  dsimp only [Pt.U, Pt.locs, Pt.cells, Pt.slots] at X2 l2 y2 z2 st2 hQ2
  subst l2 y2 z2
  obtain ⟨rfl, Nq2, ec2⟩ := hQ2
  have N2 := Fr.app N1 Nq2
  obtain ⟨cq3, kq3, q3a, q3b, q3c⟩ := isOf hZ ec2 (pr5.ext OL0.2)
  obtain ⟨_, _, ⟨T3, L3, k3, n3⟩, -, X3, ⟨Lc3, hQ3, l3, y3, z3⟩, st3⟩ := X2.virtualBack hx (y := (⟨"com/example/rowforge/rowforge/Truth", "and", "(Lcom/example/rowforge/rowforge/Truth;)Lcom/example/rowforge/rowforge/Truth;"⟩ : MethodName)) (z := (⟨"com/example/rowforge/rowforge/Truth", "and", "(Lcom/example/rowforge/rowforge/Truth;)Lcom/example/rowforge/rowforge/Truth;"⟩ : MethodName)) hown (mvT hZ (wd8 hw)) (mvT hZ (wd9 hw)) (notFace_of_selects (args := #[]) (mvT hZ (wd11 hw))) (mvT hZ (wd11 hw)) (mvT hZ (wd10 hw)) (by decide) (backOf (W := 0) (rm2_1 l Z a0 hw [] w_FALSE w_TRUE h0 n0 OL0 pr2) hZ (wd12 hw) (wd6 hw) (by decide) (by decide)) q3a q3c (g := (mkF m 12 #[.val (.int p1), .val (.int p2), .val (.ref w_FALSE), .val (.ref w_TRUE), .unset] [(.ref w_TRUE), (.ref w_FALSE)])) rfl (by rw [hml]; rfl) (Steps.refl _) (argsL := [(.ref w_TRUE)]) (rest := []) (lenOf pd_1 rfl) rfl (by show 2 * 0 + _ ≤ _; exact Nat.le_of_eq rfl) (hb hby at_12) (fun _ _ => ⟨rfl, ec2, (by decide : 0 + 0 ≤ _), (by decide : 0 + 0 ≤ _)⟩)
  dsimp only [Pt.U, Pt.locs, Pt.cells, Pt.slots] at X3 l3 y3 z3 st3 hQ3
  subst l3 y3 z3
  obtain ⟨rfl, Nq3, ec3⟩ := hQ3
  have N3 := Fr.app N2 Nq3
  obtain ⟨_, _, ⟨T4, L4, k4, n4⟩, -, X4, ⟨Lc4, hQ4, l4, y4, z4⟩, st4⟩ := Jvm.LawKit.callS X3 hx (y := (⟨"com/example/rowforge/rowforge/TruthAndPinLaw", "rank", "(Lcom/example/rowforge/rowforge/Truth;)I"⟩ : MethodName)) hown (mvT hZ (wd14 hw)) (mvT hZ (wd15 hw)) (mvT hZ (wd2 hw)) (mvT hZ (wd16 hw)) (by decide) (backOf (W := 0) (rm3_0 l Z a0 hw [] w_FALSE h0 n0 OL0 pr2) hZ (wd16 hw) (wd2 hw) (by decide) (by decide)) (g := (mkF m 19 #[.val (.int p1), .val (.int p2), .val (.ref w_FALSE), .val (.ref w_TRUE), .val (.ref w_FALSE)] [(.ref w_FALSE)])) rfl (by rw [hml]; rfl) (argsL := [(.ref w_FALSE)]) (rest := []) (lenOf pd_2 rfl) rfl (by show 2 * 0 + _ ≤ _; exact Nat.le_of_eq rfl) (hb hby at_19) (fun _ _ => ⟨rfl, ec3, (by decide : 0 + 0 ≤ _), (by decide : 0 + 0 ≤ _)⟩)
  dsimp only [Pt.U, Pt.locs, Pt.cells, Pt.slots] at X4 l4 y4 z4 st4 hQ4
  subst l4 y4 z4
  obtain ⟨rfl, Nq4, ec4⟩ := hQ4
  have N4 := Fr.app N3 Nq4
  obtain ⟨_, _, ⟨T5, L5, k5, n5⟩, -, X5, ⟨Lc5, hQ5, l5, y5, z5⟩, st5⟩ := Jvm.LawKit.callS X4 hx (y := (⟨"com/example/rowforge/rowforge/TruthAndPinLaw", "rank", "(Lcom/example/rowforge/rowforge/Truth;)I"⟩ : MethodName)) hown (mvT hZ (wd14 hw)) (mvT hZ (wd15 hw)) (mvT hZ (wd2 hw)) (mvT hZ (wd16 hw)) (by decide) (backOf (W := 1) (rm3_0 l Z a0 hw [] w_FALSE h0 n0 OL0 pr2) hZ (wd16 hw) (wd2 hw) (by decide) (by decide)) (g := (mkF m 23 #[.val (.int p1), .val (.int p2), .val (.ref w_FALSE), .val (.ref w_TRUE), .val (.ref w_FALSE)] [(.ref w_FALSE), (.int (0 : Int32))])) rfl (by rw [hml]; rfl) (argsL := [(.ref w_FALSE)]) (rest := [(.int (0 : Int32))]) (lenOf pd_2 rfl) rfl (by show 2 * 0 + _ ≤ _; exact Nat.le_of_eq rfl) (hb hby at_23) (fun _ _ => ⟨rfl, ec4, (by decide : 0 + 0 ≤ _), (by decide : 0 + 0 ≤ _)⟩)
  dsimp only [Pt.U, Pt.locs, Pt.cells, Pt.slots] at X5 l5 y5 z5 st5 hQ5
  subst l5 y5 z5
  obtain ⟨rfl, Nq5, ec5⟩ := hQ5
  have N5 := Fr.app N4 Nq5
  obtain ⟨_, _, ⟨T6, L6, k6, n6⟩, -, X6, ⟨Lc6, hQ6, l6, y6, z6⟩, st6⟩ := Jvm.LawKit.callS X5 hx (y := (⟨"com/example/rowforge/rowforge/TruthAndPinLaw", "rank", "(Lcom/example/rowforge/rowforge/Truth;)I"⟩ : MethodName)) hown (mvT hZ (wd14 hw)) (mvT hZ (wd15 hw)) (mvT hZ (wd2 hw)) (mvT hZ (wd16 hw)) (by decide) (backOf (W := 2) (rm3_2 l Z a0 hw [] w_TRUE w_FALSE w_UNKNOWN h0 n0 OL0 pr2 pr6 pr7 pr8 pr4) hZ (wd16 hw) (wd2 hw) (by decide) (by decide)) (g := (mkF m 27 #[.val (.int p1), .val (.int p2), .val (.ref w_FALSE), .val (.ref w_TRUE), .val (.ref w_FALSE)] [(.ref w_TRUE), (.int (0 : Int32)), (.int (0 : Int32))])) rfl (by rw [hml]; rfl) (argsL := [(.ref w_TRUE)]) (rest := [(.int (0 : Int32)), (.int (0 : Int32))]) (lenOf pd_2 rfl) rfl (by show 2 * 0 + _ ≤ _; exact Nat.le_of_eq rfl) (hb hby at_27) (fun _ _ => ⟨rfl, ec5, (by decide : 0 + 0 ≤ _), (by decide : 0 + 0 ≤ _)⟩)
  dsimp only [Pt.U, Pt.locs, Pt.cells, Pt.slots] at X6 l6 y6 z6 st6 hQ6
  subst l6 y6 z6
  obtain ⟨rfl, Nq6, ec6⟩ := hQ6
  have N6 := Fr.app N5 Nq6
  obtain ⟨_, _, ⟨T7, L7, k7, n7⟩, -, X7, ⟨Lc7, hQ7, l7, y7, z7⟩, st7⟩ := Jvm.LawKit.callS X6 hx (y := (⟨"java/lang/Math", "min", "(II)I"⟩ : MethodName)) hown (mvT hZ (wd17 hw)) (mvT hZ (wd18 hw)) (mvT hZ (wd19 hw)) (mvT hZ (wd20 hw)) (by decide) (backOf (W := 1) (rm4_2 l Z a0 hw []  h0 n0 OL0 ) hZ (wd20 hw) (wd19 hw) (by decide) (by decide)) (g := (mkF m 30 #[.val (.int p1), .val (.int p2), .val (.ref w_FALSE), .val (.ref w_TRUE), .val (.ref w_FALSE)] [(.int (2 : Int32)), (.int (0 : Int32)), (.int (0 : Int32))])) rfl (by rw [hml]; rfl) (argsL := [(.int (0 : Int32)), (.int (2 : Int32))]) (rest := [(.int (0 : Int32))]) (lenOf pd_3 rfl) rfl (by show 2 * 0 + _ ≤ _; exact Nat.le_of_eq rfl) (hb hby at_30) (fun _ _ => ⟨rfl, ec6, (by decide : 0 + 0 ≤ _), (by decide : 0 + 0 ≤ _)⟩)
  dsimp only [Pt.U, Pt.locs, Pt.cells, Pt.slots] at X7 l7 y7 z7 st7 hQ7
  subst l7 y7 z7
  obtain ⟨rfl, Nq7, ec7⟩ := hQ7
  have N7 := Fr.app N6 Nq7
  obtain ⟨fs, hr, hrun, hended, hW, hsame⟩ := X7.leave (v := some (.int (1 : Int32))) (fun h => by rw [Bd.returns] at h; cases h)
  refine ⟨_, _, pre0 _ ?_, hrun, hended, _, _, rfl, ?_, ⟨_, rfl⟩, hW, hsame.mono (by decide) (by decide)⟩
  · show Steps p.tables e below (s₁.setTop (mkF m 0 #[.val (.int p1), .val (.int p2), .unset, .unset, .unset] [])) _
    refine XS.iloadN X0.here hx rfl (hb hby at_0) rfl ?_
    show Steps p.tables e below (s₁.setTop (mkF m 1 #[.val (.int p1), .val (.int p2), .unset, .unset, .unset] [(.int p1)])) _
    refine st1 _ ?_
    show Steps p.tables e below (T1.setTop (mkF m 4 #[.val (.int p1), .val (.int p2), .unset, .unset, .unset] [(.ref w_FALSE)])) _
    refine XS.astoreN X1.here hx rfl (hb hby at_4) rfl rfl (l' := #[.val (.int p1), .val (.int p2), .val (.ref w_FALSE), .unset, .unset]) rfl ?_
    show Steps p.tables e below (T1.setTop (mkF m 5 #[.val (.int p1), .val (.int p2), .val (.ref w_FALSE), .unset, .unset] [])) _
    refine XS.iloadN X1.here hx rfl (hb hby at_5) rfl ?_
    show Steps p.tables e below (T1.setTop (mkF m 6 #[.val (.int p1), .val (.int p2), .val (.ref w_FALSE), .unset, .unset] [(.int p2)])) _
    refine st2 _ ?_
    show Steps p.tables e below (T2.setTop (mkF m 9 #[.val (.int p1), .val (.int p2), .val (.ref w_FALSE), .unset, .unset] [(.ref w_TRUE)])) _
    refine XS.astoreN X2.here hx rfl (hb hby at_9) rfl rfl (l' := #[.val (.int p1), .val (.int p2), .val (.ref w_FALSE), .val (.ref w_TRUE), .unset]) rfl ?_
    show Steps p.tables e below (T2.setTop (mkF m 10 #[.val (.int p1), .val (.int p2), .val (.ref w_FALSE), .val (.ref w_TRUE), .unset] [])) _
    refine XS.aloadN X2.here hx rfl (hb hby at_10) rfl rfl ?_
    show Steps p.tables e below (T2.setTop (mkF m 11 #[.val (.int p1), .val (.int p2), .val (.ref w_FALSE), .val (.ref w_TRUE), .unset] [(.ref w_FALSE)])) _
    refine XS.aloadN X2.here hx rfl (hb hby at_11) rfl rfl ?_
    show Steps p.tables e below (T2.setTop (mkF m 12 #[.val (.int p1), .val (.int p2), .val (.ref w_FALSE), .val (.ref w_TRUE), .unset] [(.ref w_TRUE), (.ref w_FALSE)])) _
    refine st3.trans ?_
    show Steps p.tables e below (T3.setTop (mkF m 15 #[.val (.int p1), .val (.int p2), .val (.ref w_FALSE), .val (.ref w_TRUE), .unset] [(.ref w_FALSE)])) _
    refine XS.astore X3.here hx rfl (hb hby at_15) rfl rfl (l' := #[.val (.int p1), .val (.int p2), .val (.ref w_FALSE), .val (.ref w_TRUE), .val (.ref w_FALSE)]) rfl ?_
    show Steps p.tables e below (T3.setTop (mkF m 17 #[.val (.int p1), .val (.int p2), .val (.ref w_FALSE), .val (.ref w_TRUE), .val (.ref w_FALSE)] [])) _
    refine XS.aload X3.here hx rfl (hb hby at_17) rfl rfl ?_
    show Steps p.tables e below (T3.setTop (mkF m 19 #[.val (.int p1), .val (.int p2), .val (.ref w_FALSE), .val (.ref w_TRUE), .val (.ref w_FALSE)] [(.ref w_FALSE)])) _
    refine st4 _ ?_
    show Steps p.tables e below (T4.setTop (mkF m 22 #[.val (.int p1), .val (.int p2), .val (.ref w_FALSE), .val (.ref w_TRUE), .val (.ref w_FALSE)] [(.int (0 : Int32))])) _
    refine XS.aloadN X4.here hx rfl (hb hby at_22) rfl rfl ?_
    show Steps p.tables e below (T4.setTop (mkF m 23 #[.val (.int p1), .val (.int p2), .val (.ref w_FALSE), .val (.ref w_TRUE), .val (.ref w_FALSE)] [(.ref w_FALSE), (.int (0 : Int32))])) _
    refine st5 _ ?_
    show Steps p.tables e below (T5.setTop (mkF m 26 #[.val (.int p1), .val (.int p2), .val (.ref w_FALSE), .val (.ref w_TRUE), .val (.ref w_FALSE)] [(.int (0 : Int32)), (.int (0 : Int32))])) _
    refine XS.aloadN X5.here hx rfl (hb hby at_26) rfl rfl ?_
    show Steps p.tables e below (T5.setTop (mkF m 27 #[.val (.int p1), .val (.int p2), .val (.ref w_FALSE), .val (.ref w_TRUE), .val (.ref w_FALSE)] [(.ref w_TRUE), (.int (0 : Int32)), (.int (0 : Int32))])) _
    refine st6 _ ?_
    show Steps p.tables e below (T6.setTop (mkF m 30 #[.val (.int p1), .val (.int p2), .val (.ref w_FALSE), .val (.ref w_TRUE), .val (.ref w_FALSE)] [(.int (2 : Int32)), (.int (0 : Int32)), (.int (0 : Int32))])) _
    refine st7 _ ?_
    show Steps p.tables e below (T7.setTop (mkF m 33 #[.val (.int p1), .val (.int p2), .val (.ref w_FALSE), .val (.ref w_TRUE), .val (.ref w_FALSE)] [(.int (0 : Int32)), (.int (0 : Int32))])) _
    refine XS.icmpNo X7.here hx rfl (hb hby at_33) rfl (teq (rfl : (0 : Int32) = (0 : Int32))).2 ?_
    show Steps p.tables e below (T7.setTop (mkF m 36 #[.val (.int p1), .val (.int p2), .val (.ref w_FALSE), .val (.ref w_TRUE), .val (.ref w_FALSE)] [])) _
    refine XS.iconst X7.here hx rfl (hb hby at_36) ?_
    show Steps p.tables e below (T7.setTop (mkF m 37 #[.val (.int p1), .val (.int p2), .val (.ref w_FALSE), .val (.ref w_TRUE), .val (.ref w_FALSE)] [(.int (1 : Int32))])) _
    refine XS.goto X7.here hx rfl (pc0 := 37) (pc' := 41) rfl (hb hby at_37) (by decide) (by decide) ?_
    show Steps p.tables e below (T7.setTop (mkF m 41 #[.val (.int p1), .val (.int p2), .val (.ref w_FALSE), .val (.ref w_TRUE), .val (.ref w_FALSE)] [(.int (1 : Int32))])) _
    exact retN X7 hx (t := .boolean) Bd.returns (by simp) (hb hby at_41) hr
  · exact ⟨rfl, N7⟩
theorem d2_7 : decode prog_36_method_6_code 7 = .ok (.aload_n 1, 1) := by decide +kernel
theorem d2_8 : decode prog_36_method_6_code 8 = .ok (.getstatic 7, 3) := by decide +kernel
theorem d2_11 : decode prog_36_method_6_code 11 = .ok (.if_acmp .ne 10, 3) := by decide +kernel
def Q_rm2_2 (Z : State) (w1 : Addr) (w2 : Addr) (h0 : Heap) (n0 : Nat) (v : Option Value) (h : Heap) (L : List Loc) : Prop := v = some (.ref w2) ∧ Fr n0 L ∧ h = h0
set_option maxRecDepth 65536 in
set_option maxHeartbeats 40000000 in
theorem rm2_2 (l : Launch) (Z : State) (a0 : Array Value) (hw : ∀ d ∈ tables_1, d.before a0 Z = true) (ws : List Jvm.Cond) (w1 : Addr) (w2 : Addr) (h0 : Heap) (n0 : Nat) (OL0 : Old Z n0 h0) (pr1 : Sta Z Z.heap "com/example/rowforge/rowforge/Truth" "FALSE" "Lcom/example/rowforge/rowforge/Truth;" (.ref w2)) (pr2 : w1 ≠ w2) :
    MetFree l (⟨"com/example/rowforge/rowforge/Truth", "and", "(Lcom/example/rowforge/rowforge/Truth;)Lcom/example/rowforge/rowforge/Truth;"⟩ : MethodName) (head1 (Jvm.Cond.code (⟨"com/example/rowforge/rowforge/Truth", "and", "(Lcom/example/rowforge/rowforge/Truth;)Lcom/example/rowforge/rowforge/Truth;"⟩ : MethodName) prog_36_method_6_code 3 (some (.object "com/example/rowforge/rowforge/Truth")) :: ws) ({ frames := 0, cells := 0, slots := 0, locals := 0 } : Room)) (fun a U => a = #[(.ref w1), (.ref w2)] ∧ Z.Warmed39 U.vm ∧ U.heap = h0) (fun _ _ _ _ _ => True) (fun _ U o U' => ∃ v L, o = .returned v ∧ Q_rm2_2 Z w1 w2 h0 n0 v U'.heap L ∧ FrameEnd U o U' L ({ frames := 0, cells := 0, slots := 0, locals := 0 } : Room).cells ({ frames := 0, cells := 0, slots := 0, locals := 0 } : Room).slots) := by
  refine MetFree.of_bodySF (plainFor_of_name pn_1) hisR ?_
  intro p e s m args below meth c s₁ Bd hml0 hP hK
  obtain ⟨rfl, hZ, hh⟩ := hP
  have hx := Bd.exec
  have hby := Bd.bytes
  have hml : c.maxLocals = 3 := hml0
  have hown : s.vm.findClass "com/example/rowforge/rowforge/Truth" = some m.cls := findClass_of_methodNamed Bd.named
  have hnm := (name_of_methodNamed Bd.named Bd.method).1
  have X0 : Stand p l e ({ frames := 0, cells := 0, slots := 0, locals := 0 } : Room) s m #[(.ref w1), (.ref w2)] below meth c s₁ [] 0 0 := Stand.of_body Bd
  have e0 : s₁.heap = h0 := by rw [← hh, Bd.state]; rfl
  have N0 := Fr.nil n0
  have pre0 : ∀ t, Steps p.tables e below (s₁.setTop (mkF m 0 #[.val (.ref w1), .val (.ref w2), .unset] [])) t → Steps p.tables e below (s₁.setTop (entryFrame m #[(.ref w1), (.ref w2)] 3)) t := fun t k => castTop (ef_2_1 m w1 w2) k
  obtain ⟨T3, X3, e3, st3⟩ := getS2 X0 hx hZ hown (host := "") (Or.inl (wd13 hw)) Via.refl e0 (pr1.ext OL0.2) (g := (mkF m 1 #[.val (.ref w1), .val (.ref w2), .unset] [(.ref w1)])) rfl (hb hby d2_1)
  obtain ⟨T4, X4, e4, st4⟩ := getS2 X3 hx hZ hown (host := "") (Or.inl (wd13 hw)) Via.refl e3 (pr1.ext OL0.2) (g := (mkF m 8 #[.val (.ref w1), .val (.ref w2), .unset] [(.ref w2)])) rfl (hb hby d2_8)
  obtain ⟨T5, X5, e5, st5⟩ := getS2 X4 hx hZ hown (host := "") (Or.inl (wd13 hw)) Via.refl e4 (pr1.ext OL0.2) (g := (mkF m 14 #[.val (.ref w1), .val (.ref w2), .unset] [])) rfl (hb hby d2_14)
  obtain ⟨fs, hr, hrun, hended, hW, hsame⟩ := X5.leave (v := some (.ref w2)) (fun h => by rw [Bd.returns] at h; cases h)
  refine ⟨_, _, pre0 _ ?_, hrun, hended, _, _, rfl, ?_, ⟨_, rfl⟩, hW, hsame.mono (by decide) (by decide)⟩
  · show Steps p.tables e below (s₁.setTop (mkF m 0 #[.val (.ref w1), .val (.ref w2), .unset] [])) _
    refine XS.aloadN X0.here hx rfl (hb hby d2_0) rfl rfl ?_
    show Steps p.tables e below (s₁.setTop (mkF m 1 #[.val (.ref w1), .val (.ref w2), .unset] [(.ref w1)])) _
    refine st3 _ ?_
    show Steps p.tables e below (T3.setTop (mkF m 4 #[.val (.ref w1), .val (.ref w2), .unset] [(.ref w2), (.ref w1)])) _
    refine Jvm.RoadKit.acmp (g := (mkF m 4 #[.val (.ref w1), .val (.ref w2), .unset] [(.ref w2), (.ref w1)])) X3 hx rfl rfl rfl (pc0 := 4) (pc' := 7) (same := false) rfl (hb hby d2_4) rfl (decide_eq_false fun q => pr2 (Value.ref.inj q)) (by decide) (by decide) ?_
    show Steps p.tables e below (T3.setTop (mkF m 7 #[.val (.ref w1), .val (.ref w2), .unset] [])) _
    refine XS.aloadN X3.here hx rfl (hb hby d2_7) rfl rfl ?_
    show Steps p.tables e below (T3.setTop (mkF m 8 #[.val (.ref w1), .val (.ref w2), .unset] [(.ref w2)])) _
    refine st4 _ ?_
    show Steps p.tables e below (T4.setTop (mkF m 11 #[.val (.ref w1), .val (.ref w2), .unset] [(.ref w2), (.ref w2)])) _
    refine Jvm.RoadKit.acmp (g := (mkF m 11 #[.val (.ref w1), .val (.ref w2), .unset] [(.ref w2), (.ref w2)])) X4 hx rfl rfl rfl (pc0 := 11) (pc' := 14) (same := true) rfl (hb hby d2_11) rfl (decide_eq_true rfl) (by decide) (by decide) ?_
    show Steps p.tables e below (T4.setTop (mkF m 14 #[.val (.ref w1), .val (.ref w2), .unset] [])) _
    refine st5 _ ?_
    show Steps p.tables e below (T5.setTop (mkF m 17 #[.val (.ref w1), .val (.ref w2), .unset] [(.ref w2)])) _
    refine XS.astoreN X5.here hx rfl (hb hby d2_17) rfl rfl (l' := #[.val (.ref w1), .val (.ref w2), .val (.ref w2)]) rfl ?_
    show Steps p.tables e below (T5.setTop (mkF m 18 #[.val (.ref w1), .val (.ref w2), .val (.ref w2)] [])) _
    refine XS.goto X5.here hx rfl (pc0 := 18) (pc' := 46) rfl (hb hby d2_18) (by decide) (by decide) ?_
    show Steps p.tables e below (T5.setTop (mkF m 46 #[.val (.ref w1), .val (.ref w2), .val (.ref w2)] [])) _
    refine XS.aloadN X5.here hx rfl (hb hby d2_46) rfl rfl ?_
    show Steps p.tables e below (T5.setTop (mkF m 47 #[.val (.ref w1), .val (.ref w2), .val (.ref w2)] [(.ref w2)])) _
    jvm_step X5.here [X5.here.top, hx, (hb hby d2_47), X5.method', Bd.returns, Value.isRef, FieldType.isReference]
    first | (intro acts; rw [hr _ acts rfl rfl rfl]) | rw [hr _ _ rfl rfl rfl]
    exact Steps.refl _
  · show Q_rm2_2 Z w1 w2 h0 n0 _ T5.heap _
    rw [e5]
    exact ⟨rfl, N0, rfl⟩
theorem d4_9 : decode jdk_29_method_69_code 9 = .ok (.iload_n 1, 1) := by decide +kernel
theorem ef_4_7 (m : MethodId)  : entryFrame m #[(.int (1 : Int32)), (.int (0 : Int32))] 2 = mkF m 0 #[.val (.int (1 : Int32)), .val (.int (0 : Int32))] [] := by first | (simp [entryFrame, mkF, argsToLocals, Value.category]; done) | rfl
def Q_rm4_3 (Z : State)  (h0 : Heap) (n0 : Nat) (v : Option Value) (h : Heap) (L : List Loc) : Prop := v = some (.int (0 : Int32)) ∧ Fr n0 L ∧ h = h0
set_option maxRecDepth 65536 in
set_option maxHeartbeats 40000000 in
theorem rm4_3 (l : Launch) (Z : State) (a0 : Array Value) (hw : ∀ d ∈ tables_1, d.before a0 Z = true) (ws : List Jvm.Cond)  (h0 : Heap) (n0 : Nat) (OL0 : Old Z n0 h0)  :
    MetFree l (⟨"java/lang/Math", "min", "(II)I"⟩ : MethodName) (head1 (Jvm.Cond.code (⟨"java/lang/Math", "min", "(II)I"⟩ : MethodName) jdk_29_method_69_code 2 (some .int) :: ws) ({ frames := 0, cells := 0, slots := 0, locals := 0 } : Room)) (fun a U => a = #[(.int (1 : Int32)), (.int (0 : Int32))] ∧ Z.Warmed39 U.vm ∧ U.heap = h0) (fun _ _ _ _ _ => True) (fun _ U o U' => ∃ v L, o = .returned v ∧ Q_rm4_3 Z  h0 n0 v U'.heap L ∧ FrameEnd U o U' L ({ frames := 0, cells := 0, slots := 0, locals := 0 } : Room).cells ({ frames := 0, cells := 0, slots := 0, locals := 0 } : Room).slots) := by
  refine MetFree.of_bodySF (Jvm.Free.JP.mathPlain rfl (by decide +kernel)) hisR ?_
  intro p e s m args below meth c s₁ Bd hml0 hP hK
  obtain ⟨rfl, hZ, hh⟩ := hP
  have hx := Bd.exec
  have hby := Bd.bytes
  have hml : c.maxLocals = 2 := hml0
  have hown : s.vm.findClass "java/lang/Math" = some m.cls := findClass_of_methodNamed Bd.named
  have hnm := (name_of_methodNamed Bd.named Bd.method).1
  have X0 : Stand p l e ({ frames := 0, cells := 0, slots := 0, locals := 0 } : Room) s m #[(.int (1 : Int32)), (.int (0 : Int32))] below meth c s₁ [] 0 0 := Stand.of_body Bd
  have e0 : s₁.heap = h0 := by rw [← hh, Bd.state]; rfl
  have N0 := Fr.nil n0
  have pre0 : ∀ t, Steps p.tables e below (s₁.setTop (mkF m 0 #[.val (.int (1 : Int32)), .val (.int (0 : Int32))] [])) t → Steps p.tables e below (s₁.setTop (entryFrame m #[(.int (1 : Int32)), (.int (0 : Int32))] 2)) t := fun t k => castTop (ef_4_7 m ) k
  obtain ⟨fs, hr, hrun, hended, hW, hsame⟩ := X0.leave (v := some (.int (0 : Int32))) (fun h => by rw [Bd.returns] at h; cases h)
  refine ⟨_, _, pre0 _ ?_, hrun, hended, _, _, rfl, ?_, ⟨_, rfl⟩, hW, hsame.mono (by decide) (by decide)⟩
  · show Steps p.tables e below (s₁.setTop (mkF m 0 #[.val (.int (1 : Int32)), .val (.int (0 : Int32))] [])) _
    refine XS.iloadN X0.here hx rfl (hb hby d4_0) rfl ?_
    show Steps p.tables e below (s₁.setTop (mkF m 1 #[.val (.int (1 : Int32)), .val (.int (0 : Int32))] [(.int (1 : Int32))])) _
    refine XS.iloadN X0.here hx rfl (hb hby d4_1) rfl ?_
    show Steps p.tables e below (s₁.setTop (mkF m 2 #[.val (.int (1 : Int32)), .val (.int (0 : Int32))] [(.int (0 : Int32)), (.int (1 : Int32))])) _
    refine XS.icmpYes X0.here hx rfl (pc0 := 2) (pc' := 9) rfl (hb hby d4_2) rfl (tlt (by decide : (0 : Int32) < (1 : Int32))).2.2.1 (by decide) (by decide) ?_
    show Steps p.tables e below (s₁.setTop (mkF m 9 #[.val (.int (1 : Int32)), .val (.int (0 : Int32))] [])) _
    refine XS.iloadN X0.here hx rfl (hb hby d4_9) rfl ?_
    show Steps p.tables e below (s₁.setTop (mkF m 10 #[.val (.int (1 : Int32)), .val (.int (0 : Int32))] [(.int (0 : Int32))])) _
    exact retI X0 hx Bd.returns (hb hby d4_10) hr
  · show Q_rm4_3 Z  h0 n0 _ s₁.heap _
    rw [e0]
    exact ⟨rfl, N0, rfl⟩
set_option maxRecDepth 65536 in
set_option maxHeartbeats 40000000 in
theorem rm0_1_0 (l : Launch) (Z : State) (a0 : Array Value) (hw : ∀ d ∈ tables_1, d.before a0 Z = true) (ws : List Jvm.Cond) (p1 : Int32) (p2 : Int32) (w_UNKNOWN : Addr) (w_FALSE : Addr) (h0 : Heap) (n0 : Nat) (OL0 : Old Z n0 h0) (pr1 : ((p1 &&& (2147483647 : Int32)) % (3 : Int32)) = (1 : Int32)) (pr2 : Sta Z Z.heap "com/example/rowforge/rowforge/Truth" "UNKNOWN" "Lcom/example/rowforge/rowforge/Truth;" (.ref w_UNKNOWN)) (pr3 : ((p2 &&& (2147483647 : Int32)) % (3 : Int32)) = (0 : Int32)) (pr4 : Sta Z Z.heap "com/example/rowforge/rowforge/Truth" "FALSE" "Lcom/example/rowforge/rowforge/Truth;" (.ref w_FALSE)) (pr5 : w_UNKNOWN ≠ w_FALSE) (pr6 : Exa Z Z.heap w_UNKNOWN "com/example/rowforge/rowforge/Truth") :
    MetFree l x (head1 (Jvm.Cond.code x code maxLocals ret :: ws) room_1) (fun a U => a = #[(.int p1), (.int p2)] ∧ Z.Warmed39 U.vm ∧ U.heap = h0) (fun _ _ _ _ _ => True) (fun _ U o U' => ∃ v L, o = .returned v ∧ Q0 n0 v L ∧ FrameEnd U o U' L 0 0) := by
  refine MetFree.of_bodySF (plainFor_of_name pn_0) hisR ?_
  intro p e s m args below meth c s₁ Bd hml0 hP hK
  obtain ⟨rfl, hZ, hh⟩ := hP
  have hx := Bd.exec
  have hby := Bd.bytes
  have hml : c.maxLocals = 5 := hml0
  have hown : s.vm.findClass "com/example/rowforge/rowforge/TruthAndPinLaw" = some m.cls := findClass_of_methodNamed Bd.named
  have hnm := (name_of_methodNamed Bd.named Bd.method).1
  have X0 : Stand p l e room_1 s m #[(.int p1), (.int p2)] below meth c s₁ [] 0 0 := Stand.of_body Bd
  have e0 : s₁.heap = h0 := by rw [← hh, Bd.state]; rfl
  have N0 := Fr.nil n0
  have pre0 : ∀ t, Steps p.tables e below (s₁.setTop (mkF m 0 #[.val (.int p1), .val (.int p2), .unset, .unset, .unset] [])) t → Steps p.tables e below (s₁.setTop (entryFrame m #[(.int p1), (.int p2)] maxLocals)) t := fun t k => castTop (ef_0_4 m p1 p2) k
  obtain ⟨_, _, ⟨T1, L1, k1, n1⟩, -, X1, ⟨Lc1, hQ1, l1, y1, z1⟩, st1⟩ := Jvm.LawKit.callS X0 hx (y := (⟨"com/example/rowforge/rowforge/TruthAndPinLaw", "pick", "(I)Lcom/example/rowforge/rowforge/Truth;"⟩ : MethodName)) hown (mvT hZ (wd0 hw)) (mvT hZ (wd1 hw)) (mvT hZ (wd2 hw)) (mvT hZ (wd3 hw)) (by decide) (backOf (W := 0) (rm1_1 l Z a0 hw [] p1 w_UNKNOWN h0 n0 OL0 pr1 pr2) hZ (wd3 hw) (wd2 hw) (by decide) (by decide)) (g := (mkF m 1 #[.val (.int p1), .val (.int p2), .unset, .unset, .unset] [(.int p1)])) rfl (by rw [hml]; rfl) (argsL := [(.int p1)]) (rest := []) (lenOf pd_0 rfl) rfl (by show 2 * 0 + _ ≤ _; exact Nat.le_of_eq rfl) (hb hby at_1) (fun _ _ => ⟨rfl, e0, (by decide : 0 + 0 ≤ _), (by decide : 0 + 0 ≤ _)⟩)
  dsimp only [Pt.U, Pt.locs, Pt.cells, Pt.slots] at X1 l1 y1 z1 st1 hQ1
  subst l1 y1 z1
  obtain ⟨rfl, Nq1, ec1⟩ := hQ1
  have N1 := Fr.app N0 Nq1
  obtain ⟨_, _, ⟨T2, L2, k2, n2⟩, -, X2, ⟨Lc2, hQ2, l2, y2, z2⟩, st2⟩ := Jvm.LawKit.callS X1 hx (y := (⟨"com/example/rowforge/rowforge/TruthAndPinLaw", "pick", "(I)Lcom/example/rowforge/rowforge/Truth;"⟩ : MethodName)) hown (mvT hZ (wd0 hw)) (mvT hZ (wd1 hw)) (mvT hZ (wd2 hw)) (mvT hZ (wd3 hw)) (by decide) (backOf (W := 0) (rm1_0 l Z a0 hw [] p2 w_FALSE h0 n0 OL0 pr3 pr4) hZ (wd3 hw) (wd2 hw) (by decide) (by decide)) (g := (mkF m 6 #[.val (.int p1), .val (.int p2), .val (.ref w_UNKNOWN), .unset, .unset] [(.int p2)])) rfl (by rw [hml]; rfl) (argsL := [(.int p2)]) (rest := []) (lenOf pd_0 rfl) rfl (by show 2 * 0 + _ ≤ _; exact Nat.le_of_eq rfl) (hb hby at_6) (fun _ _ => ⟨rfl, ec1, (by decide : 0 + 0 ≤ _), (by decide : 0 + 0 ≤ _)⟩)
  dsimp only [Pt.U, Pt.locs, Pt.cells, Pt.slots] at X2 l2 y2 z2 st2 hQ2
  subst l2 y2 z2
  obtain ⟨rfl, Nq2, ec2⟩ := hQ2
  have N2 := Fr.app N1 Nq2
  obtain ⟨cq3, kq3, q3a, q3b, q3c⟩ := isOf hZ ec2 (pr6.ext OL0.2)
  obtain ⟨_, _, ⟨T3, L3, k3, n3⟩, -, X3, ⟨Lc3, hQ3, l3, y3, z3⟩, st3⟩ := X2.virtualBack hx (y := (⟨"com/example/rowforge/rowforge/Truth", "and", "(Lcom/example/rowforge/rowforge/Truth;)Lcom/example/rowforge/rowforge/Truth;"⟩ : MethodName)) (z := (⟨"com/example/rowforge/rowforge/Truth", "and", "(Lcom/example/rowforge/rowforge/Truth;)Lcom/example/rowforge/rowforge/Truth;"⟩ : MethodName)) hown (mvT hZ (wd8 hw)) (mvT hZ (wd9 hw)) (notFace_of_selects (args := #[]) (mvT hZ (wd11 hw))) (mvT hZ (wd11 hw)) (mvT hZ (wd10 hw)) (by decide) (backOf (W := 0) (rm2_2 l Z a0 hw [] w_UNKNOWN w_FALSE h0 n0 OL0 pr4 pr5) hZ (wd12 hw) (wd6 hw) (by decide) (by decide)) q3a q3c (g := (mkF m 12 #[.val (.int p1), .val (.int p2), .val (.ref w_UNKNOWN), .val (.ref w_FALSE), .unset] [(.ref w_FALSE), (.ref w_UNKNOWN)])) rfl (by rw [hml]; rfl) (Steps.refl _) (argsL := [(.ref w_FALSE)]) (rest := []) (lenOf pd_1 rfl) rfl (by show 2 * 0 + _ ≤ _; exact Nat.le_of_eq rfl) (hb hby at_12) (fun _ _ => ⟨rfl, ec2, (by decide : 0 + 0 ≤ _), (by decide : 0 + 0 ≤ _)⟩)
  dsimp only [Pt.U, Pt.locs, Pt.cells, Pt.slots] at X3 l3 y3 z3 st3 hQ3
  subst l3 y3 z3
  obtain ⟨rfl, Nq3, ec3⟩ := hQ3
  have N3 := Fr.app N2 Nq3
  obtain ⟨_, _, ⟨T4, L4, k4, n4⟩, -, X4, ⟨Lc4, hQ4, l4, y4, z4⟩, st4⟩ := Jvm.LawKit.callS X3 hx (y := (⟨"com/example/rowforge/rowforge/TruthAndPinLaw", "rank", "(Lcom/example/rowforge/rowforge/Truth;)I"⟩ : MethodName)) hown (mvT hZ (wd14 hw)) (mvT hZ (wd15 hw)) (mvT hZ (wd2 hw)) (mvT hZ (wd16 hw)) (by decide) (backOf (W := 0) (rm3_0 l Z a0 hw [] w_FALSE h0 n0 OL0 pr4) hZ (wd16 hw) (wd2 hw) (by decide) (by decide)) (g := (mkF m 19 #[.val (.int p1), .val (.int p2), .val (.ref w_UNKNOWN), .val (.ref w_FALSE), .val (.ref w_FALSE)] [(.ref w_FALSE)])) rfl (by rw [hml]; rfl) (argsL := [(.ref w_FALSE)]) (rest := []) (lenOf pd_2 rfl) rfl (by show 2 * 0 + _ ≤ _; exact Nat.le_of_eq rfl) (hb hby at_19) (fun _ _ => ⟨rfl, ec3, (by decide : 0 + 0 ≤ _), (by decide : 0 + 0 ≤ _)⟩)
  dsimp only [Pt.U, Pt.locs, Pt.cells, Pt.slots] at X4 l4 y4 z4 st4 hQ4
  subst l4 y4 z4
  obtain ⟨rfl, Nq4, ec4⟩ := hQ4
  have N4 := Fr.app N3 Nq4
  obtain ⟨_, _, ⟨T5, L5, k5, n5⟩, -, X5, ⟨Lc5, hQ5, l5, y5, z5⟩, st5⟩ := Jvm.LawKit.callS X4 hx (y := (⟨"com/example/rowforge/rowforge/TruthAndPinLaw", "rank", "(Lcom/example/rowforge/rowforge/Truth;)I"⟩ : MethodName)) hown (mvT hZ (wd14 hw)) (mvT hZ (wd15 hw)) (mvT hZ (wd2 hw)) (mvT hZ (wd16 hw)) (by decide) (backOf (W := 1) (rm3_1 l Z a0 hw [] w_UNKNOWN w_FALSE h0 n0 OL0 pr4 pr5 pr2) hZ (wd16 hw) (wd2 hw) (by decide) (by decide)) (g := (mkF m 23 #[.val (.int p1), .val (.int p2), .val (.ref w_UNKNOWN), .val (.ref w_FALSE), .val (.ref w_FALSE)] [(.ref w_UNKNOWN), (.int (0 : Int32))])) rfl (by rw [hml]; rfl) (argsL := [(.ref w_UNKNOWN)]) (rest := [(.int (0 : Int32))]) (lenOf pd_2 rfl) rfl (by show 2 * 0 + _ ≤ _; exact Nat.le_of_eq rfl) (hb hby at_23) (fun _ _ => ⟨rfl, ec4, (by decide : 0 + 0 ≤ _), (by decide : 0 + 0 ≤ _)⟩)
  dsimp only [Pt.U, Pt.locs, Pt.cells, Pt.slots] at X5 l5 y5 z5 st5 hQ5
  subst l5 y5 z5
  obtain ⟨rfl, Nq5, ec5⟩ := hQ5
  have N5 := Fr.app N4 Nq5
  obtain ⟨_, _, ⟨T6, L6, k6, n6⟩, -, X6, ⟨Lc6, hQ6, l6, y6, z6⟩, st6⟩ := Jvm.LawKit.callS X5 hx (y := (⟨"com/example/rowforge/rowforge/TruthAndPinLaw", "rank", "(Lcom/example/rowforge/rowforge/Truth;)I"⟩ : MethodName)) hown (mvT hZ (wd14 hw)) (mvT hZ (wd15 hw)) (mvT hZ (wd2 hw)) (mvT hZ (wd16 hw)) (by decide) (backOf (W := 2) (rm3_0 l Z a0 hw [] w_FALSE h0 n0 OL0 pr4) hZ (wd16 hw) (wd2 hw) (by decide) (by decide)) (g := (mkF m 27 #[.val (.int p1), .val (.int p2), .val (.ref w_UNKNOWN), .val (.ref w_FALSE), .val (.ref w_FALSE)] [(.ref w_FALSE), (.int (1 : Int32)), (.int (0 : Int32))])) rfl (by rw [hml]; rfl) (argsL := [(.ref w_FALSE)]) (rest := [(.int (1 : Int32)), (.int (0 : Int32))]) (lenOf pd_2 rfl) rfl (by show 2 * 0 + _ ≤ _; exact Nat.le_of_eq rfl) (hb hby at_27) (fun _ _ => ⟨rfl, ec5, (by decide : 0 + 0 ≤ _), (by decide : 0 + 0 ≤ _)⟩)
  dsimp only [Pt.U, Pt.locs, Pt.cells, Pt.slots] at X6 l6 y6 z6 st6 hQ6
  subst l6 y6 z6
  obtain ⟨rfl, Nq6, ec6⟩ := hQ6
  have N6 := Fr.app N5 Nq6
  obtain ⟨_, _, ⟨T7, L7, k7, n7⟩, -, X7, ⟨Lc7, hQ7, l7, y7, z7⟩, st7⟩ := Jvm.LawKit.callS X6 hx (y := (⟨"java/lang/Math", "min", "(II)I"⟩ : MethodName)) hown (mvT hZ (wd17 hw)) (mvT hZ (wd18 hw)) (mvT hZ (wd19 hw)) (mvT hZ (wd20 hw)) (by decide) (backOf (W := 1) (rm4_3 l Z a0 hw []  h0 n0 OL0 ) hZ (wd20 hw) (wd19 hw) (by decide) (by decide)) (g := (mkF m 30 #[.val (.int p1), .val (.int p2), .val (.ref w_UNKNOWN), .val (.ref w_FALSE), .val (.ref w_FALSE)] [(.int (0 : Int32)), (.int (1 : Int32)), (.int (0 : Int32))])) rfl (by rw [hml]; rfl) (argsL := [(.int (1 : Int32)), (.int (0 : Int32))]) (rest := [(.int (0 : Int32))]) (lenOf pd_3 rfl) rfl (by show 2 * 0 + _ ≤ _; exact Nat.le_of_eq rfl) (hb hby at_30) (fun _ _ => ⟨rfl, ec6, (by decide : 0 + 0 ≤ _), (by decide : 0 + 0 ≤ _)⟩)
  dsimp only [Pt.U, Pt.locs, Pt.cells, Pt.slots] at X7 l7 y7 z7 st7 hQ7
  subst l7 y7 z7
  obtain ⟨rfl, Nq7, ec7⟩ := hQ7
  have N7 := Fr.app N6 Nq7
  obtain ⟨fs, hr, hrun, hended, hW, hsame⟩ := X7.leave (v := some (.int (1 : Int32))) (fun h => by rw [Bd.returns] at h; cases h)
  refine ⟨_, _, pre0 _ ?_, hrun, hended, _, _, rfl, ?_, ⟨_, rfl⟩, hW, hsame.mono (by decide) (by decide)⟩
  · show Steps p.tables e below (s₁.setTop (mkF m 0 #[.val (.int p1), .val (.int p2), .unset, .unset, .unset] [])) _
    refine XS.iloadN X0.here hx rfl (hb hby at_0) rfl ?_
    show Steps p.tables e below (s₁.setTop (mkF m 1 #[.val (.int p1), .val (.int p2), .unset, .unset, .unset] [(.int p1)])) _
    refine st1 _ ?_
    show Steps p.tables e below (T1.setTop (mkF m 4 #[.val (.int p1), .val (.int p2), .unset, .unset, .unset] [(.ref w_UNKNOWN)])) _
    refine XS.astoreN X1.here hx rfl (hb hby at_4) rfl rfl (l' := #[.val (.int p1), .val (.int p2), .val (.ref w_UNKNOWN), .unset, .unset]) rfl ?_
    show Steps p.tables e below (T1.setTop (mkF m 5 #[.val (.int p1), .val (.int p2), .val (.ref w_UNKNOWN), .unset, .unset] [])) _
    refine XS.iloadN X1.here hx rfl (hb hby at_5) rfl ?_
    show Steps p.tables e below (T1.setTop (mkF m 6 #[.val (.int p1), .val (.int p2), .val (.ref w_UNKNOWN), .unset, .unset] [(.int p2)])) _
    refine st2 _ ?_
    show Steps p.tables e below (T2.setTop (mkF m 9 #[.val (.int p1), .val (.int p2), .val (.ref w_UNKNOWN), .unset, .unset] [(.ref w_FALSE)])) _
    refine XS.astoreN X2.here hx rfl (hb hby at_9) rfl rfl (l' := #[.val (.int p1), .val (.int p2), .val (.ref w_UNKNOWN), .val (.ref w_FALSE), .unset]) rfl ?_
    show Steps p.tables e below (T2.setTop (mkF m 10 #[.val (.int p1), .val (.int p2), .val (.ref w_UNKNOWN), .val (.ref w_FALSE), .unset] [])) _
    refine XS.aloadN X2.here hx rfl (hb hby at_10) rfl rfl ?_
    show Steps p.tables e below (T2.setTop (mkF m 11 #[.val (.int p1), .val (.int p2), .val (.ref w_UNKNOWN), .val (.ref w_FALSE), .unset] [(.ref w_UNKNOWN)])) _
    refine XS.aloadN X2.here hx rfl (hb hby at_11) rfl rfl ?_
    show Steps p.tables e below (T2.setTop (mkF m 12 #[.val (.int p1), .val (.int p2), .val (.ref w_UNKNOWN), .val (.ref w_FALSE), .unset] [(.ref w_FALSE), (.ref w_UNKNOWN)])) _
    refine st3.trans ?_
    show Steps p.tables e below (T3.setTop (mkF m 15 #[.val (.int p1), .val (.int p2), .val (.ref w_UNKNOWN), .val (.ref w_FALSE), .unset] [(.ref w_FALSE)])) _
    refine XS.astore X3.here hx rfl (hb hby at_15) rfl rfl (l' := #[.val (.int p1), .val (.int p2), .val (.ref w_UNKNOWN), .val (.ref w_FALSE), .val (.ref w_FALSE)]) rfl ?_
    show Steps p.tables e below (T3.setTop (mkF m 17 #[.val (.int p1), .val (.int p2), .val (.ref w_UNKNOWN), .val (.ref w_FALSE), .val (.ref w_FALSE)] [])) _
    refine XS.aload X3.here hx rfl (hb hby at_17) rfl rfl ?_
    show Steps p.tables e below (T3.setTop (mkF m 19 #[.val (.int p1), .val (.int p2), .val (.ref w_UNKNOWN), .val (.ref w_FALSE), .val (.ref w_FALSE)] [(.ref w_FALSE)])) _
    refine st4 _ ?_
    show Steps p.tables e below (T4.setTop (mkF m 22 #[.val (.int p1), .val (.int p2), .val (.ref w_UNKNOWN), .val (.ref w_FALSE), .val (.ref w_FALSE)] [(.int (0 : Int32))])) _
    refine XS.aloadN X4.here hx rfl (hb hby at_22) rfl rfl ?_
    show Steps p.tables e below (T4.setTop (mkF m 23 #[.val (.int p1), .val (.int p2), .val (.ref w_UNKNOWN), .val (.ref w_FALSE), .val (.ref w_FALSE)] [(.ref w_UNKNOWN), (.int (0 : Int32))])) _
    refine st5 _ ?_
    show Steps p.tables e below (T5.setTop (mkF m 26 #[.val (.int p1), .val (.int p2), .val (.ref w_UNKNOWN), .val (.ref w_FALSE), .val (.ref w_FALSE)] [(.int (1 : Int32)), (.int (0 : Int32))])) _
    refine XS.aloadN X5.here hx rfl (hb hby at_26) rfl rfl ?_
    show Steps p.tables e below (T5.setTop (mkF m 27 #[.val (.int p1), .val (.int p2), .val (.ref w_UNKNOWN), .val (.ref w_FALSE), .val (.ref w_FALSE)] [(.ref w_FALSE), (.int (1 : Int32)), (.int (0 : Int32))])) _
    refine st6 _ ?_
    show Steps p.tables e below (T6.setTop (mkF m 30 #[.val (.int p1), .val (.int p2), .val (.ref w_UNKNOWN), .val (.ref w_FALSE), .val (.ref w_FALSE)] [(.int (0 : Int32)), (.int (1 : Int32)), (.int (0 : Int32))])) _
    refine st7 _ ?_
    show Steps p.tables e below (T7.setTop (mkF m 33 #[.val (.int p1), .val (.int p2), .val (.ref w_UNKNOWN), .val (.ref w_FALSE), .val (.ref w_FALSE)] [(.int (0 : Int32)), (.int (0 : Int32))])) _
    refine XS.icmpNo X7.here hx rfl (hb hby at_33) rfl (teq (rfl : (0 : Int32) = (0 : Int32))).2 ?_
    show Steps p.tables e below (T7.setTop (mkF m 36 #[.val (.int p1), .val (.int p2), .val (.ref w_UNKNOWN), .val (.ref w_FALSE), .val (.ref w_FALSE)] [])) _
    refine XS.iconst X7.here hx rfl (hb hby at_36) ?_
    show Steps p.tables e below (T7.setTop (mkF m 37 #[.val (.int p1), .val (.int p2), .val (.ref w_UNKNOWN), .val (.ref w_FALSE), .val (.ref w_FALSE)] [(.int (1 : Int32))])) _
    refine XS.goto X7.here hx rfl (pc0 := 37) (pc' := 41) rfl (hb hby at_37) (by decide) (by decide) ?_
    show Steps p.tables e below (T7.setTop (mkF m 41 #[.val (.int p1), .val (.int p2), .val (.ref w_UNKNOWN), .val (.ref w_FALSE), .val (.ref w_FALSE)] [(.int (1 : Int32))])) _
    exact retN X7 hx (t := .boolean) Bd.returns (by simp) (hb hby at_41) hr
  · exact ⟨rfl, N7⟩
theorem d2_21 : decode prog_36_method_6_code 21 = .ok (.aload_n 0, 1) := by decide +kernel
theorem d2_22 : decode prog_36_method_6_code 22 = .ok (.getstatic 3, 3) := by decide +kernel
theorem d2_25 : decode prog_36_method_6_code 25 = .ok (.if_acmp .ne 17, 3) := by decide +kernel
theorem d2_42 : decode prog_36_method_6_code 42 = .ok (.getstatic 10, 3) := by decide +kernel
theorem d2_45 : decode prog_36_method_6_code 45 = .ok (.astore_n 2, 1) := by decide +kernel
def Q_rm2_3 (Z : State) (w1 : Addr) (w2 : Addr) (w5 : Addr) (h0 : Heap) (n0 : Nat) (v : Option Value) (h : Heap) (L : List Loc) : Prop := v = some (.ref w1) ∧ Fr n0 L ∧ h = h0
set_option maxRecDepth 65536 in
set_option maxHeartbeats 40000000 in
theorem rm2_3 (l : Launch) (Z : State) (a0 : Array Value) (hw : ∀ d ∈ tables_1, d.before a0 Z = true) (ws : List Jvm.Cond) (w1 : Addr) (w2 : Addr) (w5 : Addr) (h0 : Heap) (n0 : Nat) (OL0 : Old Z n0 h0) (pr1 : Sta Z Z.heap "com/example/rowforge/rowforge/Truth" "FALSE" "Lcom/example/rowforge/rowforge/Truth;" (.ref w2)) (pr2 : w1 ≠ w2) (pr3 : Sta Z Z.heap "com/example/rowforge/rowforge/Truth" "TRUE" "Lcom/example/rowforge/rowforge/Truth;" (.ref w5)) (pr4 : w1 ≠ w5) (pr5 : Sta Z Z.heap "com/example/rowforge/rowforge/Truth" "UNKNOWN" "Lcom/example/rowforge/rowforge/Truth;" (.ref w1)) :
    MetFree l (⟨"com/example/rowforge/rowforge/Truth", "and", "(Lcom/example/rowforge/rowforge/Truth;)Lcom/example/rowforge/rowforge/Truth;"⟩ : MethodName) (head1 (Jvm.Cond.code (⟨"com/example/rowforge/rowforge/Truth", "and", "(Lcom/example/rowforge/rowforge/Truth;)Lcom/example/rowforge/rowforge/Truth;"⟩ : MethodName) prog_36_method_6_code 3 (some (.object "com/example/rowforge/rowforge/Truth")) :: ws) ({ frames := 0, cells := 0, slots := 0, locals := 0 } : Room)) (fun a U => a = #[(.ref w1), (.ref w1)] ∧ Z.Warmed39 U.vm ∧ U.heap = h0) (fun _ _ _ _ _ => True) (fun _ U o U' => ∃ v L, o = .returned v ∧ Q_rm2_3 Z w1 w2 w5 h0 n0 v U'.heap L ∧ FrameEnd U o U' L ({ frames := 0, cells := 0, slots := 0, locals := 0 } : Room).cells ({ frames := 0, cells := 0, slots := 0, locals := 0 } : Room).slots) := by
  refine MetFree.of_bodySF (plainFor_of_name pn_1) hisR ?_
  intro p e s m args below meth c s₁ Bd hml0 hP hK
  obtain ⟨rfl, hZ, hh⟩ := hP
  have hx := Bd.exec
  have hby := Bd.bytes
  have hml : c.maxLocals = 3 := hml0
  have hown : s.vm.findClass "com/example/rowforge/rowforge/Truth" = some m.cls := findClass_of_methodNamed Bd.named
  have hnm := (name_of_methodNamed Bd.named Bd.method).1
  have X0 : Stand p l e ({ frames := 0, cells := 0, slots := 0, locals := 0 } : Room) s m #[(.ref w1), (.ref w1)] below meth c s₁ [] 0 0 := Stand.of_body Bd
  have e0 : s₁.heap = h0 := by rw [← hh, Bd.state]; rfl
  have N0 := Fr.nil n0
  have pre0 : ∀ t, Steps p.tables e below (s₁.setTop (mkF m 0 #[.val (.ref w1), .val (.ref w1), .unset] [])) t → Steps p.tables e below (s₁.setTop (entryFrame m #[(.ref w1), (.ref w1)] 3)) t := fun t k => castTop (ef_2_1 m w1 w1) k
  obtain ⟨T3, X3, e3, st3⟩ := getS2 X0 hx hZ hown (host := "") (Or.inl (wd13 hw)) Via.refl e0 (pr1.ext OL0.2) (g := (mkF m 1 #[.val (.ref w1), .val (.ref w1), .unset] [(.ref w1)])) rfl (hb hby d2_1)
  obtain ⟨T4, X4, e4, st4⟩ := getS2 X3 hx hZ hown (host := "") (Or.inl (wd13 hw)) Via.refl e3 (pr1.ext OL0.2) (g := (mkF m 8 #[.val (.ref w1), .val (.ref w1), .unset] [(.ref w1)])) rfl (hb hby d2_8)
  obtain ⟨T6, X6, e6, st6⟩ := getS2 X4 hx hZ hown (host := "") (Or.inl (wd25 hw)) Via.refl e4 (pr3.ext OL0.2) (g := (mkF m 22 #[.val (.ref w1), .val (.ref w1), .unset] [(.ref w1)])) rfl (hb hby d2_22)
  obtain ⟨T7, X7, e7, st7⟩ := getS2 X6 hx hZ hown (host := "") (Or.inl (wd26 hw)) Via.refl e6 (pr5.ext OL0.2) (g := (mkF m 42 #[.val (.ref w1), .val (.ref w1), .unset] [])) rfl (hb hby d2_42)
  obtain ⟨fs, hr, hrun, hended, hW, hsame⟩ := X7.leave (v := some (.ref w1)) (fun h => by rw [Bd.returns] at h; cases h)
  refine ⟨_, _, pre0 _ ?_, hrun, hended, _, _, rfl, ?_, ⟨_, rfl⟩, hW, hsame.mono (by decide) (by decide)⟩
  · show Steps p.tables e below (s₁.setTop (mkF m 0 #[.val (.ref w1), .val (.ref w1), .unset] [])) _
    refine XS.aloadN X0.here hx rfl (hb hby d2_0) rfl rfl ?_
    show Steps p.tables e below (s₁.setTop (mkF m 1 #[.val (.ref w1), .val (.ref w1), .unset] [(.ref w1)])) _
    refine st3 _ ?_
    show Steps p.tables e below (T3.setTop (mkF m 4 #[.val (.ref w1), .val (.ref w1), .unset] [(.ref w2), (.ref w1)])) _
    refine Jvm.RoadKit.acmp (g := (mkF m 4 #[.val (.ref w1), .val (.ref w1), .unset] [(.ref w2), (.ref w1)])) X3 hx rfl rfl rfl (pc0 := 4) (pc' := 7) (same := false) rfl (hb hby d2_4) rfl (decide_eq_false fun q => pr2 (Value.ref.inj q)) (by decide) (by decide) ?_
    show Steps p.tables e below (T3.setTop (mkF m 7 #[.val (.ref w1), .val (.ref w1), .unset] [])) _
    refine XS.aloadN X3.here hx rfl (hb hby d2_7) rfl rfl ?_
    show Steps p.tables e below (T3.setTop (mkF m 8 #[.val (.ref w1), .val (.ref w1), .unset] [(.ref w1)])) _
    refine st4 _ ?_
    show Steps p.tables e below (T4.setTop (mkF m 11 #[.val (.ref w1), .val (.ref w1), .unset] [(.ref w2), (.ref w1)])) _
    refine Jvm.RoadKit.acmp (g := (mkF m 11 #[.val (.ref w1), .val (.ref w1), .unset] [(.ref w2), (.ref w1)])) X4 hx rfl rfl rfl (pc0 := 11) (pc' := 21) (same := false) rfl (hb hby d2_11) rfl (decide_eq_false fun q => pr2 (Value.ref.inj q)) (by decide) (by decide) ?_
    show Steps p.tables e below (T4.setTop (mkF m 21 #[.val (.ref w1), .val (.ref w1), .unset] [])) _
    refine XS.aloadN X4.here hx rfl (hb hby d2_21) rfl rfl ?_
    show Steps p.tables e below (T4.setTop (mkF m 22 #[.val (.ref w1), .val (.ref w1), .unset] [(.ref w1)])) _
    refine st6 _ ?_
    show Steps p.tables e below (T6.setTop (mkF m 25 #[.val (.ref w1), .val (.ref w1), .unset] [(.ref w5), (.ref w1)])) _
    refine Jvm.RoadKit.acmp (g := (mkF m 25 #[.val (.ref w1), .val (.ref w1), .unset] [(.ref w5), (.ref w1)])) X6 hx rfl rfl rfl (pc0 := 25) (pc' := 42) (same := false) rfl (hb hby d2_25) rfl (decide_eq_false fun q => pr4 (Value.ref.inj q)) (by decide) (by decide) ?_
    show Steps p.tables e below (T6.setTop (mkF m 42 #[.val (.ref w1), .val (.ref w1), .unset] [])) _
    refine st7 _ ?_
    show Steps p.tables e below (T7.setTop (mkF m 45 #[.val (.ref w1), .val (.ref w1), .unset] [(.ref w1)])) _
    refine XS.astoreN X7.here hx rfl (hb hby d2_45) rfl rfl (l' := #[.val (.ref w1), .val (.ref w1), .val (.ref w1)]) rfl ?_
    show Steps p.tables e below (T7.setTop (mkF m 46 #[.val (.ref w1), .val (.ref w1), .val (.ref w1)] [])) _
    refine XS.aloadN X7.here hx rfl (hb hby d2_46) rfl rfl ?_
    show Steps p.tables e below (T7.setTop (mkF m 47 #[.val (.ref w1), .val (.ref w1), .val (.ref w1)] [(.ref w1)])) _
    jvm_step X7.here [X7.here.top, hx, (hb hby d2_47), X7.method', Bd.returns, Value.isRef, FieldType.isReference]
    first | (intro acts; rw [hr _ acts rfl rfl rfl]) | rw [hr _ _ rfl rfl rfl]
    exact Steps.refl _
  · show Q_rm2_3 Z w1 w2 w5 h0 n0 _ T7.heap _
    rw [e7]
    exact ⟨rfl, N0, rfl⟩
theorem ef_4_8 (m : MethodId)  : entryFrame m #[(.int (1 : Int32)), (.int (1 : Int32))] 2 = mkF m 0 #[.val (.int (1 : Int32)), .val (.int (1 : Int32))] [] := by first | (simp [entryFrame, mkF, argsToLocals, Value.category]; done) | rfl
def Q_rm4_4 (Z : State)  (h0 : Heap) (n0 : Nat) (v : Option Value) (h : Heap) (L : List Loc) : Prop := v = some (.int (1 : Int32)) ∧ Fr n0 L ∧ h = h0
set_option maxRecDepth 65536 in
set_option maxHeartbeats 40000000 in
theorem rm4_4 (l : Launch) (Z : State) (a0 : Array Value) (hw : ∀ d ∈ tables_1, d.before a0 Z = true) (ws : List Jvm.Cond)  (h0 : Heap) (n0 : Nat) (OL0 : Old Z n0 h0)  :
    MetFree l (⟨"java/lang/Math", "min", "(II)I"⟩ : MethodName) (head1 (Jvm.Cond.code (⟨"java/lang/Math", "min", "(II)I"⟩ : MethodName) jdk_29_method_69_code 2 (some .int) :: ws) ({ frames := 0, cells := 0, slots := 0, locals := 0 } : Room)) (fun a U => a = #[(.int (1 : Int32)), (.int (1 : Int32))] ∧ Z.Warmed39 U.vm ∧ U.heap = h0) (fun _ _ _ _ _ => True) (fun _ U o U' => ∃ v L, o = .returned v ∧ Q_rm4_4 Z  h0 n0 v U'.heap L ∧ FrameEnd U o U' L ({ frames := 0, cells := 0, slots := 0, locals := 0 } : Room).cells ({ frames := 0, cells := 0, slots := 0, locals := 0 } : Room).slots) := by
  refine MetFree.of_bodySF (Jvm.Free.JP.mathPlain rfl (by decide +kernel)) hisR ?_
  intro p e s m args below meth c s₁ Bd hml0 hP hK
  obtain ⟨rfl, hZ, hh⟩ := hP
  have hx := Bd.exec
  have hby := Bd.bytes
  have hml : c.maxLocals = 2 := hml0
  have hown : s.vm.findClass "java/lang/Math" = some m.cls := findClass_of_methodNamed Bd.named
  have hnm := (name_of_methodNamed Bd.named Bd.method).1
  have X0 : Stand p l e ({ frames := 0, cells := 0, slots := 0, locals := 0 } : Room) s m #[(.int (1 : Int32)), (.int (1 : Int32))] below meth c s₁ [] 0 0 := Stand.of_body Bd
  have e0 : s₁.heap = h0 := by rw [← hh, Bd.state]; rfl
  have N0 := Fr.nil n0
  have pre0 : ∀ t, Steps p.tables e below (s₁.setTop (mkF m 0 #[.val (.int (1 : Int32)), .val (.int (1 : Int32))] [])) t → Steps p.tables e below (s₁.setTop (entryFrame m #[(.int (1 : Int32)), (.int (1 : Int32))] 2)) t := fun t k => castTop (ef_4_8 m ) k
  obtain ⟨fs, hr, hrun, hended, hW, hsame⟩ := X0.leave (v := some (.int (1 : Int32))) (fun h => by rw [Bd.returns] at h; cases h)
  refine ⟨_, _, pre0 _ ?_, hrun, hended, _, _, rfl, ?_, ⟨_, rfl⟩, hW, hsame.mono (by decide) (by decide)⟩
  · show Steps p.tables e below (s₁.setTop (mkF m 0 #[.val (.int (1 : Int32)), .val (.int (1 : Int32))] [])) _
    refine XS.iloadN X0.here hx rfl (hb hby d4_0) rfl ?_
    show Steps p.tables e below (s₁.setTop (mkF m 1 #[.val (.int (1 : Int32)), .val (.int (1 : Int32))] [(.int (1 : Int32))])) _
    refine XS.iloadN X0.here hx rfl (hb hby d4_1) rfl ?_
    show Steps p.tables e below (s₁.setTop (mkF m 2 #[.val (.int (1 : Int32)), .val (.int (1 : Int32))] [(.int (1 : Int32)), (.int (1 : Int32))])) _
    refine XS.icmpNo X0.here hx rfl (hb hby d4_2) rfl (flt (by decide : ¬ ((1 : Int32) < (1 : Int32)))).2.2.1 ?_
    show Steps p.tables e below (s₁.setTop (mkF m 5 #[.val (.int (1 : Int32)), .val (.int (1 : Int32))] [])) _
    refine XS.iloadN X0.here hx rfl (hb hby d4_5) rfl ?_
    show Steps p.tables e below (s₁.setTop (mkF m 6 #[.val (.int (1 : Int32)), .val (.int (1 : Int32))] [(.int (1 : Int32))])) _
    refine XS.goto X0.here hx rfl (pc0 := 6) (pc' := 10) rfl (hb hby d4_6) (by decide) (by decide) ?_
    show Steps p.tables e below (s₁.setTop (mkF m 10 #[.val (.int (1 : Int32)), .val (.int (1 : Int32))] [(.int (1 : Int32))])) _
    exact retI X0 hx Bd.returns (hb hby d4_10) hr
  · show Q_rm4_4 Z  h0 n0 _ s₁.heap _
    rw [e0]
    exact ⟨rfl, N0, rfl⟩
set_option maxRecDepth 65536 in
set_option maxHeartbeats 40000000 in
theorem rm0_1_1 (l : Launch) (Z : State) (a0 : Array Value) (hw : ∀ d ∈ tables_1, d.before a0 Z = true) (ws : List Jvm.Cond) (p1 : Int32) (p2 : Int32) (w_UNKNOWN : Addr) (w_FALSE : Addr) (w_TRUE : Addr) (h0 : Heap) (n0 : Nat) (OL0 : Old Z n0 h0) (pr1 : ((p1 &&& (2147483647 : Int32)) % (3 : Int32)) = (1 : Int32)) (pr2 : Sta Z Z.heap "com/example/rowforge/rowforge/Truth" "UNKNOWN" "Lcom/example/rowforge/rowforge/Truth;" (.ref w_UNKNOWN)) (pr3 : ((p2 &&& (2147483647 : Int32)) % (3 : Int32)) = (1 : Int32)) (pr4 : Sta Z Z.heap "com/example/rowforge/rowforge/Truth" "FALSE" "Lcom/example/rowforge/rowforge/Truth;" (.ref w_FALSE)) (pr5 : w_UNKNOWN ≠ w_FALSE) (pr6 : Sta Z Z.heap "com/example/rowforge/rowforge/Truth" "TRUE" "Lcom/example/rowforge/rowforge/Truth;" (.ref w_TRUE)) (pr7 : w_UNKNOWN ≠ w_TRUE) (pr8 : Exa Z Z.heap w_UNKNOWN "com/example/rowforge/rowforge/Truth") :
    MetFree l x (head1 (Jvm.Cond.code x code maxLocals ret :: ws) room_1) (fun a U => a = #[(.int p1), (.int p2)] ∧ Z.Warmed39 U.vm ∧ U.heap = h0) (fun _ _ _ _ _ => True) (fun _ U o U' => ∃ v L, o = .returned v ∧ Q0 n0 v L ∧ FrameEnd U o U' L 0 0) := by
  refine MetFree.of_bodySF (plainFor_of_name pn_0) hisR ?_
  intro p e s m args below meth c s₁ Bd hml0 hP hK
  obtain ⟨rfl, hZ, hh⟩ := hP
  have hx := Bd.exec
  have hby := Bd.bytes
  have hml : c.maxLocals = 5 := hml0
  have hown : s.vm.findClass "com/example/rowforge/rowforge/TruthAndPinLaw" = some m.cls := findClass_of_methodNamed Bd.named
  have hnm := (name_of_methodNamed Bd.named Bd.method).1
  have X0 : Stand p l e room_1 s m #[(.int p1), (.int p2)] below meth c s₁ [] 0 0 := Stand.of_body Bd
  have e0 : s₁.heap = h0 := by rw [← hh, Bd.state]; rfl
  have N0 := Fr.nil n0
  have pre0 : ∀ t, Steps p.tables e below (s₁.setTop (mkF m 0 #[.val (.int p1), .val (.int p2), .unset, .unset, .unset] [])) t → Steps p.tables e below (s₁.setTop (entryFrame m #[(.int p1), (.int p2)] maxLocals)) t := fun t k => castTop (ef_0_4 m p1 p2) k
  obtain ⟨_, _, ⟨T1, L1, k1, n1⟩, -, X1, ⟨Lc1, hQ1, l1, y1, z1⟩, st1⟩ := Jvm.LawKit.callS X0 hx (y := (⟨"com/example/rowforge/rowforge/TruthAndPinLaw", "pick", "(I)Lcom/example/rowforge/rowforge/Truth;"⟩ : MethodName)) hown (mvT hZ (wd0 hw)) (mvT hZ (wd1 hw)) (mvT hZ (wd2 hw)) (mvT hZ (wd3 hw)) (by decide) (backOf (W := 0) (rm1_1 l Z a0 hw [] p1 w_UNKNOWN h0 n0 OL0 pr1 pr2) hZ (wd3 hw) (wd2 hw) (by decide) (by decide)) (g := (mkF m 1 #[.val (.int p1), .val (.int p2), .unset, .unset, .unset] [(.int p1)])) rfl (by rw [hml]; rfl) (argsL := [(.int p1)]) (rest := []) (lenOf pd_0 rfl) rfl (by show 2 * 0 + _ ≤ _; exact Nat.le_of_eq rfl) (hb hby at_1) (fun _ _ => ⟨rfl, e0, (by decide : 0 + 0 ≤ _), (by decide : 0 + 0 ≤ _)⟩)
  dsimp only [Pt.U, Pt.locs, Pt.cells, Pt.slots] at X1 l1 y1 z1 st1 hQ1
  subst l1 y1 z1
  obtain ⟨rfl, Nq1, ec1⟩ := hQ1
  have N1 := Fr.app N0 Nq1
  obtain ⟨_, _, ⟨T2, L2, k2, n2⟩, -, X2, ⟨Lc2, hQ2, l2, y2, z2⟩, st2⟩ := Jvm.LawKit.callS X1 hx (y := (⟨"com/example/rowforge/rowforge/TruthAndPinLaw", "pick", "(I)Lcom/example/rowforge/rowforge/Truth;"⟩ : MethodName)) hown (mvT hZ (wd0 hw)) (mvT hZ (wd1 hw)) (mvT hZ (wd2 hw)) (mvT hZ (wd3 hw)) (by decide) (backOf (W := 0) (rm1_1 l Z a0 hw [] p2 w_UNKNOWN h0 n0 OL0 pr3 pr2) hZ (wd3 hw) (wd2 hw) (by decide) (by decide)) (g := (mkF m 6 #[.val (.int p1), .val (.int p2), .val (.ref w_UNKNOWN), .unset, .unset] [(.int p2)])) rfl (by rw [hml]; rfl) (argsL := [(.int p2)]) (rest := []) (lenOf pd_0 rfl) rfl (by show 2 * 0 + _ ≤ _; exact Nat.le_of_eq rfl) (hb hby at_6) (fun _ _ => ⟨rfl, ec1, (by decide : 0 + 0 ≤ _), (by decide : 0 + 0 ≤ _)⟩)
  dsimp only [Pt.U, Pt.locs, Pt.cells, Pt.slots] at X2 l2 y2 z2 st2 hQ2
  subst l2 y2 z2
  obtain ⟨rfl, Nq2, ec2⟩ := hQ2
  have N2 := Fr.app N1 Nq2
  obtain ⟨cq3, kq3, q3a, q3b, q3c⟩ := isOf hZ ec2 (pr8.ext OL0.2)
  obtain ⟨_, _, ⟨T3, L3, k3, n3⟩, -, X3, ⟨Lc3, hQ3, l3, y3, z3⟩, st3⟩ := X2.virtualBack hx (y := (⟨"com/example/rowforge/rowforge/Truth", "and", "(Lcom/example/rowforge/rowforge/Truth;)Lcom/example/rowforge/rowforge/Truth;"⟩ : MethodName)) (z := (⟨"com/example/rowforge/rowforge/Truth", "and", "(Lcom/example/rowforge/rowforge/Truth;)Lcom/example/rowforge/rowforge/Truth;"⟩ : MethodName)) hown (mvT hZ (wd8 hw)) (mvT hZ (wd9 hw)) (notFace_of_selects (args := #[]) (mvT hZ (wd11 hw))) (mvT hZ (wd11 hw)) (mvT hZ (wd10 hw)) (by decide) (backOf (W := 0) (rm2_3 l Z a0 hw [] w_UNKNOWN w_FALSE w_TRUE h0 n0 OL0 pr4 pr5 pr6 pr7 pr2) hZ (wd12 hw) (wd6 hw) (by decide) (by decide)) q3a q3c (g := (mkF m 12 #[.val (.int p1), .val (.int p2), .val (.ref w_UNKNOWN), .val (.ref w_UNKNOWN), .unset] [(.ref w_UNKNOWN), (.ref w_UNKNOWN)])) rfl (by rw [hml]; rfl) (Steps.refl _) (argsL := [(.ref w_UNKNOWN)]) (rest := []) (lenOf pd_1 rfl) rfl (by show 2 * 0 + _ ≤ _; exact Nat.le_of_eq rfl) (hb hby at_12) (fun _ _ => ⟨rfl, ec2, (by decide : 0 + 0 ≤ _), (by decide : 0 + 0 ≤ _)⟩)
  dsimp only [Pt.U, Pt.locs, Pt.cells, Pt.slots] at X3 l3 y3 z3 st3 hQ3
  subst l3 y3 z3
  obtain ⟨rfl, Nq3, ec3⟩ := hQ3
  have N3 := Fr.app N2 Nq3
  obtain ⟨_, _, ⟨T4, L4, k4, n4⟩, -, X4, ⟨Lc4, hQ4, l4, y4, z4⟩, st4⟩ := Jvm.LawKit.callS X3 hx (y := (⟨"com/example/rowforge/rowforge/TruthAndPinLaw", "rank", "(Lcom/example/rowforge/rowforge/Truth;)I"⟩ : MethodName)) hown (mvT hZ (wd14 hw)) (mvT hZ (wd15 hw)) (mvT hZ (wd2 hw)) (mvT hZ (wd16 hw)) (by decide) (backOf (W := 0) (rm3_1 l Z a0 hw [] w_UNKNOWN w_FALSE h0 n0 OL0 pr4 pr5 pr2) hZ (wd16 hw) (wd2 hw) (by decide) (by decide)) (g := (mkF m 19 #[.val (.int p1), .val (.int p2), .val (.ref w_UNKNOWN), .val (.ref w_UNKNOWN), .val (.ref w_UNKNOWN)] [(.ref w_UNKNOWN)])) rfl (by rw [hml]; rfl) (argsL := [(.ref w_UNKNOWN)]) (rest := []) (lenOf pd_2 rfl) rfl (by show 2 * 0 + _ ≤ _; exact Nat.le_of_eq rfl) (hb hby at_19) (fun _ _ => ⟨rfl, ec3, (by decide : 0 + 0 ≤ _), (by decide : 0 + 0 ≤ _)⟩)
  dsimp only [Pt.U, Pt.locs, Pt.cells, Pt.slots] at X4 l4 y4 z4 st4 hQ4
  subst l4 y4 z4
  obtain ⟨rfl, Nq4, ec4⟩ := hQ4
  have N4 := Fr.app N3 Nq4
  obtain ⟨_, _, ⟨T5, L5, k5, n5⟩, -, X5, ⟨Lc5, hQ5, l5, y5, z5⟩, st5⟩ := Jvm.LawKit.callS X4 hx (y := (⟨"com/example/rowforge/rowforge/TruthAndPinLaw", "rank", "(Lcom/example/rowforge/rowforge/Truth;)I"⟩ : MethodName)) hown (mvT hZ (wd14 hw)) (mvT hZ (wd15 hw)) (mvT hZ (wd2 hw)) (mvT hZ (wd16 hw)) (by decide) (backOf (W := 1) (rm3_1 l Z a0 hw [] w_UNKNOWN w_FALSE h0 n0 OL0 pr4 pr5 pr2) hZ (wd16 hw) (wd2 hw) (by decide) (by decide)) (g := (mkF m 23 #[.val (.int p1), .val (.int p2), .val (.ref w_UNKNOWN), .val (.ref w_UNKNOWN), .val (.ref w_UNKNOWN)] [(.ref w_UNKNOWN), (.int (1 : Int32))])) rfl (by rw [hml]; rfl) (argsL := [(.ref w_UNKNOWN)]) (rest := [(.int (1 : Int32))]) (lenOf pd_2 rfl) rfl (by show 2 * 0 + _ ≤ _; exact Nat.le_of_eq rfl) (hb hby at_23) (fun _ _ => ⟨rfl, ec4, (by decide : 0 + 0 ≤ _), (by decide : 0 + 0 ≤ _)⟩)
  dsimp only [Pt.U, Pt.locs, Pt.cells, Pt.slots] at X5 l5 y5 z5 st5 hQ5
  subst l5 y5 z5
  obtain ⟨rfl, Nq5, ec5⟩ := hQ5
  have N5 := Fr.app N4 Nq5
  obtain ⟨_, _, ⟨T6, L6, k6, n6⟩, -, X6, ⟨Lc6, hQ6, l6, y6, z6⟩, st6⟩ := Jvm.LawKit.callS X5 hx (y := (⟨"com/example/rowforge/rowforge/TruthAndPinLaw", "rank", "(Lcom/example/rowforge/rowforge/Truth;)I"⟩ : MethodName)) hown (mvT hZ (wd14 hw)) (mvT hZ (wd15 hw)) (mvT hZ (wd2 hw)) (mvT hZ (wd16 hw)) (by decide) (backOf (W := 2) (rm3_1 l Z a0 hw [] w_UNKNOWN w_FALSE h0 n0 OL0 pr4 pr5 pr2) hZ (wd16 hw) (wd2 hw) (by decide) (by decide)) (g := (mkF m 27 #[.val (.int p1), .val (.int p2), .val (.ref w_UNKNOWN), .val (.ref w_UNKNOWN), .val (.ref w_UNKNOWN)] [(.ref w_UNKNOWN), (.int (1 : Int32)), (.int (1 : Int32))])) rfl (by rw [hml]; rfl) (argsL := [(.ref w_UNKNOWN)]) (rest := [(.int (1 : Int32)), (.int (1 : Int32))]) (lenOf pd_2 rfl) rfl (by show 2 * 0 + _ ≤ _; exact Nat.le_of_eq rfl) (hb hby at_27) (fun _ _ => ⟨rfl, ec5, (by decide : 0 + 0 ≤ _), (by decide : 0 + 0 ≤ _)⟩)
  dsimp only [Pt.U, Pt.locs, Pt.cells, Pt.slots] at X6 l6 y6 z6 st6 hQ6
  subst l6 y6 z6
  obtain ⟨rfl, Nq6, ec6⟩ := hQ6
  have N6 := Fr.app N5 Nq6
  obtain ⟨_, _, ⟨T7, L7, k7, n7⟩, -, X7, ⟨Lc7, hQ7, l7, y7, z7⟩, st7⟩ := Jvm.LawKit.callS X6 hx (y := (⟨"java/lang/Math", "min", "(II)I"⟩ : MethodName)) hown (mvT hZ (wd17 hw)) (mvT hZ (wd18 hw)) (mvT hZ (wd19 hw)) (mvT hZ (wd20 hw)) (by decide) (backOf (W := 1) (rm4_4 l Z a0 hw []  h0 n0 OL0 ) hZ (wd20 hw) (wd19 hw) (by decide) (by decide)) (g := (mkF m 30 #[.val (.int p1), .val (.int p2), .val (.ref w_UNKNOWN), .val (.ref w_UNKNOWN), .val (.ref w_UNKNOWN)] [(.int (1 : Int32)), (.int (1 : Int32)), (.int (1 : Int32))])) rfl (by rw [hml]; rfl) (argsL := [(.int (1 : Int32)), (.int (1 : Int32))]) (rest := [(.int (1 : Int32))]) (lenOf pd_3 rfl) rfl (by show 2 * 0 + _ ≤ _; exact Nat.le_of_eq rfl) (hb hby at_30) (fun _ _ => ⟨rfl, ec6, (by decide : 0 + 0 ≤ _), (by decide : 0 + 0 ≤ _)⟩)
  dsimp only [Pt.U, Pt.locs, Pt.cells, Pt.slots] at X7 l7 y7 z7 st7 hQ7
  subst l7 y7 z7
  obtain ⟨rfl, Nq7, ec7⟩ := hQ7
  have N7 := Fr.app N6 Nq7
  obtain ⟨fs, hr, hrun, hended, hW, hsame⟩ := X7.leave (v := some (.int (1 : Int32))) (fun h => by rw [Bd.returns] at h; cases h)
  refine ⟨_, _, pre0 _ ?_, hrun, hended, _, _, rfl, ?_, ⟨_, rfl⟩, hW, hsame.mono (by decide) (by decide)⟩
  · show Steps p.tables e below (s₁.setTop (mkF m 0 #[.val (.int p1), .val (.int p2), .unset, .unset, .unset] [])) _
    refine XS.iloadN X0.here hx rfl (hb hby at_0) rfl ?_
    show Steps p.tables e below (s₁.setTop (mkF m 1 #[.val (.int p1), .val (.int p2), .unset, .unset, .unset] [(.int p1)])) _
    refine st1 _ ?_
    show Steps p.tables e below (T1.setTop (mkF m 4 #[.val (.int p1), .val (.int p2), .unset, .unset, .unset] [(.ref w_UNKNOWN)])) _
    refine XS.astoreN X1.here hx rfl (hb hby at_4) rfl rfl (l' := #[.val (.int p1), .val (.int p2), .val (.ref w_UNKNOWN), .unset, .unset]) rfl ?_
    show Steps p.tables e below (T1.setTop (mkF m 5 #[.val (.int p1), .val (.int p2), .val (.ref w_UNKNOWN), .unset, .unset] [])) _
    refine XS.iloadN X1.here hx rfl (hb hby at_5) rfl ?_
    show Steps p.tables e below (T1.setTop (mkF m 6 #[.val (.int p1), .val (.int p2), .val (.ref w_UNKNOWN), .unset, .unset] [(.int p2)])) _
    refine st2 _ ?_
    show Steps p.tables e below (T2.setTop (mkF m 9 #[.val (.int p1), .val (.int p2), .val (.ref w_UNKNOWN), .unset, .unset] [(.ref w_UNKNOWN)])) _
    refine XS.astoreN X2.here hx rfl (hb hby at_9) rfl rfl (l' := #[.val (.int p1), .val (.int p2), .val (.ref w_UNKNOWN), .val (.ref w_UNKNOWN), .unset]) rfl ?_
    show Steps p.tables e below (T2.setTop (mkF m 10 #[.val (.int p1), .val (.int p2), .val (.ref w_UNKNOWN), .val (.ref w_UNKNOWN), .unset] [])) _
    refine XS.aloadN X2.here hx rfl (hb hby at_10) rfl rfl ?_
    show Steps p.tables e below (T2.setTop (mkF m 11 #[.val (.int p1), .val (.int p2), .val (.ref w_UNKNOWN), .val (.ref w_UNKNOWN), .unset] [(.ref w_UNKNOWN)])) _
    refine XS.aloadN X2.here hx rfl (hb hby at_11) rfl rfl ?_
    show Steps p.tables e below (T2.setTop (mkF m 12 #[.val (.int p1), .val (.int p2), .val (.ref w_UNKNOWN), .val (.ref w_UNKNOWN), .unset] [(.ref w_UNKNOWN), (.ref w_UNKNOWN)])) _
    refine st3.trans ?_
    show Steps p.tables e below (T3.setTop (mkF m 15 #[.val (.int p1), .val (.int p2), .val (.ref w_UNKNOWN), .val (.ref w_UNKNOWN), .unset] [(.ref w_UNKNOWN)])) _
    refine XS.astore X3.here hx rfl (hb hby at_15) rfl rfl (l' := #[.val (.int p1), .val (.int p2), .val (.ref w_UNKNOWN), .val (.ref w_UNKNOWN), .val (.ref w_UNKNOWN)]) rfl ?_
    show Steps p.tables e below (T3.setTop (mkF m 17 #[.val (.int p1), .val (.int p2), .val (.ref w_UNKNOWN), .val (.ref w_UNKNOWN), .val (.ref w_UNKNOWN)] [])) _
    refine XS.aload X3.here hx rfl (hb hby at_17) rfl rfl ?_
    show Steps p.tables e below (T3.setTop (mkF m 19 #[.val (.int p1), .val (.int p2), .val (.ref w_UNKNOWN), .val (.ref w_UNKNOWN), .val (.ref w_UNKNOWN)] [(.ref w_UNKNOWN)])) _
    refine st4 _ ?_
    show Steps p.tables e below (T4.setTop (mkF m 22 #[.val (.int p1), .val (.int p2), .val (.ref w_UNKNOWN), .val (.ref w_UNKNOWN), .val (.ref w_UNKNOWN)] [(.int (1 : Int32))])) _
    refine XS.aloadN X4.here hx rfl (hb hby at_22) rfl rfl ?_
    show Steps p.tables e below (T4.setTop (mkF m 23 #[.val (.int p1), .val (.int p2), .val (.ref w_UNKNOWN), .val (.ref w_UNKNOWN), .val (.ref w_UNKNOWN)] [(.ref w_UNKNOWN), (.int (1 : Int32))])) _
    refine st5 _ ?_
    show Steps p.tables e below (T5.setTop (mkF m 26 #[.val (.int p1), .val (.int p2), .val (.ref w_UNKNOWN), .val (.ref w_UNKNOWN), .val (.ref w_UNKNOWN)] [(.int (1 : Int32)), (.int (1 : Int32))])) _
    refine XS.aloadN X5.here hx rfl (hb hby at_26) rfl rfl ?_
    show Steps p.tables e below (T5.setTop (mkF m 27 #[.val (.int p1), .val (.int p2), .val (.ref w_UNKNOWN), .val (.ref w_UNKNOWN), .val (.ref w_UNKNOWN)] [(.ref w_UNKNOWN), (.int (1 : Int32)), (.int (1 : Int32))])) _
    refine st6 _ ?_
    show Steps p.tables e below (T6.setTop (mkF m 30 #[.val (.int p1), .val (.int p2), .val (.ref w_UNKNOWN), .val (.ref w_UNKNOWN), .val (.ref w_UNKNOWN)] [(.int (1 : Int32)), (.int (1 : Int32)), (.int (1 : Int32))])) _
    refine st7 _ ?_
    show Steps p.tables e below (T7.setTop (mkF m 33 #[.val (.int p1), .val (.int p2), .val (.ref w_UNKNOWN), .val (.ref w_UNKNOWN), .val (.ref w_UNKNOWN)] [(.int (1 : Int32)), (.int (1 : Int32))])) _
    refine XS.icmpNo X7.here hx rfl (hb hby at_33) rfl (teq (rfl : (1 : Int32) = (1 : Int32))).2 ?_
    show Steps p.tables e below (T7.setTop (mkF m 36 #[.val (.int p1), .val (.int p2), .val (.ref w_UNKNOWN), .val (.ref w_UNKNOWN), .val (.ref w_UNKNOWN)] [])) _
    refine XS.iconst X7.here hx rfl (hb hby at_36) ?_
    show Steps p.tables e below (T7.setTop (mkF m 37 #[.val (.int p1), .val (.int p2), .val (.ref w_UNKNOWN), .val (.ref w_UNKNOWN), .val (.ref w_UNKNOWN)] [(.int (1 : Int32))])) _
    refine XS.goto X7.here hx rfl (pc0 := 37) (pc' := 41) rfl (hb hby at_37) (by decide) (by decide) ?_
    show Steps p.tables e below (T7.setTop (mkF m 41 #[.val (.int p1), .val (.int p2), .val (.ref w_UNKNOWN), .val (.ref w_UNKNOWN), .val (.ref w_UNKNOWN)] [(.int (1 : Int32))])) _
    exact retN X7 hx (t := .boolean) Bd.returns (by simp) (hb hby at_41) hr
  · exact ⟨rfl, N7⟩
def Q_rm2_4 (Z : State) (w1 : Addr) (w2 : Addr) (w3 : Addr) (h0 : Heap) (n0 : Nat) (v : Option Value) (h : Heap) (L : List Loc) : Prop := v = some (.ref w1) ∧ Fr n0 L ∧ h = h0
set_option maxRecDepth 65536 in
set_option maxHeartbeats 40000000 in
theorem rm2_4 (l : Launch) (Z : State) (a0 : Array Value) (hw : ∀ d ∈ tables_1, d.before a0 Z = true) (ws : List Jvm.Cond) (w1 : Addr) (w2 : Addr) (w3 : Addr) (h0 : Heap) (n0 : Nat) (OL0 : Old Z n0 h0) (pr1 : Sta Z Z.heap "com/example/rowforge/rowforge/Truth" "FALSE" "Lcom/example/rowforge/rowforge/Truth;" (.ref w3)) (pr2 : w1 ≠ w3) (pr3 : w2 ≠ w3) (pr4 : Sta Z Z.heap "com/example/rowforge/rowforge/Truth" "TRUE" "Lcom/example/rowforge/rowforge/Truth;" (.ref w2)) (pr5 : w1 ≠ w2) (pr6 : Sta Z Z.heap "com/example/rowforge/rowforge/Truth" "UNKNOWN" "Lcom/example/rowforge/rowforge/Truth;" (.ref w1)) :
    MetFree l (⟨"com/example/rowforge/rowforge/Truth", "and", "(Lcom/example/rowforge/rowforge/Truth;)Lcom/example/rowforge/rowforge/Truth;"⟩ : MethodName) (head1 (Jvm.Cond.code (⟨"com/example/rowforge/rowforge/Truth", "and", "(Lcom/example/rowforge/rowforge/Truth;)Lcom/example/rowforge/rowforge/Truth;"⟩ : MethodName) prog_36_method_6_code 3 (some (.object "com/example/rowforge/rowforge/Truth")) :: ws) ({ frames := 0, cells := 0, slots := 0, locals := 0 } : Room)) (fun a U => a = #[(.ref w1), (.ref w2)] ∧ Z.Warmed39 U.vm ∧ U.heap = h0) (fun _ _ _ _ _ => True) (fun _ U o U' => ∃ v L, o = .returned v ∧ Q_rm2_4 Z w1 w2 w3 h0 n0 v U'.heap L ∧ FrameEnd U o U' L ({ frames := 0, cells := 0, slots := 0, locals := 0 } : Room).cells ({ frames := 0, cells := 0, slots := 0, locals := 0 } : Room).slots) := by
  refine MetFree.of_bodySF (plainFor_of_name pn_1) hisR ?_
  intro p e s m args below meth c s₁ Bd hml0 hP hK
  obtain ⟨rfl, hZ, hh⟩ := hP
  have hx := Bd.exec
  have hby := Bd.bytes
  have hml : c.maxLocals = 3 := hml0
  have hown : s.vm.findClass "com/example/rowforge/rowforge/Truth" = some m.cls := findClass_of_methodNamed Bd.named
  have hnm := (name_of_methodNamed Bd.named Bd.method).1
  have X0 : Stand p l e ({ frames := 0, cells := 0, slots := 0, locals := 0 } : Room) s m #[(.ref w1), (.ref w2)] below meth c s₁ [] 0 0 := Stand.of_body Bd
  have e0 : s₁.heap = h0 := by rw [← hh, Bd.state]; rfl
  have N0 := Fr.nil n0
  have pre0 : ∀ t, Steps p.tables e below (s₁.setTop (mkF m 0 #[.val (.ref w1), .val (.ref w2), .unset] [])) t → Steps p.tables e below (s₁.setTop (entryFrame m #[(.ref w1), (.ref w2)] 3)) t := fun t k => castTop (ef_2_1 m w1 w2) k
  obtain ⟨T4, X4, e4, st4⟩ := getS2 X0 hx hZ hown (host := "") (Or.inl (wd13 hw)) Via.refl e0 (pr1.ext OL0.2) (g := (mkF m 1 #[.val (.ref w1), .val (.ref w2), .unset] [(.ref w1)])) rfl (hb hby d2_1)
  obtain ⟨T5, X5, e5, st5⟩ := getS2 X4 hx hZ hown (host := "") (Or.inl (wd13 hw)) Via.refl e4 (pr1.ext OL0.2) (g := (mkF m 8 #[.val (.ref w1), .val (.ref w2), .unset] [(.ref w2)])) rfl (hb hby d2_8)
  obtain ⟨T6, X6, e6, st6⟩ := getS2 X5 hx hZ hown (host := "") (Or.inl (wd25 hw)) Via.refl e5 (pr4.ext OL0.2) (g := (mkF m 22 #[.val (.ref w1), .val (.ref w2), .unset] [(.ref w1)])) rfl (hb hby d2_22)
  obtain ⟨T7, X7, e7, st7⟩ := getS2 X6 hx hZ hown (host := "") (Or.inl (wd26 hw)) Via.refl e6 (pr6.ext OL0.2) (g := (mkF m 42 #[.val (.ref w1), .val (.ref w2), .unset] [])) rfl (hb hby d2_42)
  obtain ⟨fs, hr, hrun, hended, hW, hsame⟩ := X7.leave (v := some (.ref w1)) (fun h => by rw [Bd.returns] at h; cases h)
  refine ⟨_, _, pre0 _ ?_, hrun, hended, _, _, rfl, ?_, ⟨_, rfl⟩, hW, hsame.mono (by decide) (by decide)⟩
  · show Steps p.tables e below (s₁.setTop (mkF m 0 #[.val (.ref w1), .val (.ref w2), .unset] [])) _
    refine XS.aloadN X0.here hx rfl (hb hby d2_0) rfl rfl ?_
    show Steps p.tables e below (s₁.setTop (mkF m 1 #[.val (.ref w1), .val (.ref w2), .unset] [(.ref w1)])) _
    refine st4 _ ?_
    show Steps p.tables e below (T4.setTop (mkF m 4 #[.val (.ref w1), .val (.ref w2), .unset] [(.ref w3), (.ref w1)])) _
    refine Jvm.RoadKit.acmp (g := (mkF m 4 #[.val (.ref w1), .val (.ref w2), .unset] [(.ref w3), (.ref w1)])) X4 hx rfl rfl rfl (pc0 := 4) (pc' := 7) (same := false) rfl (hb hby d2_4) rfl (decide_eq_false fun q => pr2 (Value.ref.inj q)) (by decide) (by decide) ?_
    show Steps p.tables e below (T4.setTop (mkF m 7 #[.val (.ref w1), .val (.ref w2), .unset] [])) _
    refine XS.aloadN X4.here hx rfl (hb hby d2_7) rfl rfl ?_
    show Steps p.tables e below (T4.setTop (mkF m 8 #[.val (.ref w1), .val (.ref w2), .unset] [(.ref w2)])) _
    refine st5 _ ?_
    show Steps p.tables e below (T5.setTop (mkF m 11 #[.val (.ref w1), .val (.ref w2), .unset] [(.ref w3), (.ref w2)])) _
    refine Jvm.RoadKit.acmp (g := (mkF m 11 #[.val (.ref w1), .val (.ref w2), .unset] [(.ref w3), (.ref w2)])) X5 hx rfl rfl rfl (pc0 := 11) (pc' := 21) (same := false) rfl (hb hby d2_11) rfl (decide_eq_false fun q => pr3 (Value.ref.inj q)) (by decide) (by decide) ?_
    show Steps p.tables e below (T5.setTop (mkF m 21 #[.val (.ref w1), .val (.ref w2), .unset] [])) _
    refine XS.aloadN X5.here hx rfl (hb hby d2_21) rfl rfl ?_
    show Steps p.tables e below (T5.setTop (mkF m 22 #[.val (.ref w1), .val (.ref w2), .unset] [(.ref w1)])) _
    refine st6 _ ?_
    show Steps p.tables e below (T6.setTop (mkF m 25 #[.val (.ref w1), .val (.ref w2), .unset] [(.ref w2), (.ref w1)])) _
    refine Jvm.RoadKit.acmp (g := (mkF m 25 #[.val (.ref w1), .val (.ref w2), .unset] [(.ref w2), (.ref w1)])) X6 hx rfl rfl rfl (pc0 := 25) (pc' := 42) (same := false) rfl (hb hby d2_25) rfl (decide_eq_false fun q => pr5 (Value.ref.inj q)) (by decide) (by decide) ?_
    show Steps p.tables e below (T6.setTop (mkF m 42 #[.val (.ref w1), .val (.ref w2), .unset] [])) _
    refine st7 _ ?_
    show Steps p.tables e below (T7.setTop (mkF m 45 #[.val (.ref w1), .val (.ref w2), .unset] [(.ref w1)])) _
    refine XS.astoreN X7.here hx rfl (hb hby d2_45) rfl rfl (l' := #[.val (.ref w1), .val (.ref w2), .val (.ref w1)]) rfl ?_
    show Steps p.tables e below (T7.setTop (mkF m 46 #[.val (.ref w1), .val (.ref w2), .val (.ref w1)] [])) _
    refine XS.aloadN X7.here hx rfl (hb hby d2_46) rfl rfl ?_
    show Steps p.tables e below (T7.setTop (mkF m 47 #[.val (.ref w1), .val (.ref w2), .val (.ref w1)] [(.ref w1)])) _
    jvm_step X7.here [X7.here.top, hx, (hb hby d2_47), X7.method', Bd.returns, Value.isRef, FieldType.isReference]
    first | (intro acts; rw [hr _ acts rfl rfl rfl]) | rw [hr _ _ rfl rfl rfl]
    exact Steps.refl _
  · show Q_rm2_4 Z w1 w2 w3 h0 n0 _ T7.heap _
    rw [e7]
    exact ⟨rfl, N0, rfl⟩
theorem ef_4_9 (m : MethodId)  : entryFrame m #[(.int (1 : Int32)), (.int (2 : Int32))] 2 = mkF m 0 #[.val (.int (1 : Int32)), .val (.int (2 : Int32))] [] := by first | (simp [entryFrame, mkF, argsToLocals, Value.category]; done) | rfl
def Q_rm4_5 (Z : State)  (h0 : Heap) (n0 : Nat) (v : Option Value) (h : Heap) (L : List Loc) : Prop := v = some (.int (1 : Int32)) ∧ Fr n0 L ∧ h = h0
set_option maxRecDepth 65536 in
set_option maxHeartbeats 40000000 in
theorem rm4_5 (l : Launch) (Z : State) (a0 : Array Value) (hw : ∀ d ∈ tables_1, d.before a0 Z = true) (ws : List Jvm.Cond)  (h0 : Heap) (n0 : Nat) (OL0 : Old Z n0 h0)  :
    MetFree l (⟨"java/lang/Math", "min", "(II)I"⟩ : MethodName) (head1 (Jvm.Cond.code (⟨"java/lang/Math", "min", "(II)I"⟩ : MethodName) jdk_29_method_69_code 2 (some .int) :: ws) ({ frames := 0, cells := 0, slots := 0, locals := 0 } : Room)) (fun a U => a = #[(.int (1 : Int32)), (.int (2 : Int32))] ∧ Z.Warmed39 U.vm ∧ U.heap = h0) (fun _ _ _ _ _ => True) (fun _ U o U' => ∃ v L, o = .returned v ∧ Q_rm4_5 Z  h0 n0 v U'.heap L ∧ FrameEnd U o U' L ({ frames := 0, cells := 0, slots := 0, locals := 0 } : Room).cells ({ frames := 0, cells := 0, slots := 0, locals := 0 } : Room).slots) := by
  refine MetFree.of_bodySF (Jvm.Free.JP.mathPlain rfl (by decide +kernel)) hisR ?_
  intro p e s m args below meth c s₁ Bd hml0 hP hK
  obtain ⟨rfl, hZ, hh⟩ := hP
  have hx := Bd.exec
  have hby := Bd.bytes
  have hml : c.maxLocals = 2 := hml0
  have hown : s.vm.findClass "java/lang/Math" = some m.cls := findClass_of_methodNamed Bd.named
  have hnm := (name_of_methodNamed Bd.named Bd.method).1
  have X0 : Stand p l e ({ frames := 0, cells := 0, slots := 0, locals := 0 } : Room) s m #[(.int (1 : Int32)), (.int (2 : Int32))] below meth c s₁ [] 0 0 := Stand.of_body Bd
  have e0 : s₁.heap = h0 := by rw [← hh, Bd.state]; rfl
  have N0 := Fr.nil n0
  have pre0 : ∀ t, Steps p.tables e below (s₁.setTop (mkF m 0 #[.val (.int (1 : Int32)), .val (.int (2 : Int32))] [])) t → Steps p.tables e below (s₁.setTop (entryFrame m #[(.int (1 : Int32)), (.int (2 : Int32))] 2)) t := fun t k => castTop (ef_4_9 m ) k
  obtain ⟨fs, hr, hrun, hended, hW, hsame⟩ := X0.leave (v := some (.int (1 : Int32))) (fun h => by rw [Bd.returns] at h; cases h)
  refine ⟨_, _, pre0 _ ?_, hrun, hended, _, _, rfl, ?_, ⟨_, rfl⟩, hW, hsame.mono (by decide) (by decide)⟩
  · show Steps p.tables e below (s₁.setTop (mkF m 0 #[.val (.int (1 : Int32)), .val (.int (2 : Int32))] [])) _
    refine XS.iloadN X0.here hx rfl (hb hby d4_0) rfl ?_
    show Steps p.tables e below (s₁.setTop (mkF m 1 #[.val (.int (1 : Int32)), .val (.int (2 : Int32))] [(.int (1 : Int32))])) _
    refine XS.iloadN X0.here hx rfl (hb hby d4_1) rfl ?_
    show Steps p.tables e below (s₁.setTop (mkF m 2 #[.val (.int (1 : Int32)), .val (.int (2 : Int32))] [(.int (2 : Int32)), (.int (1 : Int32))])) _
    refine XS.icmpNo X0.here hx rfl (hb hby d4_2) rfl (flt (by decide : ¬ ((2 : Int32) < (1 : Int32)))).2.2.1 ?_
    show Steps p.tables e below (s₁.setTop (mkF m 5 #[.val (.int (1 : Int32)), .val (.int (2 : Int32))] [])) _
    refine XS.iloadN X0.here hx rfl (hb hby d4_5) rfl ?_
    show Steps p.tables e below (s₁.setTop (mkF m 6 #[.val (.int (1 : Int32)), .val (.int (2 : Int32))] [(.int (1 : Int32))])) _
    refine XS.goto X0.here hx rfl (pc0 := 6) (pc' := 10) rfl (hb hby d4_6) (by decide) (by decide) ?_
    show Steps p.tables e below (s₁.setTop (mkF m 10 #[.val (.int (1 : Int32)), .val (.int (2 : Int32))] [(.int (1 : Int32))])) _
    exact retI X0 hx Bd.returns (hb hby d4_10) hr
  · show Q_rm4_5 Z  h0 n0 _ s₁.heap _
    rw [e0]
    exact ⟨rfl, N0, rfl⟩
set_option maxRecDepth 65536 in
set_option maxHeartbeats 40000000 in
theorem rm0_1_2 (l : Launch) (Z : State) (a0 : Array Value) (hw : ∀ d ∈ tables_1, d.before a0 Z = true) (ws : List Jvm.Cond) (p1 : Int32) (p2 : Int32) (w_UNKNOWN : Addr) (w_TRUE : Addr) (w_FALSE : Addr) (h0 : Heap) (n0 : Nat) (OL0 : Old Z n0 h0) (pr1 : ((p1 &&& (2147483647 : Int32)) % (3 : Int32)) = (1 : Int32)) (pr2 : Sta Z Z.heap "com/example/rowforge/rowforge/Truth" "UNKNOWN" "Lcom/example/rowforge/rowforge/Truth;" (.ref w_UNKNOWN)) (pr3 : ((p2 &&& (2147483647 : Int32)) % (3 : Int32)) = (2 : Int32)) (pr4 : Sta Z Z.heap "com/example/rowforge/rowforge/Truth" "TRUE" "Lcom/example/rowforge/rowforge/Truth;" (.ref w_TRUE)) (pr5 : Sta Z Z.heap "com/example/rowforge/rowforge/Truth" "FALSE" "Lcom/example/rowforge/rowforge/Truth;" (.ref w_FALSE)) (pr6 : w_UNKNOWN ≠ w_FALSE) (pr7 : w_TRUE ≠ w_FALSE) (pr8 : w_UNKNOWN ≠ w_TRUE) (pr9 : Exa Z Z.heap w_UNKNOWN "com/example/rowforge/rowforge/Truth") (pr10 : w_TRUE ≠ w_UNKNOWN) :
    MetFree l x (head1 (Jvm.Cond.code x code maxLocals ret :: ws) room_1) (fun a U => a = #[(.int p1), (.int p2)] ∧ Z.Warmed39 U.vm ∧ U.heap = h0) (fun _ _ _ _ _ => True) (fun _ U o U' => ∃ v L, o = .returned v ∧ Q0 n0 v L ∧ FrameEnd U o U' L 0 0) := by
  refine MetFree.of_bodySF (plainFor_of_name pn_0) hisR ?_
  intro p e s m args below meth c s₁ Bd hml0 hP hK
  obtain ⟨rfl, hZ, hh⟩ := hP
  have hx := Bd.exec
  have hby := Bd.bytes
  have hml : c.maxLocals = 5 := hml0
  have hown : s.vm.findClass "com/example/rowforge/rowforge/TruthAndPinLaw" = some m.cls := findClass_of_methodNamed Bd.named
  have hnm := (name_of_methodNamed Bd.named Bd.method).1
  have X0 : Stand p l e room_1 s m #[(.int p1), (.int p2)] below meth c s₁ [] 0 0 := Stand.of_body Bd
  have e0 : s₁.heap = h0 := by rw [← hh, Bd.state]; rfl
  have N0 := Fr.nil n0
  have pre0 : ∀ t, Steps p.tables e below (s₁.setTop (mkF m 0 #[.val (.int p1), .val (.int p2), .unset, .unset, .unset] [])) t → Steps p.tables e below (s₁.setTop (entryFrame m #[(.int p1), (.int p2)] maxLocals)) t := fun t k => castTop (ef_0_4 m p1 p2) k
  obtain ⟨_, _, ⟨T1, L1, k1, n1⟩, -, X1, ⟨Lc1, hQ1, l1, y1, z1⟩, st1⟩ := Jvm.LawKit.callS X0 hx (y := (⟨"com/example/rowforge/rowforge/TruthAndPinLaw", "pick", "(I)Lcom/example/rowforge/rowforge/Truth;"⟩ : MethodName)) hown (mvT hZ (wd0 hw)) (mvT hZ (wd1 hw)) (mvT hZ (wd2 hw)) (mvT hZ (wd3 hw)) (by decide) (backOf (W := 0) (rm1_1 l Z a0 hw [] p1 w_UNKNOWN h0 n0 OL0 pr1 pr2) hZ (wd3 hw) (wd2 hw) (by decide) (by decide)) (g := (mkF m 1 #[.val (.int p1), .val (.int p2), .unset, .unset, .unset] [(.int p1)])) rfl (by rw [hml]; rfl) (argsL := [(.int p1)]) (rest := []) (lenOf pd_0 rfl) rfl (by show 2 * 0 + _ ≤ _; exact Nat.le_of_eq rfl) (hb hby at_1) (fun _ _ => ⟨rfl, e0, (by decide : 0 + 0 ≤ _), (by decide : 0 + 0 ≤ _)⟩)
  dsimp only [Pt.U, Pt.locs, Pt.cells, Pt.slots] at X1 l1 y1 z1 st1 hQ1
  subst l1 y1 z1
  obtain ⟨rfl, Nq1, ec1⟩ := hQ1
  have N1 := Fr.app N0 Nq1
  obtain ⟨_, _, ⟨T2, L2, k2, n2⟩, -, X2, ⟨Lc2, hQ2, l2, y2, z2⟩, st2⟩ := Jvm.LawKit.callS X1 hx (y := (⟨"com/example/rowforge/rowforge/TruthAndPinLaw", "pick", "(I)Lcom/example/rowforge/rowforge/Truth;"⟩ : MethodName)) hown (mvT hZ (wd0 hw)) (mvT hZ (wd1 hw)) (mvT hZ (wd2 hw)) (mvT hZ (wd3 hw)) (by decide) (backOf (W := 0) (rm1_2 l Z a0 hw [] p2 w_TRUE h0 n0 OL0 pr3 pr4) hZ (wd3 hw) (wd2 hw) (by decide) (by decide)) (g := (mkF m 6 #[.val (.int p1), .val (.int p2), .val (.ref w_UNKNOWN), .unset, .unset] [(.int p2)])) rfl (by rw [hml]; rfl) (argsL := [(.int p2)]) (rest := []) (lenOf pd_0 rfl) rfl (by show 2 * 0 + _ ≤ _; exact Nat.le_of_eq rfl) (hb hby at_6) (fun _ _ => ⟨rfl, ec1, (by decide : 0 + 0 ≤ _), (by decide : 0 + 0 ≤ _)⟩)
  dsimp only [Pt.U, Pt.locs, Pt.cells, Pt.slots] at X2 l2 y2 z2 st2 hQ2
  subst l2 y2 z2
  obtain ⟨rfl, Nq2, ec2⟩ := hQ2
  have N2 := Fr.app N1 Nq2
  obtain ⟨cq3, kq3, q3a, q3b, q3c⟩ := isOf hZ ec2 (pr9.ext OL0.2)
  obtain ⟨_, _, ⟨T3, L3, k3, n3⟩, -, X3, ⟨Lc3, hQ3, l3, y3, z3⟩, st3⟩ := X2.virtualBack hx (y := (⟨"com/example/rowforge/rowforge/Truth", "and", "(Lcom/example/rowforge/rowforge/Truth;)Lcom/example/rowforge/rowforge/Truth;"⟩ : MethodName)) (z := (⟨"com/example/rowforge/rowforge/Truth", "and", "(Lcom/example/rowforge/rowforge/Truth;)Lcom/example/rowforge/rowforge/Truth;"⟩ : MethodName)) hown (mvT hZ (wd8 hw)) (mvT hZ (wd9 hw)) (notFace_of_selects (args := #[]) (mvT hZ (wd11 hw))) (mvT hZ (wd11 hw)) (mvT hZ (wd10 hw)) (by decide) (backOf (W := 0) (rm2_4 l Z a0 hw [] w_UNKNOWN w_TRUE w_FALSE h0 n0 OL0 pr5 pr6 pr7 pr4 pr8 pr2) hZ (wd12 hw) (wd6 hw) (by decide) (by decide)) q3a q3c (g := (mkF m 12 #[.val (.int p1), .val (.int p2), .val (.ref w_UNKNOWN), .val (.ref w_TRUE), .unset] [(.ref w_TRUE), (.ref w_UNKNOWN)])) rfl (by rw [hml]; rfl) (Steps.refl _) (argsL := [(.ref w_TRUE)]) (rest := []) (lenOf pd_1 rfl) rfl (by show 2 * 0 + _ ≤ _; exact Nat.le_of_eq rfl) (hb hby at_12) (fun _ _ => ⟨rfl, ec2, (by decide : 0 + 0 ≤ _), (by decide : 0 + 0 ≤ _)⟩)
  dsimp only [Pt.U, Pt.locs, Pt.cells, Pt.slots] at X3 l3 y3 z3 st3 hQ3
  subst l3 y3 z3
  obtain ⟨rfl, Nq3, ec3⟩ := hQ3
  have N3 := Fr.app N2 Nq3
  obtain ⟨_, _, ⟨T4, L4, k4, n4⟩, -, X4, ⟨Lc4, hQ4, l4, y4, z4⟩, st4⟩ := Jvm.LawKit.callS X3 hx (y := (⟨"com/example/rowforge/rowforge/TruthAndPinLaw", "rank", "(Lcom/example/rowforge/rowforge/Truth;)I"⟩ : MethodName)) hown (mvT hZ (wd14 hw)) (mvT hZ (wd15 hw)) (mvT hZ (wd2 hw)) (mvT hZ (wd16 hw)) (by decide) (backOf (W := 0) (rm3_1 l Z a0 hw [] w_UNKNOWN w_FALSE h0 n0 OL0 pr5 pr6 pr2) hZ (wd16 hw) (wd2 hw) (by decide) (by decide)) (g := (mkF m 19 #[.val (.int p1), .val (.int p2), .val (.ref w_UNKNOWN), .val (.ref w_TRUE), .val (.ref w_UNKNOWN)] [(.ref w_UNKNOWN)])) rfl (by rw [hml]; rfl) (argsL := [(.ref w_UNKNOWN)]) (rest := []) (lenOf pd_2 rfl) rfl (by show 2 * 0 + _ ≤ _; exact Nat.le_of_eq rfl) (hb hby at_19) (fun _ _ => ⟨rfl, ec3, (by decide : 0 + 0 ≤ _), (by decide : 0 + 0 ≤ _)⟩)
  dsimp only [Pt.U, Pt.locs, Pt.cells, Pt.slots] at X4 l4 y4 z4 st4 hQ4
  subst l4 y4 z4
  obtain ⟨rfl, Nq4, ec4⟩ := hQ4
  have N4 := Fr.app N3 Nq4
  obtain ⟨_, _, ⟨T5, L5, k5, n5⟩, -, X5, ⟨Lc5, hQ5, l5, y5, z5⟩, st5⟩ := Jvm.LawKit.callS X4 hx (y := (⟨"com/example/rowforge/rowforge/TruthAndPinLaw", "rank", "(Lcom/example/rowforge/rowforge/Truth;)I"⟩ : MethodName)) hown (mvT hZ (wd14 hw)) (mvT hZ (wd15 hw)) (mvT hZ (wd2 hw)) (mvT hZ (wd16 hw)) (by decide) (backOf (W := 1) (rm3_1 l Z a0 hw [] w_UNKNOWN w_FALSE h0 n0 OL0 pr5 pr6 pr2) hZ (wd16 hw) (wd2 hw) (by decide) (by decide)) (g := (mkF m 23 #[.val (.int p1), .val (.int p2), .val (.ref w_UNKNOWN), .val (.ref w_TRUE), .val (.ref w_UNKNOWN)] [(.ref w_UNKNOWN), (.int (1 : Int32))])) rfl (by rw [hml]; rfl) (argsL := [(.ref w_UNKNOWN)]) (rest := [(.int (1 : Int32))]) (lenOf pd_2 rfl) rfl (by show 2 * 0 + _ ≤ _; exact Nat.le_of_eq rfl) (hb hby at_23) (fun _ _ => ⟨rfl, ec4, (by decide : 0 + 0 ≤ _), (by decide : 0 + 0 ≤ _)⟩)
  dsimp only [Pt.U, Pt.locs, Pt.cells, Pt.slots] at X5 l5 y5 z5 st5 hQ5
  subst l5 y5 z5
  obtain ⟨rfl, Nq5, ec5⟩ := hQ5
  have N5 := Fr.app N4 Nq5
  obtain ⟨_, _, ⟨T6, L6, k6, n6⟩, -, X6, ⟨Lc6, hQ6, l6, y6, z6⟩, st6⟩ := Jvm.LawKit.callS X5 hx (y := (⟨"com/example/rowforge/rowforge/TruthAndPinLaw", "rank", "(Lcom/example/rowforge/rowforge/Truth;)I"⟩ : MethodName)) hown (mvT hZ (wd14 hw)) (mvT hZ (wd15 hw)) (mvT hZ (wd2 hw)) (mvT hZ (wd16 hw)) (by decide) (backOf (W := 2) (rm3_2 l Z a0 hw [] w_TRUE w_FALSE w_UNKNOWN h0 n0 OL0 pr5 pr7 pr2 pr10 pr4) hZ (wd16 hw) (wd2 hw) (by decide) (by decide)) (g := (mkF m 27 #[.val (.int p1), .val (.int p2), .val (.ref w_UNKNOWN), .val (.ref w_TRUE), .val (.ref w_UNKNOWN)] [(.ref w_TRUE), (.int (1 : Int32)), (.int (1 : Int32))])) rfl (by rw [hml]; rfl) (argsL := [(.ref w_TRUE)]) (rest := [(.int (1 : Int32)), (.int (1 : Int32))]) (lenOf pd_2 rfl) rfl (by show 2 * 0 + _ ≤ _; exact Nat.le_of_eq rfl) (hb hby at_27) (fun _ _ => ⟨rfl, ec5, (by decide : 0 + 0 ≤ _), (by decide : 0 + 0 ≤ _)⟩)
  dsimp only [Pt.U, Pt.locs, Pt.cells, Pt.slots] at X6 l6 y6 z6 st6 hQ6
  subst l6 y6 z6
  obtain ⟨rfl, Nq6, ec6⟩ := hQ6
  have N6 := Fr.app N5 Nq6
  obtain ⟨_, _, ⟨T7, L7, k7, n7⟩, -, X7, ⟨Lc7, hQ7, l7, y7, z7⟩, st7⟩ := Jvm.LawKit.callS X6 hx (y := (⟨"java/lang/Math", "min", "(II)I"⟩ : MethodName)) hown (mvT hZ (wd17 hw)) (mvT hZ (wd18 hw)) (mvT hZ (wd19 hw)) (mvT hZ (wd20 hw)) (by decide) (backOf (W := 1) (rm4_5 l Z a0 hw []  h0 n0 OL0 ) hZ (wd20 hw) (wd19 hw) (by decide) (by decide)) (g := (mkF m 30 #[.val (.int p1), .val (.int p2), .val (.ref w_UNKNOWN), .val (.ref w_TRUE), .val (.ref w_UNKNOWN)] [(.int (2 : Int32)), (.int (1 : Int32)), (.int (1 : Int32))])) rfl (by rw [hml]; rfl) (argsL := [(.int (1 : Int32)), (.int (2 : Int32))]) (rest := [(.int (1 : Int32))]) (lenOf pd_3 rfl) rfl (by show 2 * 0 + _ ≤ _; exact Nat.le_of_eq rfl) (hb hby at_30) (fun _ _ => ⟨rfl, ec6, (by decide : 0 + 0 ≤ _), (by decide : 0 + 0 ≤ _)⟩)
  dsimp only [Pt.U, Pt.locs, Pt.cells, Pt.slots] at X7 l7 y7 z7 st7 hQ7
  subst l7 y7 z7
  obtain ⟨rfl, Nq7, ec7⟩ := hQ7
  have N7 := Fr.app N6 Nq7
  obtain ⟨fs, hr, hrun, hended, hW, hsame⟩ := X7.leave (v := some (.int (1 : Int32))) (fun h => by rw [Bd.returns] at h; cases h)
  refine ⟨_, _, pre0 _ ?_, hrun, hended, _, _, rfl, ?_, ⟨_, rfl⟩, hW, hsame.mono (by decide) (by decide)⟩
  · show Steps p.tables e below (s₁.setTop (mkF m 0 #[.val (.int p1), .val (.int p2), .unset, .unset, .unset] [])) _
    refine XS.iloadN X0.here hx rfl (hb hby at_0) rfl ?_
    show Steps p.tables e below (s₁.setTop (mkF m 1 #[.val (.int p1), .val (.int p2), .unset, .unset, .unset] [(.int p1)])) _
    refine st1 _ ?_
    show Steps p.tables e below (T1.setTop (mkF m 4 #[.val (.int p1), .val (.int p2), .unset, .unset, .unset] [(.ref w_UNKNOWN)])) _
    refine XS.astoreN X1.here hx rfl (hb hby at_4) rfl rfl (l' := #[.val (.int p1), .val (.int p2), .val (.ref w_UNKNOWN), .unset, .unset]) rfl ?_
    show Steps p.tables e below (T1.setTop (mkF m 5 #[.val (.int p1), .val (.int p2), .val (.ref w_UNKNOWN), .unset, .unset] [])) _
    refine XS.iloadN X1.here hx rfl (hb hby at_5) rfl ?_
    show Steps p.tables e below (T1.setTop (mkF m 6 #[.val (.int p1), .val (.int p2), .val (.ref w_UNKNOWN), .unset, .unset] [(.int p2)])) _
    refine st2 _ ?_
    show Steps p.tables e below (T2.setTop (mkF m 9 #[.val (.int p1), .val (.int p2), .val (.ref w_UNKNOWN), .unset, .unset] [(.ref w_TRUE)])) _
    refine XS.astoreN X2.here hx rfl (hb hby at_9) rfl rfl (l' := #[.val (.int p1), .val (.int p2), .val (.ref w_UNKNOWN), .val (.ref w_TRUE), .unset]) rfl ?_
    show Steps p.tables e below (T2.setTop (mkF m 10 #[.val (.int p1), .val (.int p2), .val (.ref w_UNKNOWN), .val (.ref w_TRUE), .unset] [])) _
    refine XS.aloadN X2.here hx rfl (hb hby at_10) rfl rfl ?_
    show Steps p.tables e below (T2.setTop (mkF m 11 #[.val (.int p1), .val (.int p2), .val (.ref w_UNKNOWN), .val (.ref w_TRUE), .unset] [(.ref w_UNKNOWN)])) _
    refine XS.aloadN X2.here hx rfl (hb hby at_11) rfl rfl ?_
    show Steps p.tables e below (T2.setTop (mkF m 12 #[.val (.int p1), .val (.int p2), .val (.ref w_UNKNOWN), .val (.ref w_TRUE), .unset] [(.ref w_TRUE), (.ref w_UNKNOWN)])) _
    refine st3.trans ?_
    show Steps p.tables e below (T3.setTop (mkF m 15 #[.val (.int p1), .val (.int p2), .val (.ref w_UNKNOWN), .val (.ref w_TRUE), .unset] [(.ref w_UNKNOWN)])) _
    refine XS.astore X3.here hx rfl (hb hby at_15) rfl rfl (l' := #[.val (.int p1), .val (.int p2), .val (.ref w_UNKNOWN), .val (.ref w_TRUE), .val (.ref w_UNKNOWN)]) rfl ?_
    show Steps p.tables e below (T3.setTop (mkF m 17 #[.val (.int p1), .val (.int p2), .val (.ref w_UNKNOWN), .val (.ref w_TRUE), .val (.ref w_UNKNOWN)] [])) _
    refine XS.aload X3.here hx rfl (hb hby at_17) rfl rfl ?_
    show Steps p.tables e below (T3.setTop (mkF m 19 #[.val (.int p1), .val (.int p2), .val (.ref w_UNKNOWN), .val (.ref w_TRUE), .val (.ref w_UNKNOWN)] [(.ref w_UNKNOWN)])) _
    refine st4 _ ?_
    show Steps p.tables e below (T4.setTop (mkF m 22 #[.val (.int p1), .val (.int p2), .val (.ref w_UNKNOWN), .val (.ref w_TRUE), .val (.ref w_UNKNOWN)] [(.int (1 : Int32))])) _
    refine XS.aloadN X4.here hx rfl (hb hby at_22) rfl rfl ?_
    show Steps p.tables e below (T4.setTop (mkF m 23 #[.val (.int p1), .val (.int p2), .val (.ref w_UNKNOWN), .val (.ref w_TRUE), .val (.ref w_UNKNOWN)] [(.ref w_UNKNOWN), (.int (1 : Int32))])) _
    refine st5 _ ?_
    show Steps p.tables e below (T5.setTop (mkF m 26 #[.val (.int p1), .val (.int p2), .val (.ref w_UNKNOWN), .val (.ref w_TRUE), .val (.ref w_UNKNOWN)] [(.int (1 : Int32)), (.int (1 : Int32))])) _
    refine XS.aloadN X5.here hx rfl (hb hby at_26) rfl rfl ?_
    show Steps p.tables e below (T5.setTop (mkF m 27 #[.val (.int p1), .val (.int p2), .val (.ref w_UNKNOWN), .val (.ref w_TRUE), .val (.ref w_UNKNOWN)] [(.ref w_TRUE), (.int (1 : Int32)), (.int (1 : Int32))])) _
    refine st6 _ ?_
    show Steps p.tables e below (T6.setTop (mkF m 30 #[.val (.int p1), .val (.int p2), .val (.ref w_UNKNOWN), .val (.ref w_TRUE), .val (.ref w_UNKNOWN)] [(.int (2 : Int32)), (.int (1 : Int32)), (.int (1 : Int32))])) _
    refine st7 _ ?_
    show Steps p.tables e below (T7.setTop (mkF m 33 #[.val (.int p1), .val (.int p2), .val (.ref w_UNKNOWN), .val (.ref w_TRUE), .val (.ref w_UNKNOWN)] [(.int (1 : Int32)), (.int (1 : Int32))])) _
    refine XS.icmpNo X7.here hx rfl (hb hby at_33) rfl (teq (rfl : (1 : Int32) = (1 : Int32))).2 ?_
    show Steps p.tables e below (T7.setTop (mkF m 36 #[.val (.int p1), .val (.int p2), .val (.ref w_UNKNOWN), .val (.ref w_TRUE), .val (.ref w_UNKNOWN)] [])) _
    refine XS.iconst X7.here hx rfl (hb hby at_36) ?_
    show Steps p.tables e below (T7.setTop (mkF m 37 #[.val (.int p1), .val (.int p2), .val (.ref w_UNKNOWN), .val (.ref w_TRUE), .val (.ref w_UNKNOWN)] [(.int (1 : Int32))])) _
    refine XS.goto X7.here hx rfl (pc0 := 37) (pc' := 41) rfl (hb hby at_37) (by decide) (by decide) ?_
    show Steps p.tables e below (T7.setTop (mkF m 41 #[.val (.int p1), .val (.int p2), .val (.ref w_UNKNOWN), .val (.ref w_TRUE), .val (.ref w_UNKNOWN)] [(.int (1 : Int32))])) _
    exact retN X7 hx (t := .boolean) Bd.returns (by simp) (hb hby at_41) hr
  · exact ⟨rfl, N7⟩
theorem ef_4_10 (m : MethodId)  : entryFrame m #[(.int (2 : Int32)), (.int (0 : Int32))] 2 = mkF m 0 #[.val (.int (2 : Int32)), .val (.int (0 : Int32))] [] := by first | (simp [entryFrame, mkF, argsToLocals, Value.category]; done) | rfl
def Q_rm4_6 (Z : State)  (h0 : Heap) (n0 : Nat) (v : Option Value) (h : Heap) (L : List Loc) : Prop := v = some (.int (0 : Int32)) ∧ Fr n0 L ∧ h = h0
set_option maxRecDepth 65536 in
set_option maxHeartbeats 40000000 in
theorem rm4_6 (l : Launch) (Z : State) (a0 : Array Value) (hw : ∀ d ∈ tables_1, d.before a0 Z = true) (ws : List Jvm.Cond)  (h0 : Heap) (n0 : Nat) (OL0 : Old Z n0 h0)  :
    MetFree l (⟨"java/lang/Math", "min", "(II)I"⟩ : MethodName) (head1 (Jvm.Cond.code (⟨"java/lang/Math", "min", "(II)I"⟩ : MethodName) jdk_29_method_69_code 2 (some .int) :: ws) ({ frames := 0, cells := 0, slots := 0, locals := 0 } : Room)) (fun a U => a = #[(.int (2 : Int32)), (.int (0 : Int32))] ∧ Z.Warmed39 U.vm ∧ U.heap = h0) (fun _ _ _ _ _ => True) (fun _ U o U' => ∃ v L, o = .returned v ∧ Q_rm4_6 Z  h0 n0 v U'.heap L ∧ FrameEnd U o U' L ({ frames := 0, cells := 0, slots := 0, locals := 0 } : Room).cells ({ frames := 0, cells := 0, slots := 0, locals := 0 } : Room).slots) := by
  refine MetFree.of_bodySF (Jvm.Free.JP.mathPlain rfl (by decide +kernel)) hisR ?_
  intro p e s m args below meth c s₁ Bd hml0 hP hK
  obtain ⟨rfl, hZ, hh⟩ := hP
  have hx := Bd.exec
  have hby := Bd.bytes
  have hml : c.maxLocals = 2 := hml0
  have hown : s.vm.findClass "java/lang/Math" = some m.cls := findClass_of_methodNamed Bd.named
  have hnm := (name_of_methodNamed Bd.named Bd.method).1
  have X0 : Stand p l e ({ frames := 0, cells := 0, slots := 0, locals := 0 } : Room) s m #[(.int (2 : Int32)), (.int (0 : Int32))] below meth c s₁ [] 0 0 := Stand.of_body Bd
  have e0 : s₁.heap = h0 := by rw [← hh, Bd.state]; rfl
  have N0 := Fr.nil n0
  have pre0 : ∀ t, Steps p.tables e below (s₁.setTop (mkF m 0 #[.val (.int (2 : Int32)), .val (.int (0 : Int32))] [])) t → Steps p.tables e below (s₁.setTop (entryFrame m #[(.int (2 : Int32)), (.int (0 : Int32))] 2)) t := fun t k => castTop (ef_4_10 m ) k
  obtain ⟨fs, hr, hrun, hended, hW, hsame⟩ := X0.leave (v := some (.int (0 : Int32))) (fun h => by rw [Bd.returns] at h; cases h)
  refine ⟨_, _, pre0 _ ?_, hrun, hended, _, _, rfl, ?_, ⟨_, rfl⟩, hW, hsame.mono (by decide) (by decide)⟩
  · show Steps p.tables e below (s₁.setTop (mkF m 0 #[.val (.int (2 : Int32)), .val (.int (0 : Int32))] [])) _
    refine XS.iloadN X0.here hx rfl (hb hby d4_0) rfl ?_
    show Steps p.tables e below (s₁.setTop (mkF m 1 #[.val (.int (2 : Int32)), .val (.int (0 : Int32))] [(.int (2 : Int32))])) _
    refine XS.iloadN X0.here hx rfl (hb hby d4_1) rfl ?_
    show Steps p.tables e below (s₁.setTop (mkF m 2 #[.val (.int (2 : Int32)), .val (.int (0 : Int32))] [(.int (0 : Int32)), (.int (2 : Int32))])) _
    refine XS.icmpYes X0.here hx rfl (pc0 := 2) (pc' := 9) rfl (hb hby d4_2) rfl (tlt (by decide : (0 : Int32) < (2 : Int32))).2.2.1 (by decide) (by decide) ?_
    show Steps p.tables e below (s₁.setTop (mkF m 9 #[.val (.int (2 : Int32)), .val (.int (0 : Int32))] [])) _
    refine XS.iloadN X0.here hx rfl (hb hby d4_9) rfl ?_
    show Steps p.tables e below (s₁.setTop (mkF m 10 #[.val (.int (2 : Int32)), .val (.int (0 : Int32))] [(.int (0 : Int32))])) _
    exact retI X0 hx Bd.returns (hb hby d4_10) hr
  · show Q_rm4_6 Z  h0 n0 _ s₁.heap _
    rw [e0]
    exact ⟨rfl, N0, rfl⟩
set_option maxRecDepth 65536 in
set_option maxHeartbeats 40000000 in
theorem rm0_2_0 (l : Launch) (Z : State) (a0 : Array Value) (hw : ∀ d ∈ tables_1, d.before a0 Z = true) (ws : List Jvm.Cond) (p1 : Int32) (p2 : Int32) (w_TRUE : Addr) (w_FALSE : Addr) (w_UNKNOWN : Addr) (h0 : Heap) (n0 : Nat) (OL0 : Old Z n0 h0) (pr1 : ((p1 &&& (2147483647 : Int32)) % (3 : Int32)) = (2 : Int32)) (pr2 : Sta Z Z.heap "com/example/rowforge/rowforge/Truth" "TRUE" "Lcom/example/rowforge/rowforge/Truth;" (.ref w_TRUE)) (pr3 : ((p2 &&& (2147483647 : Int32)) % (3 : Int32)) = (0 : Int32)) (pr4 : Sta Z Z.heap "com/example/rowforge/rowforge/Truth" "FALSE" "Lcom/example/rowforge/rowforge/Truth;" (.ref w_FALSE)) (pr5 : w_TRUE ≠ w_FALSE) (pr6 : Exa Z Z.heap w_TRUE "com/example/rowforge/rowforge/Truth") (pr7 : Sta Z Z.heap "com/example/rowforge/rowforge/Truth" "UNKNOWN" "Lcom/example/rowforge/rowforge/Truth;" (.ref w_UNKNOWN)) (pr8 : w_TRUE ≠ w_UNKNOWN) :
    MetFree l x (head1 (Jvm.Cond.code x code maxLocals ret :: ws) room_1) (fun a U => a = #[(.int p1), (.int p2)] ∧ Z.Warmed39 U.vm ∧ U.heap = h0) (fun _ _ _ _ _ => True) (fun _ U o U' => ∃ v L, o = .returned v ∧ Q0 n0 v L ∧ FrameEnd U o U' L 0 0) := by
  refine MetFree.of_bodySF (plainFor_of_name pn_0) hisR ?_
  intro p e s m args below meth c s₁ Bd hml0 hP hK
  obtain ⟨rfl, hZ, hh⟩ := hP
  have hx := Bd.exec
  have hby := Bd.bytes
  have hml : c.maxLocals = 5 := hml0
  have hown : s.vm.findClass "com/example/rowforge/rowforge/TruthAndPinLaw" = some m.cls := findClass_of_methodNamed Bd.named
  have hnm := (name_of_methodNamed Bd.named Bd.method).1
  have X0 : Stand p l e room_1 s m #[(.int p1), (.int p2)] below meth c s₁ [] 0 0 := Stand.of_body Bd
  have e0 : s₁.heap = h0 := by rw [← hh, Bd.state]; rfl
  have N0 := Fr.nil n0
  have pre0 : ∀ t, Steps p.tables e below (s₁.setTop (mkF m 0 #[.val (.int p1), .val (.int p2), .unset, .unset, .unset] [])) t → Steps p.tables e below (s₁.setTop (entryFrame m #[(.int p1), (.int p2)] maxLocals)) t := fun t k => castTop (ef_0_4 m p1 p2) k
  obtain ⟨_, _, ⟨T1, L1, k1, n1⟩, -, X1, ⟨Lc1, hQ1, l1, y1, z1⟩, st1⟩ := Jvm.LawKit.callS X0 hx (y := (⟨"com/example/rowforge/rowforge/TruthAndPinLaw", "pick", "(I)Lcom/example/rowforge/rowforge/Truth;"⟩ : MethodName)) hown (mvT hZ (wd0 hw)) (mvT hZ (wd1 hw)) (mvT hZ (wd2 hw)) (mvT hZ (wd3 hw)) (by decide) (backOf (W := 0) (rm1_2 l Z a0 hw [] p1 w_TRUE h0 n0 OL0 pr1 pr2) hZ (wd3 hw) (wd2 hw) (by decide) (by decide)) (g := (mkF m 1 #[.val (.int p1), .val (.int p2), .unset, .unset, .unset] [(.int p1)])) rfl (by rw [hml]; rfl) (argsL := [(.int p1)]) (rest := []) (lenOf pd_0 rfl) rfl (by show 2 * 0 + _ ≤ _; exact Nat.le_of_eq rfl) (hb hby at_1) (fun _ _ => ⟨rfl, e0, (by decide : 0 + 0 ≤ _), (by decide : 0 + 0 ≤ _)⟩)
  dsimp only [Pt.U, Pt.locs, Pt.cells, Pt.slots] at X1 l1 y1 z1 st1 hQ1
  subst l1 y1 z1
  obtain ⟨rfl, Nq1, ec1⟩ := hQ1
  have N1 := Fr.app N0 Nq1
  obtain ⟨_, _, ⟨T2, L2, k2, n2⟩, -, X2, ⟨Lc2, hQ2, l2, y2, z2⟩, st2⟩ := Jvm.LawKit.callS X1 hx (y := (⟨"com/example/rowforge/rowforge/TruthAndPinLaw", "pick", "(I)Lcom/example/rowforge/rowforge/Truth;"⟩ : MethodName)) hown (mvT hZ (wd0 hw)) (mvT hZ (wd1 hw)) (mvT hZ (wd2 hw)) (mvT hZ (wd3 hw)) (by decide) (backOf (W := 0) (rm1_0 l Z a0 hw [] p2 w_FALSE h0 n0 OL0 pr3 pr4) hZ (wd3 hw) (wd2 hw) (by decide) (by decide)) (g := (mkF m 6 #[.val (.int p1), .val (.int p2), .val (.ref w_TRUE), .unset, .unset] [(.int p2)])) rfl (by rw [hml]; rfl) (argsL := [(.int p2)]) (rest := []) (lenOf pd_0 rfl) rfl (by show 2 * 0 + _ ≤ _; exact Nat.le_of_eq rfl) (hb hby at_6) (fun _ _ => ⟨rfl, ec1, (by decide : 0 + 0 ≤ _), (by decide : 0 + 0 ≤ _)⟩)
  dsimp only [Pt.U, Pt.locs, Pt.cells, Pt.slots] at X2 l2 y2 z2 st2 hQ2
  subst l2 y2 z2
  obtain ⟨rfl, Nq2, ec2⟩ := hQ2
  have N2 := Fr.app N1 Nq2
  obtain ⟨cq3, kq3, q3a, q3b, q3c⟩ := isOf hZ ec2 (pr6.ext OL0.2)
  obtain ⟨_, _, ⟨T3, L3, k3, n3⟩, -, X3, ⟨Lc3, hQ3, l3, y3, z3⟩, st3⟩ := X2.virtualBack hx (y := (⟨"com/example/rowforge/rowforge/Truth", "and", "(Lcom/example/rowforge/rowforge/Truth;)Lcom/example/rowforge/rowforge/Truth;"⟩ : MethodName)) (z := (⟨"com/example/rowforge/rowforge/Truth", "and", "(Lcom/example/rowforge/rowforge/Truth;)Lcom/example/rowforge/rowforge/Truth;"⟩ : MethodName)) hown (mvT hZ (wd8 hw)) (mvT hZ (wd9 hw)) (notFace_of_selects (args := #[]) (mvT hZ (wd11 hw))) (mvT hZ (wd11 hw)) (mvT hZ (wd10 hw)) (by decide) (backOf (W := 0) (rm2_2 l Z a0 hw [] w_TRUE w_FALSE h0 n0 OL0 pr4 pr5) hZ (wd12 hw) (wd6 hw) (by decide) (by decide)) q3a q3c (g := (mkF m 12 #[.val (.int p1), .val (.int p2), .val (.ref w_TRUE), .val (.ref w_FALSE), .unset] [(.ref w_FALSE), (.ref w_TRUE)])) rfl (by rw [hml]; rfl) (Steps.refl _) (argsL := [(.ref w_FALSE)]) (rest := []) (lenOf pd_1 rfl) rfl (by show 2 * 0 + _ ≤ _; exact Nat.le_of_eq rfl) (hb hby at_12) (fun _ _ => ⟨rfl, ec2, (by decide : 0 + 0 ≤ _), (by decide : 0 + 0 ≤ _)⟩)
  dsimp only [Pt.U, Pt.locs, Pt.cells, Pt.slots] at X3 l3 y3 z3 st3 hQ3
  subst l3 y3 z3
  obtain ⟨rfl, Nq3, ec3⟩ := hQ3
  have N3 := Fr.app N2 Nq3
  obtain ⟨_, _, ⟨T4, L4, k4, n4⟩, -, X4, ⟨Lc4, hQ4, l4, y4, z4⟩, st4⟩ := Jvm.LawKit.callS X3 hx (y := (⟨"com/example/rowforge/rowforge/TruthAndPinLaw", "rank", "(Lcom/example/rowforge/rowforge/Truth;)I"⟩ : MethodName)) hown (mvT hZ (wd14 hw)) (mvT hZ (wd15 hw)) (mvT hZ (wd2 hw)) (mvT hZ (wd16 hw)) (by decide) (backOf (W := 0) (rm3_0 l Z a0 hw [] w_FALSE h0 n0 OL0 pr4) hZ (wd16 hw) (wd2 hw) (by decide) (by decide)) (g := (mkF m 19 #[.val (.int p1), .val (.int p2), .val (.ref w_TRUE), .val (.ref w_FALSE), .val (.ref w_FALSE)] [(.ref w_FALSE)])) rfl (by rw [hml]; rfl) (argsL := [(.ref w_FALSE)]) (rest := []) (lenOf pd_2 rfl) rfl (by show 2 * 0 + _ ≤ _; exact Nat.le_of_eq rfl) (hb hby at_19) (fun _ _ => ⟨rfl, ec3, (by decide : 0 + 0 ≤ _), (by decide : 0 + 0 ≤ _)⟩)
  dsimp only [Pt.U, Pt.locs, Pt.cells, Pt.slots] at X4 l4 y4 z4 st4 hQ4
  subst l4 y4 z4
  obtain ⟨rfl, Nq4, ec4⟩ := hQ4
  have N4 := Fr.app N3 Nq4
  obtain ⟨_, _, ⟨T5, L5, k5, n5⟩, -, X5, ⟨Lc5, hQ5, l5, y5, z5⟩, st5⟩ := Jvm.LawKit.callS X4 hx (y := (⟨"com/example/rowforge/rowforge/TruthAndPinLaw", "rank", "(Lcom/example/rowforge/rowforge/Truth;)I"⟩ : MethodName)) hown (mvT hZ (wd14 hw)) (mvT hZ (wd15 hw)) (mvT hZ (wd2 hw)) (mvT hZ (wd16 hw)) (by decide) (backOf (W := 1) (rm3_2 l Z a0 hw [] w_TRUE w_FALSE w_UNKNOWN h0 n0 OL0 pr4 pr5 pr7 pr8 pr2) hZ (wd16 hw) (wd2 hw) (by decide) (by decide)) (g := (mkF m 23 #[.val (.int p1), .val (.int p2), .val (.ref w_TRUE), .val (.ref w_FALSE), .val (.ref w_FALSE)] [(.ref w_TRUE), (.int (0 : Int32))])) rfl (by rw [hml]; rfl) (argsL := [(.ref w_TRUE)]) (rest := [(.int (0 : Int32))]) (lenOf pd_2 rfl) rfl (by show 2 * 0 + _ ≤ _; exact Nat.le_of_eq rfl) (hb hby at_23) (fun _ _ => ⟨rfl, ec4, (by decide : 0 + 0 ≤ _), (by decide : 0 + 0 ≤ _)⟩)
  dsimp only [Pt.U, Pt.locs, Pt.cells, Pt.slots] at X5 l5 y5 z5 st5 hQ5
  subst l5 y5 z5
  obtain ⟨rfl, Nq5, ec5⟩ := hQ5
  have N5 := Fr.app N4 Nq5
  obtain ⟨_, _, ⟨T6, L6, k6, n6⟩, -, X6, ⟨Lc6, hQ6, l6, y6, z6⟩, st6⟩ := Jvm.LawKit.callS X5 hx (y := (⟨"com/example/rowforge/rowforge/TruthAndPinLaw", "rank", "(Lcom/example/rowforge/rowforge/Truth;)I"⟩ : MethodName)) hown (mvT hZ (wd14 hw)) (mvT hZ (wd15 hw)) (mvT hZ (wd2 hw)) (mvT hZ (wd16 hw)) (by decide) (backOf (W := 2) (rm3_0 l Z a0 hw [] w_FALSE h0 n0 OL0 pr4) hZ (wd16 hw) (wd2 hw) (by decide) (by decide)) (g := (mkF m 27 #[.val (.int p1), .val (.int p2), .val (.ref w_TRUE), .val (.ref w_FALSE), .val (.ref w_FALSE)] [(.ref w_FALSE), (.int (2 : Int32)), (.int (0 : Int32))])) rfl (by rw [hml]; rfl) (argsL := [(.ref w_FALSE)]) (rest := [(.int (2 : Int32)), (.int (0 : Int32))]) (lenOf pd_2 rfl) rfl (by show 2 * 0 + _ ≤ _; exact Nat.le_of_eq rfl) (hb hby at_27) (fun _ _ => ⟨rfl, ec5, (by decide : 0 + 0 ≤ _), (by decide : 0 + 0 ≤ _)⟩)
  dsimp only [Pt.U, Pt.locs, Pt.cells, Pt.slots] at X6 l6 y6 z6 st6 hQ6
  subst l6 y6 z6
  obtain ⟨rfl, Nq6, ec6⟩ := hQ6
  have N6 := Fr.app N5 Nq6
  obtain ⟨_, _, ⟨T7, L7, k7, n7⟩, -, X7, ⟨Lc7, hQ7, l7, y7, z7⟩, st7⟩ := Jvm.LawKit.callS X6 hx (y := (⟨"java/lang/Math", "min", "(II)I"⟩ : MethodName)) hown (mvT hZ (wd17 hw)) (mvT hZ (wd18 hw)) (mvT hZ (wd19 hw)) (mvT hZ (wd20 hw)) (by decide) (backOf (W := 1) (rm4_6 l Z a0 hw []  h0 n0 OL0 ) hZ (wd20 hw) (wd19 hw) (by decide) (by decide)) (g := (mkF m 30 #[.val (.int p1), .val (.int p2), .val (.ref w_TRUE), .val (.ref w_FALSE), .val (.ref w_FALSE)] [(.int (0 : Int32)), (.int (2 : Int32)), (.int (0 : Int32))])) rfl (by rw [hml]; rfl) (argsL := [(.int (2 : Int32)), (.int (0 : Int32))]) (rest := [(.int (0 : Int32))]) (lenOf pd_3 rfl) rfl (by show 2 * 0 + _ ≤ _; exact Nat.le_of_eq rfl) (hb hby at_30) (fun _ _ => ⟨rfl, ec6, (by decide : 0 + 0 ≤ _), (by decide : 0 + 0 ≤ _)⟩)
  dsimp only [Pt.U, Pt.locs, Pt.cells, Pt.slots] at X7 l7 y7 z7 st7 hQ7
  subst l7 y7 z7
  obtain ⟨rfl, Nq7, ec7⟩ := hQ7
  have N7 := Fr.app N6 Nq7
  obtain ⟨fs, hr, hrun, hended, hW, hsame⟩ := X7.leave (v := some (.int (1 : Int32))) (fun h => by rw [Bd.returns] at h; cases h)
  refine ⟨_, _, pre0 _ ?_, hrun, hended, _, _, rfl, ?_, ⟨_, rfl⟩, hW, hsame.mono (by decide) (by decide)⟩
  · show Steps p.tables e below (s₁.setTop (mkF m 0 #[.val (.int p1), .val (.int p2), .unset, .unset, .unset] [])) _
    refine XS.iloadN X0.here hx rfl (hb hby at_0) rfl ?_
    show Steps p.tables e below (s₁.setTop (mkF m 1 #[.val (.int p1), .val (.int p2), .unset, .unset, .unset] [(.int p1)])) _
    refine st1 _ ?_
    show Steps p.tables e below (T1.setTop (mkF m 4 #[.val (.int p1), .val (.int p2), .unset, .unset, .unset] [(.ref w_TRUE)])) _
    refine XS.astoreN X1.here hx rfl (hb hby at_4) rfl rfl (l' := #[.val (.int p1), .val (.int p2), .val (.ref w_TRUE), .unset, .unset]) rfl ?_
    show Steps p.tables e below (T1.setTop (mkF m 5 #[.val (.int p1), .val (.int p2), .val (.ref w_TRUE), .unset, .unset] [])) _
    refine XS.iloadN X1.here hx rfl (hb hby at_5) rfl ?_
    show Steps p.tables e below (T1.setTop (mkF m 6 #[.val (.int p1), .val (.int p2), .val (.ref w_TRUE), .unset, .unset] [(.int p2)])) _
    refine st2 _ ?_
    show Steps p.tables e below (T2.setTop (mkF m 9 #[.val (.int p1), .val (.int p2), .val (.ref w_TRUE), .unset, .unset] [(.ref w_FALSE)])) _
    refine XS.astoreN X2.here hx rfl (hb hby at_9) rfl rfl (l' := #[.val (.int p1), .val (.int p2), .val (.ref w_TRUE), .val (.ref w_FALSE), .unset]) rfl ?_
    show Steps p.tables e below (T2.setTop (mkF m 10 #[.val (.int p1), .val (.int p2), .val (.ref w_TRUE), .val (.ref w_FALSE), .unset] [])) _
    refine XS.aloadN X2.here hx rfl (hb hby at_10) rfl rfl ?_
    show Steps p.tables e below (T2.setTop (mkF m 11 #[.val (.int p1), .val (.int p2), .val (.ref w_TRUE), .val (.ref w_FALSE), .unset] [(.ref w_TRUE)])) _
    refine XS.aloadN X2.here hx rfl (hb hby at_11) rfl rfl ?_
    show Steps p.tables e below (T2.setTop (mkF m 12 #[.val (.int p1), .val (.int p2), .val (.ref w_TRUE), .val (.ref w_FALSE), .unset] [(.ref w_FALSE), (.ref w_TRUE)])) _
    refine st3.trans ?_
    show Steps p.tables e below (T3.setTop (mkF m 15 #[.val (.int p1), .val (.int p2), .val (.ref w_TRUE), .val (.ref w_FALSE), .unset] [(.ref w_FALSE)])) _
    refine XS.astore X3.here hx rfl (hb hby at_15) rfl rfl (l' := #[.val (.int p1), .val (.int p2), .val (.ref w_TRUE), .val (.ref w_FALSE), .val (.ref w_FALSE)]) rfl ?_
    show Steps p.tables e below (T3.setTop (mkF m 17 #[.val (.int p1), .val (.int p2), .val (.ref w_TRUE), .val (.ref w_FALSE), .val (.ref w_FALSE)] [])) _
    refine XS.aload X3.here hx rfl (hb hby at_17) rfl rfl ?_
    show Steps p.tables e below (T3.setTop (mkF m 19 #[.val (.int p1), .val (.int p2), .val (.ref w_TRUE), .val (.ref w_FALSE), .val (.ref w_FALSE)] [(.ref w_FALSE)])) _
    refine st4 _ ?_
    show Steps p.tables e below (T4.setTop (mkF m 22 #[.val (.int p1), .val (.int p2), .val (.ref w_TRUE), .val (.ref w_FALSE), .val (.ref w_FALSE)] [(.int (0 : Int32))])) _
    refine XS.aloadN X4.here hx rfl (hb hby at_22) rfl rfl ?_
    show Steps p.tables e below (T4.setTop (mkF m 23 #[.val (.int p1), .val (.int p2), .val (.ref w_TRUE), .val (.ref w_FALSE), .val (.ref w_FALSE)] [(.ref w_TRUE), (.int (0 : Int32))])) _
    refine st5 _ ?_
    show Steps p.tables e below (T5.setTop (mkF m 26 #[.val (.int p1), .val (.int p2), .val (.ref w_TRUE), .val (.ref w_FALSE), .val (.ref w_FALSE)] [(.int (2 : Int32)), (.int (0 : Int32))])) _
    refine XS.aloadN X5.here hx rfl (hb hby at_26) rfl rfl ?_
    show Steps p.tables e below (T5.setTop (mkF m 27 #[.val (.int p1), .val (.int p2), .val (.ref w_TRUE), .val (.ref w_FALSE), .val (.ref w_FALSE)] [(.ref w_FALSE), (.int (2 : Int32)), (.int (0 : Int32))])) _
    refine st6 _ ?_
    show Steps p.tables e below (T6.setTop (mkF m 30 #[.val (.int p1), .val (.int p2), .val (.ref w_TRUE), .val (.ref w_FALSE), .val (.ref w_FALSE)] [(.int (0 : Int32)), (.int (2 : Int32)), (.int (0 : Int32))])) _
    refine st7 _ ?_
    show Steps p.tables e below (T7.setTop (mkF m 33 #[.val (.int p1), .val (.int p2), .val (.ref w_TRUE), .val (.ref w_FALSE), .val (.ref w_FALSE)] [(.int (0 : Int32)), (.int (0 : Int32))])) _
    refine XS.icmpNo X7.here hx rfl (hb hby at_33) rfl (teq (rfl : (0 : Int32) = (0 : Int32))).2 ?_
    show Steps p.tables e below (T7.setTop (mkF m 36 #[.val (.int p1), .val (.int p2), .val (.ref w_TRUE), .val (.ref w_FALSE), .val (.ref w_FALSE)] [])) _
    refine XS.iconst X7.here hx rfl (hb hby at_36) ?_
    show Steps p.tables e below (T7.setTop (mkF m 37 #[.val (.int p1), .val (.int p2), .val (.ref w_TRUE), .val (.ref w_FALSE), .val (.ref w_FALSE)] [(.int (1 : Int32))])) _
    refine XS.goto X7.here hx rfl (pc0 := 37) (pc' := 41) rfl (hb hby at_37) (by decide) (by decide) ?_
    show Steps p.tables e below (T7.setTop (mkF m 41 #[.val (.int p1), .val (.int p2), .val (.ref w_TRUE), .val (.ref w_FALSE), .val (.ref w_FALSE)] [(.int (1 : Int32))])) _
    exact retN X7 hx (t := .boolean) Bd.returns (by simp) (hb hby at_41) hr
  · exact ⟨rfl, N7⟩
theorem d2_28 : decode prog_36_method_6_code 28 = .ok (.aload_n 1, 1) := by decide +kernel
theorem d2_29 : decode prog_36_method_6_code 29 = .ok (.getstatic 3, 3) := by decide +kernel
theorem d2_32 : decode prog_36_method_6_code 32 = .ok (.if_acmp .ne 10, 3) := by decide +kernel
def Q_rm2_5 (Z : State) (w1 : Addr) (w2 : Addr) (w3 : Addr) (h0 : Heap) (n0 : Nat) (v : Option Value) (h : Heap) (L : List Loc) : Prop := v = some (.ref w2) ∧ Fr n0 L ∧ h = h0
set_option maxRecDepth 65536 in
set_option maxHeartbeats 40000000 in
theorem rm2_5 (l : Launch) (Z : State) (a0 : Array Value) (hw : ∀ d ∈ tables_1, d.before a0 Z = true) (ws : List Jvm.Cond) (w1 : Addr) (w2 : Addr) (w3 : Addr) (h0 : Heap) (n0 : Nat) (OL0 : Old Z n0 h0) (pr1 : Sta Z Z.heap "com/example/rowforge/rowforge/Truth" "FALSE" "Lcom/example/rowforge/rowforge/Truth;" (.ref w3)) (pr2 : w1 ≠ w3) (pr3 : w2 ≠ w3) (pr4 : Sta Z Z.heap "com/example/rowforge/rowforge/Truth" "TRUE" "Lcom/example/rowforge/rowforge/Truth;" (.ref w1)) (pr5 : w2 ≠ w1) (pr6 : Sta Z Z.heap "com/example/rowforge/rowforge/Truth" "UNKNOWN" "Lcom/example/rowforge/rowforge/Truth;" (.ref w2)) :
    MetFree l (⟨"com/example/rowforge/rowforge/Truth", "and", "(Lcom/example/rowforge/rowforge/Truth;)Lcom/example/rowforge/rowforge/Truth;"⟩ : MethodName) (head1 (Jvm.Cond.code (⟨"com/example/rowforge/rowforge/Truth", "and", "(Lcom/example/rowforge/rowforge/Truth;)Lcom/example/rowforge/rowforge/Truth;"⟩ : MethodName) prog_36_method_6_code 3 (some (.object "com/example/rowforge/rowforge/Truth")) :: ws) ({ frames := 0, cells := 0, slots := 0, locals := 0 } : Room)) (fun a U => a = #[(.ref w1), (.ref w2)] ∧ Z.Warmed39 U.vm ∧ U.heap = h0) (fun _ _ _ _ _ => True) (fun _ U o U' => ∃ v L, o = .returned v ∧ Q_rm2_5 Z w1 w2 w3 h0 n0 v U'.heap L ∧ FrameEnd U o U' L ({ frames := 0, cells := 0, slots := 0, locals := 0 } : Room).cells ({ frames := 0, cells := 0, slots := 0, locals := 0 } : Room).slots) := by
  refine MetFree.of_bodySF (plainFor_of_name pn_1) hisR ?_
  intro p e s m args below meth c s₁ Bd hml0 hP hK
  obtain ⟨rfl, hZ, hh⟩ := hP
  have hx := Bd.exec
  have hby := Bd.bytes
  have hml : c.maxLocals = 3 := hml0
  have hown : s.vm.findClass "com/example/rowforge/rowforge/Truth" = some m.cls := findClass_of_methodNamed Bd.named
  have hnm := (name_of_methodNamed Bd.named Bd.method).1
  have X0 : Stand p l e ({ frames := 0, cells := 0, slots := 0, locals := 0 } : Room) s m #[(.ref w1), (.ref w2)] below meth c s₁ [] 0 0 := Stand.of_body Bd
  have e0 : s₁.heap = h0 := by rw [← hh, Bd.state]; rfl
  have N0 := Fr.nil n0
  have pre0 : ∀ t, Steps p.tables e below (s₁.setTop (mkF m 0 #[.val (.ref w1), .val (.ref w2), .unset] [])) t → Steps p.tables e below (s₁.setTop (entryFrame m #[(.ref w1), (.ref w2)] 3)) t := fun t k => castTop (ef_2_1 m w1 w2) k
  obtain ⟨T4, X4, e4, st4⟩ := getS2 X0 hx hZ hown (host := "") (Or.inl (wd13 hw)) Via.refl e0 (pr1.ext OL0.2) (g := (mkF m 1 #[.val (.ref w1), .val (.ref w2), .unset] [(.ref w1)])) rfl (hb hby d2_1)
  obtain ⟨T5, X5, e5, st5⟩ := getS2 X4 hx hZ hown (host := "") (Or.inl (wd13 hw)) Via.refl e4 (pr1.ext OL0.2) (g := (mkF m 8 #[.val (.ref w1), .val (.ref w2), .unset] [(.ref w2)])) rfl (hb hby d2_8)
  obtain ⟨T6, X6, e6, st6⟩ := getS2 X5 hx hZ hown (host := "") (Or.inl (wd25 hw)) Via.refl e5 (pr4.ext OL0.2) (g := (mkF m 22 #[.val (.ref w1), .val (.ref w2), .unset] [(.ref w1)])) rfl (hb hby d2_22)
  obtain ⟨T7, X7, e7, st7⟩ := getS2 X6 hx hZ hown (host := "") (Or.inl (wd25 hw)) Via.refl e6 (pr4.ext OL0.2) (g := (mkF m 29 #[.val (.ref w1), .val (.ref w2), .unset] [(.ref w2)])) rfl (hb hby d2_29)
  obtain ⟨T8, X8, e8, st8⟩ := getS2 X7 hx hZ hown (host := "") (Or.inl (wd26 hw)) Via.refl e7 (pr6.ext OL0.2) (g := (mkF m 42 #[.val (.ref w1), .val (.ref w2), .unset] [])) rfl (hb hby d2_42)
  obtain ⟨fs, hr, hrun, hended, hW, hsame⟩ := X8.leave (v := some (.ref w2)) (fun h => by rw [Bd.returns] at h; cases h)
  refine ⟨_, _, pre0 _ ?_, hrun, hended, _, _, rfl, ?_, ⟨_, rfl⟩, hW, hsame.mono (by decide) (by decide)⟩
  · show Steps p.tables e below (s₁.setTop (mkF m 0 #[.val (.ref w1), .val (.ref w2), .unset] [])) _
    refine XS.aloadN X0.here hx rfl (hb hby d2_0) rfl rfl ?_
    show Steps p.tables e below (s₁.setTop (mkF m 1 #[.val (.ref w1), .val (.ref w2), .unset] [(.ref w1)])) _
    refine st4 _ ?_
    show Steps p.tables e below (T4.setTop (mkF m 4 #[.val (.ref w1), .val (.ref w2), .unset] [(.ref w3), (.ref w1)])) _
    refine Jvm.RoadKit.acmp (g := (mkF m 4 #[.val (.ref w1), .val (.ref w2), .unset] [(.ref w3), (.ref w1)])) X4 hx rfl rfl rfl (pc0 := 4) (pc' := 7) (same := false) rfl (hb hby d2_4) rfl (decide_eq_false fun q => pr2 (Value.ref.inj q)) (by decide) (by decide) ?_
    show Steps p.tables e below (T4.setTop (mkF m 7 #[.val (.ref w1), .val (.ref w2), .unset] [])) _
    refine XS.aloadN X4.here hx rfl (hb hby d2_7) rfl rfl ?_
    show Steps p.tables e below (T4.setTop (mkF m 8 #[.val (.ref w1), .val (.ref w2), .unset] [(.ref w2)])) _
    refine st5 _ ?_
    show Steps p.tables e below (T5.setTop (mkF m 11 #[.val (.ref w1), .val (.ref w2), .unset] [(.ref w3), (.ref w2)])) _
    refine Jvm.RoadKit.acmp (g := (mkF m 11 #[.val (.ref w1), .val (.ref w2), .unset] [(.ref w3), (.ref w2)])) X5 hx rfl rfl rfl (pc0 := 11) (pc' := 21) (same := false) rfl (hb hby d2_11) rfl (decide_eq_false fun q => pr3 (Value.ref.inj q)) (by decide) (by decide) ?_
    show Steps p.tables e below (T5.setTop (mkF m 21 #[.val (.ref w1), .val (.ref w2), .unset] [])) _
    refine XS.aloadN X5.here hx rfl (hb hby d2_21) rfl rfl ?_
    show Steps p.tables e below (T5.setTop (mkF m 22 #[.val (.ref w1), .val (.ref w2), .unset] [(.ref w1)])) _
    refine st6 _ ?_
    show Steps p.tables e below (T6.setTop (mkF m 25 #[.val (.ref w1), .val (.ref w2), .unset] [(.ref w1), (.ref w1)])) _
    refine Jvm.RoadKit.acmp (g := (mkF m 25 #[.val (.ref w1), .val (.ref w2), .unset] [(.ref w1), (.ref w1)])) X6 hx rfl rfl rfl (pc0 := 25) (pc' := 28) (same := true) rfl (hb hby d2_25) rfl (decide_eq_true rfl) (by decide) (by decide) ?_
    show Steps p.tables e below (T6.setTop (mkF m 28 #[.val (.ref w1), .val (.ref w2), .unset] [])) _
    refine XS.aloadN X6.here hx rfl (hb hby d2_28) rfl rfl ?_
    show Steps p.tables e below (T6.setTop (mkF m 29 #[.val (.ref w1), .val (.ref w2), .unset] [(.ref w2)])) _
    refine st7 _ ?_
    show Steps p.tables e below (T7.setTop (mkF m 32 #[.val (.ref w1), .val (.ref w2), .unset] [(.ref w1), (.ref w2)])) _
    refine Jvm.RoadKit.acmp (g := (mkF m 32 #[.val (.ref w1), .val (.ref w2), .unset] [(.ref w1), (.ref w2)])) X7 hx rfl rfl rfl (pc0 := 32) (pc' := 42) (same := false) rfl (hb hby d2_32) rfl (decide_eq_false fun q => pr5 (Value.ref.inj q)) (by decide) (by decide) ?_
    show Steps p.tables e below (T7.setTop (mkF m 42 #[.val (.ref w1), .val (.ref w2), .unset] [])) _
    refine st8 _ ?_
    show Steps p.tables e below (T8.setTop (mkF m 45 #[.val (.ref w1), .val (.ref w2), .unset] [(.ref w2)])) _
    refine XS.astoreN X8.here hx rfl (hb hby d2_45) rfl rfl (l' := #[.val (.ref w1), .val (.ref w2), .val (.ref w2)]) rfl ?_
    show Steps p.tables e below (T8.setTop (mkF m 46 #[.val (.ref w1), .val (.ref w2), .val (.ref w2)] [])) _
    refine XS.aloadN X8.here hx rfl (hb hby d2_46) rfl rfl ?_
    show Steps p.tables e below (T8.setTop (mkF m 47 #[.val (.ref w1), .val (.ref w2), .val (.ref w2)] [(.ref w2)])) _
    jvm_step X8.here [X8.here.top, hx, (hb hby d2_47), X8.method', Bd.returns, Value.isRef, FieldType.isReference]
    first | (intro acts; rw [hr _ acts rfl rfl rfl]) | rw [hr _ _ rfl rfl rfl]
    exact Steps.refl _
  · show Q_rm2_5 Z w1 w2 w3 h0 n0 _ T8.heap _
    rw [e8]
    exact ⟨rfl, N0, rfl⟩
theorem ef_4_11 (m : MethodId)  : entryFrame m #[(.int (2 : Int32)), (.int (1 : Int32))] 2 = mkF m 0 #[.val (.int (2 : Int32)), .val (.int (1 : Int32))] [] := by first | (simp [entryFrame, mkF, argsToLocals, Value.category]; done) | rfl
def Q_rm4_7 (Z : State)  (h0 : Heap) (n0 : Nat) (v : Option Value) (h : Heap) (L : List Loc) : Prop := v = some (.int (1 : Int32)) ∧ Fr n0 L ∧ h = h0
set_option maxRecDepth 65536 in
set_option maxHeartbeats 40000000 in
theorem rm4_7 (l : Launch) (Z : State) (a0 : Array Value) (hw : ∀ d ∈ tables_1, d.before a0 Z = true) (ws : List Jvm.Cond)  (h0 : Heap) (n0 : Nat) (OL0 : Old Z n0 h0)  :
    MetFree l (⟨"java/lang/Math", "min", "(II)I"⟩ : MethodName) (head1 (Jvm.Cond.code (⟨"java/lang/Math", "min", "(II)I"⟩ : MethodName) jdk_29_method_69_code 2 (some .int) :: ws) ({ frames := 0, cells := 0, slots := 0, locals := 0 } : Room)) (fun a U => a = #[(.int (2 : Int32)), (.int (1 : Int32))] ∧ Z.Warmed39 U.vm ∧ U.heap = h0) (fun _ _ _ _ _ => True) (fun _ U o U' => ∃ v L, o = .returned v ∧ Q_rm4_7 Z  h0 n0 v U'.heap L ∧ FrameEnd U o U' L ({ frames := 0, cells := 0, slots := 0, locals := 0 } : Room).cells ({ frames := 0, cells := 0, slots := 0, locals := 0 } : Room).slots) := by
  refine MetFree.of_bodySF (Jvm.Free.JP.mathPlain rfl (by decide +kernel)) hisR ?_
  intro p e s m args below meth c s₁ Bd hml0 hP hK
  obtain ⟨rfl, hZ, hh⟩ := hP
  have hx := Bd.exec
  have hby := Bd.bytes
  have hml : c.maxLocals = 2 := hml0
  have hown : s.vm.findClass "java/lang/Math" = some m.cls := findClass_of_methodNamed Bd.named
  have hnm := (name_of_methodNamed Bd.named Bd.method).1
  have X0 : Stand p l e ({ frames := 0, cells := 0, slots := 0, locals := 0 } : Room) s m #[(.int (2 : Int32)), (.int (1 : Int32))] below meth c s₁ [] 0 0 := Stand.of_body Bd
  have e0 : s₁.heap = h0 := by rw [← hh, Bd.state]; rfl
  have N0 := Fr.nil n0
  have pre0 : ∀ t, Steps p.tables e below (s₁.setTop (mkF m 0 #[.val (.int (2 : Int32)), .val (.int (1 : Int32))] [])) t → Steps p.tables e below (s₁.setTop (entryFrame m #[(.int (2 : Int32)), (.int (1 : Int32))] 2)) t := fun t k => castTop (ef_4_11 m ) k
  obtain ⟨fs, hr, hrun, hended, hW, hsame⟩ := X0.leave (v := some (.int (1 : Int32))) (fun h => by rw [Bd.returns] at h; cases h)
  refine ⟨_, _, pre0 _ ?_, hrun, hended, _, _, rfl, ?_, ⟨_, rfl⟩, hW, hsame.mono (by decide) (by decide)⟩
  · show Steps p.tables e below (s₁.setTop (mkF m 0 #[.val (.int (2 : Int32)), .val (.int (1 : Int32))] [])) _
    refine XS.iloadN X0.here hx rfl (hb hby d4_0) rfl ?_
    show Steps p.tables e below (s₁.setTop (mkF m 1 #[.val (.int (2 : Int32)), .val (.int (1 : Int32))] [(.int (2 : Int32))])) _
    refine XS.iloadN X0.here hx rfl (hb hby d4_1) rfl ?_
    show Steps p.tables e below (s₁.setTop (mkF m 2 #[.val (.int (2 : Int32)), .val (.int (1 : Int32))] [(.int (1 : Int32)), (.int (2 : Int32))])) _
    refine XS.icmpYes X0.here hx rfl (pc0 := 2) (pc' := 9) rfl (hb hby d4_2) rfl (tlt (by decide : (1 : Int32) < (2 : Int32))).2.2.1 (by decide) (by decide) ?_
    show Steps p.tables e below (s₁.setTop (mkF m 9 #[.val (.int (2 : Int32)), .val (.int (1 : Int32))] [])) _
    refine XS.iloadN X0.here hx rfl (hb hby d4_9) rfl ?_
    show Steps p.tables e below (s₁.setTop (mkF m 10 #[.val (.int (2 : Int32)), .val (.int (1 : Int32))] [(.int (1 : Int32))])) _
    exact retI X0 hx Bd.returns (hb hby d4_10) hr
  · show Q_rm4_7 Z  h0 n0 _ s₁.heap _
    rw [e0]
    exact ⟨rfl, N0, rfl⟩
set_option maxRecDepth 65536 in
set_option maxHeartbeats 40000000 in
theorem rm0_2_1 (l : Launch) (Z : State) (a0 : Array Value) (hw : ∀ d ∈ tables_1, d.before a0 Z = true) (ws : List Jvm.Cond) (p1 : Int32) (p2 : Int32) (w_TRUE : Addr) (w_UNKNOWN : Addr) (w_FALSE : Addr) (h0 : Heap) (n0 : Nat) (OL0 : Old Z n0 h0) (pr1 : ((p1 &&& (2147483647 : Int32)) % (3 : Int32)) = (2 : Int32)) (pr2 : Sta Z Z.heap "com/example/rowforge/rowforge/Truth" "TRUE" "Lcom/example/rowforge/rowforge/Truth;" (.ref w_TRUE)) (pr3 : ((p2 &&& (2147483647 : Int32)) % (3 : Int32)) = (1 : Int32)) (pr4 : Sta Z Z.heap "com/example/rowforge/rowforge/Truth" "UNKNOWN" "Lcom/example/rowforge/rowforge/Truth;" (.ref w_UNKNOWN)) (pr5 : Sta Z Z.heap "com/example/rowforge/rowforge/Truth" "FALSE" "Lcom/example/rowforge/rowforge/Truth;" (.ref w_FALSE)) (pr6 : w_TRUE ≠ w_FALSE) (pr7 : w_UNKNOWN ≠ w_FALSE) (pr8 : w_UNKNOWN ≠ w_TRUE) (pr9 : Exa Z Z.heap w_TRUE "com/example/rowforge/rowforge/Truth") (pr10 : w_TRUE ≠ w_UNKNOWN) :
    MetFree l x (head1 (Jvm.Cond.code x code maxLocals ret :: ws) room_1) (fun a U => a = #[(.int p1), (.int p2)] ∧ Z.Warmed39 U.vm ∧ U.heap = h0) (fun _ _ _ _ _ => True) (fun _ U o U' => ∃ v L, o = .returned v ∧ Q0 n0 v L ∧ FrameEnd U o U' L 0 0) := by
  refine MetFree.of_bodySF (plainFor_of_name pn_0) hisR ?_
  intro p e s m args below meth c s₁ Bd hml0 hP hK
  obtain ⟨rfl, hZ, hh⟩ := hP
  have hx := Bd.exec
  have hby := Bd.bytes
  have hml : c.maxLocals = 5 := hml0
  have hown : s.vm.findClass "com/example/rowforge/rowforge/TruthAndPinLaw" = some m.cls := findClass_of_methodNamed Bd.named
  have hnm := (name_of_methodNamed Bd.named Bd.method).1
  have X0 : Stand p l e room_1 s m #[(.int p1), (.int p2)] below meth c s₁ [] 0 0 := Stand.of_body Bd
  have e0 : s₁.heap = h0 := by rw [← hh, Bd.state]; rfl
  have N0 := Fr.nil n0
  have pre0 : ∀ t, Steps p.tables e below (s₁.setTop (mkF m 0 #[.val (.int p1), .val (.int p2), .unset, .unset, .unset] [])) t → Steps p.tables e below (s₁.setTop (entryFrame m #[(.int p1), (.int p2)] maxLocals)) t := fun t k => castTop (ef_0_4 m p1 p2) k
  obtain ⟨_, _, ⟨T1, L1, k1, n1⟩, -, X1, ⟨Lc1, hQ1, l1, y1, z1⟩, st1⟩ := Jvm.LawKit.callS X0 hx (y := (⟨"com/example/rowforge/rowforge/TruthAndPinLaw", "pick", "(I)Lcom/example/rowforge/rowforge/Truth;"⟩ : MethodName)) hown (mvT hZ (wd0 hw)) (mvT hZ (wd1 hw)) (mvT hZ (wd2 hw)) (mvT hZ (wd3 hw)) (by decide) (backOf (W := 0) (rm1_2 l Z a0 hw [] p1 w_TRUE h0 n0 OL0 pr1 pr2) hZ (wd3 hw) (wd2 hw) (by decide) (by decide)) (g := (mkF m 1 #[.val (.int p1), .val (.int p2), .unset, .unset, .unset] [(.int p1)])) rfl (by rw [hml]; rfl) (argsL := [(.int p1)]) (rest := []) (lenOf pd_0 rfl) rfl (by show 2 * 0 + _ ≤ _; exact Nat.le_of_eq rfl) (hb hby at_1) (fun _ _ => ⟨rfl, e0, (by decide : 0 + 0 ≤ _), (by decide : 0 + 0 ≤ _)⟩)
  dsimp only [Pt.U, Pt.locs, Pt.cells, Pt.slots] at X1 l1 y1 z1 st1 hQ1
  subst l1 y1 z1
  obtain ⟨rfl, Nq1, ec1⟩ := hQ1
  have N1 := Fr.app N0 Nq1
  obtain ⟨_, _, ⟨T2, L2, k2, n2⟩, -, X2, ⟨Lc2, hQ2, l2, y2, z2⟩, st2⟩ := Jvm.LawKit.callS X1 hx (y := (⟨"com/example/rowforge/rowforge/TruthAndPinLaw", "pick", "(I)Lcom/example/rowforge/rowforge/Truth;"⟩ : MethodName)) hown (mvT hZ (wd0 hw)) (mvT hZ (wd1 hw)) (mvT hZ (wd2 hw)) (mvT hZ (wd3 hw)) (by decide) (backOf (W := 0) (rm1_1 l Z a0 hw [] p2 w_UNKNOWN h0 n0 OL0 pr3 pr4) hZ (wd3 hw) (wd2 hw) (by decide) (by decide)) (g := (mkF m 6 #[.val (.int p1), .val (.int p2), .val (.ref w_TRUE), .unset, .unset] [(.int p2)])) rfl (by rw [hml]; rfl) (argsL := [(.int p2)]) (rest := []) (lenOf pd_0 rfl) rfl (by show 2 * 0 + _ ≤ _; exact Nat.le_of_eq rfl) (hb hby at_6) (fun _ _ => ⟨rfl, ec1, (by decide : 0 + 0 ≤ _), (by decide : 0 + 0 ≤ _)⟩)
  dsimp only [Pt.U, Pt.locs, Pt.cells, Pt.slots] at X2 l2 y2 z2 st2 hQ2
  subst l2 y2 z2
  obtain ⟨rfl, Nq2, ec2⟩ := hQ2
  have N2 := Fr.app N1 Nq2
  obtain ⟨cq3, kq3, q3a, q3b, q3c⟩ := isOf hZ ec2 (pr9.ext OL0.2)
  obtain ⟨_, _, ⟨T3, L3, k3, n3⟩, -, X3, ⟨Lc3, hQ3, l3, y3, z3⟩, st3⟩ := X2.virtualBack hx (y := (⟨"com/example/rowforge/rowforge/Truth", "and", "(Lcom/example/rowforge/rowforge/Truth;)Lcom/example/rowforge/rowforge/Truth;"⟩ : MethodName)) (z := (⟨"com/example/rowforge/rowforge/Truth", "and", "(Lcom/example/rowforge/rowforge/Truth;)Lcom/example/rowforge/rowforge/Truth;"⟩ : MethodName)) hown (mvT hZ (wd8 hw)) (mvT hZ (wd9 hw)) (notFace_of_selects (args := #[]) (mvT hZ (wd11 hw))) (mvT hZ (wd11 hw)) (mvT hZ (wd10 hw)) (by decide) (backOf (W := 0) (rm2_5 l Z a0 hw [] w_TRUE w_UNKNOWN w_FALSE h0 n0 OL0 pr5 pr6 pr7 pr2 pr8 pr4) hZ (wd12 hw) (wd6 hw) (by decide) (by decide)) q3a q3c (g := (mkF m 12 #[.val (.int p1), .val (.int p2), .val (.ref w_TRUE), .val (.ref w_UNKNOWN), .unset] [(.ref w_UNKNOWN), (.ref w_TRUE)])) rfl (by rw [hml]; rfl) (Steps.refl _) (argsL := [(.ref w_UNKNOWN)]) (rest := []) (lenOf pd_1 rfl) rfl (by show 2 * 0 + _ ≤ _; exact Nat.le_of_eq rfl) (hb hby at_12) (fun _ _ => ⟨rfl, ec2, (by decide : 0 + 0 ≤ _), (by decide : 0 + 0 ≤ _)⟩)
  dsimp only [Pt.U, Pt.locs, Pt.cells, Pt.slots] at X3 l3 y3 z3 st3 hQ3
  subst l3 y3 z3
  obtain ⟨rfl, Nq3, ec3⟩ := hQ3
  have N3 := Fr.app N2 Nq3
  obtain ⟨_, _, ⟨T4, L4, k4, n4⟩, -, X4, ⟨Lc4, hQ4, l4, y4, z4⟩, st4⟩ := Jvm.LawKit.callS X3 hx (y := (⟨"com/example/rowforge/rowforge/TruthAndPinLaw", "rank", "(Lcom/example/rowforge/rowforge/Truth;)I"⟩ : MethodName)) hown (mvT hZ (wd14 hw)) (mvT hZ (wd15 hw)) (mvT hZ (wd2 hw)) (mvT hZ (wd16 hw)) (by decide) (backOf (W := 0) (rm3_1 l Z a0 hw [] w_UNKNOWN w_FALSE h0 n0 OL0 pr5 pr7 pr4) hZ (wd16 hw) (wd2 hw) (by decide) (by decide)) (g := (mkF m 19 #[.val (.int p1), .val (.int p2), .val (.ref w_TRUE), .val (.ref w_UNKNOWN), .val (.ref w_UNKNOWN)] [(.ref w_UNKNOWN)])) rfl (by rw [hml]; rfl) (argsL := [(.ref w_UNKNOWN)]) (rest := []) (lenOf pd_2 rfl) rfl (by show 2 * 0 + _ ≤ _; exact Nat.le_of_eq rfl) (hb hby at_19) (fun _ _ => ⟨rfl, ec3, (by decide : 0 + 0 ≤ _), (by decide : 0 + 0 ≤ _)⟩)
  dsimp only [Pt.U, Pt.locs, Pt.cells, Pt.slots] at X4 l4 y4 z4 st4 hQ4
  subst l4 y4 z4
  obtain ⟨rfl, Nq4, ec4⟩ := hQ4
  have N4 := Fr.app N3 Nq4
  obtain ⟨_, _, ⟨T5, L5, k5, n5⟩, -, X5, ⟨Lc5, hQ5, l5, y5, z5⟩, st5⟩ := Jvm.LawKit.callS X4 hx (y := (⟨"com/example/rowforge/rowforge/TruthAndPinLaw", "rank", "(Lcom/example/rowforge/rowforge/Truth;)I"⟩ : MethodName)) hown (mvT hZ (wd14 hw)) (mvT hZ (wd15 hw)) (mvT hZ (wd2 hw)) (mvT hZ (wd16 hw)) (by decide) (backOf (W := 1) (rm3_2 l Z a0 hw [] w_TRUE w_FALSE w_UNKNOWN h0 n0 OL0 pr5 pr6 pr4 pr10 pr2) hZ (wd16 hw) (wd2 hw) (by decide) (by decide)) (g := (mkF m 23 #[.val (.int p1), .val (.int p2), .val (.ref w_TRUE), .val (.ref w_UNKNOWN), .val (.ref w_UNKNOWN)] [(.ref w_TRUE), (.int (1 : Int32))])) rfl (by rw [hml]; rfl) (argsL := [(.ref w_TRUE)]) (rest := [(.int (1 : Int32))]) (lenOf pd_2 rfl) rfl (by show 2 * 0 + _ ≤ _; exact Nat.le_of_eq rfl) (hb hby at_23) (fun _ _ => ⟨rfl, ec4, (by decide : 0 + 0 ≤ _), (by decide : 0 + 0 ≤ _)⟩)
  dsimp only [Pt.U, Pt.locs, Pt.cells, Pt.slots] at X5 l5 y5 z5 st5 hQ5
  subst l5 y5 z5
  obtain ⟨rfl, Nq5, ec5⟩ := hQ5
  have N5 := Fr.app N4 Nq5
  obtain ⟨_, _, ⟨T6, L6, k6, n6⟩, -, X6, ⟨Lc6, hQ6, l6, y6, z6⟩, st6⟩ := Jvm.LawKit.callS X5 hx (y := (⟨"com/example/rowforge/rowforge/TruthAndPinLaw", "rank", "(Lcom/example/rowforge/rowforge/Truth;)I"⟩ : MethodName)) hown (mvT hZ (wd14 hw)) (mvT hZ (wd15 hw)) (mvT hZ (wd2 hw)) (mvT hZ (wd16 hw)) (by decide) (backOf (W := 2) (rm3_1 l Z a0 hw [] w_UNKNOWN w_FALSE h0 n0 OL0 pr5 pr7 pr4) hZ (wd16 hw) (wd2 hw) (by decide) (by decide)) (g := (mkF m 27 #[.val (.int p1), .val (.int p2), .val (.ref w_TRUE), .val (.ref w_UNKNOWN), .val (.ref w_UNKNOWN)] [(.ref w_UNKNOWN), (.int (2 : Int32)), (.int (1 : Int32))])) rfl (by rw [hml]; rfl) (argsL := [(.ref w_UNKNOWN)]) (rest := [(.int (2 : Int32)), (.int (1 : Int32))]) (lenOf pd_2 rfl) rfl (by show 2 * 0 + _ ≤ _; exact Nat.le_of_eq rfl) (hb hby at_27) (fun _ _ => ⟨rfl, ec5, (by decide : 0 + 0 ≤ _), (by decide : 0 + 0 ≤ _)⟩)
  dsimp only [Pt.U, Pt.locs, Pt.cells, Pt.slots] at X6 l6 y6 z6 st6 hQ6
  subst l6 y6 z6
  obtain ⟨rfl, Nq6, ec6⟩ := hQ6
  have N6 := Fr.app N5 Nq6
  obtain ⟨_, _, ⟨T7, L7, k7, n7⟩, -, X7, ⟨Lc7, hQ7, l7, y7, z7⟩, st7⟩ := Jvm.LawKit.callS X6 hx (y := (⟨"java/lang/Math", "min", "(II)I"⟩ : MethodName)) hown (mvT hZ (wd17 hw)) (mvT hZ (wd18 hw)) (mvT hZ (wd19 hw)) (mvT hZ (wd20 hw)) (by decide) (backOf (W := 1) (rm4_7 l Z a0 hw []  h0 n0 OL0 ) hZ (wd20 hw) (wd19 hw) (by decide) (by decide)) (g := (mkF m 30 #[.val (.int p1), .val (.int p2), .val (.ref w_TRUE), .val (.ref w_UNKNOWN), .val (.ref w_UNKNOWN)] [(.int (1 : Int32)), (.int (2 : Int32)), (.int (1 : Int32))])) rfl (by rw [hml]; rfl) (argsL := [(.int (2 : Int32)), (.int (1 : Int32))]) (rest := [(.int (1 : Int32))]) (lenOf pd_3 rfl) rfl (by show 2 * 0 + _ ≤ _; exact Nat.le_of_eq rfl) (hb hby at_30) (fun _ _ => ⟨rfl, ec6, (by decide : 0 + 0 ≤ _), (by decide : 0 + 0 ≤ _)⟩)
  dsimp only [Pt.U, Pt.locs, Pt.cells, Pt.slots] at X7 l7 y7 z7 st7 hQ7
  subst l7 y7 z7
  obtain ⟨rfl, Nq7, ec7⟩ := hQ7
  have N7 := Fr.app N6 Nq7
  obtain ⟨fs, hr, hrun, hended, hW, hsame⟩ := X7.leave (v := some (.int (1 : Int32))) (fun h => by rw [Bd.returns] at h; cases h)
  refine ⟨_, _, pre0 _ ?_, hrun, hended, _, _, rfl, ?_, ⟨_, rfl⟩, hW, hsame.mono (by decide) (by decide)⟩
  · show Steps p.tables e below (s₁.setTop (mkF m 0 #[.val (.int p1), .val (.int p2), .unset, .unset, .unset] [])) _
    refine XS.iloadN X0.here hx rfl (hb hby at_0) rfl ?_
    show Steps p.tables e below (s₁.setTop (mkF m 1 #[.val (.int p1), .val (.int p2), .unset, .unset, .unset] [(.int p1)])) _
    refine st1 _ ?_
    show Steps p.tables e below (T1.setTop (mkF m 4 #[.val (.int p1), .val (.int p2), .unset, .unset, .unset] [(.ref w_TRUE)])) _
    refine XS.astoreN X1.here hx rfl (hb hby at_4) rfl rfl (l' := #[.val (.int p1), .val (.int p2), .val (.ref w_TRUE), .unset, .unset]) rfl ?_
    show Steps p.tables e below (T1.setTop (mkF m 5 #[.val (.int p1), .val (.int p2), .val (.ref w_TRUE), .unset, .unset] [])) _
    refine XS.iloadN X1.here hx rfl (hb hby at_5) rfl ?_
    show Steps p.tables e below (T1.setTop (mkF m 6 #[.val (.int p1), .val (.int p2), .val (.ref w_TRUE), .unset, .unset] [(.int p2)])) _
    refine st2 _ ?_
    show Steps p.tables e below (T2.setTop (mkF m 9 #[.val (.int p1), .val (.int p2), .val (.ref w_TRUE), .unset, .unset] [(.ref w_UNKNOWN)])) _
    refine XS.astoreN X2.here hx rfl (hb hby at_9) rfl rfl (l' := #[.val (.int p1), .val (.int p2), .val (.ref w_TRUE), .val (.ref w_UNKNOWN), .unset]) rfl ?_
    show Steps p.tables e below (T2.setTop (mkF m 10 #[.val (.int p1), .val (.int p2), .val (.ref w_TRUE), .val (.ref w_UNKNOWN), .unset] [])) _
    refine XS.aloadN X2.here hx rfl (hb hby at_10) rfl rfl ?_
    show Steps p.tables e below (T2.setTop (mkF m 11 #[.val (.int p1), .val (.int p2), .val (.ref w_TRUE), .val (.ref w_UNKNOWN), .unset] [(.ref w_TRUE)])) _
    refine XS.aloadN X2.here hx rfl (hb hby at_11) rfl rfl ?_
    show Steps p.tables e below (T2.setTop (mkF m 12 #[.val (.int p1), .val (.int p2), .val (.ref w_TRUE), .val (.ref w_UNKNOWN), .unset] [(.ref w_UNKNOWN), (.ref w_TRUE)])) _
    refine st3.trans ?_
    show Steps p.tables e below (T3.setTop (mkF m 15 #[.val (.int p1), .val (.int p2), .val (.ref w_TRUE), .val (.ref w_UNKNOWN), .unset] [(.ref w_UNKNOWN)])) _
    refine XS.astore X3.here hx rfl (hb hby at_15) rfl rfl (l' := #[.val (.int p1), .val (.int p2), .val (.ref w_TRUE), .val (.ref w_UNKNOWN), .val (.ref w_UNKNOWN)]) rfl ?_
    show Steps p.tables e below (T3.setTop (mkF m 17 #[.val (.int p1), .val (.int p2), .val (.ref w_TRUE), .val (.ref w_UNKNOWN), .val (.ref w_UNKNOWN)] [])) _
    refine XS.aload X3.here hx rfl (hb hby at_17) rfl rfl ?_
    show Steps p.tables e below (T3.setTop (mkF m 19 #[.val (.int p1), .val (.int p2), .val (.ref w_TRUE), .val (.ref w_UNKNOWN), .val (.ref w_UNKNOWN)] [(.ref w_UNKNOWN)])) _
    refine st4 _ ?_
    show Steps p.tables e below (T4.setTop (mkF m 22 #[.val (.int p1), .val (.int p2), .val (.ref w_TRUE), .val (.ref w_UNKNOWN), .val (.ref w_UNKNOWN)] [(.int (1 : Int32))])) _
    refine XS.aloadN X4.here hx rfl (hb hby at_22) rfl rfl ?_
    show Steps p.tables e below (T4.setTop (mkF m 23 #[.val (.int p1), .val (.int p2), .val (.ref w_TRUE), .val (.ref w_UNKNOWN), .val (.ref w_UNKNOWN)] [(.ref w_TRUE), (.int (1 : Int32))])) _
    refine st5 _ ?_
    show Steps p.tables e below (T5.setTop (mkF m 26 #[.val (.int p1), .val (.int p2), .val (.ref w_TRUE), .val (.ref w_UNKNOWN), .val (.ref w_UNKNOWN)] [(.int (2 : Int32)), (.int (1 : Int32))])) _
    refine XS.aloadN X5.here hx rfl (hb hby at_26) rfl rfl ?_
    show Steps p.tables e below (T5.setTop (mkF m 27 #[.val (.int p1), .val (.int p2), .val (.ref w_TRUE), .val (.ref w_UNKNOWN), .val (.ref w_UNKNOWN)] [(.ref w_UNKNOWN), (.int (2 : Int32)), (.int (1 : Int32))])) _
    refine st6 _ ?_
    show Steps p.tables e below (T6.setTop (mkF m 30 #[.val (.int p1), .val (.int p2), .val (.ref w_TRUE), .val (.ref w_UNKNOWN), .val (.ref w_UNKNOWN)] [(.int (1 : Int32)), (.int (2 : Int32)), (.int (1 : Int32))])) _
    refine st7 _ ?_
    show Steps p.tables e below (T7.setTop (mkF m 33 #[.val (.int p1), .val (.int p2), .val (.ref w_TRUE), .val (.ref w_UNKNOWN), .val (.ref w_UNKNOWN)] [(.int (1 : Int32)), (.int (1 : Int32))])) _
    refine XS.icmpNo X7.here hx rfl (hb hby at_33) rfl (teq (rfl : (1 : Int32) = (1 : Int32))).2 ?_
    show Steps p.tables e below (T7.setTop (mkF m 36 #[.val (.int p1), .val (.int p2), .val (.ref w_TRUE), .val (.ref w_UNKNOWN), .val (.ref w_UNKNOWN)] [])) _
    refine XS.iconst X7.here hx rfl (hb hby at_36) ?_
    show Steps p.tables e below (T7.setTop (mkF m 37 #[.val (.int p1), .val (.int p2), .val (.ref w_TRUE), .val (.ref w_UNKNOWN), .val (.ref w_UNKNOWN)] [(.int (1 : Int32))])) _
    refine XS.goto X7.here hx rfl (pc0 := 37) (pc' := 41) rfl (hb hby at_37) (by decide) (by decide) ?_
    show Steps p.tables e below (T7.setTop (mkF m 41 #[.val (.int p1), .val (.int p2), .val (.ref w_TRUE), .val (.ref w_UNKNOWN), .val (.ref w_UNKNOWN)] [(.int (1 : Int32))])) _
    exact retN X7 hx (t := .boolean) Bd.returns (by simp) (hb hby at_41) hr
  · exact ⟨rfl, N7⟩
theorem d2_35 : decode prog_36_method_6_code 35 = .ok (.getstatic 3, 3) := by decide +kernel
theorem d2_38 : decode prog_36_method_6_code 38 = .ok (.astore_n 2, 1) := by decide +kernel
theorem d2_39 : decode prog_36_method_6_code 39 = .ok (.goto 7, 3) := by decide +kernel
def Q_rm2_6 (Z : State) (w1 : Addr) (w2 : Addr) (h0 : Heap) (n0 : Nat) (v : Option Value) (h : Heap) (L : List Loc) : Prop := v = some (.ref w1) ∧ Fr n0 L ∧ h = h0
set_option maxRecDepth 65536 in
set_option maxHeartbeats 40000000 in
theorem rm2_6 (l : Launch) (Z : State) (a0 : Array Value) (hw : ∀ d ∈ tables_1, d.before a0 Z = true) (ws : List Jvm.Cond) (w1 : Addr) (w2 : Addr) (h0 : Heap) (n0 : Nat) (OL0 : Old Z n0 h0) (pr1 : Sta Z Z.heap "com/example/rowforge/rowforge/Truth" "FALSE" "Lcom/example/rowforge/rowforge/Truth;" (.ref w2)) (pr2 : w1 ≠ w2) (pr3 : Sta Z Z.heap "com/example/rowforge/rowforge/Truth" "TRUE" "Lcom/example/rowforge/rowforge/Truth;" (.ref w1)) :
    MetFree l (⟨"com/example/rowforge/rowforge/Truth", "and", "(Lcom/example/rowforge/rowforge/Truth;)Lcom/example/rowforge/rowforge/Truth;"⟩ : MethodName) (head1 (Jvm.Cond.code (⟨"com/example/rowforge/rowforge/Truth", "and", "(Lcom/example/rowforge/rowforge/Truth;)Lcom/example/rowforge/rowforge/Truth;"⟩ : MethodName) prog_36_method_6_code 3 (some (.object "com/example/rowforge/rowforge/Truth")) :: ws) ({ frames := 0, cells := 0, slots := 0, locals := 0 } : Room)) (fun a U => a = #[(.ref w1), (.ref w1)] ∧ Z.Warmed39 U.vm ∧ U.heap = h0) (fun _ _ _ _ _ => True) (fun _ U o U' => ∃ v L, o = .returned v ∧ Q_rm2_6 Z w1 w2 h0 n0 v U'.heap L ∧ FrameEnd U o U' L ({ frames := 0, cells := 0, slots := 0, locals := 0 } : Room).cells ({ frames := 0, cells := 0, slots := 0, locals := 0 } : Room).slots) := by
  refine MetFree.of_bodySF (plainFor_of_name pn_1) hisR ?_
  intro p e s m args below meth c s₁ Bd hml0 hP hK
  obtain ⟨rfl, hZ, hh⟩ := hP
  have hx := Bd.exec
  have hby := Bd.bytes
  have hml : c.maxLocals = 3 := hml0
  have hown : s.vm.findClass "com/example/rowforge/rowforge/Truth" = some m.cls := findClass_of_methodNamed Bd.named
  have hnm := (name_of_methodNamed Bd.named Bd.method).1
  have X0 : Stand p l e ({ frames := 0, cells := 0, slots := 0, locals := 0 } : Room) s m #[(.ref w1), (.ref w1)] below meth c s₁ [] 0 0 := Stand.of_body Bd
  have e0 : s₁.heap = h0 := by rw [← hh, Bd.state]; rfl
  have N0 := Fr.nil n0
  have pre0 : ∀ t, Steps p.tables e below (s₁.setTop (mkF m 0 #[.val (.ref w1), .val (.ref w1), .unset] [])) t → Steps p.tables e below (s₁.setTop (entryFrame m #[(.ref w1), (.ref w1)] 3)) t := fun t k => castTop (ef_2_1 m w1 w1) k
  obtain ⟨T3, X3, e3, st3⟩ := getS2 X0 hx hZ hown (host := "") (Or.inl (wd13 hw)) Via.refl e0 (pr1.ext OL0.2) (g := (mkF m 1 #[.val (.ref w1), .val (.ref w1), .unset] [(.ref w1)])) rfl (hb hby d2_1)
  obtain ⟨T4, X4, e4, st4⟩ := getS2 X3 hx hZ hown (host := "") (Or.inl (wd13 hw)) Via.refl e3 (pr1.ext OL0.2) (g := (mkF m 8 #[.val (.ref w1), .val (.ref w1), .unset] [(.ref w1)])) rfl (hb hby d2_8)
  obtain ⟨T5, X5, e5, st5⟩ := getS2 X4 hx hZ hown (host := "") (Or.inl (wd25 hw)) Via.refl e4 (pr3.ext OL0.2) (g := (mkF m 22 #[.val (.ref w1), .val (.ref w1), .unset] [(.ref w1)])) rfl (hb hby d2_22)
  obtain ⟨T6, X6, e6, st6⟩ := getS2 X5 hx hZ hown (host := "") (Or.inl (wd25 hw)) Via.refl e5 (pr3.ext OL0.2) (g := (mkF m 29 #[.val (.ref w1), .val (.ref w1), .unset] [(.ref w1)])) rfl (hb hby d2_29)
  obtain ⟨T7, X7, e7, st7⟩ := getS2 X6 hx hZ hown (host := "") (Or.inl (wd25 hw)) Via.refl e6 (pr3.ext OL0.2) (g := (mkF m 35 #[.val (.ref w1), .val (.ref w1), .unset] [])) rfl (hb hby d2_35)
  obtain ⟨fs, hr, hrun, hended, hW, hsame⟩ := X7.leave (v := some (.ref w1)) (fun h => by rw [Bd.returns] at h; cases h)
  refine ⟨_, _, pre0 _ ?_, hrun, hended, _, _, rfl, ?_, ⟨_, rfl⟩, hW, hsame.mono (by decide) (by decide)⟩
  · show Steps p.tables e below (s₁.setTop (mkF m 0 #[.val (.ref w1), .val (.ref w1), .unset] [])) _
    refine XS.aloadN X0.here hx rfl (hb hby d2_0) rfl rfl ?_
    show Steps p.tables e below (s₁.setTop (mkF m 1 #[.val (.ref w1), .val (.ref w1), .unset] [(.ref w1)])) _
    refine st3 _ ?_
    show Steps p.tables e below (T3.setTop (mkF m 4 #[.val (.ref w1), .val (.ref w1), .unset] [(.ref w2), (.ref w1)])) _
    refine Jvm.RoadKit.acmp (g := (mkF m 4 #[.val (.ref w1), .val (.ref w1), .unset] [(.ref w2), (.ref w1)])) X3 hx rfl rfl rfl (pc0 := 4) (pc' := 7) (same := false) rfl (hb hby d2_4) rfl (decide_eq_false fun q => pr2 (Value.ref.inj q)) (by decide) (by decide) ?_
    show Steps p.tables e below (T3.setTop (mkF m 7 #[.val (.ref w1), .val (.ref w1), .unset] [])) _
    refine XS.aloadN X3.here hx rfl (hb hby d2_7) rfl rfl ?_
    show Steps p.tables e below (T3.setTop (mkF m 8 #[.val (.ref w1), .val (.ref w1), .unset] [(.ref w1)])) _
    refine st4 _ ?_
    show Steps p.tables e below (T4.setTop (mkF m 11 #[.val (.ref w1), .val (.ref w1), .unset] [(.ref w2), (.ref w1)])) _
    refine Jvm.RoadKit.acmp (g := (mkF m 11 #[.val (.ref w1), .val (.ref w1), .unset] [(.ref w2), (.ref w1)])) X4 hx rfl rfl rfl (pc0 := 11) (pc' := 21) (same := false) rfl (hb hby d2_11) rfl (decide_eq_false fun q => pr2 (Value.ref.inj q)) (by decide) (by decide) ?_
    show Steps p.tables e below (T4.setTop (mkF m 21 #[.val (.ref w1), .val (.ref w1), .unset] [])) _
    refine XS.aloadN X4.here hx rfl (hb hby d2_21) rfl rfl ?_
    show Steps p.tables e below (T4.setTop (mkF m 22 #[.val (.ref w1), .val (.ref w1), .unset] [(.ref w1)])) _
    refine st5 _ ?_
    show Steps p.tables e below (T5.setTop (mkF m 25 #[.val (.ref w1), .val (.ref w1), .unset] [(.ref w1), (.ref w1)])) _
    refine Jvm.RoadKit.acmp (g := (mkF m 25 #[.val (.ref w1), .val (.ref w1), .unset] [(.ref w1), (.ref w1)])) X5 hx rfl rfl rfl (pc0 := 25) (pc' := 28) (same := true) rfl (hb hby d2_25) rfl (decide_eq_true rfl) (by decide) (by decide) ?_
    show Steps p.tables e below (T5.setTop (mkF m 28 #[.val (.ref w1), .val (.ref w1), .unset] [])) _
    refine XS.aloadN X5.here hx rfl (hb hby d2_28) rfl rfl ?_
    show Steps p.tables e below (T5.setTop (mkF m 29 #[.val (.ref w1), .val (.ref w1), .unset] [(.ref w1)])) _
    refine st6 _ ?_
    show Steps p.tables e below (T6.setTop (mkF m 32 #[.val (.ref w1), .val (.ref w1), .unset] [(.ref w1), (.ref w1)])) _
    refine Jvm.RoadKit.acmp (g := (mkF m 32 #[.val (.ref w1), .val (.ref w1), .unset] [(.ref w1), (.ref w1)])) X6 hx rfl rfl rfl (pc0 := 32) (pc' := 35) (same := true) rfl (hb hby d2_32) rfl (decide_eq_true rfl) (by decide) (by decide) ?_
    show Steps p.tables e below (T6.setTop (mkF m 35 #[.val (.ref w1), .val (.ref w1), .unset] [])) _
    refine st7 _ ?_
    show Steps p.tables e below (T7.setTop (mkF m 38 #[.val (.ref w1), .val (.ref w1), .unset] [(.ref w1)])) _
    refine XS.astoreN X7.here hx rfl (hb hby d2_38) rfl rfl (l' := #[.val (.ref w1), .val (.ref w1), .val (.ref w1)]) rfl ?_
    show Steps p.tables e below (T7.setTop (mkF m 39 #[.val (.ref w1), .val (.ref w1), .val (.ref w1)] [])) _
    refine XS.goto X7.here hx rfl (pc0 := 39) (pc' := 46) rfl (hb hby d2_39) (by decide) (by decide) ?_
    show Steps p.tables e below (T7.setTop (mkF m 46 #[.val (.ref w1), .val (.ref w1), .val (.ref w1)] [])) _
    refine XS.aloadN X7.here hx rfl (hb hby d2_46) rfl rfl ?_
    show Steps p.tables e below (T7.setTop (mkF m 47 #[.val (.ref w1), .val (.ref w1), .val (.ref w1)] [(.ref w1)])) _
    jvm_step X7.here [X7.here.top, hx, (hb hby d2_47), X7.method', Bd.returns, Value.isRef, FieldType.isReference]
    first | (intro acts; rw [hr _ acts rfl rfl rfl]) | rw [hr _ _ rfl rfl rfl]
    exact Steps.refl _
  · show Q_rm2_6 Z w1 w2 h0 n0 _ T7.heap _
    rw [e7]
    exact ⟨rfl, N0, rfl⟩
theorem ef_4_12 (m : MethodId)  : entryFrame m #[(.int (2 : Int32)), (.int (2 : Int32))] 2 = mkF m 0 #[.val (.int (2 : Int32)), .val (.int (2 : Int32))] [] := by first | (simp [entryFrame, mkF, argsToLocals, Value.category]; done) | rfl
def Q_rm4_8 (Z : State)  (h0 : Heap) (n0 : Nat) (v : Option Value) (h : Heap) (L : List Loc) : Prop := v = some (.int (2 : Int32)) ∧ Fr n0 L ∧ h = h0
set_option maxRecDepth 65536 in
set_option maxHeartbeats 40000000 in
theorem rm4_8 (l : Launch) (Z : State) (a0 : Array Value) (hw : ∀ d ∈ tables_1, d.before a0 Z = true) (ws : List Jvm.Cond)  (h0 : Heap) (n0 : Nat) (OL0 : Old Z n0 h0)  :
    MetFree l (⟨"java/lang/Math", "min", "(II)I"⟩ : MethodName) (head1 (Jvm.Cond.code (⟨"java/lang/Math", "min", "(II)I"⟩ : MethodName) jdk_29_method_69_code 2 (some .int) :: ws) ({ frames := 0, cells := 0, slots := 0, locals := 0 } : Room)) (fun a U => a = #[(.int (2 : Int32)), (.int (2 : Int32))] ∧ Z.Warmed39 U.vm ∧ U.heap = h0) (fun _ _ _ _ _ => True) (fun _ U o U' => ∃ v L, o = .returned v ∧ Q_rm4_8 Z  h0 n0 v U'.heap L ∧ FrameEnd U o U' L ({ frames := 0, cells := 0, slots := 0, locals := 0 } : Room).cells ({ frames := 0, cells := 0, slots := 0, locals := 0 } : Room).slots) := by
  refine MetFree.of_bodySF (Jvm.Free.JP.mathPlain rfl (by decide +kernel)) hisR ?_
  intro p e s m args below meth c s₁ Bd hml0 hP hK
  obtain ⟨rfl, hZ, hh⟩ := hP
  have hx := Bd.exec
  have hby := Bd.bytes
  have hml : c.maxLocals = 2 := hml0
  have hown : s.vm.findClass "java/lang/Math" = some m.cls := findClass_of_methodNamed Bd.named
  have hnm := (name_of_methodNamed Bd.named Bd.method).1
  have X0 : Stand p l e ({ frames := 0, cells := 0, slots := 0, locals := 0 } : Room) s m #[(.int (2 : Int32)), (.int (2 : Int32))] below meth c s₁ [] 0 0 := Stand.of_body Bd
  have e0 : s₁.heap = h0 := by rw [← hh, Bd.state]; rfl
  have N0 := Fr.nil n0
  have pre0 : ∀ t, Steps p.tables e below (s₁.setTop (mkF m 0 #[.val (.int (2 : Int32)), .val (.int (2 : Int32))] [])) t → Steps p.tables e below (s₁.setTop (entryFrame m #[(.int (2 : Int32)), (.int (2 : Int32))] 2)) t := fun t k => castTop (ef_4_12 m ) k
  obtain ⟨fs, hr, hrun, hended, hW, hsame⟩ := X0.leave (v := some (.int (2 : Int32))) (fun h => by rw [Bd.returns] at h; cases h)
  refine ⟨_, _, pre0 _ ?_, hrun, hended, _, _, rfl, ?_, ⟨_, rfl⟩, hW, hsame.mono (by decide) (by decide)⟩
  · show Steps p.tables e below (s₁.setTop (mkF m 0 #[.val (.int (2 : Int32)), .val (.int (2 : Int32))] [])) _
    refine XS.iloadN X0.here hx rfl (hb hby d4_0) rfl ?_
    show Steps p.tables e below (s₁.setTop (mkF m 1 #[.val (.int (2 : Int32)), .val (.int (2 : Int32))] [(.int (2 : Int32))])) _
    refine XS.iloadN X0.here hx rfl (hb hby d4_1) rfl ?_
    show Steps p.tables e below (s₁.setTop (mkF m 2 #[.val (.int (2 : Int32)), .val (.int (2 : Int32))] [(.int (2 : Int32)), (.int (2 : Int32))])) _
    refine XS.icmpNo X0.here hx rfl (hb hby d4_2) rfl (flt (by decide : ¬ ((2 : Int32) < (2 : Int32)))).2.2.1 ?_
    show Steps p.tables e below (s₁.setTop (mkF m 5 #[.val (.int (2 : Int32)), .val (.int (2 : Int32))] [])) _
    refine XS.iloadN X0.here hx rfl (hb hby d4_5) rfl ?_
    show Steps p.tables e below (s₁.setTop (mkF m 6 #[.val (.int (2 : Int32)), .val (.int (2 : Int32))] [(.int (2 : Int32))])) _
    refine XS.goto X0.here hx rfl (pc0 := 6) (pc' := 10) rfl (hb hby d4_6) (by decide) (by decide) ?_
    show Steps p.tables e below (s₁.setTop (mkF m 10 #[.val (.int (2 : Int32)), .val (.int (2 : Int32))] [(.int (2 : Int32))])) _
    exact retI X0 hx Bd.returns (hb hby d4_10) hr
  · show Q_rm4_8 Z  h0 n0 _ s₁.heap _
    rw [e0]
    exact ⟨rfl, N0, rfl⟩
set_option maxRecDepth 65536 in
set_option maxHeartbeats 40000000 in
theorem rm0_2_2 (l : Launch) (Z : State) (a0 : Array Value) (hw : ∀ d ∈ tables_1, d.before a0 Z = true) (ws : List Jvm.Cond) (p1 : Int32) (p2 : Int32) (w_TRUE : Addr) (w_FALSE : Addr) (w_UNKNOWN : Addr) (h0 : Heap) (n0 : Nat) (OL0 : Old Z n0 h0) (pr1 : ((p1 &&& (2147483647 : Int32)) % (3 : Int32)) = (2 : Int32)) (pr2 : Sta Z Z.heap "com/example/rowforge/rowforge/Truth" "TRUE" "Lcom/example/rowforge/rowforge/Truth;" (.ref w_TRUE)) (pr3 : ((p2 &&& (2147483647 : Int32)) % (3 : Int32)) = (2 : Int32)) (pr4 : Sta Z Z.heap "com/example/rowforge/rowforge/Truth" "FALSE" "Lcom/example/rowforge/rowforge/Truth;" (.ref w_FALSE)) (pr5 : w_TRUE ≠ w_FALSE) (pr6 : Exa Z Z.heap w_TRUE "com/example/rowforge/rowforge/Truth") (pr7 : Sta Z Z.heap "com/example/rowforge/rowforge/Truth" "UNKNOWN" "Lcom/example/rowforge/rowforge/Truth;" (.ref w_UNKNOWN)) (pr8 : w_TRUE ≠ w_UNKNOWN) :
    MetFree l x (head1 (Jvm.Cond.code x code maxLocals ret :: ws) room_1) (fun a U => a = #[(.int p1), (.int p2)] ∧ Z.Warmed39 U.vm ∧ U.heap = h0) (fun _ _ _ _ _ => True) (fun _ U o U' => ∃ v L, o = .returned v ∧ Q0 n0 v L ∧ FrameEnd U o U' L 0 0) := by
  refine MetFree.of_bodySF (plainFor_of_name pn_0) hisR ?_
  intro p e s m args below meth c s₁ Bd hml0 hP hK
  obtain ⟨rfl, hZ, hh⟩ := hP
  have hx := Bd.exec
  have hby := Bd.bytes
  have hml : c.maxLocals = 5 := hml0
  have hown : s.vm.findClass "com/example/rowforge/rowforge/TruthAndPinLaw" = some m.cls := findClass_of_methodNamed Bd.named
  have hnm := (name_of_methodNamed Bd.named Bd.method).1
  have X0 : Stand p l e room_1 s m #[(.int p1), (.int p2)] below meth c s₁ [] 0 0 := Stand.of_body Bd
  have e0 : s₁.heap = h0 := by rw [← hh, Bd.state]; rfl
  have N0 := Fr.nil n0
  have pre0 : ∀ t, Steps p.tables e below (s₁.setTop (mkF m 0 #[.val (.int p1), .val (.int p2), .unset, .unset, .unset] [])) t → Steps p.tables e below (s₁.setTop (entryFrame m #[(.int p1), (.int p2)] maxLocals)) t := fun t k => castTop (ef_0_4 m p1 p2) k
  obtain ⟨_, _, ⟨T1, L1, k1, n1⟩, -, X1, ⟨Lc1, hQ1, l1, y1, z1⟩, st1⟩ := Jvm.LawKit.callS X0 hx (y := (⟨"com/example/rowforge/rowforge/TruthAndPinLaw", "pick", "(I)Lcom/example/rowforge/rowforge/Truth;"⟩ : MethodName)) hown (mvT hZ (wd0 hw)) (mvT hZ (wd1 hw)) (mvT hZ (wd2 hw)) (mvT hZ (wd3 hw)) (by decide) (backOf (W := 0) (rm1_2 l Z a0 hw [] p1 w_TRUE h0 n0 OL0 pr1 pr2) hZ (wd3 hw) (wd2 hw) (by decide) (by decide)) (g := (mkF m 1 #[.val (.int p1), .val (.int p2), .unset, .unset, .unset] [(.int p1)])) rfl (by rw [hml]; rfl) (argsL := [(.int p1)]) (rest := []) (lenOf pd_0 rfl) rfl (by show 2 * 0 + _ ≤ _; exact Nat.le_of_eq rfl) (hb hby at_1) (fun _ _ => ⟨rfl, e0, (by decide : 0 + 0 ≤ _), (by decide : 0 + 0 ≤ _)⟩)
  dsimp only [Pt.U, Pt.locs, Pt.cells, Pt.slots] at X1 l1 y1 z1 st1 hQ1
  subst l1 y1 z1
  obtain ⟨rfl, Nq1, ec1⟩ := hQ1
  have N1 := Fr.app N0 Nq1
  obtain ⟨_, _, ⟨T2, L2, k2, n2⟩, -, X2, ⟨Lc2, hQ2, l2, y2, z2⟩, st2⟩ := Jvm.LawKit.callS X1 hx (y := (⟨"com/example/rowforge/rowforge/TruthAndPinLaw", "pick", "(I)Lcom/example/rowforge/rowforge/Truth;"⟩ : MethodName)) hown (mvT hZ (wd0 hw)) (mvT hZ (wd1 hw)) (mvT hZ (wd2 hw)) (mvT hZ (wd3 hw)) (by decide) (backOf (W := 0) (rm1_2 l Z a0 hw [] p2 w_TRUE h0 n0 OL0 pr3 pr2) hZ (wd3 hw) (wd2 hw) (by decide) (by decide)) (g := (mkF m 6 #[.val (.int p1), .val (.int p2), .val (.ref w_TRUE), .unset, .unset] [(.int p2)])) rfl (by rw [hml]; rfl) (argsL := [(.int p2)]) (rest := []) (lenOf pd_0 rfl) rfl (by show 2 * 0 + _ ≤ _; exact Nat.le_of_eq rfl) (hb hby at_6) (fun _ _ => ⟨rfl, ec1, (by decide : 0 + 0 ≤ _), (by decide : 0 + 0 ≤ _)⟩)
  dsimp only [Pt.U, Pt.locs, Pt.cells, Pt.slots] at X2 l2 y2 z2 st2 hQ2
  subst l2 y2 z2
  obtain ⟨rfl, Nq2, ec2⟩ := hQ2
  have N2 := Fr.app N1 Nq2
  obtain ⟨cq3, kq3, q3a, q3b, q3c⟩ := isOf hZ ec2 (pr6.ext OL0.2)
  obtain ⟨_, _, ⟨T3, L3, k3, n3⟩, -, X3, ⟨Lc3, hQ3, l3, y3, z3⟩, st3⟩ := X2.virtualBack hx (y := (⟨"com/example/rowforge/rowforge/Truth", "and", "(Lcom/example/rowforge/rowforge/Truth;)Lcom/example/rowforge/rowforge/Truth;"⟩ : MethodName)) (z := (⟨"com/example/rowforge/rowforge/Truth", "and", "(Lcom/example/rowforge/rowforge/Truth;)Lcom/example/rowforge/rowforge/Truth;"⟩ : MethodName)) hown (mvT hZ (wd8 hw)) (mvT hZ (wd9 hw)) (notFace_of_selects (args := #[]) (mvT hZ (wd11 hw))) (mvT hZ (wd11 hw)) (mvT hZ (wd10 hw)) (by decide) (backOf (W := 0) (rm2_6 l Z a0 hw [] w_TRUE w_FALSE h0 n0 OL0 pr4 pr5 pr2) hZ (wd12 hw) (wd6 hw) (by decide) (by decide)) q3a q3c (g := (mkF m 12 #[.val (.int p1), .val (.int p2), .val (.ref w_TRUE), .val (.ref w_TRUE), .unset] [(.ref w_TRUE), (.ref w_TRUE)])) rfl (by rw [hml]; rfl) (Steps.refl _) (argsL := [(.ref w_TRUE)]) (rest := []) (lenOf pd_1 rfl) rfl (by show 2 * 0 + _ ≤ _; exact Nat.le_of_eq rfl) (hb hby at_12) (fun _ _ => ⟨rfl, ec2, (by decide : 0 + 0 ≤ _), (by decide : 0 + 0 ≤ _)⟩)
  dsimp only [Pt.U, Pt.locs, Pt.cells, Pt.slots] at X3 l3 y3 z3 st3 hQ3
  subst l3 y3 z3
  obtain ⟨rfl, Nq3, ec3⟩ := hQ3
  have N3 := Fr.app N2 Nq3
  obtain ⟨_, _, ⟨T4, L4, k4, n4⟩, -, X4, ⟨Lc4, hQ4, l4, y4, z4⟩, st4⟩ := Jvm.LawKit.callS X3 hx (y := (⟨"com/example/rowforge/rowforge/TruthAndPinLaw", "rank", "(Lcom/example/rowforge/rowforge/Truth;)I"⟩ : MethodName)) hown (mvT hZ (wd14 hw)) (mvT hZ (wd15 hw)) (mvT hZ (wd2 hw)) (mvT hZ (wd16 hw)) (by decide) (backOf (W := 0) (rm3_2 l Z a0 hw [] w_TRUE w_FALSE w_UNKNOWN h0 n0 OL0 pr4 pr5 pr7 pr8 pr2) hZ (wd16 hw) (wd2 hw) (by decide) (by decide)) (g := (mkF m 19 #[.val (.int p1), .val (.int p2), .val (.ref w_TRUE), .val (.ref w_TRUE), .val (.ref w_TRUE)] [(.ref w_TRUE)])) rfl (by rw [hml]; rfl) (argsL := [(.ref w_TRUE)]) (rest := []) (lenOf pd_2 rfl) rfl (by show 2 * 0 + _ ≤ _; exact Nat.le_of_eq rfl) (hb hby at_19) (fun _ _ => ⟨rfl, ec3, (by decide : 0 + 0 ≤ _), (by decide : 0 + 0 ≤ _)⟩)
  dsimp only [Pt.U, Pt.locs, Pt.cells, Pt.slots] at X4 l4 y4 z4 st4 hQ4
  subst l4 y4 z4
  obtain ⟨rfl, Nq4, ec4⟩ := hQ4
  have N4 := Fr.app N3 Nq4
  obtain ⟨_, _, ⟨T5, L5, k5, n5⟩, -, X5, ⟨Lc5, hQ5, l5, y5, z5⟩, st5⟩ := Jvm.LawKit.callS X4 hx (y := (⟨"com/example/rowforge/rowforge/TruthAndPinLaw", "rank", "(Lcom/example/rowforge/rowforge/Truth;)I"⟩ : MethodName)) hown (mvT hZ (wd14 hw)) (mvT hZ (wd15 hw)) (mvT hZ (wd2 hw)) (mvT hZ (wd16 hw)) (by decide) (backOf (W := 1) (rm3_2 l Z a0 hw [] w_TRUE w_FALSE w_UNKNOWN h0 n0 OL0 pr4 pr5 pr7 pr8 pr2) hZ (wd16 hw) (wd2 hw) (by decide) (by decide)) (g := (mkF m 23 #[.val (.int p1), .val (.int p2), .val (.ref w_TRUE), .val (.ref w_TRUE), .val (.ref w_TRUE)] [(.ref w_TRUE), (.int (2 : Int32))])) rfl (by rw [hml]; rfl) (argsL := [(.ref w_TRUE)]) (rest := [(.int (2 : Int32))]) (lenOf pd_2 rfl) rfl (by show 2 * 0 + _ ≤ _; exact Nat.le_of_eq rfl) (hb hby at_23) (fun _ _ => ⟨rfl, ec4, (by decide : 0 + 0 ≤ _), (by decide : 0 + 0 ≤ _)⟩)
  dsimp only [Pt.U, Pt.locs, Pt.cells, Pt.slots] at X5 l5 y5 z5 st5 hQ5
  subst l5 y5 z5
  obtain ⟨rfl, Nq5, ec5⟩ := hQ5
  have N5 := Fr.app N4 Nq5
  obtain ⟨_, _, ⟨T6, L6, k6, n6⟩, -, X6, ⟨Lc6, hQ6, l6, y6, z6⟩, st6⟩ := Jvm.LawKit.callS X5 hx (y := (⟨"com/example/rowforge/rowforge/TruthAndPinLaw", "rank", "(Lcom/example/rowforge/rowforge/Truth;)I"⟩ : MethodName)) hown (mvT hZ (wd14 hw)) (mvT hZ (wd15 hw)) (mvT hZ (wd2 hw)) (mvT hZ (wd16 hw)) (by decide) (backOf (W := 2) (rm3_2 l Z a0 hw [] w_TRUE w_FALSE w_UNKNOWN h0 n0 OL0 pr4 pr5 pr7 pr8 pr2) hZ (wd16 hw) (wd2 hw) (by decide) (by decide)) (g := (mkF m 27 #[.val (.int p1), .val (.int p2), .val (.ref w_TRUE), .val (.ref w_TRUE), .val (.ref w_TRUE)] [(.ref w_TRUE), (.int (2 : Int32)), (.int (2 : Int32))])) rfl (by rw [hml]; rfl) (argsL := [(.ref w_TRUE)]) (rest := [(.int (2 : Int32)), (.int (2 : Int32))]) (lenOf pd_2 rfl) rfl (by show 2 * 0 + _ ≤ _; exact Nat.le_of_eq rfl) (hb hby at_27) (fun _ _ => ⟨rfl, ec5, (by decide : 0 + 0 ≤ _), (by decide : 0 + 0 ≤ _)⟩)
  dsimp only [Pt.U, Pt.locs, Pt.cells, Pt.slots] at X6 l6 y6 z6 st6 hQ6
  subst l6 y6 z6
  obtain ⟨rfl, Nq6, ec6⟩ := hQ6
  have N6 := Fr.app N5 Nq6
  obtain ⟨_, _, ⟨T7, L7, k7, n7⟩, -, X7, ⟨Lc7, hQ7, l7, y7, z7⟩, st7⟩ := Jvm.LawKit.callS X6 hx (y := (⟨"java/lang/Math", "min", "(II)I"⟩ : MethodName)) hown (mvT hZ (wd17 hw)) (mvT hZ (wd18 hw)) (mvT hZ (wd19 hw)) (mvT hZ (wd20 hw)) (by decide) (backOf (W := 1) (rm4_8 l Z a0 hw []  h0 n0 OL0 ) hZ (wd20 hw) (wd19 hw) (by decide) (by decide)) (g := (mkF m 30 #[.val (.int p1), .val (.int p2), .val (.ref w_TRUE), .val (.ref w_TRUE), .val (.ref w_TRUE)] [(.int (2 : Int32)), (.int (2 : Int32)), (.int (2 : Int32))])) rfl (by rw [hml]; rfl) (argsL := [(.int (2 : Int32)), (.int (2 : Int32))]) (rest := [(.int (2 : Int32))]) (lenOf pd_3 rfl) rfl (by show 2 * 0 + _ ≤ _; exact Nat.le_of_eq rfl) (hb hby at_30) (fun _ _ => ⟨rfl, ec6, (by decide : 0 + 0 ≤ _), (by decide : 0 + 0 ≤ _)⟩)
  dsimp only [Pt.U, Pt.locs, Pt.cells, Pt.slots] at X7 l7 y7 z7 st7 hQ7
  subst l7 y7 z7
  obtain ⟨rfl, Nq7, ec7⟩ := hQ7
  have N7 := Fr.app N6 Nq7
  obtain ⟨fs, hr, hrun, hended, hW, hsame⟩ := X7.leave (v := some (.int (1 : Int32))) (fun h => by rw [Bd.returns] at h; cases h)
  refine ⟨_, _, pre0 _ ?_, hrun, hended, _, _, rfl, ?_, ⟨_, rfl⟩, hW, hsame.mono (by decide) (by decide)⟩
  · show Steps p.tables e below (s₁.setTop (mkF m 0 #[.val (.int p1), .val (.int p2), .unset, .unset, .unset] [])) _
    refine XS.iloadN X0.here hx rfl (hb hby at_0) rfl ?_
    show Steps p.tables e below (s₁.setTop (mkF m 1 #[.val (.int p1), .val (.int p2), .unset, .unset, .unset] [(.int p1)])) _
    refine st1 _ ?_
    show Steps p.tables e below (T1.setTop (mkF m 4 #[.val (.int p1), .val (.int p2), .unset, .unset, .unset] [(.ref w_TRUE)])) _
    refine XS.astoreN X1.here hx rfl (hb hby at_4) rfl rfl (l' := #[.val (.int p1), .val (.int p2), .val (.ref w_TRUE), .unset, .unset]) rfl ?_
    show Steps p.tables e below (T1.setTop (mkF m 5 #[.val (.int p1), .val (.int p2), .val (.ref w_TRUE), .unset, .unset] [])) _
    refine XS.iloadN X1.here hx rfl (hb hby at_5) rfl ?_
    show Steps p.tables e below (T1.setTop (mkF m 6 #[.val (.int p1), .val (.int p2), .val (.ref w_TRUE), .unset, .unset] [(.int p2)])) _
    refine st2 _ ?_
    show Steps p.tables e below (T2.setTop (mkF m 9 #[.val (.int p1), .val (.int p2), .val (.ref w_TRUE), .unset, .unset] [(.ref w_TRUE)])) _
    refine XS.astoreN X2.here hx rfl (hb hby at_9) rfl rfl (l' := #[.val (.int p1), .val (.int p2), .val (.ref w_TRUE), .val (.ref w_TRUE), .unset]) rfl ?_
    show Steps p.tables e below (T2.setTop (mkF m 10 #[.val (.int p1), .val (.int p2), .val (.ref w_TRUE), .val (.ref w_TRUE), .unset] [])) _
    refine XS.aloadN X2.here hx rfl (hb hby at_10) rfl rfl ?_
    show Steps p.tables e below (T2.setTop (mkF m 11 #[.val (.int p1), .val (.int p2), .val (.ref w_TRUE), .val (.ref w_TRUE), .unset] [(.ref w_TRUE)])) _
    refine XS.aloadN X2.here hx rfl (hb hby at_11) rfl rfl ?_
    show Steps p.tables e below (T2.setTop (mkF m 12 #[.val (.int p1), .val (.int p2), .val (.ref w_TRUE), .val (.ref w_TRUE), .unset] [(.ref w_TRUE), (.ref w_TRUE)])) _
    refine st3.trans ?_
    show Steps p.tables e below (T3.setTop (mkF m 15 #[.val (.int p1), .val (.int p2), .val (.ref w_TRUE), .val (.ref w_TRUE), .unset] [(.ref w_TRUE)])) _
    refine XS.astore X3.here hx rfl (hb hby at_15) rfl rfl (l' := #[.val (.int p1), .val (.int p2), .val (.ref w_TRUE), .val (.ref w_TRUE), .val (.ref w_TRUE)]) rfl ?_
    show Steps p.tables e below (T3.setTop (mkF m 17 #[.val (.int p1), .val (.int p2), .val (.ref w_TRUE), .val (.ref w_TRUE), .val (.ref w_TRUE)] [])) _
    refine XS.aload X3.here hx rfl (hb hby at_17) rfl rfl ?_
    show Steps p.tables e below (T3.setTop (mkF m 19 #[.val (.int p1), .val (.int p2), .val (.ref w_TRUE), .val (.ref w_TRUE), .val (.ref w_TRUE)] [(.ref w_TRUE)])) _
    refine st4 _ ?_
    show Steps p.tables e below (T4.setTop (mkF m 22 #[.val (.int p1), .val (.int p2), .val (.ref w_TRUE), .val (.ref w_TRUE), .val (.ref w_TRUE)] [(.int (2 : Int32))])) _
    refine XS.aloadN X4.here hx rfl (hb hby at_22) rfl rfl ?_
    show Steps p.tables e below (T4.setTop (mkF m 23 #[.val (.int p1), .val (.int p2), .val (.ref w_TRUE), .val (.ref w_TRUE), .val (.ref w_TRUE)] [(.ref w_TRUE), (.int (2 : Int32))])) _
    refine st5 _ ?_
    show Steps p.tables e below (T5.setTop (mkF m 26 #[.val (.int p1), .val (.int p2), .val (.ref w_TRUE), .val (.ref w_TRUE), .val (.ref w_TRUE)] [(.int (2 : Int32)), (.int (2 : Int32))])) _
    refine XS.aloadN X5.here hx rfl (hb hby at_26) rfl rfl ?_
    show Steps p.tables e below (T5.setTop (mkF m 27 #[.val (.int p1), .val (.int p2), .val (.ref w_TRUE), .val (.ref w_TRUE), .val (.ref w_TRUE)] [(.ref w_TRUE), (.int (2 : Int32)), (.int (2 : Int32))])) _
    refine st6 _ ?_
    show Steps p.tables e below (T6.setTop (mkF m 30 #[.val (.int p1), .val (.int p2), .val (.ref w_TRUE), .val (.ref w_TRUE), .val (.ref w_TRUE)] [(.int (2 : Int32)), (.int (2 : Int32)), (.int (2 : Int32))])) _
    refine st7 _ ?_
    show Steps p.tables e below (T7.setTop (mkF m 33 #[.val (.int p1), .val (.int p2), .val (.ref w_TRUE), .val (.ref w_TRUE), .val (.ref w_TRUE)] [(.int (2 : Int32)), (.int (2 : Int32))])) _
    refine XS.icmpNo X7.here hx rfl (hb hby at_33) rfl (teq (rfl : (2 : Int32) = (2 : Int32))).2 ?_
    show Steps p.tables e below (T7.setTop (mkF m 36 #[.val (.int p1), .val (.int p2), .val (.ref w_TRUE), .val (.ref w_TRUE), .val (.ref w_TRUE)] [])) _
    refine XS.iconst X7.here hx rfl (hb hby at_36) ?_
    show Steps p.tables e below (T7.setTop (mkF m 37 #[.val (.int p1), .val (.int p2), .val (.ref w_TRUE), .val (.ref w_TRUE), .val (.ref w_TRUE)] [(.int (1 : Int32))])) _
    refine XS.goto X7.here hx rfl (pc0 := 37) (pc' := 41) rfl (hb hby at_37) (by decide) (by decide) ?_
    show Steps p.tables e below (T7.setTop (mkF m 41 #[.val (.int p1), .val (.int p2), .val (.ref w_TRUE), .val (.ref w_TRUE), .val (.ref w_TRUE)] [(.int (1 : Int32))])) _
    exact retN X7 hx (t := .boolean) Bd.returns (by simp) (hb hby at_41) hr
  · exact ⟨rfl, N7⟩
set_option maxRecDepth 65536 in
set_option maxHeartbeats 40000000 in
theorem comes_1 {Post : Tables → Env → Array Value → State → Outcome → State → Prop} (hpost : ∀ tb e args s v u, (limb_1_1.after args s (.returned v) u = true ∧ limb_1_2.after args s (.returned v) u = true ∧ True) → FrameEnd s (.returned v) u (Jvm.fieldLocs frame_1_writes args s ++ Jvm.arrayLocs frame_1_arrays args s ++ Jvm.staticLocs frame_1_statics s) 0 0 → Post tb e args s (.returned v) u) :
    ArmFor flags0 classFile x code maxLocals ret World_1 tables_1 room_1 Calls_1 rest_1 Pre_1 Post := by
  intro l hfl _ _ p e ha hc hk s m args below hf hA hF happ hP
  obtain ⟨hcalls, hrest, hpre⟩ := hP
  obtain ⟨-, -, -, hnamed, -, -, -, hat⟩ := (Spec.applies_iff hf).mp happ
  obtain ⟨hg, hn⟩ := and_e (Cond.before_iff.mp (show (Jvm.Cond.and given_1 narrow_1).before args s = true from hpre))
  obtain ⟨g20, g21⟩ := and_e hg
  obtain ⟨g22, g23⟩ := and_e g21
  obtain ⟨w0, w1, rfl⟩ : ∃ w0 w1 : Value, args = #[w0, w1] := by
    have hs : args.size = 2 := by simpa [Cond.value, given_1] using g20
    obtain ⟨L⟩ := args
    match L, hs with
    | [w0, w1], _ => exact ⟨w0, w1, rfl⟩
  have hw := fun d (hd : d ∈ tables_1) => atoms_spec (ws := Jvm.Cond.code x code maxLocals ret :: tables_1) hat d (List.mem_cons_of_mem _ hd)
  have hfit : Fit s := fun {y c} hc i hi => by
    obtain ⟨ha, rfl⟩ := Array.getElem?_eq_some_iff.mp hc
    have q := List.all_eq_true.mp ((Array.all_eq_true_iff_forall_mem.mp hF) _ (Array.getElem_mem ha)) i (List.mem_range.mpr hi)
    simpa [Array.getElem?_eq_getElem hi] using q
  obtain ⟨i0, ei0⟩ := is_v g22
  obtain rfl : w0 = (.int i0) := Option.some.inj ei0
  obtain ⟨i1, ei1⟩ := is_v g23
  obtain rfl : w1 = (.int i1) := Option.some.inj ei1
  obtain ⟨n1, n2⟩ := and_e hn
  obtain ⟨n3, n4⟩ := and_e n2
  obtain ⟨n5, n6⟩ := and_e n4
  obtain ⟨n7, n8⟩ := and_e n6
  obtain ⟨n9, n10⟩ := and_e n8
  obtain ⟨w_FALSE, ev11⟩ := exa_v n1
  have S_Truth_FALSE : Sta s s.heap "com/example/rowforge/rowforge/Truth" "FALSE" "Lcom/example/rowforge/rowforge/Truth;" (.ref w_FALSE) := Sta.start ev11 (Or.inr ⟨(wd6 hw), (wd7 hw)⟩)
  have E_w_FALSE : Exa s s.heap w_FALSE "com/example/rowforge/rowforge/Truth" := Exa.start ev11 n1
  obtain ⟨w_TRUE, ev12⟩ := exa_v n3
  have S_Truth_TRUE : Sta s s.heap "com/example/rowforge/rowforge/Truth" "TRUE" "Lcom/example/rowforge/rowforge/Truth;" (.ref w_TRUE) := Sta.start ev12 (Or.inr ⟨(wd6 hw), (wd22 hw)⟩)
  have E_w_TRUE : Exa s s.heap w_TRUE "com/example/rowforge/rowforge/Truth" := Exa.start ev12 n3
  obtain ⟨w_UNKNOWN, ev13⟩ := exa_v n5
  have S_Truth_UNKNOWN : Sta s s.heap "com/example/rowforge/rowforge/Truth" "UNKNOWN" "Lcom/example/rowforge/rowforge/Truth;" (.ref w_UNKNOWN) := Sta.start ev13 (Or.inr ⟨(wd6 hw), (wd24 hw)⟩)
  have E_w_UNKNOWN : Exa s s.heap w_UNKNOWN "com/example/rowforge/rowforge/Truth" := Exa.start ev13 n5
  have ev14 := own_eqI n7
  have F_15 : Fld s s.heap w_TRUE "java/lang/Enum" "ordinal" "I" (.int (0 : Int32)) := Fld.start ((fld_at ev12).symm.trans ev14)
  have ev16 := own_eqI n9
  have F_17 : Fld s s.heap w_FALSE "java/lang/Enum" "ordinal" "I" (.int (1 : Int32)) := Fld.start ((fld_at ev11).symm.trans ev16)
  have ev18 := own_eqI n10
  have F_19 : Fld s s.heap w_UNKNOWN "java/lang/Enum" "ordinal" "I" (.int (2 : Int32)) := Fld.start ((fld_at ev13).symm.trans ev18)
  have R : MetFree l x (head1 (Jvm.Cond.code x code maxLocals ret :: tables_1) room_1) (fun a U => a = #[(.int i0), (.int i1)] ∧ s.Warmed39 U.vm ∧ U.heap = s.heap) (fun _ _ _ _ _ => True) (fun _ U o U' => ∃ v L, o = .returned v ∧ Q0 s.heap.size v L ∧ FrameEnd U o U' L 0 0) := by
    rcases own_mod3 i0 with hs0 | hs0 | hs0
    · rcases own_mod3 i1 with hs1 | hs1 | hs1
      · exact rm0_0_0 l s _ hw tables_1 i0 i1 w_FALSE s.heap s.heap.size (Old.start s) hs0 S_Truth_FALSE hs1 E_w_FALSE
      · exact rm0_0_1 l s _ hw tables_1 i0 i1 w_FALSE w_UNKNOWN s.heap s.heap.size (Old.start s) hs0 S_Truth_FALSE hs1 S_Truth_UNKNOWN E_w_FALSE (Fld.ne F_19 F_17 (by decide))
      · exact rm0_0_2 l s _ hw tables_1 i0 i1 w_FALSE w_TRUE w_UNKNOWN s.heap s.heap.size (Old.start s) hs0 S_Truth_FALSE hs1 S_Truth_TRUE E_w_FALSE (Fld.ne F_15 F_17 (by decide)) S_Truth_UNKNOWN (Fld.ne F_15 F_19 (by decide))
    · rcases own_mod3 i1 with hs1 | hs1 | hs1
      · exact rm0_1_0 l s _ hw tables_1 i0 i1 w_UNKNOWN w_FALSE s.heap s.heap.size (Old.start s) hs0 S_Truth_UNKNOWN hs1 S_Truth_FALSE (Fld.ne F_19 F_17 (by decide)) E_w_UNKNOWN
      · exact rm0_1_1 l s _ hw tables_1 i0 i1 w_UNKNOWN w_FALSE w_TRUE s.heap s.heap.size (Old.start s) hs0 S_Truth_UNKNOWN hs1 S_Truth_FALSE (Fld.ne F_19 F_17 (by decide)) S_Truth_TRUE (Fld.ne F_19 F_15 (by decide)) E_w_UNKNOWN
      · exact rm0_1_2 l s _ hw tables_1 i0 i1 w_UNKNOWN w_TRUE w_FALSE s.heap s.heap.size (Old.start s) hs0 S_Truth_UNKNOWN hs1 S_Truth_TRUE S_Truth_FALSE (Fld.ne F_19 F_17 (by decide)) (Fld.ne F_15 F_17 (by decide)) (Fld.ne F_19 F_15 (by decide)) E_w_UNKNOWN (Fld.ne F_15 F_19 (by decide))
    · rcases own_mod3 i1 with hs1 | hs1 | hs1
      · exact rm0_2_0 l s _ hw tables_1 i0 i1 w_TRUE w_FALSE w_UNKNOWN s.heap s.heap.size (Old.start s) hs0 S_Truth_TRUE hs1 S_Truth_FALSE (Fld.ne F_15 F_17 (by decide)) E_w_TRUE S_Truth_UNKNOWN (Fld.ne F_15 F_19 (by decide))
      · exact rm0_2_1 l s _ hw tables_1 i0 i1 w_TRUE w_UNKNOWN w_FALSE s.heap s.heap.size (Old.start s) hs0 S_Truth_TRUE hs1 S_Truth_UNKNOWN S_Truth_FALSE (Fld.ne F_15 F_17 (by decide)) (Fld.ne F_19 F_17 (by decide)) (Fld.ne F_19 F_15 (by decide)) E_w_TRUE (Fld.ne F_15 F_19 (by decide))
      · exact rm0_2_2 l s _ hw tables_1 i0 i1 w_TRUE w_FALSE w_UNKNOWN s.heap s.heap.size (Old.start s) hs0 S_Truth_TRUE hs1 S_Truth_FALSE (Fld.ne F_15 F_17 (by decide)) E_w_TRUE S_Truth_UNKNOWN (Fld.ne F_15 F_19 (by decide))
  obtain ⟨n, o, h1, h2, h3, _, L, rfl, ⟨rfl, N⟩, hq⟩ := R p e ha hc hk s m _ below hf ((Spec.applies_iff_loose hf).mp happ).1 ⟨rfl, State.Warmed39.refl s, rfl⟩ trivial
  refine ⟨n, _, h1, h2, h3, hpost _ _ _ _ _ _ ⟨Cond.after_iff.mpr rfl, Cond.after_iff.mpr (eq_i res_at (Term.int_eval (1)) rfl), trivial⟩ ⟨hq.1, hq.2.1, (hq.2.2.sift fun y hy => Or.inr (N y hy)).mono (by decide) (by decide)⟩⟩
theorem main_1_1 : Claimed_1_1 := comes_1 fun _ _ _ _ _ _ h hF => ⟨h.1, hF⟩
theorem main_1_2 : Claimed_1_2 := comes_1 fun _ _ _ _ _ _ h hF => ⟨h.2.1, hF⟩
end Jvm.Pilot.@@N@@
namespace Jvm.Pilot.@@N@@
open Jvm Jvm.ClassFile Sem Op Lib Jvm.Free Jvm.Stand Jvm.Pilot.@@N@@.Jvm.D
/-! MADE BY PROGRAM (witnessworld.py) out of the Statement's table words and the real class files: 13 classes; the members and pool entries that the words name. The judged class is class 1, her method 3. -/
namespace start1
open Jvm.ClassFile
def u (s : String) : CpInfo := .utf8 (stringToUtf16 s)
/-- a pool by its gaps: so many unusable entries, then the entry; so many at the end -/
def gap : Nat → List CpInfo → List CpInfo
  | 0, r => r
  | n + 1, r => .unusable :: gap n r
def poolList (es : List (Nat × CpInfo)) (last : Nat) : List CpInfo := es.foldr (fun e r => gap e.1 (e.2 :: r)) (gap last [])
def pool (es : List (Nat × CpInfo)) (last : Nat) : Array CpInfo := ⟨poolList es last⟩
def fileOf (pool : Array CpInfo) (this : Nat) (attrs : Array Attribute := #[]) (ms : Array MethodInfo := #[]) (fl : Nat := 33) (sup : Nat := 0) (ifs : Array Nat := #[]) (fds : Array FieldInfo := #[]) : ClassFile where
  minorVersion := 0
  majorVersion := 65
  constantPool := pool
  accessFlags := fl
  thisClass := this
  superClass := sup
  interfaces := ifs
  fields := fds
  methods := ms
  attributes := attrs
def plain (name : String) (sup : Option ClassId) : Class where
  name := name
  kind := .ordinary
  loader := none
  accessFlags := 33
  super := sup
  interfaces := #[]
  cf := none
  fields := #[]
  methods := #[]
  instanceTypes := #[]
  staticTypes := #[]
  resolved := #[]
  callSites := []
  init := .initialized
  statics := none
  mirror := none

def pool0 : Array CpInfo := pool [(5, u "<init>"), (0, u "()V"), (1, .class_ 10), (1, u "java/lang/Object")] 113

def k0m0 : Method := { name := "<init>", desc := "()V", sig := { parameters := [], returnType := none }, accessFlags := 1, code := none }
/-- java/lang/Object -/
def k0 : Class := { plain "java/lang/Object" none with
  accessFlags := 33
  interfaces := #[]
  cf := some (fileOf pool0 8 #[] #[{ accessFlags := 1, nameIndex := 5, descriptorIndex := 6, attributes := #[] }] 33 0 #[] #[])
  fields := #[]
  methods := #[k0m0]
  instanceTypes := #[]
  staticTypes := #[]
  resolved := Array.replicate 124 none
  statics := none }

def pool1 : Array CpInfo := pool [(2, .class_ 4), (1, u "java/lang/Object"), (0, u "<init>"), (0, u "()V"), (0, .integer 2147483647), (0, .fieldref 9 10), (0, .class_ 11), (0, .nameAndType 12 13), (0, u "com/example/rowforge/rowforge/Truth"), (0, u "FALSE"), (0, u "Lcom/example/rowforge/rowforge/Truth;"), (0, .fieldref 9 15), (0, .nameAndType 16 13), (0, u "UNKNOWN"), (0, .fieldref 9 18), (0, .nameAndType 19 13), (0, u "TRUE"), (0, .methodref 21 22), (0, .class_ 23), (0, .nameAndType 24 25), (0, u "com/example/rowforge/rowforge/TruthAndPinLaw"), (0, u "pick"), (0, u "(I)Lcom/example/rowforge/rowforge/Truth;"), (0, .methodref 9 27), (0, .nameAndType 28 29), (0, u "and"), (0, u "(Lcom/example/rowforge/rowforge/Truth;)Lcom/example/rowforge/rowforge/Truth;"), (0, .methodref 21 31), (0, .nameAndType 32 33), (0, u "rank"), (0, u "(Lcom/example/rowforge/rowforge/Truth;)I"), (0, .methodref 35 36), (0, .class_ 37), (0, .nameAndType 38 39), (0, u "java/lang/Math"), (0, u "min"), (0, u "(II)I"), (3, u "law"), (0, u "(II)Z")] 2

def k1m0 : Method := { name := "<init>", desc := "()V", sig := { parameters := [], returnType := none }, accessFlags := 2, code := none }
def k1c1 : Code := { maxStack := 2, maxLocals := 2, code := method_2_code, exceptionTable := #[], attributes := #[] }
def k1m1 : Method := { name := "pick", desc := "(I)Lcom/example/rowforge/rowforge/Truth;", sig := { parameters := [.int], returnType := some (.object "com/example/rowforge/rowforge/Truth") }, accessFlags := 10, code := some k1c1 }
def k1c2 : Code := { maxStack := 2, maxLocals := 1, code := method_3_code, exceptionTable := #[], attributes := #[] }
def k1m2 : Method := { name := "rank", desc := "(Lcom/example/rowforge/rowforge/Truth;)I", sig := { parameters := [(.object "com/example/rowforge/rowforge/Truth")], returnType := some .int }, accessFlags := 10, code := some k1c2 }
def k1c3 : Code := { maxStack := 3, maxLocals := 5, code := code, exceptionTable := #[], attributes := #[] }
def k1m3 : Method := { name := "law", desc := "(II)Z", sig := { parameters := [.int, .int], returnType := some .boolean }, accessFlags := 9, code := some k1c3 }
/-- com/example/rowforge/rowforge/TruthAndPinLaw -/
def k1 : Class := { plain "com/example/rowforge/rowforge/TruthAndPinLaw" (some 0) with
  accessFlags := 49
  interfaces := #[]
  cf := some (fileOf pool1 21 #[] #[{ accessFlags := 2, nameIndex := 5, descriptorIndex := 6, attributes := #[] }, { accessFlags := 10, nameIndex := 24, descriptorIndex := 25, attributes := #[] }, { accessFlags := 10, nameIndex := 32, descriptorIndex := 33, attributes := #[] }, { accessFlags := 9, nameIndex := 43, descriptorIndex := 44, attributes := #[] }] 49 2 #[] #[])
  fields := #[]
  methods := #[k1m0, k1m1, k1m2, k1m3]
  instanceTypes := #[]
  staticTypes := #[]
  resolved := Array.replicate 47 none
  statics := none }

def pool2 : Array CpInfo := pool [(1, .class_ 2), (0, u "java/lang/constant/Constable"), (0, .class_ 4), (0, u "java/lang/Object")] 6

/-- java/lang/constant/Constable -/
def k2 : Class := { plain "java/lang/constant/Constable" (some 0) with
  accessFlags := 1537
  interfaces := #[]
  cf := some (fileOf pool2 1 #[] #[] 1537 3 #[] #[])
  fields := #[]
  methods := #[]
  instanceTypes := #[]
  staticTypes := #[]
  resolved := Array.replicate 11 none
  statics := none }

def pool3 : Array CpInfo := pool [(1, .class_ 2), (0, u "java/lang/Comparable"), (0, .class_ 4), (0, u "java/lang/Object")] 7

/-- java/lang/Comparable -/
def k3 : Class := { plain "java/lang/Comparable" (some 0) with
  accessFlags := 1537
  interfaces := #[]
  cf := some (fileOf pool3 1 #[] #[] 1537 3 #[] #[])
  fields := #[]
  methods := #[]
  instanceTypes := #[]
  staticTypes := #[]
  resolved := Array.replicate 12 none
  statics := none }

def pool4 : Array CpInfo := pool [(1, .class_ 2), (0, u "java/io/Serializable"), (0, .class_ 4), (0, u "java/lang/Object")] 2

/-- java/io/Serializable -/
def k4 : Class := { plain "java/io/Serializable" (some 0) with
  accessFlags := 1537
  interfaces := #[]
  cf := some (fileOf pool4 1 #[] #[] 1537 3 #[] #[])
  fields := #[]
  methods := #[]
  instanceTypes := #[]
  staticTypes := #[]
  resolved := Array.replicate 7 none
  statics := none }

def pool5 : Array CpInfo := pool [(2, .class_ 4), (1, u "java/lang/Enum"), (0, u "name"), (0, u "Ljava/lang/String;"), (2, u "ordinal"), (0, u "I"), (1, .class_ 14), (1, u "java/lang/Object"), (4, u "hash"), (86, .class_ 108), (1, u "java/lang/Enum$EnumDesc"), (2, .class_ 112), (0, u "java/lang/constant/Constable"), (0, .class_ 114), (0, u "java/lang/Comparable"), (0, .class_ 116), (0, u "java/io/Serializable")] 87

/-- java/lang/Enum -/
def k5 : Class := { plain "java/lang/Enum" (some 0) with
  accessFlags := 1057
  interfaces := #[2, 3, 4]
  cf := some (fileOf pool5 2 #[.nestMembers #[106]] #[] 1057 12 #[111, 113, 115] #[{ accessFlags := 18, nameIndex := 5, descriptorIndex := 6, attributes := #[] }, { accessFlags := 18, nameIndex := 9, descriptorIndex := 10, attributes := #[] }, { accessFlags := 2, nameIndex := 19, descriptorIndex := 10, attributes := #[] }])
  fields := #[{ name := "name", type := (.object "java/lang/String"), accessFlags := 18, slot := 0, constantValue := 0 }, { name := "ordinal", type := .int, accessFlags := 18, slot := 1, constantValue := 0 }, { name := "hash", type := .int, accessFlags := 2, slot := 2, constantValue := 0 }]
  methods := #[]
  instanceTypes := #[(.object "java/lang/String"), .int, .int]
  staticTypes := #[]
  resolved := Array.replicate 204 none
  statics := none }

def pool6 : Array CpInfo := pool [(1, .class_ 2), (0, u "com/example/rowforge/rowforge/Truth"), (0, .fieldref 1 4), (0, .nameAndType 5 6), (0, u "TRUE"), (0, u "Lcom/example/rowforge/rowforge/Truth;"), (0, .fieldref 1 8), (0, .nameAndType 9 6), (0, u "FALSE"), (0, .fieldref 1 11), (0, .nameAndType 12 6), (0, u "UNKNOWN"), (2, u "$VALUES"), (0, u "[Lcom/example/rowforge/rowforge/Truth;"), (6, .class_ 25), (1, u "java/lang/Enum"), (28, u "and"), (0, u "(Lcom/example/rowforge/rowforge/Truth;)Lcom/example/rowforge/rowforge/Truth;")] 33

def k6c0 : Code := { maxStack := 2, maxLocals := 3, code := prog_36_method_6_code, exceptionTable := #[], attributes := #[] }
def k6m0 : Method := { name := "and", desc := "(Lcom/example/rowforge/rowforge/Truth;)Lcom/example/rowforge/rowforge/Truth;", sig := { parameters := [(.object "com/example/rowforge/rowforge/Truth")], returnType := some (.object "com/example/rowforge/rowforge/Truth") }, accessFlags := 0, code := some k6c0 }
/-- com/example/rowforge/rowforge/Truth -/
def k6 : Class := { plain "com/example/rowforge/rowforge/Truth" (some 5) with
  accessFlags := 16432
  interfaces := #[]
  cf := some (fileOf pool6 1 #[] #[{ accessFlags := 0, nameIndex := 54, descriptorIndex := 55, attributes := #[] }] 16432 23 #[] #[{ accessFlags := 16409, nameIndex := 5, descriptorIndex := 6, attributes := #[] }, { accessFlags := 16409, nameIndex := 9, descriptorIndex := 6, attributes := #[] }, { accessFlags := 16409, nameIndex := 12, descriptorIndex := 6, attributes := #[] }, { accessFlags := 4122, nameIndex := 15, descriptorIndex := 16, attributes := #[] }])
  fields := #[{ name := "TRUE", type := (.object "com/example/rowforge/rowforge/Truth"), accessFlags := 16409, slot := 0, constantValue := 0 }, { name := "FALSE", type := (.object "com/example/rowforge/rowforge/Truth"), accessFlags := 16409, slot := 1, constantValue := 0 }, { name := "UNKNOWN", type := (.object "com/example/rowforge/rowforge/Truth"), accessFlags := 16409, slot := 2, constantValue := 0 }, { name := "$VALUES", type := (.array (.object "com/example/rowforge/rowforge/Truth")), accessFlags := 4122, slot := 3, constantValue := 0 }]
  methods := #[k6m0]
  instanceTypes := #[(.object "java/lang/String"), .int, .int]
  staticTypes := #[(.object "com/example/rowforge/rowforge/Truth"), (.object "com/example/rowforge/rowforge/Truth"), (.object "com/example/rowforge/rowforge/Truth"), (.array (.object "com/example/rowforge/rowforge/Truth"))]
  resolved := Array.replicate 89 none
  statics := some 0 }

def pool7 : Array CpInfo := pool [(1, .class_ 2), (0, u "java/lang/Math"), (1, .class_ 6), (1, u "java/lang/Object"), (0, u "<init>"), (0, u "()V"), (89, .class_ 100), (1, u "java/lang/Math$RandomNumberGeneratorHolder"), (71, u "negativeZeroFloatBits"), (0, u "J"), (2, u "negativeZeroDoubleBits"), (24, u "min"), (43, u "$assertionsDisabled"), (0, u "Z"), (88, u "(II)I"), (2, u "twoToTheDoubleScaleDown"), (0, u "D"), (4, u "twoToTheDoubleScaleUp"), (9, u "E"), (3, u "PI"), (2, u "TAU"), (2, u "DEGREES_TO_RADIANS"), (0, u "RADIANS_TO_DEGREES")] 94

def k7m0 : Method := { name := "<init>", desc := "()V", sig := { parameters := [], returnType := none }, accessFlags := 2, code := none }
def k7c1 : Code := { maxStack := 2, maxLocals := 2, code := jdk_29_method_69_code, exceptionTable := #[], attributes := #[] }
def k7m1 : Method := { name := "min", desc := "(II)I", sig := { parameters := [.int, .int], returnType := some .int }, accessFlags := 9, code := some k7c1 }
/-- java/lang/Math -/
def k7 : Class := { plain "java/lang/Math" (some 0) with
  accessFlags := 49
  interfaces := #[]
  cf := some (fileOf pool7 1 #[.nestMembers #[98]] #[{ accessFlags := 2, nameIndex := 7, descriptorIndex := 8, attributes := #[] }, { accessFlags := 9, nameIndex := 201, descriptorIndex := 335, attributes := #[] }] 49 4 #[] #[{ accessFlags := 25, nameIndex := 354, descriptorIndex := 339, attributes := #[] }, { accessFlags := 25, nameIndex := 358, descriptorIndex := 339, attributes := #[] }, { accessFlags := 25, nameIndex := 361, descriptorIndex := 339, attributes := #[] }, { accessFlags := 26, nameIndex := 364, descriptorIndex := 339, attributes := #[] }, { accessFlags := 26, nameIndex := 365, descriptorIndex := 339, attributes := #[] }, { accessFlags := 26, nameIndex := 172, descriptorIndex := 173, attributes := #[] }, { accessFlags := 26, nameIndex := 176, descriptorIndex := 173, attributes := #[] }, { accessFlags := 8, nameIndex := 344, descriptorIndex := 339, attributes := #[] }, { accessFlags := 8, nameIndex := 338, descriptorIndex := 339, attributes := #[] }, { accessFlags := 4120, nameIndex := 245, descriptorIndex := 246, attributes := #[] }])
  fields := #[{ name := "E", type := .double, accessFlags := 25, slot := 0, constantValue := 0 }, { name := "PI", type := .double, accessFlags := 25, slot := 1, constantValue := 0 }, { name := "TAU", type := .double, accessFlags := 25, slot := 2, constantValue := 0 }, { name := "DEGREES_TO_RADIANS", type := .double, accessFlags := 26, slot := 3, constantValue := 0 }, { name := "RADIANS_TO_DEGREES", type := .double, accessFlags := 26, slot := 4, constantValue := 0 }, { name := "negativeZeroFloatBits", type := .long, accessFlags := 26, slot := 5, constantValue := 0 }, { name := "negativeZeroDoubleBits", type := .long, accessFlags := 26, slot := 6, constantValue := 0 }, { name := "twoToTheDoubleScaleUp", type := .double, accessFlags := 8, slot := 7, constantValue := 0 }, { name := "twoToTheDoubleScaleDown", type := .double, accessFlags := 8, slot := 8, constantValue := 0 }, { name := "$assertionsDisabled", type := .boolean, accessFlags := 4120, slot := 9, constantValue := 0 }]
  methods := #[k7m0, k7m1]
  instanceTypes := #[]
  staticTypes := #[.double, .double, .double, .double, .double, .long, .long, .double, .double, .boolean]
  resolved := Array.replicate 460 none
  statics := none }

def pool8 : Array CpInfo := pool [(1, u "java/lang/Cloneable"), (0, .class_ 1), (0, u "java/lang/Object"), (0, .class_ 3)] 3

/-- java/lang/Cloneable -/
def k8 : Class := { plain "java/lang/Cloneable" (some 0) with
  accessFlags := 1537
  interfaces := #[]
  cf := some (fileOf pool8 2 #[] #[] 1537 4 #[] #[])
  fields := #[]
  methods := #[]
  instanceTypes := #[]
  staticTypes := #[]
  resolved := Array.replicate 8 none
  statics := none }

/-- the primitive byte -/
def k9 : Class := { plain "byte" none with kind := .primitive 'B', accessFlags := 0x411 }
/-- [B -/
def k10 : Class := { plain "[B" (some 0) with kind := .array 9 .byte, interfaces := #[8, 4], accessFlags := 1041 }

/-- the primitive int -/
def k11 : Class := { plain "int" none with kind := .primitive 'I', accessFlags := 0x411 }
/-- [I -/
def k12 : Class := { plain "[I" (some 0) with kind := .array 11 .int, interfaces := #[8, 4], accessFlags := 1041 }

def heap : Heap := #[{ cls := 6, slots := #[.ref 2, .ref 1, .ref 3, .null], vm := .statics 6 },
  { cls := 6, slots := #[.null, .int 1, .int 0], vm := .none },
  { cls := 6, slots := #[.null, .int 0, .int 0], vm := .none },
  { cls := 6, slots := #[.null, .int 2, .int 0], vm := .none }]
def classes : Array Class := #[k0, k1, k2, k3, k4, k5, k6, k7, k8, k9, k10, k11, k12]
def interned : List (Array UInt16 × Addr) := []
def slotsUsed : Nat := 13
def theMethod : MethodId := ⟨1, 3⟩
def args0 : Array Value := #[.int 5, .int 1]
def aboutOver (below : List Frame) : State where
  vm := { classes := classes, interned := interned.toArray }
  heap := heap
  slotsUsed := slotsUsed
  threads := #[{ frames := .invoking theMethod args0 :: below }]
def below0 : List Frame := [.native { method := ⟨0, 0⟩, args := #[] }]
def about1 : State := aboutOver below0
def p0 : Program := .bare "" "" ""
def e0 : Env := launch0.env 0 0 0
theorem w_frames : about1.frames = Frame.invoking theMethod args0 :: below0 := rfl
set_option maxRecDepth 65536 in
theorem w_args : argsFit about1.vm theMethod args0 = true := by decide +kernel
set_option maxRecDepth 65536 in
theorem w_heap : heapFits about1 = true := by decide +kernel
set_option maxRecDepth 65536 in
theorem w_runnable : about1.curStatus? = some .runnable := by decide +kernel
set_option maxRecDepth 65536 in
theorem w_alone : about1.alone = true := by decide +kernel
set_option maxRecDepth 65536 in
theorem w_named : about1.methodNamed? x = some theMethod := by decide +kernel
set_option maxRecDepth 65536 in
theorem w_hears : about1.hears theMethod below0 = true := by decide +kernel
set_option maxRecDepth 65536 in
theorem w_ripe : about1.ripe theMethod args0 below0 = true := by decide +kernel
theorem w_running : about1.status = .running := rfl
set_option maxRecDepth 65536 in
theorem w_room : about1.hasRoom e0.platform room_1 = true :=
  launch0.hasRoom_least _ room_1 (by decide +kernel) (by decide +kernel) (by decide +kernel) (by decide +kernel) (by decide +kernel) (by decide +kernel)
theorem allAtoms_all (ts : List Jvm.Cond) (a : Array Jvm.Value) (st : Jvm.State) : (allAtoms ts).before a st = ts.all (fun c => c.before a st) := by
  induction ts with
  | nil => rfl
  | cons c t ih =>
    show (Jvm.Cond.and c (allAtoms t)).before a st = _
    rw [Jvm.Cond.before_and, ih, List.all_cons]
def words1 : List Jvm.Cond := Jvm.Cond.code x code maxLocals ret :: tables_1
/-- a 'code' word, met by the world's own term for the bytes: nothing is compared byte by byte -/
theorem code_word {y : MethodName} {bytes : ByteArray} {mx : Nat} {rt : Option FieldType} {a : Array Value} {s : State} {m : MethodId} {meth : Method} {c : Code} (h1 : s.methodNamed? y = some m) (h2 : s.vm.method? m = some meth) (h3 : meth.code = some c) (h4 : c.code = bytes)
    (h5 : (c.maxLocals == mx && c.exceptionTable.isEmpty && decide (c.maxStack ≤ mostOperands) && decide (meth.sig.returnType = rt) && !meth.locks && decide (parseMethodDescriptor y.desc = some meth.sig)) = true) : (Jvm.Cond.code y bytes mx rt).before a s = true := by
  simp only [Bool.and_eq_true, beq_iff_eq, Bool.not_eq_true', decide_eq_true_eq] at h5
  obtain ⟨⟨⟨⟨⟨g1, g2⟩, g3⟩, g4⟩, g5⟩, g6⟩ := h5
  simp [Cond.before, Cond.holds, Cond.value, h1, h2, h3, h4, g1, g2, g3, g4, g5, g6]
def isCode : Jvm.Cond → Bool
  | .code _ _ _ _ => true
  | _ => false
theorem all_split {L : List Jvm.Cond} {P : Jvm.Cond → Bool} (h1 : L.all (fun c => isCode c || P c) = true) (h2 : ∀ c ∈ L.filter isCode, P c = true) : L.all P = true := by
  refine List.all_eq_true.mpr fun c hc => ?_
  have h := List.all_eq_true.mp h1 c hc
  rcases Bool.eq_false_or_eq_true (isCode c) with hi | hi
  · exact h2 c (List.mem_filter.mpr ⟨hc, hi⟩)
  · simpa [hi] using h
set_option maxRecDepth 65536 in
theorem w_c0 : (Jvm.Cond.code x code maxLocals ret).before args0 about1 = true := code_word (m := ⟨1, 3⟩) (meth := k1m3) (c := k1c3) (by decide +kernel) rfl rfl rfl (by decide +kernel)
set_option maxRecDepth 65536 in
theorem w_c1 : (Jvm.Cond.code ({ cls := "com/example/rowforge/rowforge/TruthAndPinLaw", name := "pick", desc := "(I)Lcom/example/rowforge/rowforge/Truth;" } : Jvm.MethodName) method_2_code (2 : Nat) (Option.some (Jvm.ClassFile.FieldType.object "com/example/rowforge/rowforge/Truth"))).before args0 about1 = true := code_word (m := ⟨1, 1⟩) (meth := k1m1) (c := k1c1) (by decide +kernel) rfl rfl rfl (by decide +kernel)
set_option maxRecDepth 65536 in
theorem w_c2 : (Jvm.Cond.code ({ cls := "com/example/rowforge/rowforge/Truth", name := "and", desc := "(Lcom/example/rowforge/rowforge/Truth;)Lcom/example/rowforge/rowforge/Truth;" } : Jvm.MethodName) prog_36_method_6_code (3 : Nat) (Option.some (Jvm.ClassFile.FieldType.object "com/example/rowforge/rowforge/Truth"))).before args0 about1 = true := code_word (m := ⟨6, 0⟩) (meth := k6m0) (c := k6c0) (by decide +kernel) rfl rfl rfl (by decide +kernel)
set_option maxRecDepth 65536 in
theorem w_c3 : (Jvm.Cond.code ({ cls := "com/example/rowforge/rowforge/TruthAndPinLaw", name := "rank", desc := "(Lcom/example/rowforge/rowforge/Truth;)I" } : Jvm.MethodName) method_3_code (1 : Nat) (Option.some Jvm.ClassFile.FieldType.int)).before args0 about1 = true := code_word (m := ⟨1, 2⟩) (meth := k1m2) (c := k1c2) (by decide +kernel) rfl rfl rfl (by decide +kernel)
set_option maxRecDepth 65536 in
theorem w_c4 : (Jvm.Cond.code ({ cls := "java/lang/Math", name := "min", desc := "(II)I" } : Jvm.MethodName) jdk_29_method_69_code (2 : Nat) (Option.some Jvm.ClassFile.FieldType.int)).before args0 about1 = true := code_word (m := ⟨7, 1⟩) (meth := k7m1) (c := k7c1) (by decide +kernel) rfl rfl rfl (by decide +kernel)
def codes1 : List Jvm.Cond := [Jvm.Cond.code x code maxLocals ret, Jvm.Cond.code ({ cls := "com/example/rowforge/rowforge/TruthAndPinLaw", name := "pick", desc := "(I)Lcom/example/rowforge/rowforge/Truth;" } : Jvm.MethodName) method_2_code (2 : Nat) (Option.some (Jvm.ClassFile.FieldType.object "com/example/rowforge/rowforge/Truth")), Jvm.Cond.code ({ cls := "com/example/rowforge/rowforge/Truth", name := "and", desc := "(Lcom/example/rowforge/rowforge/Truth;)Lcom/example/rowforge/rowforge/Truth;" } : Jvm.MethodName) prog_36_method_6_code (3 : Nat) (Option.some (Jvm.ClassFile.FieldType.object "com/example/rowforge/rowforge/Truth")), Jvm.Cond.code ({ cls := "com/example/rowforge/rowforge/TruthAndPinLaw", name := "rank", desc := "(Lcom/example/rowforge/rowforge/Truth;)I" } : Jvm.MethodName) method_3_code (1 : Nat) (Option.some Jvm.ClassFile.FieldType.int), Jvm.Cond.code ({ cls := "java/lang/Math", name := "min", desc := "(II)I" } : Jvm.MethodName) jdk_29_method_69_code (2 : Nat) (Option.some Jvm.ClassFile.FieldType.int)]
set_option maxRecDepth 65536 in
theorem codes_eq : words1.filter isCode = codes1 := rfl
theorem w_codes : ∀ c ∈ words1.filter isCode, c.before args0 about1 = true := by
  rw [codes_eq]
  intro c hc
  simp only [codes1, List.mem_cons, List.not_mem_nil, or_false] at hc
  rcases hc with rfl | rfl | rfl | rfl | rfl
  · exact w_c0
  · exact w_c1
  · exact w_c2
  · exact w_c3
  · exact w_c4
set_option maxRecDepth 65536 in
theorem w_t1 : (words1.take 24).all (fun c => isCode c || c.before args0 about1) = true := by decide +kernel
set_option maxRecDepth 65536 in
theorem w_t2 : (words1.drop 24).all (fun c => isCode c || c.before args0 about1) = true := by decide +kernel
theorem w_tables : (allAtoms (Jvm.Cond.code x code maxLocals ret :: tables_1)).before args0 about1 = true := by
  rw [allAtoms_all]
  show words1.all (fun c => c.before args0 about1) = true
  refine all_split ?_ w_codes
  rw [← List.take_append_drop 24 words1, List.all_append, w_t1, w_t2]
  rfl
set_option maxRecDepth 65536 in
theorem w_case : (Jvm.Cond.and given_1 narrow_1).before args0 about1 = true := by decide +kernel
theorem w_applies : (headSpec (Jvm.Cond.code x code maxLocals ret :: tables_1) room_1).applies x e0.platform about1 = true :=
  (Spec.applies_iff w_frames).mpr ⟨w_running, w_runnable, w_alone, w_named, w_hears, w_ripe, w_room, w_tables⟩
theorem atStart : AtStart classFile x code maxLocals ret World_1 tables_1 room_1 Calls_1 rest_1 Pre_1 launch0 p0 e0 about1 theMethod args0 below0 :=
  ⟨lists_1, trivial, launch0.admits_env _ _ _, launch0.least_env, fairChoices_fair.cas, fairChoices_fair.clock, w_frames, w_args, w_heap, w_applies, trivial, trivial, w_case⟩
end start1
theorem witness_1 : WitnessClaimed_1 := ⟨start1.p0, start1.e0, start1.about1, start1.theMethod, start1.args0, start1.below0, start1.atStart⟩
end Jvm.Pilot.@@N@@
