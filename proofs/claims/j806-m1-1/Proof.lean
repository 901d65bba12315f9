import JvmDerived
import JvmDerived.Pilot.@@N@@Statement
import JvmDerived.Pilot.@@N@@Code
set_option linter.unusedVariables false
set_option linter.unusedSimpArgs false
namespace Jvm.RoadKit
open Sem ClassFile Op Lib Jvm.Stand Jvm.Free Jvm.LawKit
section New
variable {p : Program} {l : Launch} {e : Env} {R : Room} {s : State} {m : MethodId} {args : Array Value} {below : List Frame} {meth : Method} {c : Code} {T : State} {locs : List Loc} {cells slots : Nat}
theorem retI (X : Stand p l e R s m args below meth c T locs cells slots) (hx : p.tables.exec = Jvm.exec) {pc : Nat} {Ls : Array Slot} {z : Int32} {rest : List Value} (hret : meth.sig.returnType = some .int) (hd : decode c.code pc = .ok (.ireturn, 1)) {fs : List Frame}
    (hl : ∀ (f : JFrame) (acts : List Action), f.method = m → f.locked = none → f.entered = [] → (doReturn e (T.setTop f) acts (some (.int z))).1 = T.setFrames fs) : Steps p.tables e below (T.setTop (mkF m pc Ls (.int z :: rest))) (T.setFrames fs) := by
  have hm' : T.vm.method? m = some meth := X.method'
  have hn : narrow .int (.int z) = .int z := rfl
  show Steps p.tables e below (T.setTop { method := m, pc := pc, locals := Ls, stack := _ :: rest, locked := none }) _
  jvm_step X.here [X.here.top, hx, hd, hm', hret, hn]
  first | (intro acts; rw [hl _ acts rfl rfl rfl]) | rw [hl _ _ rfl rfl rfl]
  exact Steps.refl _
end New
end Jvm.RoadKit
namespace Jvm.Pilot.@@N@@
open Jvm Jvm.ClassFile Sem Op Lib Jvm.Free Jvm.Stand Jvm.LawKit Jvm.RoadKit Bundle Jvm.Pilot.@@N@@.Jvm.D
theorem own_eqI {args : Array Value} {s : State} {t : Term} {k : Int32} (h : (Jvm.Cond.eq t (.int k)).value args s none s [] = some true) : t.eval args s none [] s = some (.int k) := by
  obtain ⟨x, y, hx, hy, -, k2⟩ := cmp_v (Or.inl h)
  obtain rfl : y = .int k := (Option.some.inj ((Term.int_eval k).symm.trans hy)).symm
  obtain ⟨z, rfl⟩ := k2
  have := gotT (Cond.eq_ints hx (Term.int_eval k)) h
  rw [hx, this]
def Q0 (n0 : Nat) (v : Option Value) (L : List Loc) : Prop := v = some (.int 1) ∧ Fr n0 L
theorem own_mod14 (x : Int32) : ((x &&& (2147483647 : Int32)) % (14 : Int32)) = (0 : Int32) ∨ ((x &&& (2147483647 : Int32)) % (14 : Int32)) = (1 : Int32) ∨ ((x &&& (2147483647 : Int32)) % (14 : Int32)) = (2 : Int32) ∨ ((x &&& (2147483647 : Int32)) % (14 : Int32)) = (3 : Int32) ∨ ((x &&& (2147483647 : Int32)) % (14 : Int32)) = (4 : Int32) ∨ ((x &&& (2147483647 : Int32)) % (14 : Int32)) = (5 : Int32) ∨ ((x &&& (2147483647 : Int32)) % (14 : Int32)) = (6 : Int32) ∨ ((x &&& (2147483647 : Int32)) % (14 : Int32)) = (7 : Int32) ∨ ((x &&& (2147483647 : Int32)) % (14 : Int32)) = (8 : Int32) ∨ ((x &&& (2147483647 : Int32)) % (14 : Int32)) = (9 : Int32) ∨ ((x &&& (2147483647 : Int32)) % (14 : Int32)) = (10 : Int32) ∨ ((x &&& (2147483647 : Int32)) % (14 : Int32)) = (11 : Int32) ∨ ((x &&& (2147483647 : Int32)) % (14 : Int32)) = (12 : Int32) ∨ ((x &&& (2147483647 : Int32)) % (14 : Int32)) = (13 : Int32) := by
  have e1 := c_mask x 2147483647 31 (by decide) (by decide)
  have e2 := (c_irem (x &&& (2147483647 : Int32)) (14 : Int32) 14 (by decide)).1 (by omega)
  generalize ((x &&& (2147483647 : Int32)) % (14 : Int32)) = r at *
  have hd : r.toInt = 0 ∨ r.toInt = 1 ∨ r.toInt = 2 ∨ r.toInt = 3 ∨ r.toInt = 4 ∨ r.toInt = 5 ∨ r.toInt = 6 ∨ r.toInt = 7 ∨ r.toInt = 8 ∨ r.toInt = 9 ∨ r.toInt = 10 ∨ r.toInt = 11 ∨ r.toInt = 12 ∨ r.toInt = 13 := by omega
  rcases hd with h | h | h | h | h | h | h | h | h | h | h | h | h | h
  · exact Or.inl (Int32.toInt_inj.mp (h.trans (by decide)))
  · exact Or.inr (Or.inl (Int32.toInt_inj.mp (h.trans (by decide))))
  · exact Or.inr (Or.inr (Or.inl (Int32.toInt_inj.mp (h.trans (by decide)))))
  · exact Or.inr (Or.inr (Or.inr (Or.inl (Int32.toInt_inj.mp (h.trans (by decide))))))
  · exact Or.inr (Or.inr (Or.inr (Or.inr (Or.inl (Int32.toInt_inj.mp (h.trans (by decide)))))))
  · exact Or.inr (Or.inr (Or.inr (Or.inr (Or.inr (Or.inl (Int32.toInt_inj.mp (h.trans (by decide))))))))
  · exact Or.inr (Or.inr (Or.inr (Or.inr (Or.inr (Or.inr (Or.inl (Int32.toInt_inj.mp (h.trans (by decide)))))))))
  · exact Or.inr (Or.inr (Or.inr (Or.inr (Or.inr (Or.inr (Or.inr (Or.inl (Int32.toInt_inj.mp (h.trans (by decide))))))))))
  · exact Or.inr (Or.inr (Or.inr (Or.inr (Or.inr (Or.inr (Or.inr (Or.inr (Or.inl (Int32.toInt_inj.mp (h.trans (by decide)))))))))))
  · exact Or.inr (Or.inr (Or.inr (Or.inr (Or.inr (Or.inr (Or.inr (Or.inr (Or.inr (Or.inl (Int32.toInt_inj.mp (h.trans (by decide))))))))))))
  · exact Or.inr (Or.inr (Or.inr (Or.inr (Or.inr (Or.inr (Or.inr (Or.inr (Or.inr (Or.inr (Or.inl (Int32.toInt_inj.mp (h.trans (by decide)))))))))))))
  · exact Or.inr (Or.inr (Or.inr (Or.inr (Or.inr (Or.inr (Or.inr (Or.inr (Or.inr (Or.inr (Or.inr (Or.inl (Int32.toInt_inj.mp (h.trans (by decide))))))))))))))
  · exact Or.inr (Or.inr (Or.inr (Or.inr (Or.inr (Or.inr (Or.inr (Or.inr (Or.inr (Or.inr (Or.inr (Or.inr (Or.inl (Int32.toInt_inj.mp (h.trans (by decide)))))))))))))))
  · exact Or.inr (Or.inr (Or.inr (Or.inr (Or.inr (Or.inr (Or.inr (Or.inr (Or.inr (Or.inr (Or.inr (Or.inr (Or.inr (Int32.toInt_inj.mp (h.trans (by decide)))))))))))))))
theorem wd0 {a0 : Array Value} {Z : State} (hw : ∀ d ∈ tables_1, d.before a0 Z = true) : (Jvm.Cond.constant "com/example/rigorous_chains/rigorouschains/prism/OperatorIsArithmeticPinLaw" (52 : Nat) (2147483647 : Int32)).before a0 Z = true := hw _ (List.mem_of_getElem? (i := 0) rfl)
theorem wd1 {a0 : Array Value} {Z : State} (hw : ∀ d ∈ tables_1, d.before a0 Z = true) : (Jvm.Cond.methodLink "com/example/rigorous_chains/rigorouschains/prism/OperatorIsArithmeticPinLaw" (53 : Nat) ({ cls := "com/example/rigorous_chains/rigorouschains/prism/OperatorIsArithmeticPinLaw", name := "pick", desc := "(I)Lcom/example/rigorous_chains/rigorouschains/prism/Expression$Operator;" } : Jvm.MethodName)).before a0 Z = true := hw _ (List.mem_of_getElem? (i := 1) rfl)
theorem wd2 {a0 : Array Value} {Z : State} (hw : ∀ d ∈ tables_1, d.before a0 Z = true) : (Jvm.Cond.static ({ cls := "com/example/rigorous_chains/rigorouschains/prism/OperatorIsArithmeticPinLaw", name := "pick", desc := "(I)Lcom/example/rigorous_chains/rigorouschains/prism/Expression$Operator;" } : Jvm.MethodName)).before a0 Z = true := hw _ (List.mem_of_getElem? (i := 2) rfl)
theorem wd3 {a0 : Array Value} {Z : State} (hw : ∀ d ∈ tables_1, d.before a0 Z = true) : (Jvm.Cond.initialized "com/example/rigorous_chains/rigorouschains/prism/OperatorIsArithmeticPinLaw").before a0 Z = true := hw _ (List.mem_of_getElem? (i := 3) rfl)
theorem wd4 {a0 : Array Value} {Z : State} (hw : ∀ d ∈ tables_1, d.before a0 Z = true) : (Jvm.Cond.code ({ cls := "com/example/rigorous_chains/rigorouschains/prism/OperatorIsArithmeticPinLaw", name := "pick", desc := "(I)Lcom/example/rigorous_chains/rigorouschains/prism/Expression$Operator;" } : Jvm.MethodName) method_2_code (1 : Nat) (Option.some (Jvm.ClassFile.FieldType.object "com/example/rigorous_chains/rigorouschains/prism/Expression$Operator"))).before a0 Z = true := hw _ (List.mem_of_getElem? (i := 4) rfl)
theorem wd5 {a0 : Array Value} {Z : State} (hw : ∀ d ∈ tables_1, d.before a0 Z = true) : (Jvm.Cond.fieldLink "com/example/rigorous_chains/rigorouschains/prism/OperatorIsArithmeticPinLaw" (7 : Nat) "com/example/rigorous_chains/rigorouschains/prism/Expression$Operator" "IMPLIES" "Lcom/example/rigorous_chains/rigorouschains/prism/Expression$Operator;").before a0 Z = true := hw _ (List.mem_of_getElem? (i := 5) rfl)
theorem wd6 {a0 : Array Value} {Z : State} (hw : ∀ d ∈ tables_1, d.before a0 Z = true) : (Jvm.Cond.initialized "com/example/rigorous_chains/rigorouschains/prism/Expression$Operator").before a0 Z = true := hw _ (List.mem_of_getElem? (i := 6) rfl)
theorem wd7 {a0 : Array Value} {Z : State} (hw : ∀ d ∈ tables_1, d.before a0 Z = true) : (Jvm.Cond.laysStatic "com/example/rigorous_chains/rigorouschains/prism/Expression$Operator" "IMPLIES" "Lcom/example/rigorous_chains/rigorouschains/prism/Expression$Operator;").before a0 Z = true := hw _ (List.mem_of_getElem? (i := 7) rfl)
theorem wd8 {a0 : Array Value} {Z : State} (hw : ∀ d ∈ tables_1, d.before a0 Z = true) : (Jvm.Cond.methodLink "com/example/rigorous_chains/rigorouschains/prism/OperatorIsArithmeticPinLaw" (59 : Nat) ({ cls := "com/example/rigorous_chains/rigorouschains/prism/Expression$Operator", name := "isArithmetic", desc := "()Z" } : Jvm.MethodName)).before a0 Z = true := hw _ (List.mem_of_getElem? (i := 8) rfl)
theorem wd9 {a0 : Array Value} {Z : State} (hw : ∀ d ∈ tables_1, d.before a0 Z = true) : (Jvm.Cond.declares ({ cls := "com/example/rigorous_chains/rigorouschains/prism/Expression$Operator", name := "isArithmetic", desc := "()Z" } : Jvm.MethodName)).before a0 Z = true := hw _ (List.mem_of_getElem? (i := 9) rfl)
theorem wd10 {a0 : Array Value} {Z : State} (hw : ∀ d ∈ tables_1, d.before a0 Z = true) : (Jvm.Cond.instanceMethod ({ cls := "com/example/rigorous_chains/rigorouschains/prism/Expression$Operator", name := "isArithmetic", desc := "()Z" } : Jvm.MethodName)).before a0 Z = true := hw _ (List.mem_of_getElem? (i := 10) rfl)
theorem wd11 {a0 : Array Value} {Z : State} (hw : ∀ d ∈ tables_1, d.before a0 Z = true) : (Jvm.Cond.selects "com/example/rigorous_chains/rigorouschains/prism/Expression$Operator" ({ cls := "com/example/rigorous_chains/rigorouschains/prism/Expression$Operator", name := "isArithmetic", desc := "()Z" } : Jvm.MethodName) ({ cls := "com/example/rigorous_chains/rigorouschains/prism/Expression$Operator", name := "isArithmetic", desc := "()Z" } : Jvm.MethodName)).before a0 Z = true := hw _ (List.mem_of_getElem? (i := 11) rfl)
theorem wd12 {a0 : Array Value} {Z : State} (hw : ∀ d ∈ tables_1, d.before a0 Z = true) : (Jvm.Cond.code ({ cls := "com/example/rigorous_chains/rigorouschains/prism/Expression$Operator", name := "isArithmetic", desc := "()Z" } : Jvm.MethodName) prog_55_method_7_code (1 : Nat) (Option.some Jvm.ClassFile.FieldType.boolean)).before a0 Z = true := hw _ (List.mem_of_getElem? (i := 12) rfl)
theorem wd13 {a0 : Array Value} {Z : State} (hw : ∀ d ∈ tables_1, d.before a0 Z = true) : (Jvm.Cond.fieldLink "com/example/rigorous_chains/rigorouschains/prism/Expression$Operator" (34 : Nat) "com/example/rigorous_chains/rigorouschains/prism/Expression$Operator" "PLUS" "Lcom/example/rigorous_chains/rigorouschains/prism/Expression$Operator;").before a0 Z = true := hw _ (List.mem_of_getElem? (i := 13) rfl)
theorem wd14 {a0 : Array Value} {Z : State} (hw : ∀ d ∈ tables_1, d.before a0 Z = true) : (Jvm.Cond.laysStatic "com/example/rigorous_chains/rigorouschains/prism/Expression$Operator" "PLUS" "Lcom/example/rigorous_chains/rigorouschains/prism/Expression$Operator;").before a0 Z = true := hw _ (List.mem_of_getElem? (i := 14) rfl)
theorem wd15 {a0 : Array Value} {Z : State} (hw : ∀ d ∈ tables_1, d.before a0 Z = true) : (Jvm.Cond.fieldLink "com/example/rigorous_chains/rigorouschains/prism/Expression$Operator" (37 : Nat) "com/example/rigorous_chains/rigorouschains/prism/Expression$Operator" "MINUS" "Lcom/example/rigorous_chains/rigorouschains/prism/Expression$Operator;").before a0 Z = true := hw _ (List.mem_of_getElem? (i := 15) rfl)
theorem wd16 {a0 : Array Value} {Z : State} (hw : ∀ d ∈ tables_1, d.before a0 Z = true) : (Jvm.Cond.laysStatic "com/example/rigorous_chains/rigorouschains/prism/Expression$Operator" "MINUS" "Lcom/example/rigorous_chains/rigorouschains/prism/Expression$Operator;").before a0 Z = true := hw _ (List.mem_of_getElem? (i := 16) rfl)
theorem wd17 {a0 : Array Value} {Z : State} (hw : ∀ d ∈ tables_1, d.before a0 Z = true) : (Jvm.Cond.fieldLink "com/example/rigorous_chains/rigorouschains/prism/Expression$Operator" (40 : Nat) "com/example/rigorous_chains/rigorouschains/prism/Expression$Operator" "TIMES" "Lcom/example/rigorous_chains/rigorouschains/prism/Expression$Operator;").before a0 Z = true := hw _ (List.mem_of_getElem? (i := 17) rfl)
theorem wd18 {a0 : Array Value} {Z : State} (hw : ∀ d ∈ tables_1, d.before a0 Z = true) : (Jvm.Cond.laysStatic "com/example/rigorous_chains/rigorouschains/prism/Expression$Operator" "TIMES" "Lcom/example/rigorous_chains/rigorouschains/prism/Expression$Operator;").before a0 Z = true := hw _ (List.mem_of_getElem? (i := 18) rfl)
theorem wd19 {a0 : Array Value} {Z : State} (hw : ∀ d ∈ tables_1, d.before a0 Z = true) : (Jvm.Cond.fieldLink "com/example/rigorous_chains/rigorouschains/prism/Expression$Operator" (43 : Nat) "com/example/rigorous_chains/rigorouschains/prism/Expression$Operator" "DIVIDE" "Lcom/example/rigorous_chains/rigorouschains/prism/Expression$Operator;").before a0 Z = true := hw _ (List.mem_of_getElem? (i := 19) rfl)
theorem wd20 {a0 : Array Value} {Z : State} (hw : ∀ d ∈ tables_1, d.before a0 Z = true) : (Jvm.Cond.laysStatic "com/example/rigorous_chains/rigorouschains/prism/Expression$Operator" "DIVIDE" "Lcom/example/rigorous_chains/rigorouschains/prism/Expression$Operator;").before a0 Z = true := hw _ (List.mem_of_getElem? (i := 20) rfl)
theorem wd21 {a0 : Array Value} {Z : State} (hw : ∀ d ∈ tables_1, d.before a0 Z = true) : (Jvm.Cond.methodLink "com/example/rigorous_chains/rigorouschains/prism/OperatorIsArithmeticPinLaw" (63 : Nat) ({ cls := "com/example/rigorous_chains/rigorouschains/prism/OperatorIsArithmeticPinLaw", name := "expected", desc := "(I)Z" } : Jvm.MethodName)).before a0 Z = true := hw _ (List.mem_of_getElem? (i := 21) rfl)
theorem wd22 {a0 : Array Value} {Z : State} (hw : ∀ d ∈ tables_1, d.before a0 Z = true) : (Jvm.Cond.static ({ cls := "com/example/rigorous_chains/rigorouschains/prism/OperatorIsArithmeticPinLaw", name := "expected", desc := "(I)Z" } : Jvm.MethodName)).before a0 Z = true := hw _ (List.mem_of_getElem? (i := 22) rfl)
theorem wd23 {a0 : Array Value} {Z : State} (hw : ∀ d ∈ tables_1, d.before a0 Z = true) : (Jvm.Cond.code ({ cls := "com/example/rigorous_chains/rigorouschains/prism/OperatorIsArithmeticPinLaw", name := "expected", desc := "(I)Z" } : Jvm.MethodName) method_3_code (2 : Nat) (Option.some Jvm.ClassFile.FieldType.boolean)).before a0 Z = true := hw _ (List.mem_of_getElem? (i := 23) rfl)
theorem wd24 {a0 : Array Value} {Z : State} (hw : ∀ d ∈ tables_1, d.before a0 Z = true) : (Jvm.Cond.fieldLink "com/example/rigorous_chains/rigorouschains/prism/OperatorIsArithmeticPinLaw" (19 : Nat) "com/example/rigorous_chains/rigorouschains/prism/Expression$Operator" "AND" "Lcom/example/rigorous_chains/rigorouschains/prism/Expression$Operator;").before a0 Z = true := hw _ (List.mem_of_getElem? (i := 24) rfl)
theorem wd25 {a0 : Array Value} {Z : State} (hw : ∀ d ∈ tables_1, d.before a0 Z = true) : (Jvm.Cond.laysStatic "com/example/rigorous_chains/rigorouschains/prism/Expression$Operator" "AND" "Lcom/example/rigorous_chains/rigorouschains/prism/Expression$Operator;").before a0 Z = true := hw _ (List.mem_of_getElem? (i := 25) rfl)
theorem wd26 {a0 : Array Value} {Z : State} (hw : ∀ d ∈ tables_1, d.before a0 Z = true) : (Jvm.Cond.fieldLink "com/example/rigorous_chains/rigorouschains/prism/OperatorIsArithmeticPinLaw" (46 : Nat) "com/example/rigorous_chains/rigorouschains/prism/Expression$Operator" "TIMES" "Lcom/example/rigorous_chains/rigorouschains/prism/Expression$Operator;").before a0 Z = true := hw _ (List.mem_of_getElem? (i := 26) rfl)
theorem wd27 {a0 : Array Value} {Z : State} (hw : ∀ d ∈ tables_1, d.before a0 Z = true) : (Jvm.Cond.fieldLink "com/example/rigorous_chains/rigorouschains/prism/OperatorIsArithmeticPinLaw" (49 : Nat) "com/example/rigorous_chains/rigorouschains/prism/Expression$Operator" "DIVIDE" "Lcom/example/rigorous_chains/rigorouschains/prism/Expression$Operator;").before a0 Z = true := hw _ (List.mem_of_getElem? (i := 27) rfl)
theorem wd28 {a0 : Array Value} {Z : State} (hw : ∀ d ∈ tables_1, d.before a0 Z = true) : (Jvm.Cond.fieldLink "com/example/rigorous_chains/rigorouschains/prism/OperatorIsArithmeticPinLaw" (22 : Nat) "com/example/rigorous_chains/rigorouschains/prism/Expression$Operator" "EQUALS" "Lcom/example/rigorous_chains/rigorouschains/prism/Expression$Operator;").before a0 Z = true := hw _ (List.mem_of_getElem? (i := 28) rfl)
theorem wd29 {a0 : Array Value} {Z : State} (hw : ∀ d ∈ tables_1, d.before a0 Z = true) : (Jvm.Cond.laysStatic "com/example/rigorous_chains/rigorouschains/prism/Expression$Operator" "EQUALS" "Lcom/example/rigorous_chains/rigorouschains/prism/Expression$Operator;").before a0 Z = true := hw _ (List.mem_of_getElem? (i := 29) rfl)
theorem wd30 {a0 : Array Value} {Z : State} (hw : ∀ d ∈ tables_1, d.before a0 Z = true) : (Jvm.Cond.fieldLink "com/example/rigorous_chains/rigorouschains/prism/OperatorIsArithmeticPinLaw" (31 : Nat) "com/example/rigorous_chains/rigorouschains/prism/Expression$Operator" "LESS_OR_EQUAL" "Lcom/example/rigorous_chains/rigorouschains/prism/Expression$Operator;").before a0 Z = true := hw _ (List.mem_of_getElem? (i := 30) rfl)
theorem wd31 {a0 : Array Value} {Z : State} (hw : ∀ d ∈ tables_1, d.before a0 Z = true) : (Jvm.Cond.laysStatic "com/example/rigorous_chains/rigorouschains/prism/Expression$Operator" "LESS_OR_EQUAL" "Lcom/example/rigorous_chains/rigorouschains/prism/Expression$Operator;").before a0 Z = true := hw _ (List.mem_of_getElem? (i := 31) rfl)
theorem wd32 {a0 : Array Value} {Z : State} (hw : ∀ d ∈ tables_1, d.before a0 Z = true) : (Jvm.Cond.fieldLink "com/example/rigorous_chains/rigorouschains/prism/OperatorIsArithmeticPinLaw" (16 : Nat) "com/example/rigorous_chains/rigorouschains/prism/Expression$Operator" "OR" "Lcom/example/rigorous_chains/rigorouschains/prism/Expression$Operator;").before a0 Z = true := hw _ (List.mem_of_getElem? (i := 32) rfl)
theorem wd33 {a0 : Array Value} {Z : State} (hw : ∀ d ∈ tables_1, d.before a0 Z = true) : (Jvm.Cond.laysStatic "com/example/rigorous_chains/rigorouschains/prism/Expression$Operator" "OR" "Lcom/example/rigorous_chains/rigorouschains/prism/Expression$Operator;").before a0 Z = true := hw _ (List.mem_of_getElem? (i := 33) rfl)
theorem wd34 {a0 : Array Value} {Z : State} (hw : ∀ d ∈ tables_1, d.before a0 Z = true) : (Jvm.Cond.fieldLink "com/example/rigorous_chains/rigorouschains/prism/OperatorIsArithmeticPinLaw" (43 : Nat) "com/example/rigorous_chains/rigorouschains/prism/Expression$Operator" "MINUS" "Lcom/example/rigorous_chains/rigorouschains/prism/Expression$Operator;").before a0 Z = true := hw _ (List.mem_of_getElem? (i := 34) rfl)
theorem wd35 {a0 : Array Value} {Z : State} (hw : ∀ d ∈ tables_1, d.before a0 Z = true) : (Jvm.Cond.fieldLink "com/example/rigorous_chains/rigorouschains/prism/OperatorIsArithmeticPinLaw" (40 : Nat) "com/example/rigorous_chains/rigorouschains/prism/Expression$Operator" "PLUS" "Lcom/example/rigorous_chains/rigorouschains/prism/Expression$Operator;").before a0 Z = true := hw _ (List.mem_of_getElem? (i := 35) rfl)
theorem wd36 {a0 : Array Value} {Z : State} (hw : ∀ d ∈ tables_1, d.before a0 Z = true) : (Jvm.Cond.fieldLink "com/example/rigorous_chains/rigorouschains/prism/OperatorIsArithmeticPinLaw" (34 : Nat) "com/example/rigorous_chains/rigorouschains/prism/Expression$Operator" "GREATER" "Lcom/example/rigorous_chains/rigorouschains/prism/Expression$Operator;").before a0 Z = true := hw _ (List.mem_of_getElem? (i := 36) rfl)
theorem wd37 {a0 : Array Value} {Z : State} (hw : ∀ d ∈ tables_1, d.before a0 Z = true) : (Jvm.Cond.laysStatic "com/example/rigorous_chains/rigorouschains/prism/Expression$Operator" "GREATER" "Lcom/example/rigorous_chains/rigorouschains/prism/Expression$Operator;").before a0 Z = true := hw _ (List.mem_of_getElem? (i := 37) rfl)
theorem wd38 {a0 : Array Value} {Z : State} (hw : ∀ d ∈ tables_1, d.before a0 Z = true) : (Jvm.Cond.fieldLink "com/example/rigorous_chains/rigorouschains/prism/OperatorIsArithmeticPinLaw" (13 : Nat) "com/example/rigorous_chains/rigorouschains/prism/Expression$Operator" "IFF" "Lcom/example/rigorous_chains/rigorouschains/prism/Expression$Operator;").before a0 Z = true := hw _ (List.mem_of_getElem? (i := 38) rfl)
theorem wd39 {a0 : Array Value} {Z : State} (hw : ∀ d ∈ tables_1, d.before a0 Z = true) : (Jvm.Cond.laysStatic "com/example/rigorous_chains/rigorouschains/prism/Expression$Operator" "IFF" "Lcom/example/rigorous_chains/rigorouschains/prism/Expression$Operator;").before a0 Z = true := hw _ (List.mem_of_getElem? (i := 39) rfl)
theorem wd40 {a0 : Array Value} {Z : State} (hw : ∀ d ∈ tables_1, d.before a0 Z = true) : (Jvm.Cond.fieldLink "com/example/rigorous_chains/rigorouschains/prism/OperatorIsArithmeticPinLaw" (37 : Nat) "com/example/rigorous_chains/rigorouschains/prism/Expression$Operator" "GREATER_OR_EQUAL" "Lcom/example/rigorous_chains/rigorouschains/prism/Expression$Operator;").before a0 Z = true := hw _ (List.mem_of_getElem? (i := 40) rfl)
theorem wd41 {a0 : Array Value} {Z : State} (hw : ∀ d ∈ tables_1, d.before a0 Z = true) : (Jvm.Cond.laysStatic "com/example/rigorous_chains/rigorouschains/prism/Expression$Operator" "GREATER_OR_EQUAL" "Lcom/example/rigorous_chains/rigorouschains/prism/Expression$Operator;").before a0 Z = true := hw _ (List.mem_of_getElem? (i := 41) rfl)
theorem wd42 {a0 : Array Value} {Z : State} (hw : ∀ d ∈ tables_1, d.before a0 Z = true) : (Jvm.Cond.fieldLink "com/example/rigorous_chains/rigorouschains/prism/OperatorIsArithmeticPinLaw" (25 : Nat) "com/example/rigorous_chains/rigorouschains/prism/Expression$Operator" "NOT_EQUALS" "Lcom/example/rigorous_chains/rigorouschains/prism/Expression$Operator;").before a0 Z = true := hw _ (List.mem_of_getElem? (i := 42) rfl)
theorem wd43 {a0 : Array Value} {Z : State} (hw : ∀ d ∈ tables_1, d.before a0 Z = true) : (Jvm.Cond.laysStatic "com/example/rigorous_chains/rigorouschains/prism/Expression$Operator" "NOT_EQUALS" "Lcom/example/rigorous_chains/rigorouschains/prism/Expression$Operator;").before a0 Z = true := hw _ (List.mem_of_getElem? (i := 43) rfl)
theorem wd44 {a0 : Array Value} {Z : State} (hw : ∀ d ∈ tables_1, d.before a0 Z = true) : (Jvm.Cond.fieldLink "com/example/rigorous_chains/rigorouschains/prism/OperatorIsArithmeticPinLaw" (28 : Nat) "com/example/rigorous_chains/rigorouschains/prism/Expression$Operator" "LESS" "Lcom/example/rigorous_chains/rigorouschains/prism/Expression$Operator;").before a0 Z = true := hw _ (List.mem_of_getElem? (i := 44) rfl)
theorem wd45 {a0 : Array Value} {Z : State} (hw : ∀ d ∈ tables_1, d.before a0 Z = true) : (Jvm.Cond.laysStatic "com/example/rigorous_chains/rigorouschains/prism/Expression$Operator" "LESS" "Lcom/example/rigorous_chains/rigorouschains/prism/Expression$Operator;").before a0 Z = true := hw _ (List.mem_of_getElem? (i := 45) rfl)
theorem d1_0 : decode method_2_code 0 = .ok (.iload_n 0, 1) := by decide +kernel
theorem d1_1 : decode method_2_code 1 = .ok (.ifCond .ne 7, 3) := by decide +kernel
theorem d1_4 : decode method_2_code 4 = .ok (.getstatic 7, 3) := by decide +kernel
theorem d1_7 : decode method_2_code 7 = .ok (.areturn, 1) := by decide +kernel
theorem ef_1_0 (m : MethodId)  : entryFrame m #[(.int (0 : Int32))] 1 = mkF m 0 #[.val (.int (0 : Int32))] [] := by first | (simp [entryFrame, mkF, argsToLocals, Value.category]; done) | rfl
theorem pn_0 : plainName "com/example/rigorous_chains/rigorouschains/prism/OperatorIsArithmeticPinLaw" = true := by first | (simp [plainName, overriddenIn]; done) | decide +kernel
def Q_rm1_0 (Z : State) (w1 : Addr) (h0 : Heap) (n0 : Nat) (v : Option Value) (h : Heap) (L : List Loc) : Prop := v = some (.ref w1) ∧ Fr n0 L ∧ h = h0
set_option maxRecDepth 65536 in
set_option maxHeartbeats 40000000 in
theorem rm1_0 (l : Launch) (Z : State) (a0 : Array Value) (hw : ∀ d ∈ tables_1, d.before a0 Z = true) (ws : List Jvm.Cond) (w1 : Addr) (h0 : Heap) (n0 : Nat) (OL0 : Old Z n0 h0) (pr1 : Sta Z Z.heap "com/example/rigorous_chains/rigorouschains/prism/Expression$Operator" "IMPLIES" "Lcom/example/rigorous_chains/rigorouschains/prism/Expression$Operator;" (.ref w1)) :
    MetFree l (⟨"com/example/rigorous_chains/rigorouschains/prism/OperatorIsArithmeticPinLaw", "pick", "(I)Lcom/example/rigorous_chains/rigorouschains/prism/Expression$Operator;"⟩ : MethodName) (head1 (Jvm.Cond.code (⟨"com/example/rigorous_chains/rigorouschains/prism/OperatorIsArithmeticPinLaw", "pick", "(I)Lcom/example/rigorous_chains/rigorouschains/prism/Expression$Operator;"⟩ : MethodName) method_2_code 1 (some (.object "com/example/rigorous_chains/rigorouschains/prism/Expression$Operator")) :: ws) ({ frames := 0, cells := 0, slots := 0, locals := 0 } : Room)) (fun a U => a = #[(.int (0 : Int32))] ∧ Z.Warmed39 U.vm ∧ U.heap = h0) (fun _ _ _ _ _ => True) (fun _ U o U' => ∃ v L, o = .returned v ∧ Q_rm1_0 Z w1 h0 n0 v U'.heap L ∧ FrameEnd U o U' L ({ frames := 0, cells := 0, slots := 0, locals := 0 } : Room).cells ({ frames := 0, cells := 0, slots := 0, locals := 0 } : Room).slots) := by
  refine MetFree.of_bodySF (plainFor_of_name pn_0) hisR ?_
  intro p e s m args below meth c s₁ Bd hml0 hP hK
  obtain ⟨rfl, hZ, hh⟩ := hP
  have hx := Bd.exec
  have hby := Bd.bytes
  have hml : c.maxLocals = 1 := hml0
  have hown : s.vm.findClass "com/example/rigorous_chains/rigorouschains/prism/OperatorIsArithmeticPinLaw" = some m.cls := findClass_of_methodNamed Bd.named
  have hnm := (name_of_methodNamed Bd.named Bd.method).1
  have X0 : Stand p l e ({ frames := 0, cells := 0, slots := 0, locals := 0 } : Room) s m #[(.int (0 : Int32))] below meth c s₁ [] 0 0 := Stand.of_body Bd
  have e0 : s₁.heap = h0 := by rw [← hh, Bd.state]; rfl
  have N0 := Fr.nil n0
  have pre0 : ∀ t, Steps p.tables e below (s₁.setTop (mkF m 0 #[.val (.int (0 : Int32))] [])) t → Steps p.tables e below (s₁.setTop (entryFrame m #[(.int (0 : Int32))] 1)) t := fun t k => castTop (ef_1_0 m ) k
  obtain ⟨T2, X2, e2, st2⟩ := getS2 X0 hx hZ hown (host := "") (Or.inl (wd5 hw)) Via.refl e0 (pr1.ext OL0.2) (g := (mkF m 4 #[.val (.int (0 : Int32))] [])) rfl (hb hby d1_4)
  obtain ⟨fs, hr, hrun, hended, hW, hsame⟩ := X2.leave (v := some (.ref w1)) (fun h => by rw [Bd.returns] at h; cases h)
  refine ⟨_, _, pre0 _ ?_, hrun, hended, _, _, rfl, ?_, ⟨_, rfl⟩, hW, hsame.mono (by decide) (by decide)⟩
  · show Steps p.tables e below (s₁.setTop (mkF m 0 #[.val (.int (0 : Int32))] [])) _
    refine XS.iloadN X0.here hx rfl (hb hby d1_0) rfl ?_
    show Steps p.tables e below (s₁.setTop (mkF m 1 #[.val (.int (0 : Int32))] [(.int (0 : Int32))])) _
    refine XS.ifNo X0.here hx rfl (hb hby d1_1) rfl ((if0 _ _).trans (teq (rfl : (0 : Int32) = (0 : Int32))).2) ?_
    show Steps p.tables e below (s₁.setTop (mkF m 4 #[.val (.int (0 : Int32))] [])) _
    refine st2 _ ?_
    show Steps p.tables e below (T2.setTop (mkF m 7 #[.val (.int (0 : Int32))] [(.ref w1)])) _
    jvm_step X2.here [X2.here.top, hx, (hb hby d1_7), X2.method', Bd.returns, Value.isRef, FieldType.isReference]
    first | (intro acts; rw [hr _ acts rfl rfl rfl]) | rw [hr _ _ rfl rfl rfl]
    exact Steps.refl _
  · show Q_rm1_0 Z w1 h0 n0 _ T2.heap _
    rw [e2]
    exact ⟨rfl, N0, rfl⟩
theorem pd_0 : parseMethodDescriptor "(I)Lcom/example/rigorous_chains/rigorouschains/prism/Expression$Operator;" = some ⟨[.int], some (.object "com/example/rigorous_chains/rigorouschains/prism/Expression$Operator")⟩ := by decide +kernel
theorem d2_0 : decode prog_55_method_7_code 0 = .ok (.aload_n 0, 1) := by decide +kernel
theorem d2_1 : decode prog_55_method_7_code 1 = .ok (.getstatic 34, 3) := by decide +kernel
theorem d2_4 : decode prog_55_method_7_code 4 = .ok (.if_acmp .eq 24, 3) := by decide +kernel
theorem d2_7 : decode prog_55_method_7_code 7 = .ok (.aload_n 0, 1) := by decide +kernel
theorem d2_8 : decode prog_55_method_7_code 8 = .ok (.getstatic 37, 3) := by decide +kernel
theorem d2_11 : decode prog_55_method_7_code 11 = .ok (.if_acmp .eq 17, 3) := by decide +kernel
theorem d2_14 : decode prog_55_method_7_code 14 = .ok (.aload_n 0, 1) := by decide +kernel
theorem d2_15 : decode prog_55_method_7_code 15 = .ok (.getstatic 40, 3) := by decide +kernel
theorem d2_18 : decode prog_55_method_7_code 18 = .ok (.if_acmp .eq 10, 3) := by decide +kernel
theorem d2_21 : decode prog_55_method_7_code 21 = .ok (.aload_n 0, 1) := by decide +kernel
theorem d2_22 : decode prog_55_method_7_code 22 = .ok (.getstatic 43, 3) := by decide +kernel
theorem d2_25 : decode prog_55_method_7_code 25 = .ok (.if_acmp .ne 7, 3) := by decide +kernel
theorem d2_32 : decode prog_55_method_7_code 32 = .ok (.iconst 0, 1) := by decide +kernel
theorem d2_33 : decode prog_55_method_7_code 33 = .ok (.ireturn, 1) := by decide +kernel
theorem ef_2_1 (m : MethodId) (x0 : Addr) : entryFrame m #[(.ref x0)] 1 = mkF m 0 #[.val (.ref x0)] [] := by first | (simp [entryFrame, mkF, argsToLocals, Value.category]; done) | rfl
theorem pn_1 : plainName "com/example/rigorous_chains/rigorouschains/prism/Expression$Operator" = true := by first | (simp [plainName, overriddenIn]; done) | decide +kernel
def Q_rm2_0 (Z : State) (w1 : Addr) (w2 : Addr) (w4 : Addr) (w6 : Addr) (w8 : Addr) (h0 : Heap) (n0 : Nat) (v : Option Value) (h : Heap) (L : List Loc) : Prop := v = some (.int (0 : Int32)) ∧ Fr n0 L ∧ h = h0
set_option maxRecDepth 65536 in
set_option maxHeartbeats 40000000 in
theorem rm2_0 (l : Launch) (Z : State) (a0 : Array Value) (hw : ∀ d ∈ tables_1, d.before a0 Z = true) (ws : List Jvm.Cond) (w1 : Addr) (w2 : Addr) (w4 : Addr) (w6 : Addr) (w8 : Addr) (h0 : Heap) (n0 : Nat) (OL0 : Old Z n0 h0) (pr1 : Sta Z Z.heap "com/example/rigorous_chains/rigorouschains/prism/Expression$Operator" "PLUS" "Lcom/example/rigorous_chains/rigorouschains/prism/Expression$Operator;" (.ref w2)) (pr2 : w1 ≠ w2) (pr3 : Sta Z Z.heap "com/example/rigorous_chains/rigorouschains/prism/Expression$Operator" "MINUS" "Lcom/example/rigorous_chains/rigorouschains/prism/Expression$Operator;" (.ref w4)) (pr4 : w1 ≠ w4) (pr5 : Sta Z Z.heap "com/example/rigorous_chains/rigorouschains/prism/Expression$Operator" "TIMES" "Lcom/example/rigorous_chains/rigorouschains/prism/Expression$Operator;" (.ref w6)) (pr6 : w1 ≠ w6) (pr7 : Sta Z Z.heap "com/example/rigorous_chains/rigorouschains/prism/Expression$Operator" "DIVIDE" "Lcom/example/rigorous_chains/rigorouschains/prism/Expression$Operator;" (.ref w8)) (pr8 : w1 ≠ w8) :
    MetFree l (⟨"com/example/rigorous_chains/rigorouschains/prism/Expression$Operator", "isArithmetic", "()Z"⟩ : MethodName) (head1 (Jvm.Cond.code (⟨"com/example/rigorous_chains/rigorouschains/prism/Expression$Operator", "isArithmetic", "()Z"⟩ : MethodName) prog_55_method_7_code 1 (some .boolean) :: ws) ({ frames := 0, cells := 0, slots := 0, locals := 0 } : Room)) (fun a U => a = #[(.ref w1)] ∧ Z.Warmed39 U.vm ∧ U.heap = h0) (fun _ _ _ _ _ => True) (fun _ U o U' => ∃ v L, o = .returned v ∧ Q_rm2_0 Z w1 w2 w4 w6 w8 h0 n0 v U'.heap L ∧ FrameEnd U o U' L ({ frames := 0, cells := 0, slots := 0, locals := 0 } : Room).cells ({ frames := 0, cells := 0, slots := 0, locals := 0 } : Room).slots) := by
  refine MetFree.of_bodySF (plainFor_of_name pn_1) hisR ?_
  intro p e s m args below meth c s₁ Bd hml0 hP hK
  obtain ⟨rfl, hZ, hh⟩ := hP
  have hx := Bd.exec
  have hby := Bd.bytes
  have hml : c.maxLocals = 1 := hml0
  have hown : s.vm.findClass "com/example/rigorous_chains/rigorouschains/prism/Expression$Operator" = some m.cls := findClass_of_methodNamed Bd.named
  have hnm := (name_of_methodNamed Bd.named Bd.method).1
  have X0 : Stand p l e ({ frames := 0, cells := 0, slots := 0, locals := 0 } : Room) s m #[(.ref w1)] below meth c s₁ [] 0 0 := Stand.of_body Bd
  have e0 : s₁.heap = h0 := by rw [← hh, Bd.state]; rfl
  have N0 := Fr.nil n0
  have pre0 : ∀ t, Steps p.tables e below (s₁.setTop (mkF m 0 #[.val (.ref w1)] [])) t → Steps p.tables e below (s₁.setTop (entryFrame m #[(.ref w1)] 1)) t := fun t k => castTop (ef_2_1 m w1) k
  obtain ⟨T3, X3, e3, st3⟩ := getS2 X0 hx hZ hown (host := "") (Or.inl (wd13 hw)) Via.refl e0 (pr1.ext OL0.2) (g := (mkF m 1 #[.val (.ref w1)] [(.ref w1)])) rfl (hb hby d2_1)
  obtain ⟨T5, X5, e5, st5⟩ := getS2 X3 hx hZ hown (host := "") (Or.inl (wd15 hw)) Via.refl e3 (pr3.ext OL0.2) (g := (mkF m 8 #[.val (.ref w1)] [(.ref w1)])) rfl (hb hby d2_8)
  obtain ⟨T7, X7, e7, st7⟩ := getS2 X5 hx hZ hown (host := "") (Or.inl (wd17 hw)) Via.refl e5 (pr5.ext OL0.2) (g := (mkF m 15 #[.val (.ref w1)] [(.ref w1)])) rfl (hb hby d2_15)
  obtain ⟨T9, X9, e9, st9⟩ := getS2 X7 hx hZ hown (host := "") (Or.inl (wd19 hw)) Via.refl e7 (pr7.ext OL0.2) (g := (mkF m 22 #[.val (.ref w1)] [(.ref w1)])) rfl (hb hby d2_22)
  obtain ⟨fs, hr, hrun, hended, hW, hsame⟩ := X9.leave (v := some (.int (0 : Int32))) (fun h => by rw [Bd.returns] at h; cases h)
  refine ⟨_, _, pre0 _ ?_, hrun, hended, _, _, rfl, ?_, ⟨_, rfl⟩, hW, hsame.mono (by decide) (by decide)⟩
  · show Steps p.tables e below (s₁.setTop (mkF m 0 #[.val (.ref w1)] [])) _
    refine XS.aloadN X0.here hx rfl (hb hby d2_0) rfl rfl ?_
    show Steps p.tables e below (s₁.setTop (mkF m 1 #[.val (.ref w1)] [(.ref w1)])) _
    refine st3 _ ?_
    show Steps p.tables e below (T3.setTop (mkF m 4 #[.val (.ref w1)] [(.ref w2), (.ref w1)])) _
    refine Jvm.RoadKit.acmp (g := (mkF m 4 #[.val (.ref w1)] [(.ref w2), (.ref w1)])) X3 hx rfl rfl rfl (pc0 := 4) (pc' := 7) (same := false) rfl (hb hby d2_4) rfl (decide_eq_false fun q => pr2 (Value.ref.inj q)) (by decide) (by decide) ?_
    show Steps p.tables e below (T3.setTop (mkF m 7 #[.val (.ref w1)] [])) _
    refine XS.aloadN X3.here hx rfl (hb hby d2_7) rfl rfl ?_
    show Steps p.tables e below (T3.setTop (mkF m 8 #[.val (.ref w1)] [(.ref w1)])) _
    refine st5 _ ?_
    show Steps p.tables e below (T5.setTop (mkF m 11 #[.val (.ref w1)] [(.ref w4), (.ref w1)])) _
    refine Jvm.RoadKit.acmp (g := (mkF m 11 #[.val (.ref w1)] [(.ref w4), (.ref w1)])) X5 hx rfl rfl rfl (pc0 := 11) (pc' := 14) (same := false) rfl (hb hby d2_11) rfl (decide_eq_false fun q => pr4 (Value.ref.inj q)) (by decide) (by decide) ?_
    show Steps p.tables e below (T5.setTop (mkF m 14 #[.val (.ref w1)] [])) _
    refine XS.aloadN X5.here hx rfl (hb hby d2_14) rfl rfl ?_
    show Steps p.tables e below (T5.setTop (mkF m 15 #[.val (.ref w1)] [(.ref w1)])) _
    refine st7 _ ?_
    show Steps p.tables e below (T7.setTop (mkF m 18 #[.val (.ref w1)] [(.ref w6), (.ref w1)])) _
    refine Jvm.RoadKit.acmp (g := (mkF m 18 #[.val (.ref w1)] [(.ref w6), (.ref w1)])) X7 hx rfl rfl rfl (pc0 := 18) (pc' := 21) (same := false) rfl (hb hby d2_18) rfl (decide_eq_false fun q => pr6 (Value.ref.inj q)) (by decide) (by decide) ?_
    show Steps p.tables e below (T7.setTop (mkF m 21 #[.val (.ref w1)] [])) _
    refine XS.aloadN X7.here hx rfl (hb hby d2_21) rfl rfl ?_
    show Steps p.tables e below (T7.setTop (mkF m 22 #[.val (.ref w1)] [(.ref w1)])) _
    refine st9 _ ?_
    show Steps p.tables e below (T9.setTop (mkF m 25 #[.val (.ref w1)] [(.ref w8), (.ref w1)])) _
    refine Jvm.RoadKit.acmp (g := (mkF m 25 #[.val (.ref w1)] [(.ref w8), (.ref w1)])) X9 hx rfl rfl rfl (pc0 := 25) (pc' := 32) (same := false) rfl (hb hby d2_25) rfl (decide_eq_false fun q => pr8 (Value.ref.inj q)) (by decide) (by decide) ?_
    show Steps p.tables e below (T9.setTop (mkF m 32 #[.val (.ref w1)] [])) _
    refine XS.iconst X9.here hx rfl (hb hby d2_32) ?_
    show Steps p.tables e below (T9.setTop (mkF m 33 #[.val (.ref w1)] [(.int (0 : Int32))])) _
    exact retN X9 hx (t := .boolean) Bd.returns (by simp) (hb hby d2_33) hr
  · show Q_rm2_0 Z w1 w2 w4 w6 w8 h0 n0 _ T9.heap _
    rw [e9]
    exact ⟨rfl, N0, rfl⟩
theorem pd_1 : parseMethodDescriptor "()Z" = some ⟨[], some .boolean⟩ := by decide +kernel
theorem d3_0 : decode method_3_code 0 = .ok (.iload_n 0, 1) := by decide +kernel
theorem d3_1 : decode method_3_code 1 = .ok (.bipush 10, 2) := by decide +kernel
theorem d3_3 : decode method_3_code 3 = .ok (.if_icmp .eq 21, 3) := by decide +kernel
theorem d3_6 : decode method_3_code 6 = .ok (.iload_n 0, 1) := by decide +kernel
theorem d3_7 : decode method_3_code 7 = .ok (.bipush 11, 2) := by decide +kernel
theorem d3_9 : decode method_3_code 9 = .ok (.if_icmp .eq 15, 3) := by decide +kernel
theorem d3_12 : decode method_3_code 12 = .ok (.iload_n 0, 1) := by decide +kernel
theorem d3_13 : decode method_3_code 13 = .ok (.bipush 12, 2) := by decide +kernel
theorem d3_15 : decode method_3_code 15 = .ok (.if_icmp .eq 9, 3) := by decide +kernel
theorem d3_18 : decode method_3_code 18 = .ok (.iload_n 0, 1) := by decide +kernel
theorem d3_19 : decode method_3_code 19 = .ok (.bipush 13, 2) := by decide +kernel
theorem d3_21 : decode method_3_code 21 = .ok (.if_icmp .ne 8, 3) := by decide +kernel
theorem d3_29 : decode method_3_code 29 = .ok (.iconst 0, 1) := by decide +kernel
theorem d3_30 : decode method_3_code 30 = .ok (.istore_n 1, 1) := by decide +kernel
theorem d3_31 : decode method_3_code 31 = .ok (.iload_n 1, 1) := by decide +kernel
theorem d3_32 : decode method_3_code 32 = .ok (.ireturn, 1) := by decide +kernel
theorem ef_3_2 (m : MethodId)  : entryFrame m #[(.int (0 : Int32))] 2 = mkF m 0 #[.val (.int (0 : Int32)), .unset] [] := by first | (simp [entryFrame, mkF, argsToLocals, Value.category]; done) | rfl
def Q_rm3_0 (Z : State)  (h0 : Heap) (n0 : Nat) (v : Option Value) (h : Heap) (L : List Loc) : Prop := v = some (.int (0 : Int32)) ∧ Fr n0 L ∧ h = h0
set_option maxRecDepth 65536 in
set_option maxHeartbeats 40000000 in
theorem rm3_0 (l : Launch) (Z : State) (a0 : Array Value) (hw : ∀ d ∈ tables_1, d.before a0 Z = true) (ws : List Jvm.Cond)  (h0 : Heap) (n0 : Nat) (OL0 : Old Z n0 h0)  :
    MetFree l (⟨"com/example/rigorous_chains/rigorouschains/prism/OperatorIsArithmeticPinLaw", "expected", "(I)Z"⟩ : MethodName) (head1 (Jvm.Cond.code (⟨"com/example/rigorous_chains/rigorouschains/prism/OperatorIsArithmeticPinLaw", "expected", "(I)Z"⟩ : MethodName) method_3_code 2 (some .boolean) :: ws) ({ frames := 0, cells := 0, slots := 0, locals := 0 } : Room)) (fun a U => a = #[(.int (0 : Int32))] ∧ Z.Warmed39 U.vm ∧ U.heap = h0) (fun _ _ _ _ _ => True) (fun _ U o U' => ∃ v L, o = .returned v ∧ Q_rm3_0 Z  h0 n0 v U'.heap L ∧ FrameEnd U o U' L ({ frames := 0, cells := 0, slots := 0, locals := 0 } : Room).cells ({ frames := 0, cells := 0, slots := 0, locals := 0 } : Room).slots) := by
  refine MetFree.of_bodySF (plainFor_of_name pn_0) hisR ?_
  intro p e s m args below meth c s₁ Bd hml0 hP hK
  obtain ⟨rfl, hZ, hh⟩ := hP
  have hx := Bd.exec
  have hby := Bd.bytes
  have hml : c.maxLocals = 2 := hml0
  have hown : s.vm.findClass "com/example/rigorous_chains/rigorouschains/prism/OperatorIsArithmeticPinLaw" = some m.cls := findClass_of_methodNamed Bd.named
  have hnm := (name_of_methodNamed Bd.named Bd.method).1
  have X0 : Stand p l e ({ frames := 0, cells := 0, slots := 0, locals := 0 } : Room) s m #[(.int (0 : Int32))] below meth c s₁ [] 0 0 := Stand.of_body Bd
  have e0 : s₁.heap = h0 := by rw [← hh, Bd.state]; rfl
  have N0 := Fr.nil n0
  have pre0 : ∀ t, Steps p.tables e below (s₁.setTop (mkF m 0 #[.val (.int (0 : Int32)), .unset] [])) t → Steps p.tables e below (s₁.setTop (entryFrame m #[(.int (0 : Int32))] 2)) t := fun t k => castTop (ef_3_2 m ) k
  obtain ⟨fs, hr, hrun, hended, hW, hsame⟩ := X0.leave (v := some (.int (0 : Int32))) (fun h => by rw [Bd.returns] at h; cases h)
  refine ⟨_, _, pre0 _ ?_, hrun, hended, _, _, rfl, ?_, ⟨_, rfl⟩, hW, hsame.mono (by decide) (by decide)⟩
  · show Steps p.tables e below (s₁.setTop (mkF m 0 #[.val (.int (0 : Int32)), .unset] [])) _
    refine XS.iloadN X0.here hx rfl (hb hby d3_0) rfl ?_
    show Steps p.tables e below (s₁.setTop (mkF m 1 #[.val (.int (0 : Int32)), .unset] [(.int (0 : Int32))])) _
    refine XS.bipush X0.here hx rfl (hb hby d3_1) ?_
    show Steps p.tables e below (s₁.setTop (mkF m 3 #[.val (.int (0 : Int32)), .unset] [(.int (10 : Int32)), (.int (0 : Int32))])) _
    refine XS.icmpNo X0.here hx rfl (hb hby d3_3) rfl (feq (by decide : ¬ ((0 : Int32) = (10 : Int32)))).1 ?_
    show Steps p.tables e below (s₁.setTop (mkF m 6 #[.val (.int (0 : Int32)), .unset] [])) _
    refine XS.iloadN X0.here hx rfl (hb hby d3_6) rfl ?_
    show Steps p.tables e below (s₁.setTop (mkF m 7 #[.val (.int (0 : Int32)), .unset] [(.int (0 : Int32))])) _
    refine XS.bipush X0.here hx rfl (hb hby d3_7) ?_
    show Steps p.tables e below (s₁.setTop (mkF m 9 #[.val (.int (0 : Int32)), .unset] [(.int (11 : Int32)), (.int (0 : Int32))])) _
    refine XS.icmpNo X0.here hx rfl (hb hby d3_9) rfl (feq (by decide : ¬ ((0 : Int32) = (11 : Int32)))).1 ?_
    show Steps p.tables e below (s₁.setTop (mkF m 12 #[.val (.int (0 : Int32)), .unset] [])) _
    refine XS.iloadN X0.here hx rfl (hb hby d3_12) rfl ?_
    show Steps p.tables e below (s₁.setTop (mkF m 13 #[.val (.int (0 : Int32)), .unset] [(.int (0 : Int32))])) _
    refine XS.bipush X0.here hx rfl (hb hby d3_13) ?_
    show Steps p.tables e below (s₁.setTop (mkF m 15 #[.val (.int (0 : Int32)), .unset] [(.int (12 : Int32)), (.int (0 : Int32))])) _
    refine XS.icmpNo X0.here hx rfl (hb hby d3_15) rfl (feq (by decide : ¬ ((0 : Int32) = (12 : Int32)))).1 ?_
    show Steps p.tables e below (s₁.setTop (mkF m 18 #[.val (.int (0 : Int32)), .unset] [])) _
    refine XS.iloadN X0.here hx rfl (hb hby d3_18) rfl ?_
    show Steps p.tables e below (s₁.setTop (mkF m 19 #[.val (.int (0 : Int32)), .unset] [(.int (0 : Int32))])) _
    refine XS.bipush X0.here hx rfl (hb hby d3_19) ?_
    show Steps p.tables e below (s₁.setTop (mkF m 21 #[.val (.int (0 : Int32)), .unset] [(.int (13 : Int32)), (.int (0 : Int32))])) _
    refine XS.icmpYes X0.here hx rfl (pc0 := 21) (pc' := 29) rfl (hb hby d3_21) rfl (feq (by decide : ¬ ((0 : Int32) = (13 : Int32)))).2 (by decide) (by decide) ?_
    show Steps p.tables e below (s₁.setTop (mkF m 29 #[.val (.int (0 : Int32)), .unset] [])) _
    refine XS.iconst X0.here hx rfl (hb hby d3_29) ?_
    show Steps p.tables e below (s₁.setTop (mkF m 30 #[.val (.int (0 : Int32)), .unset] [(.int (0 : Int32))])) _
    refine XS.istoreN X0.here hx rfl (hb hby d3_30) rfl (l' := #[.val (.int (0 : Int32)), .val (.int (0 : Int32))]) rfl ?_
    show Steps p.tables e below (s₁.setTop (mkF m 31 #[.val (.int (0 : Int32)), .val (.int (0 : Int32))] [])) _
    refine XS.iloadN X0.here hx rfl (hb hby d3_31) rfl ?_
    show Steps p.tables e below (s₁.setTop (mkF m 32 #[.val (.int (0 : Int32)), .val (.int (0 : Int32))] [(.int (0 : Int32))])) _
    exact retN X0 hx (t := .boolean) Bd.returns (by simp) (hb hby d3_32) hr
  · show Q_rm3_0 Z  h0 n0 _ s₁.heap _
    rw [e0]
    exact ⟨rfl, N0, rfl⟩
theorem pd_2 : parseMethodDescriptor "(I)Z" = some ⟨[.int], some .boolean⟩ := by decide +kernel
theorem ef_0_3 (m : MethodId) (x0 : Int32) : entryFrame m #[(.int x0)] maxLocals = mkF m 0 #[.val (.int x0), .unset, .unset] [] := by first | (simp [entryFrame, mkF, argsToLocals, Value.category, maxLocals]; done) | rfl
set_option maxRecDepth 65536 in
set_option maxHeartbeats 40000000 in
theorem rm0_0 (l : Launch) (Z : State) (a0 : Array Value) (hw : ∀ d ∈ tables_1, d.before a0 Z = true) (ws : List Jvm.Cond) (p1 : Int32) (w_IMPLIES : Addr) (w_PLUS : Addr) (w_MINUS : Addr) (w_TIMES : Addr) (w_DIVIDE : Addr) (h0 : Heap) (n0 : Nat) (OL0 : Old Z n0 h0) (pr1 : ((p1 &&& (2147483647 : Int32)) % (14 : Int32)) = (0 : Int32)) (pr2 : Sta Z Z.heap "com/example/rigorous_chains/rigorouschains/prism/Expression$Operator" "IMPLIES" "Lcom/example/rigorous_chains/rigorouschains/prism/Expression$Operator;" (.ref w_IMPLIES)) (pr3 : Sta Z Z.heap "com/example/rigorous_chains/rigorouschains/prism/Expression$Operator" "PLUS" "Lcom/example/rigorous_chains/rigorouschains/prism/Expression$Operator;" (.ref w_PLUS)) (pr4 : w_IMPLIES ≠ w_PLUS) (pr5 : Sta Z Z.heap "com/example/rigorous_chains/rigorouschains/prism/Expression$Operator" "MINUS" "Lcom/example/rigorous_chains/rigorouschains/prism/Expression$Operator;" (.ref w_MINUS)) (pr6 : w_IMPLIES ≠ w_MINUS) (pr7 : Sta Z Z.heap "com/example/rigorous_chains/rigorouschains/prism/Expression$Operator" "TIMES" "Lcom/example/rigorous_chains/rigorouschains/prism/Expression$Operator;" (.ref w_TIMES)) (pr8 : w_IMPLIES ≠ w_TIMES) (pr9 : Sta Z Z.heap "com/example/rigorous_chains/rigorouschains/prism/Expression$Operator" "DIVIDE" "Lcom/example/rigorous_chains/rigorouschains/prism/Expression$Operator;" (.ref w_DIVIDE)) (pr10 : w_IMPLIES ≠ w_DIVIDE) (pr11 : Exa Z Z.heap w_IMPLIES "com/example/rigorous_chains/rigorouschains/prism/Expression$Operator") :
    MetFree l x (head1 (Jvm.Cond.code x code maxLocals ret :: ws) room_1) (fun a U => a = #[(.int p1)] ∧ Z.Warmed39 U.vm ∧ U.heap = h0) (fun _ _ _ _ _ => True) (fun _ U o U' => ∃ v L, o = .returned v ∧ Q0 n0 v L ∧ FrameEnd U o U' L 0 0) := by
  refine MetFree.of_bodySF (plainFor_of_name pn_0) hisR ?_
  intro p e s m args below meth c s₁ Bd hml0 hP hK
  obtain ⟨rfl, hZ, hh⟩ := hP
  have hx := Bd.exec
  have hby := Bd.bytes
  have hml : c.maxLocals = 3 := hml0
  have hown : s.vm.findClass "com/example/rigorous_chains/rigorouschains/prism/OperatorIsArithmeticPinLaw" = some m.cls := findClass_of_methodNamed Bd.named
  have hnm := (name_of_methodNamed Bd.named Bd.method).1
  have X0 : Stand p l e room_1 s m #[(.int p1)] below meth c s₁ [] 0 0 := Stand.of_body Bd
  have e0 : s₁.heap = h0 := by rw [← hh, Bd.state]; rfl
  have N0 := Fr.nil n0
  have pre0 : ∀ t, Steps p.tables e below (s₁.setTop (mkF m 0 #[.val (.int p1), .unset, .unset] [])) t → Steps p.tables e below (s₁.setTop (entryFrame m #[(.int p1)] maxLocals)) t := fun t k => castTop (ef_0_3 m p1) k
  obtain ⟨_, _, ⟨T1, L1, k1, n1⟩, -, X1, ⟨Lc1, hQ1, l1, y1, z1⟩, st1⟩ := Jvm.LawKit.callS X0 hx (y := (⟨"com/example/rigorous_chains/rigorouschains/prism/OperatorIsArithmeticPinLaw", "pick", "(I)Lcom/example/rigorous_chains/rigorouschains/prism/Expression$Operator;"⟩ : MethodName)) hown (mvT hZ (wd1 hw)) (mvT hZ (wd2 hw)) (mvT hZ (wd3 hw)) (mvT hZ (wd4 hw)) (by decide) (backOf (W := 0) (rm1_0 l Z a0 hw [] w_IMPLIES h0 n0 OL0 pr2) hZ (wd4 hw) (wd3 hw) (by decide) (by decide)) (g := (mkF m 9 #[.val (.int p1), .val (.int (0 : Int32)), .unset] [(.int (0 : Int32))])) rfl (by rw [hml]; rfl) (argsL := [(.int (0 : Int32))]) (rest := []) (lenOf pd_0 rfl) rfl (by show 2 * 0 + _ ≤ _; exact Nat.le_of_eq rfl) (hb hby at_9) (fun _ _ => ⟨rfl, e0, (by decide : 0 + 0 ≤ _), (by decide : 0 + 0 ≤ _)⟩)
  dsimp only [Pt.U, Pt.locs, Pt.cells, Pt.slots] at X1 l1 y1 z1 st1 hQ1
  subst l1 y1 z1
  obtain ⟨rfl, Nq1, ec1⟩ := hQ1
  have N1 := Fr.app N0 Nq1
  obtain ⟨cq2, kq2, q2a, q2b, q2c⟩ := isOf hZ ec1 (pr11.ext OL0.2)
  obtain ⟨_, _, ⟨T2, L2, k2, n2⟩, -, X2, ⟨Lc2, hQ2, l2, y2, z2⟩, st2⟩ := X1.virtualBack hx (y := (⟨"com/example/rigorous_chains/rigorouschains/prism/Expression$Operator", "isArithmetic", "()Z"⟩ : MethodName)) (z := (⟨"com/example/rigorous_chains/rigorouschains/prism/Expression$Operator", "isArithmetic", "()Z"⟩ : MethodName)) hown (mvT hZ (wd8 hw)) (mvT hZ (wd9 hw)) (notFace_of_selects (args := #[]) (mvT hZ (wd11 hw))) (mvT hZ (wd11 hw)) (mvT hZ (wd10 hw)) (by decide) (backOf (W := 0) (rm2_0 l Z a0 hw [] w_IMPLIES w_PLUS w_MINUS w_TIMES w_DIVIDE h0 n0 OL0 pr3 pr4 pr5 pr6 pr7 pr8 pr9 pr10) hZ (wd12 hw) (wd6 hw) (by decide) (by decide)) q2a q2c (g := (mkF m 14 #[.val (.int p1), .val (.int (0 : Int32)), .val (.ref w_IMPLIES)] [(.ref w_IMPLIES)])) rfl (by rw [hml]; rfl) (Steps.refl _) (argsL := []) (rest := []) (lenOf pd_1 rfl) rfl (by show 2 * 0 + _ ≤ _; exact Nat.le_of_eq rfl) (hb hby at_14) (fun _ _ => ⟨rfl, ec1, (by decide : 0 + 0 ≤ _), (by decide : 0 + 0 ≤ _)⟩)
  dsimp only [Pt.U, Pt.locs, Pt.cells, Pt.slots] at X2 l2 y2 z2 st2 hQ2
  subst l2 y2 z2
  obtain ⟨rfl, Nq2, ec2⟩ := hQ2
  have N2 := Fr.app N1 Nq2
  obtain ⟨_, _, ⟨T3, L3, k3, n3⟩, -, X3, ⟨Lc3, hQ3, l3, y3, z3⟩, st3⟩ := Jvm.LawKit.callS X2 hx (y := (⟨"com/example/rigorous_chains/rigorouschains/prism/OperatorIsArithmeticPinLaw", "expected", "(I)Z"⟩ : MethodName)) hown (mvT hZ (wd21 hw)) (mvT hZ (wd22 hw)) (mvT hZ (wd3 hw)) (mvT hZ (wd23 hw)) (by decide) (backOf (W := 1) (rm3_0 l Z a0 hw []  h0 n0 OL0 ) hZ (wd23 hw) (wd3 hw) (by decide) (by decide)) (g := (mkF m 18 #[.val (.int p1), .val (.int (0 : Int32)), .val (.ref w_IMPLIES)] [(.int (0 : Int32)), (.int (0 : Int32))])) rfl (by rw [hml]; rfl) (argsL := [(.int (0 : Int32))]) (rest := [(.int (0 : Int32))]) (lenOf pd_2 rfl) rfl (by show 2 * 0 + _ ≤ _; exact Nat.le_of_eq rfl) (hb hby at_18) (fun _ _ => ⟨rfl, ec2, (by decide : 0 + 0 ≤ _), (by decide : 0 + 0 ≤ _)⟩)
  dsimp only [Pt.U, Pt.locs, Pt.cells, Pt.slots] at X3 l3 y3 z3 st3 hQ3
  subst l3 y3 z3
  obtain ⟨rfl, Nq3, ec3⟩ := hQ3
  have N3 := Fr.app N2 Nq3
  obtain ⟨fs, hr, hrun, hended, hW, hsame⟩ := X3.leave (v := some (.int (1 : Int32))) (fun h => by rw [Bd.returns] at h; cases h)
  refine ⟨_, _, pre0 _ ?_, hrun, hended, _, _, rfl, ?_, ⟨_, rfl⟩, hW, hsame.mono (by decide) (by decide)⟩
  · show Steps p.tables e below (s₁.setTop (mkF m 0 #[.val (.int p1), .unset, .unset] [])) _
    refine XS.iloadN X0.here hx rfl (hb hby at_0) rfl ?_
    show Steps p.tables e below (s₁.setTop (mkF m 1 #[.val (.int p1), .unset, .unset] [(.int p1)])) _
    refine X0.ldcInt hx hown (mvT hZ (wd0 hw)) (g := (mkF m 1 #[.val (.int p1), .unset, .unset] [(.int p1)])) rfl (hb hby at_1) _ ?_
    show Steps p.tables e below (s₁.setTop (mkF m 3 #[.val (.int p1), .unset, .unset] [(.int (2147483647 : Int32)), (.int p1)])) _
    refine XS.iand X0.here hx rfl (hb hby at_3) rfl ?_
    show Steps p.tables e below (s₁.setTop (mkF m 4 #[.val (.int p1), .unset, .unset] [(.int (p1 &&& (2147483647 : Int32)))])) _
    refine XS.bipush X0.here hx rfl (hb hby at_4) ?_
    show Steps p.tables e below (s₁.setTop (mkF m 6 #[.val (.int p1), .unset, .unset] [(.int (14 : Int32)), (.int (p1 &&& (2147483647 : Int32)))])) _
    refine iremM X0 hx rfl (hb hby at_6) rfl (by decide) ?_
    show Steps p.tables e below (s₁.setTop (mkF m 7 #[.val (.int p1), .unset, .unset] [(.int ((p1 &&& (2147483647 : Int32)) % (14 : Int32)))])) _
    rw [pr1]
    show Steps p.tables e below (s₁.setTop (mkF m 7 #[.val (.int p1), .unset, .unset] [(.int (0 : Int32))])) _
    refine XS.istoreN X0.here hx rfl (hb hby at_7) rfl (l' := #[.val (.int p1), .val (.int (0 : Int32)), .unset]) rfl ?_
    show Steps p.tables e below (s₁.setTop (mkF m 8 #[.val (.int p1), .val (.int (0 : Int32)), .unset] [])) _
    refine XS.iloadN X0.here hx rfl (hb hby at_8) rfl ?_
    show Steps p.tables e below (s₁.setTop (mkF m 9 #[.val (.int p1), .val (.int (0 : Int32)), .unset] [(.int (0 : Int32))])) _
    refine st1 _ ?_
    show Steps p.tables e below (T1.setTop (mkF m 12 #[.val (.int p1), .val (.int (0 : Int32)), .unset] [(.ref w_IMPLIES)])) _
    refine XS.astoreN X1.here hx rfl (hb hby at_12) rfl rfl (l' := #[.val (.int p1), .val (.int (0 : Int32)), .val (.ref w_IMPLIES)]) rfl ?_
    show Steps p.tables e below (T1.setTop (mkF m 13 #[.val (.int p1), .val (.int (0 : Int32)), .val (.ref w_IMPLIES)] [])) _
    refine XS.aloadN X1.here hx rfl (hb hby at_13) rfl rfl ?_
    show Steps p.tables e below (T1.setTop (mkF m 14 #[.val (.int p1), .val (.int (0 : Int32)), .val (.ref w_IMPLIES)] [(.ref w_IMPLIES)])) _
    refine st2.trans ?_
    show Steps p.tables e below (T2.setTop (mkF m 17 #[.val (.int p1), .val (.int (0 : Int32)), .val (.ref w_IMPLIES)] [(.int (0 : Int32))])) _
    refine XS.iloadN X2.here hx rfl (hb hby at_17) rfl ?_
    show Steps p.tables e below (T2.setTop (mkF m 18 #[.val (.int p1), .val (.int (0 : Int32)), .val (.ref w_IMPLIES)] [(.int (0 : Int32)), (.int (0 : Int32))])) _
    refine st3 _ ?_
    show Steps p.tables e below (T3.setTop (mkF m 21 #[.val (.int p1), .val (.int (0 : Int32)), .val (.ref w_IMPLIES)] [(.int (0 : Int32)), (.int (0 : Int32))])) _
    refine XS.icmpNo X3.here hx rfl (hb hby at_21) rfl (teq (rfl : (0 : Int32) = (0 : Int32))).2 ?_
    show Steps p.tables e below (T3.setTop (mkF m 24 #[.val (.int p1), .val (.int (0 : Int32)), .val (.ref w_IMPLIES)] [])) _
    refine XS.iconst X3.here hx rfl (hb hby at_24) ?_
    show Steps p.tables e below (T3.setTop (mkF m 25 #[.val (.int p1), .val (.int (0 : Int32)), .val (.ref w_IMPLIES)] [(.int (1 : Int32))])) _
    refine XS.goto X3.here hx rfl (pc0 := 25) (pc' := 29) rfl (hb hby at_25) (by decide) (by decide) ?_
    show Steps p.tables e below (T3.setTop (mkF m 29 #[.val (.int p1), .val (.int (0 : Int32)), .val (.ref w_IMPLIES)] [(.int (1 : Int32))])) _
    exact retN X3 hx (t := .boolean) Bd.returns (by simp) (hb hby at_29) hr
  · exact ⟨rfl, N3⟩
theorem d1_8 : decode method_2_code 8 = .ok (.iload_n 0, 1) := by decide +kernel
theorem d1_9 : decode method_2_code 9 = .ok (.iconst 1, 1) := by decide +kernel
theorem d1_10 : decode method_2_code 10 = .ok (.if_icmp .ne 7, 3) := by decide +kernel
theorem d1_13 : decode method_2_code 13 = .ok (.getstatic 13, 3) := by decide +kernel
theorem d1_16 : decode method_2_code 16 = .ok (.areturn, 1) := by decide +kernel
theorem ef_1_4 (m : MethodId)  : entryFrame m #[(.int (1 : Int32))] 1 = mkF m 0 #[.val (.int (1 : Int32))] [] := by first | (simp [entryFrame, mkF, argsToLocals, Value.category]; done) | rfl
def Q_rm1_1 (Z : State) (w1 : Addr) (h0 : Heap) (n0 : Nat) (v : Option Value) (h : Heap) (L : List Loc) : Prop := v = some (.ref w1) ∧ Fr n0 L ∧ h = h0
set_option maxRecDepth 65536 in
set_option maxHeartbeats 40000000 in
theorem rm1_1 (l : Launch) (Z : State) (a0 : Array Value) (hw : ∀ d ∈ tables_1, d.before a0 Z = true) (ws : List Jvm.Cond) (w1 : Addr) (h0 : Heap) (n0 : Nat) (OL0 : Old Z n0 h0) (pr1 : Sta Z Z.heap "com/example/rigorous_chains/rigorouschains/prism/Expression$Operator" "IFF" "Lcom/example/rigorous_chains/rigorouschains/prism/Expression$Operator;" (.ref w1)) :
    MetFree l (⟨"com/example/rigorous_chains/rigorouschains/prism/OperatorIsArithmeticPinLaw", "pick", "(I)Lcom/example/rigorous_chains/rigorouschains/prism/Expression$Operator;"⟩ : MethodName) (head1 (Jvm.Cond.code (⟨"com/example/rigorous_chains/rigorouschains/prism/OperatorIsArithmeticPinLaw", "pick", "(I)Lcom/example/rigorous_chains/rigorouschains/prism/Expression$Operator;"⟩ : MethodName) method_2_code 1 (some (.object "com/example/rigorous_chains/rigorouschains/prism/Expression$Operator")) :: ws) ({ frames := 0, cells := 0, slots := 0, locals := 0 } : Room)) (fun a U => a = #[(.int (1 : Int32))] ∧ Z.Warmed39 U.vm ∧ U.heap = h0) (fun _ _ _ _ _ => True) (fun _ U o U' => ∃ v L, o = .returned v ∧ Q_rm1_1 Z w1 h0 n0 v U'.heap L ∧ FrameEnd U o U' L ({ frames := 0, cells := 0, slots := 0, locals := 0 } : Room).cells ({ frames := 0, cells := 0, slots := 0, locals := 0 } : Room).slots) := by
  refine MetFree.of_bodySF (plainFor_of_name pn_0) hisR ?_
  intro p e s m args below meth c s₁ Bd hml0 hP hK
  obtain ⟨rfl, hZ, hh⟩ := hP
  have hx := Bd.exec
  have hby := Bd.bytes
  have hml : c.maxLocals = 1 := hml0
  have hown : s.vm.findClass "com/example/rigorous_chains/rigorouschains/prism/OperatorIsArithmeticPinLaw" = some m.cls := findClass_of_methodNamed Bd.named
  have hnm := (name_of_methodNamed Bd.named Bd.method).1
  have X0 : Stand p l e ({ frames := 0, cells := 0, slots := 0, locals := 0 } : Room) s m #[(.int (1 : Int32))] below meth c s₁ [] 0 0 := Stand.of_body Bd
  have e0 : s₁.heap = h0 := by rw [← hh, Bd.state]; rfl
  have N0 := Fr.nil n0
  have pre0 : ∀ t, Steps p.tables e below (s₁.setTop (mkF m 0 #[.val (.int (1 : Int32))] [])) t → Steps p.tables e below (s₁.setTop (entryFrame m #[(.int (1 : Int32))] 1)) t := fun t k => castTop (ef_1_4 m ) k
  obtain ⟨T2, X2, e2, st2⟩ := getS2 X0 hx hZ hown (host := "") (Or.inl (wd38 hw)) Via.refl e0 (pr1.ext OL0.2) (g := (mkF m 13 #[.val (.int (1 : Int32))] [])) rfl (hb hby d1_13)
  obtain ⟨fs, hr, hrun, hended, hW, hsame⟩ := X2.leave (v := some (.ref w1)) (fun h => by rw [Bd.returns] at h; cases h)
  refine ⟨_, _, pre0 _ ?_, hrun, hended, _, _, rfl, ?_, ⟨_, rfl⟩, hW, hsame.mono (by decide) (by decide)⟩
  · show Steps p.tables e below (s₁.setTop (mkF m 0 #[.val (.int (1 : Int32))] [])) _
    refine XS.iloadN X0.here hx rfl (hb hby d1_0) rfl ?_
    show Steps p.tables e below (s₁.setTop (mkF m 1 #[.val (.int (1 : Int32))] [(.int (1 : Int32))])) _
    refine XS.ifYes X0.here hx rfl (pc0 := 1) (pc' := 8) rfl (hb hby d1_1) rfl ((if0 _ _).trans (feq (by decide : ¬ ((1 : Int32) = (0 : Int32)))).2) (by decide) (by decide) ?_
    show Steps p.tables e below (s₁.setTop (mkF m 8 #[.val (.int (1 : Int32))] [])) _
    refine XS.iloadN X0.here hx rfl (hb hby d1_8) rfl ?_
    show Steps p.tables e below (s₁.setTop (mkF m 9 #[.val (.int (1 : Int32))] [(.int (1 : Int32))])) _
    refine XS.iconst X0.here hx rfl (hb hby d1_9) ?_
    show Steps p.tables e below (s₁.setTop (mkF m 10 #[.val (.int (1 : Int32))] [(.int (1 : Int32)), (.int (1 : Int32))])) _
    refine XS.icmpNo X0.here hx rfl (hb hby d1_10) rfl (teq (rfl : (1 : Int32) = (1 : Int32))).2 ?_
    show Steps p.tables e below (s₁.setTop (mkF m 13 #[.val (.int (1 : Int32))] [])) _
    refine st2 _ ?_
    show Steps p.tables e below (T2.setTop (mkF m 16 #[.val (.int (1 : Int32))] [(.ref w1)])) _
    jvm_step X2.here [X2.here.top, hx, (hb hby d1_16), X2.method', Bd.returns, Value.isRef, FieldType.isReference]
    first | (intro acts; rw [hr _ acts rfl rfl rfl]) | rw [hr _ _ rfl rfl rfl]
    exact Steps.refl _
  · show Q_rm1_1 Z w1 h0 n0 _ T2.heap _
    rw [e2]
    exact ⟨rfl, N0, rfl⟩
theorem ef_3_5 (m : MethodId)  : entryFrame m #[(.int (1 : Int32))] 2 = mkF m 0 #[.val (.int (1 : Int32)), .unset] [] := by first | (simp [entryFrame, mkF, argsToLocals, Value.category]; done) | rfl
def Q_rm3_1 (Z : State)  (h0 : Heap) (n0 : Nat) (v : Option Value) (h : Heap) (L : List Loc) : Prop := v = some (.int (0 : Int32)) ∧ Fr n0 L ∧ h = h0
set_option maxRecDepth 65536 in
set_option maxHeartbeats 40000000 in
theorem rm3_1 (l : Launch) (Z : State) (a0 : Array Value) (hw : ∀ d ∈ tables_1, d.before a0 Z = true) (ws : List Jvm.Cond)  (h0 : Heap) (n0 : Nat) (OL0 : Old Z n0 h0)  :
    MetFree l (⟨"com/example/rigorous_chains/rigorouschains/prism/OperatorIsArithmeticPinLaw", "expected", "(I)Z"⟩ : MethodName) (head1 (Jvm.Cond.code (⟨"com/example/rigorous_chains/rigorouschains/prism/OperatorIsArithmeticPinLaw", "expected", "(I)Z"⟩ : MethodName) method_3_code 2 (some .boolean) :: ws) ({ frames := 0, cells := 0, slots := 0, locals := 0 } : Room)) (fun a U => a = #[(.int (1 : Int32))] ∧ Z.Warmed39 U.vm ∧ U.heap = h0) (fun _ _ _ _ _ => True) (fun _ U o U' => ∃ v L, o = .returned v ∧ Q_rm3_1 Z  h0 n0 v U'.heap L ∧ FrameEnd U o U' L ({ frames := 0, cells := 0, slots := 0, locals := 0 } : Room).cells ({ frames := 0, cells := 0, slots := 0, locals := 0 } : Room).slots) := by
  refine MetFree.of_bodySF (plainFor_of_name pn_0) hisR ?_
  intro p e s m args below meth c s₁ Bd hml0 hP hK
  obtain ⟨rfl, hZ, hh⟩ := hP
  have hx := Bd.exec
  have hby := Bd.bytes
  have hml : c.maxLocals = 2 := hml0
  have hown : s.vm.findClass "com/example/rigorous_chains/rigorouschains/prism/OperatorIsArithmeticPinLaw" = some m.cls := findClass_of_methodNamed Bd.named
  have hnm := (name_of_methodNamed Bd.named Bd.method).1
  have X0 : Stand p l e ({ frames := 0, cells := 0, slots := 0, locals := 0 } : Room) s m #[(.int (1 : Int32))] below meth c s₁ [] 0 0 := Stand.of_body Bd
  have e0 : s₁.heap = h0 := by rw [← hh, Bd.state]; rfl
  have N0 := Fr.nil n0
  have pre0 : ∀ t, Steps p.tables e below (s₁.setTop (mkF m 0 #[.val (.int (1 : Int32)), .unset] [])) t → Steps p.tables e below (s₁.setTop (entryFrame m #[(.int (1 : Int32))] 2)) t := fun t k => castTop (ef_3_5 m ) k
  obtain ⟨fs, hr, hrun, hended, hW, hsame⟩ := X0.leave (v := some (.int (0 : Int32))) (fun h => by rw [Bd.returns] at h; cases h)
  refine ⟨_, _, pre0 _ ?_, hrun, hended, _, _, rfl, ?_, ⟨_, rfl⟩, hW, hsame.mono (by decide) (by decide)⟩
  · show Steps p.tables e below (s₁.setTop (mkF m 0 #[.val (.int (1 : Int32)), .unset] [])) _
    refine XS.iloadN X0.here hx rfl (hb hby d3_0) rfl ?_
    show Steps p.tables e below (s₁.setTop (mkF m 1 #[.val (.int (1 : Int32)), .unset] [(.int (1 : Int32))])) _
    refine XS.bipush X0.here hx rfl (hb hby d3_1) ?_
    show Steps p.tables e below (s₁.setTop (mkF m 3 #[.val (.int (1 : Int32)), .unset] [(.int (10 : Int32)), (.int (1 : Int32))])) _
    refine XS.icmpNo X0.here hx rfl (hb hby d3_3) rfl (feq (by decide : ¬ ((1 : Int32) = (10 : Int32)))).1 ?_
    show Steps p.tables e below (s₁.setTop (mkF m 6 #[.val (.int (1 : Int32)), .unset] [])) _
    refine XS.iloadN X0.here hx rfl (hb hby d3_6) rfl ?_
    show Steps p.tables e below (s₁.setTop (mkF m 7 #[.val (.int (1 : Int32)), .unset] [(.int (1 : Int32))])) _
    refine XS.bipush X0.here hx rfl (hb hby d3_7) ?_
    show Steps p.tables e below (s₁.setTop (mkF m 9 #[.val (.int (1 : Int32)), .unset] [(.int (11 : Int32)), (.int (1 : Int32))])) _
    refine XS.icmpNo X0.here hx rfl (hb hby d3_9) rfl (feq (by decide : ¬ ((1 : Int32) = (11 : Int32)))).1 ?_
    show Steps p.tables e below (s₁.setTop (mkF m 12 #[.val (.int (1 : Int32)), .unset] [])) _
    refine XS.iloadN X0.here hx rfl (hb hby d3_12) rfl ?_
    show Steps p.tables e below (s₁.setTop (mkF m 13 #[.val (.int (1 : Int32)), .unset] [(.int (1 : Int32))])) _
    refine XS.bipush X0.here hx rfl (hb hby d3_13) ?_
    show Steps p.tables e below (s₁.setTop (mkF m 15 #[.val (.int (1 : Int32)), .unset] [(.int (12 : Int32)), (.int (1 : Int32))])) _
    refine XS.icmpNo X0.here hx rfl (hb hby d3_15) rfl (feq (by decide : ¬ ((1 : Int32) = (12 : Int32)))).1 ?_
    show Steps p.tables e below (s₁.setTop (mkF m 18 #[.val (.int (1 : Int32)), .unset] [])) _
    refine XS.iloadN X0.here hx rfl (hb hby d3_18) rfl ?_
    show Steps p.tables e below (s₁.setTop (mkF m 19 #[.val (.int (1 : Int32)), .unset] [(.int (1 : Int32))])) _
    refine XS.bipush X0.here hx rfl (hb hby d3_19) ?_
    show Steps p.tables e below (s₁.setTop (mkF m 21 #[.val (.int (1 : Int32)), .unset] [(.int (13 : Int32)), (.int (1 : Int32))])) _
    refine XS.icmpYes X0.here hx rfl (pc0 := 21) (pc' := 29) rfl (hb hby d3_21) rfl (feq (by decide : ¬ ((1 : Int32) = (13 : Int32)))).2 (by decide) (by decide) ?_
    show Steps p.tables e below (s₁.setTop (mkF m 29 #[.val (.int (1 : Int32)), .unset] [])) _
    refine XS.iconst X0.here hx rfl (hb hby d3_29) ?_
    show Steps p.tables e below (s₁.setTop (mkF m 30 #[.val (.int (1 : Int32)), .unset] [(.int (0 : Int32))])) _
    refine XS.istoreN X0.here hx rfl (hb hby d3_30) rfl (l' := #[.val (.int (1 : Int32)), .val (.int (0 : Int32))]) rfl ?_
    show Steps p.tables e below (s₁.setTop (mkF m 31 #[.val (.int (1 : Int32)), .val (.int (0 : Int32))] [])) _
    refine XS.iloadN X0.here hx rfl (hb hby d3_31) rfl ?_
    show Steps p.tables e below (s₁.setTop (mkF m 32 #[.val (.int (1 : Int32)), .val (.int (0 : Int32))] [(.int (0 : Int32))])) _
    exact retN X0 hx (t := .boolean) Bd.returns (by simp) (hb hby d3_32) hr
  · show Q_rm3_1 Z  h0 n0 _ s₁.heap _
    rw [e0]
    exact ⟨rfl, N0, rfl⟩
set_option maxRecDepth 65536 in
set_option maxHeartbeats 40000000 in
theorem rm0_1 (l : Launch) (Z : State) (a0 : Array Value) (hw : ∀ d ∈ tables_1, d.before a0 Z = true) (ws : List Jvm.Cond) (p1 : Int32) (w_IFF : Addr) (w_PLUS : Addr) (w_MINUS : Addr) (w_TIMES : Addr) (w_DIVIDE : Addr) (h0 : Heap) (n0 : Nat) (OL0 : Old Z n0 h0) (pr1 : ((p1 &&& (2147483647 : Int32)) % (14 : Int32)) = (1 : Int32)) (pr2 : Sta Z Z.heap "com/example/rigorous_chains/rigorouschains/prism/Expression$Operator" "IFF" "Lcom/example/rigorous_chains/rigorouschains/prism/Expression$Operator;" (.ref w_IFF)) (pr3 : Sta Z Z.heap "com/example/rigorous_chains/rigorouschains/prism/Expression$Operator" "PLUS" "Lcom/example/rigorous_chains/rigorouschains/prism/Expression$Operator;" (.ref w_PLUS)) (pr4 : w_IFF ≠ w_PLUS) (pr5 : Sta Z Z.heap "com/example/rigorous_chains/rigorouschains/prism/Expression$Operator" "MINUS" "Lcom/example/rigorous_chains/rigorouschains/prism/Expression$Operator;" (.ref w_MINUS)) (pr6 : w_IFF ≠ w_MINUS) (pr7 : Sta Z Z.heap "com/example/rigorous_chains/rigorouschains/prism/Expression$Operator" "TIMES" "Lcom/example/rigorous_chains/rigorouschains/prism/Expression$Operator;" (.ref w_TIMES)) (pr8 : w_IFF ≠ w_TIMES) (pr9 : Sta Z Z.heap "com/example/rigorous_chains/rigorouschains/prism/Expression$Operator" "DIVIDE" "Lcom/example/rigorous_chains/rigorouschains/prism/Expression$Operator;" (.ref w_DIVIDE)) (pr10 : w_IFF ≠ w_DIVIDE) (pr11 : Exa Z Z.heap w_IFF "com/example/rigorous_chains/rigorouschains/prism/Expression$Operator") :
    MetFree l x (head1 (Jvm.Cond.code x code maxLocals ret :: ws) room_1) (fun a U => a = #[(.int p1)] ∧ Z.Warmed39 U.vm ∧ U.heap = h0) (fun _ _ _ _ _ => True) (fun _ U o U' => ∃ v L, o = .returned v ∧ Q0 n0 v L ∧ FrameEnd U o U' L 0 0) := by
  refine MetFree.of_bodySF (plainFor_of_name pn_0) hisR ?_
  intro p e s m args below meth c s₁ Bd hml0 hP hK
  obtain ⟨rfl, hZ, hh⟩ := hP
  have hx := Bd.exec
  have hby := Bd.bytes
  have hml : c.maxLocals = 3 := hml0
  have hown : s.vm.findClass "com/example/rigorous_chains/rigorouschains/prism/OperatorIsArithmeticPinLaw" = some m.cls := findClass_of_methodNamed Bd.named
  have hnm := (name_of_methodNamed Bd.named Bd.method).1
  have X0 : Stand p l e room_1 s m #[(.int p1)] below meth c s₁ [] 0 0 := Stand.of_body Bd
  have e0 : s₁.heap = h0 := by rw [← hh, Bd.state]; rfl
  have N0 := Fr.nil n0
  have pre0 : ∀ t, Steps p.tables e below (s₁.setTop (mkF m 0 #[.val (.int p1), .unset, .unset] [])) t → Steps p.tables e below (s₁.setTop (entryFrame m #[(.int p1)] maxLocals)) t := fun t k => castTop (ef_0_3 m p1) k
  obtain ⟨_, _, ⟨T1, L1, k1, n1⟩, -, X1, ⟨Lc1, hQ1, l1, y1, z1⟩, st1⟩ := Jvm.LawKit.callS X0 hx (y := (⟨"com/example/rigorous_chains/rigorouschains/prism/OperatorIsArithmeticPinLaw", "pick", "(I)Lcom/example/rigorous_chains/rigorouschains/prism/Expression$Operator;"⟩ : MethodName)) hown (mvT hZ (wd1 hw)) (mvT hZ (wd2 hw)) (mvT hZ (wd3 hw)) (mvT hZ (wd4 hw)) (by decide) (backOf (W := 0) (rm1_1 l Z a0 hw [] w_IFF h0 n0 OL0 pr2) hZ (wd4 hw) (wd3 hw) (by decide) (by decide)) (g := (mkF m 9 #[.val (.int p1), .val (.int (1 : Int32)), .unset] [(.int (1 : Int32))])) rfl (by rw [hml]; rfl) (argsL := [(.int (1 : Int32))]) (rest := []) (lenOf pd_0 rfl) rfl (by show 2 * 0 + _ ≤ _; exact Nat.le_of_eq rfl) (hb hby at_9) (fun _ _ => ⟨rfl, e0, (by decide : 0 + 0 ≤ _), (by decide : 0 + 0 ≤ _)⟩)
  dsimp only [Pt.U, Pt.locs, Pt.cells, Pt.slots] at X1 l1 y1 z1 st1 hQ1
  subst l1 y1 z1
  obtain ⟨rfl, Nq1, ec1⟩ := hQ1
  have N1 := Fr.app N0 Nq1
  obtain ⟨cq2, kq2, q2a, q2b, q2c⟩ := isOf hZ ec1 (pr11.ext OL0.2)
  obtain ⟨_, _, ⟨T2, L2, k2, n2⟩, -, X2, ⟨Lc2, hQ2, l2, y2, z2⟩, st2⟩ := X1.virtualBack hx (y := (⟨"com/example/rigorous_chains/rigorouschains/prism/Expression$Operator", "isArithmetic", "()Z"⟩ : MethodName)) (z := (⟨"com/example/rigorous_chains/rigorouschains/prism/Expression$Operator", "isArithmetic", "()Z"⟩ : MethodName)) hown (mvT hZ (wd8 hw)) (mvT hZ (wd9 hw)) (notFace_of_selects (args := #[]) (mvT hZ (wd11 hw))) (mvT hZ (wd11 hw)) (mvT hZ (wd10 hw)) (by decide) (backOf (W := 0) (rm2_0 l Z a0 hw [] w_IFF w_PLUS w_MINUS w_TIMES w_DIVIDE h0 n0 OL0 pr3 pr4 pr5 pr6 pr7 pr8 pr9 pr10) hZ (wd12 hw) (wd6 hw) (by decide) (by decide)) q2a q2c (g := (mkF m 14 #[.val (.int p1), .val (.int (1 : Int32)), .val (.ref w_IFF)] [(.ref w_IFF)])) rfl (by rw [hml]; rfl) (Steps.refl _) (argsL := []) (rest := []) (lenOf pd_1 rfl) rfl (by show 2 * 0 + _ ≤ _; exact Nat.le_of_eq rfl) (hb hby at_14) (fun _ _ => ⟨rfl, ec1, (by decide : 0 + 0 ≤ _), (by decide : 0 + 0 ≤ _)⟩)
  dsimp only [Pt.U, Pt.locs, Pt.cells, Pt.slots] at X2 l2 y2 z2 st2 hQ2
  subst l2 y2 z2
  obtain ⟨rfl, Nq2, ec2⟩ := hQ2
  have N2 := Fr.app N1 Nq2
  obtain ⟨_, _, ⟨T3, L3, k3, n3⟩, -, X3, ⟨Lc3, hQ3, l3, y3, z3⟩, st3⟩ := Jvm.LawKit.callS X2 hx (y := (⟨"com/example/rigorous_chains/rigorouschains/prism/OperatorIsArithmeticPinLaw", "expected", "(I)Z"⟩ : MethodName)) hown (mvT hZ (wd21 hw)) (mvT hZ (wd22 hw)) (mvT hZ (wd3 hw)) (mvT hZ (wd23 hw)) (by decide) (backOf (W := 1) (rm3_1 l Z a0 hw []  h0 n0 OL0 ) hZ (wd23 hw) (wd3 hw) (by decide) (by decide)) (g := (mkF m 18 #[.val (.int p1), .val (.int (1 : Int32)), .val (.ref w_IFF)] [(.int (1 : Int32)), (.int (0 : Int32))])) rfl (by rw [hml]; rfl) (argsL := [(.int (1 : Int32))]) (rest := [(.int (0 : Int32))]) (lenOf pd_2 rfl) rfl (by show 2 * 0 + _ ≤ _; exact Nat.le_of_eq rfl) (hb hby at_18) (fun _ _ => ⟨rfl, ec2, (by decide : 0 + 0 ≤ _), (by decide : 0 + 0 ≤ _)⟩)
  dsimp only [Pt.U, Pt.locs, Pt.cells, Pt.slots] at X3 l3 y3 z3 st3 hQ3
  subst l3 y3 z3
  obtain ⟨rfl, Nq3, ec3⟩ := hQ3
  have N3 := Fr.app N2 Nq3
  obtain ⟨fs, hr, hrun, hended, hW, hsame⟩ := X3.leave (v := some (.int (1 : Int32))) (fun h => by rw [Bd.returns] at h; cases h)
  refine ⟨_, _, pre0 _ ?_, hrun, hended, _, _, rfl, ?_, ⟨_, rfl⟩, hW, hsame.mono (by decide) (by decide)⟩
  · show Steps p.tables e below (s₁.setTop (mkF m 0 #[.val (.int p1), .unset, .unset] [])) _
    refine XS.iloadN X0.here hx rfl (hb hby at_0) rfl ?_
    show Steps p.tables e below (s₁.setTop (mkF m 1 #[.val (.int p1), .unset, .unset] [(.int p1)])) _
    refine X0.ldcInt hx hown (mvT hZ (wd0 hw)) (g := (mkF m 1 #[.val (.int p1), .unset, .unset] [(.int p1)])) rfl (hb hby at_1) _ ?_
    show Steps p.tables e below (s₁.setTop (mkF m 3 #[.val (.int p1), .unset, .unset] [(.int (2147483647 : Int32)), (.int p1)])) _
    refine XS.iand X0.here hx rfl (hb hby at_3) rfl ?_
    show Steps p.tables e below (s₁.setTop (mkF m 4 #[.val (.int p1), .unset, .unset] [(.int (p1 &&& (2147483647 : Int32)))])) _
    refine XS.bipush X0.here hx rfl (hb hby at_4) ?_
    show Steps p.tables e below (s₁.setTop (mkF m 6 #[.val (.int p1), .unset, .unset] [(.int (14 : Int32)), (.int (p1 &&& (2147483647 : Int32)))])) _
    refine iremM X0 hx rfl (hb hby at_6) rfl (by decide) ?_
    show Steps p.tables e below (s₁.setTop (mkF m 7 #[.val (.int p1), .unset, .unset] [(.int ((p1 &&& (2147483647 : Int32)) % (14 : Int32)))])) _
    rw [pr1]
    show Steps p.tables e below (s₁.setTop (mkF m 7 #[.val (.int p1), .unset, .unset] [(.int (1 : Int32))])) _
    refine XS.istoreN X0.here hx rfl (hb hby at_7) rfl (l' := #[.val (.int p1), .val (.int (1 : Int32)), .unset]) rfl ?_
    show Steps p.tables e below (s₁.setTop (mkF m 8 #[.val (.int p1), .val (.int (1 : Int32)), .unset] [])) _
    refine XS.iloadN X0.here hx rfl (hb hby at_8) rfl ?_
    show Steps p.tables e below (s₁.setTop (mkF m 9 #[.val (.int p1), .val (.int (1 : Int32)), .unset] [(.int (1 : Int32))])) _
    refine st1 _ ?_
    show Steps p.tables e below (T1.setTop (mkF m 12 #[.val (.int p1), .val (.int (1 : Int32)), .unset] [(.ref w_IFF)])) _
    refine XS.astoreN X1.here hx rfl (hb hby at_12) rfl rfl (l' := #[.val (.int p1), .val (.int (1 : Int32)), .val (.ref w_IFF)]) rfl ?_
    show Steps p.tables e below (T1.setTop (mkF m 13 #[.val (.int p1), .val (.int (1 : Int32)), .val (.ref w_IFF)] [])) _
    refine XS.aloadN X1.here hx rfl (hb hby at_13) rfl rfl ?_
    show Steps p.tables e below (T1.setTop (mkF m 14 #[.val (.int p1), .val (.int (1 : Int32)), .val (.ref w_IFF)] [(.ref w_IFF)])) _
    refine st2.trans ?_
    show Steps p.tables e below (T2.setTop (mkF m 17 #[.val (.int p1), .val (.int (1 : Int32)), .val (.ref w_IFF)] [(.int (0 : Int32))])) _
    refine XS.iloadN X2.here hx rfl (hb hby at_17) rfl ?_
    show Steps p.tables e below (T2.setTop (mkF m 18 #[.val (.int p1), .val (.int (1 : Int32)), .val (.ref w_IFF)] [(.int (1 : Int32)), (.int (0 : Int32))])) _
    refine st3 _ ?_
    show Steps p.tables e below (T3.setTop (mkF m 21 #[.val (.int p1), .val (.int (1 : Int32)), .val (.ref w_IFF)] [(.int (0 : Int32)), (.int (0 : Int32))])) _
    refine XS.icmpNo X3.here hx rfl (hb hby at_21) rfl (teq (rfl : (0 : Int32) = (0 : Int32))).2 ?_
    show Steps p.tables e below (T3.setTop (mkF m 24 #[.val (.int p1), .val (.int (1 : Int32)), .val (.ref w_IFF)] [])) _
    refine XS.iconst X3.here hx rfl (hb hby at_24) ?_
    show Steps p.tables e below (T3.setTop (mkF m 25 #[.val (.int p1), .val (.int (1 : Int32)), .val (.ref w_IFF)] [(.int (1 : Int32))])) _
    refine XS.goto X3.here hx rfl (pc0 := 25) (pc' := 29) rfl (hb hby at_25) (by decide) (by decide) ?_
    show Steps p.tables e below (T3.setTop (mkF m 29 #[.val (.int p1), .val (.int (1 : Int32)), .val (.ref w_IFF)] [(.int (1 : Int32))])) _
    exact retN X3 hx (t := .boolean) Bd.returns (by simp) (hb hby at_29) hr
  · exact ⟨rfl, N3⟩
theorem d1_17 : decode method_2_code 17 = .ok (.iload_n 0, 1) := by decide +kernel
theorem d1_18 : decode method_2_code 18 = .ok (.iconst 2, 1) := by decide +kernel
theorem d1_19 : decode method_2_code 19 = .ok (.if_icmp .ne 7, 3) := by decide +kernel
theorem d1_22 : decode method_2_code 22 = .ok (.getstatic 16, 3) := by decide +kernel
theorem d1_25 : decode method_2_code 25 = .ok (.areturn, 1) := by decide +kernel
theorem ef_1_6 (m : MethodId)  : entryFrame m #[(.int (2 : Int32))] 1 = mkF m 0 #[.val (.int (2 : Int32))] [] := by first | (simp [entryFrame, mkF, argsToLocals, Value.category]; done) | rfl
def Q_rm1_2 (Z : State) (w1 : Addr) (h0 : Heap) (n0 : Nat) (v : Option Value) (h : Heap) (L : List Loc) : Prop := v = some (.ref w1) ∧ Fr n0 L ∧ h = h0
set_option maxRecDepth 65536 in
set_option maxHeartbeats 40000000 in
theorem rm1_2 (l : Launch) (Z : State) (a0 : Array Value) (hw : ∀ d ∈ tables_1, d.before a0 Z = true) (ws : List Jvm.Cond) (w1 : Addr) (h0 : Heap) (n0 : Nat) (OL0 : Old Z n0 h0) (pr1 : Sta Z Z.heap "com/example/rigorous_chains/rigorouschains/prism/Expression$Operator" "OR" "Lcom/example/rigorous_chains/rigorouschains/prism/Expression$Operator;" (.ref w1)) :
    MetFree l (⟨"com/example/rigorous_chains/rigorouschains/prism/OperatorIsArithmeticPinLaw", "pick", "(I)Lcom/example/rigorous_chains/rigorouschains/prism/Expression$Operator;"⟩ : MethodName) (head1 (Jvm.Cond.code (⟨"com/example/rigorous_chains/rigorouschains/prism/OperatorIsArithmeticPinLaw", "pick", "(I)Lcom/example/rigorous_chains/rigorouschains/prism/Expression$Operator;"⟩ : MethodName) method_2_code 1 (some (.object "com/example/rigorous_chains/rigorouschains/prism/Expression$Operator")) :: ws) ({ frames := 0, cells := 0, slots := 0, locals := 0 } : Room)) (fun a U => a = #[(.int (2 : Int32))] ∧ Z.Warmed39 U.vm ∧ U.heap = h0) (fun _ _ _ _ _ => True) (fun _ U o U' => ∃ v L, o = .returned v ∧ Q_rm1_2 Z w1 h0 n0 v U'.heap L ∧ FrameEnd U o U' L ({ frames := 0, cells := 0, slots := 0, locals := 0 } : Room).cells ({ frames := 0, cells := 0, slots := 0, locals := 0 } : Room).slots) := by
  refine MetFree.of_bodySF (plainFor_of_name pn_0) hisR ?_
  intro p e s m args below meth c s₁ Bd hml0 hP hK
  obtain ⟨rfl, hZ, hh⟩ := hP
  have hx := Bd.exec
  have hby := Bd.bytes
  have hml : c.maxLocals = 1 := hml0
  have hown : s.vm.findClass "com/example/rigorous_chains/rigorouschains/prism/OperatorIsArithmeticPinLaw" = some m.cls := findClass_of_methodNamed Bd.named
  have hnm := (name_of_methodNamed Bd.named Bd.method).1
  have X0 : Stand p l e ({ frames := 0, cells := 0, slots := 0, locals := 0 } : Room) s m #[(.int (2 : Int32))] below meth c s₁ [] 0 0 := Stand.of_body Bd
  have e0 : s₁.heap = h0 := by rw [← hh, Bd.state]; rfl
  have N0 := Fr.nil n0
  have pre0 : ∀ t, Steps p.tables e below (s₁.setTop (mkF m 0 #[.val (.int (2 : Int32))] [])) t → Steps p.tables e below (s₁.setTop (entryFrame m #[(.int (2 : Int32))] 1)) t := fun t k => castTop (ef_1_6 m ) k
  obtain ⟨T2, X2, e2, st2⟩ := getS2 X0 hx hZ hown (host := "") (Or.inl (wd32 hw)) Via.refl e0 (pr1.ext OL0.2) (g := (mkF m 22 #[.val (.int (2 : Int32))] [])) rfl (hb hby d1_22)
  obtain ⟨fs, hr, hrun, hended, hW, hsame⟩ := X2.leave (v := some (.ref w1)) (fun h => by rw [Bd.returns] at h; cases h)
  refine ⟨_, _, pre0 _ ?_, hrun, hended, _, _, rfl, ?_, ⟨_, rfl⟩, hW, hsame.mono (by decide) (by decide)⟩
  · show Steps p.tables e below (s₁.setTop (mkF m 0 #[.val (.int (2 : Int32))] [])) _
    refine XS.iloadN X0.here hx rfl (hb hby d1_0) rfl ?_
    show Steps p.tables e below (s₁.setTop (mkF m 1 #[.val (.int (2 : Int32))] [(.int (2 : Int32))])) _
    refine XS.ifYes X0.here hx rfl (pc0 := 1) (pc' := 8) rfl (hb hby d1_1) rfl ((if0 _ _).trans (feq (by decide : ¬ ((2 : Int32) = (0 : Int32)))).2) (by decide) (by decide) ?_
    show Steps p.tables e below (s₁.setTop (mkF m 8 #[.val (.int (2 : Int32))] [])) _
    refine XS.iloadN X0.here hx rfl (hb hby d1_8) rfl ?_
    show Steps p.tables e below (s₁.setTop (mkF m 9 #[.val (.int (2 : Int32))] [(.int (2 : Int32))])) _
    refine XS.iconst X0.here hx rfl (hb hby d1_9) ?_
    show Steps p.tables e below (s₁.setTop (mkF m 10 #[.val (.int (2 : Int32))] [(.int (1 : Int32)), (.int (2 : Int32))])) _
    refine XS.icmpYes X0.here hx rfl (pc0 := 10) (pc' := 17) rfl (hb hby d1_10) rfl (feq (by decide : ¬ ((2 : Int32) = (1 : Int32)))).2 (by decide) (by decide) ?_
    show Steps p.tables e below (s₁.setTop (mkF m 17 #[.val (.int (2 : Int32))] [])) _
    refine XS.iloadN X0.here hx rfl (hb hby d1_17) rfl ?_
    show Steps p.tables e below (s₁.setTop (mkF m 18 #[.val (.int (2 : Int32))] [(.int (2 : Int32))])) _
    refine XS.iconst X0.here hx rfl (hb hby d1_18) ?_
    show Steps p.tables e below (s₁.setTop (mkF m 19 #[.val (.int (2 : Int32))] [(.int (2 : Int32)), (.int (2 : Int32))])) _
    refine XS.icmpNo X0.here hx rfl (hb hby d1_19) rfl (teq (rfl : (2 : Int32) = (2 : Int32))).2 ?_
    show Steps p.tables e below (s₁.setTop (mkF m 22 #[.val (.int (2 : Int32))] [])) _
    refine st2 _ ?_
    show Steps p.tables e below (T2.setTop (mkF m 25 #[.val (.int (2 : Int32))] [(.ref w1)])) _
    jvm_step X2.here [X2.here.top, hx, (hb hby d1_25), X2.method', Bd.returns, Value.isRef, FieldType.isReference]
    first | (intro acts; rw [hr _ acts rfl rfl rfl]) | rw [hr _ _ rfl rfl rfl]
    exact Steps.refl _
  · show Q_rm1_2 Z w1 h0 n0 _ T2.heap _
    rw [e2]
    exact ⟨rfl, N0, rfl⟩
theorem ef_3_7 (m : MethodId)  : entryFrame m #[(.int (2 : Int32))] 2 = mkF m 0 #[.val (.int (2 : Int32)), .unset] [] := by first | (simp [entryFrame, mkF, argsToLocals, Value.category]; done) | rfl
def Q_rm3_2 (Z : State)  (h0 : Heap) (n0 : Nat) (v : Option Value) (h : Heap) (L : List Loc) : Prop := v = some (.int (0 : Int32)) ∧ Fr n0 L ∧ h = h0
set_option maxRecDepth 65536 in
set_option maxHeartbeats 40000000 in
theorem rm3_2 (l : Launch) (Z : State) (a0 : Array Value) (hw : ∀ d ∈ tables_1, d.before a0 Z = true) (ws : List Jvm.Cond)  (h0 : Heap) (n0 : Nat) (OL0 : Old Z n0 h0)  :
    MetFree l (⟨"com/example/rigorous_chains/rigorouschains/prism/OperatorIsArithmeticPinLaw", "expected", "(I)Z"⟩ : MethodName) (head1 (Jvm.Cond.code (⟨"com/example/rigorous_chains/rigorouschains/prism/OperatorIsArithmeticPinLaw", "expected", "(I)Z"⟩ : MethodName) method_3_code 2 (some .boolean) :: ws) ({ frames := 0, cells := 0, slots := 0, locals := 0 } : Room)) (fun a U => a = #[(.int (2 : Int32))] ∧ Z.Warmed39 U.vm ∧ U.heap = h0) (fun _ _ _ _ _ => True) (fun _ U o U' => ∃ v L, o = .returned v ∧ Q_rm3_2 Z  h0 n0 v U'.heap L ∧ FrameEnd U o U' L ({ frames := 0, cells := 0, slots := 0, locals := 0 } : Room).cells ({ frames := 0, cells := 0, slots := 0, locals := 0 } : Room).slots) := by
  refine MetFree.of_bodySF (plainFor_of_name pn_0) hisR ?_
  intro p e s m args below meth c s₁ Bd hml0 hP hK
  obtain ⟨rfl, hZ, hh⟩ := hP
  have hx := Bd.exec
  have hby := Bd.bytes
  have hml : c.maxLocals = 2 := hml0
  have hown : s.vm.findClass "com/example/rigorous_chains/rigorouschains/prism/OperatorIsArithmeticPinLaw" = some m.cls := findClass_of_methodNamed Bd.named
  have hnm := (name_of_methodNamed Bd.named Bd.method).1
  have X0 : Stand p l e ({ frames := 0, cells := 0, slots := 0, locals := 0 } : Room) s m #[(.int (2 : Int32))] below meth c s₁ [] 0 0 := Stand.of_body Bd
  have e0 : s₁.heap = h0 := by rw [← hh, Bd.state]; rfl
  have N0 := Fr.nil n0
  have pre0 : ∀ t, Steps p.tables e below (s₁.setTop (mkF m 0 #[.val (.int (2 : Int32)), .unset] [])) t → Steps p.tables e below (s₁.setTop (entryFrame m #[(.int (2 : Int32))] 2)) t := fun t k => castTop (ef_3_7 m ) k
  obtain ⟨fs, hr, hrun, hended, hW, hsame⟩ := X0.leave (v := some (.int (0 : Int32))) (fun h => by rw [Bd.returns] at h; cases h)
  refine ⟨_, _, pre0 _ ?_, hrun, hended, _, _, rfl, ?_, ⟨_, rfl⟩, hW, hsame.mono (by decide) (by decide)⟩
  · show Steps p.tables e below (s₁.setTop (mkF m 0 #[.val (.int (2 : Int32)), .unset] [])) _
    refine XS.iloadN X0.here hx rfl (hb hby d3_0) rfl ?_
    show Steps p.tables e below (s₁.setTop (mkF m 1 #[.val (.int (2 : Int32)), .unset] [(.int (2 : Int32))])) _
    refine XS.bipush X0.here hx rfl (hb hby d3_1) ?_
    show Steps p.tables e below (s₁.setTop (mkF m 3 #[.val (.int (2 : Int32)), .unset] [(.int (10 : Int32)), (.int (2 : Int32))])) _
    refine XS.icmpNo X0.here hx rfl (hb hby d3_3) rfl (feq (by decide : ¬ ((2 : Int32) = (10 : Int32)))).1 ?_
    show Steps p.tables e below (s₁.setTop (mkF m 6 #[.val (.int (2 : Int32)), .unset] [])) _
    refine XS.iloadN X0.here hx rfl (hb hby d3_6) rfl ?_
    show Steps p.tables e below (s₁.setTop (mkF m 7 #[.val (.int (2 : Int32)), .unset] [(.int (2 : Int32))])) _
    refine XS.bipush X0.here hx rfl (hb hby d3_7) ?_
    show Steps p.tables e below (s₁.setTop (mkF m 9 #[.val (.int (2 : Int32)), .unset] [(.int (11 : Int32)), (.int (2 : Int32))])) _
    refine XS.icmpNo X0.here hx rfl (hb hby d3_9) rfl (feq (by decide : ¬ ((2 : Int32) = (11 : Int32)))).1 ?_
    show Steps p.tables e below (s₁.setTop (mkF m 12 #[.val (.int (2 : Int32)), .unset] [])) _
    refine XS.iloadN X0.here hx rfl (hb hby d3_12) rfl ?_
    show Steps p.tables e below (s₁.setTop (mkF m 13 #[.val (.int (2 : Int32)), .unset] [(.int (2 : Int32))])) _
    refine XS.bipush X0.here hx rfl (hb hby d3_13) ?_
    show Steps p.tables e below (s₁.setTop (mkF m 15 #[.val (.int (2 : Int32)), .unset] [(.int (12 : Int32)), (.int (2 : Int32))])) _
    refine XS.icmpNo X0.here hx rfl (hb hby d3_15) rfl (feq (by decide : ¬ ((2 : Int32) = (12 : Int32)))).1 ?_
    show Steps p.tables e below (s₁.setTop (mkF m 18 #[.val (.int (2 : Int32)), .unset] [])) _
    refine XS.iloadN X0.here hx rfl (hb hby d3_18) rfl ?_
    show Steps p.tables e below (s₁.setTop (mkF m 19 #[.val (.int (2 : Int32)), .unset] [(.int (2 : Int32))])) _
    refine XS.bipush X0.here hx rfl (hb hby d3_19) ?_
    show Steps p.tables e below (s₁.setTop (mkF m 21 #[.val (.int (2 : Int32)), .unset] [(.int (13 : Int32)), (.int (2 : Int32))])) _
    refine XS.icmpYes X0.here hx rfl (pc0 := 21) (pc' := 29) rfl (hb hby d3_21) rfl (feq (by decide : ¬ ((2 : Int32) = (13 : Int32)))).2 (by decide) (by decide) ?_
    show Steps p.tables e below (s₁.setTop (mkF m 29 #[.val (.int (2 : Int32)), .unset] [])) _
    refine XS.iconst X0.here hx rfl (hb hby d3_29) ?_
    show Steps p.tables e below (s₁.setTop (mkF m 30 #[.val (.int (2 : Int32)), .unset] [(.int (0 : Int32))])) _
    refine XS.istoreN X0.here hx rfl (hb hby d3_30) rfl (l' := #[.val (.int (2 : Int32)), .val (.int (0 : Int32))]) rfl ?_
    show Steps p.tables e below (s₁.setTop (mkF m 31 #[.val (.int (2 : Int32)), .val (.int (0 : Int32))] [])) _
    refine XS.iloadN X0.here hx rfl (hb hby d3_31) rfl ?_
    show Steps p.tables e below (s₁.setTop (mkF m 32 #[.val (.int (2 : Int32)), .val (.int (0 : Int32))] [(.int (0 : Int32))])) _
    exact retN X0 hx (t := .boolean) Bd.returns (by simp) (hb hby d3_32) hr
  · show Q_rm3_2 Z  h0 n0 _ s₁.heap _
    rw [e0]
    exact ⟨rfl, N0, rfl⟩
set_option maxRecDepth 65536 in
set_option maxHeartbeats 40000000 in
theorem rm0_2 (l : Launch) (Z : State) (a0 : Array Value) (hw : ∀ d ∈ tables_1, d.before a0 Z = true) (ws : List Jvm.Cond) (p1 : Int32) (w_OR : Addr) (w_PLUS : Addr) (w_MINUS : Addr) (w_TIMES : Addr) (w_DIVIDE : Addr) (h0 : Heap) (n0 : Nat) (OL0 : Old Z n0 h0) (pr1 : ((p1 &&& (2147483647 : Int32)) % (14 : Int32)) = (2 : Int32)) (pr2 : Sta Z Z.heap "com/example/rigorous_chains/rigorouschains/prism/Expression$Operator" "OR" "Lcom/example/rigorous_chains/rigorouschains/prism/Expression$Operator;" (.ref w_OR)) (pr3 : Sta Z Z.heap "com/example/rigorous_chains/rigorouschains/prism/Expression$Operator" "PLUS" "Lcom/example/rigorous_chains/rigorouschains/prism/Expression$Operator;" (.ref w_PLUS)) (pr4 : w_OR ≠ w_PLUS) (pr5 : Sta Z Z.heap "com/example/rigorous_chains/rigorouschains/prism/Expression$Operator" "MINUS" "Lcom/example/rigorous_chains/rigorouschains/prism/Expression$Operator;" (.ref w_MINUS)) (pr6 : w_OR ≠ w_MINUS) (pr7 : Sta Z Z.heap "com/example/rigorous_chains/rigorouschains/prism/Expression$Operator" "TIMES" "Lcom/example/rigorous_chains/rigorouschains/prism/Expression$Operator;" (.ref w_TIMES)) (pr8 : w_OR ≠ w_TIMES) (pr9 : Sta Z Z.heap "com/example/rigorous_chains/rigorouschains/prism/Expression$Operator" "DIVIDE" "Lcom/example/rigorous_chains/rigorouschains/prism/Expression$Operator;" (.ref w_DIVIDE)) (pr10 : w_OR ≠ w_DIVIDE) (pr11 : Exa Z Z.heap w_OR "com/example/rigorous_chains/rigorouschains/prism/Expression$Operator") :
    MetFree l x (head1 (Jvm.Cond.code x code maxLocals ret :: ws) room_1) (fun a U => a = #[(.int p1)] ∧ Z.Warmed39 U.vm ∧ U.heap = h0) (fun _ _ _ _ _ => True) (fun _ U o U' => ∃ v L, o = .returned v ∧ Q0 n0 v L ∧ FrameEnd U o U' L 0 0) := by
  refine MetFree.of_bodySF (plainFor_of_name pn_0) hisR ?_
  intro p e s m args below meth c s₁ Bd hml0 hP hK
  obtain ⟨rfl, hZ, hh⟩ := hP
  have hx := Bd.exec
  have hby := Bd.bytes
  have hml : c.maxLocals = 3 := hml0
  have hown : s.vm.findClass "com/example/rigorous_chains/rigorouschains/prism/OperatorIsArithmeticPinLaw" = some m.cls := findClass_of_methodNamed Bd.named
  have hnm := (name_of_methodNamed Bd.named Bd.method).1
  have X0 : Stand p l e room_1 s m #[(.int p1)] below meth c s₁ [] 0 0 := Stand.of_body Bd
  have e0 : s₁.heap = h0 := by rw [← hh, Bd.state]; rfl
  have N0 := Fr.nil n0
  have pre0 : ∀ t, Steps p.tables e below (s₁.setTop (mkF m 0 #[.val (.int p1), .unset, .unset] [])) t → Steps p.tables e below (s₁.setTop (entryFrame m #[(.int p1)] maxLocals)) t := fun t k => castTop (ef_0_3 m p1) k
  obtain ⟨_, _, ⟨T1, L1, k1, n1⟩, -, X1, ⟨Lc1, hQ1, l1, y1, z1⟩, st1⟩ := Jvm.LawKit.callS X0 hx (y := (⟨"com/example/rigorous_chains/rigorouschains/prism/OperatorIsArithmeticPinLaw", "pick", "(I)Lcom/example/rigorous_chains/rigorouschains/prism/Expression$Operator;"⟩ : MethodName)) hown (mvT hZ (wd1 hw)) (mvT hZ (wd2 hw)) (mvT hZ (wd3 hw)) (mvT hZ (wd4 hw)) (by decide) (backOf (W := 0) (rm1_2 l Z a0 hw [] w_OR h0 n0 OL0 pr2) hZ (wd4 hw) (wd3 hw) (by decide) (by decide)) (g := (mkF m 9 #[.val (.int p1), .val (.int (2 : Int32)), .unset] [(.int (2 : Int32))])) rfl (by rw [hml]; rfl) (argsL := [(.int (2 : Int32))]) (rest := []) (lenOf pd_0 rfl) rfl (by show 2 * 0 + _ ≤ _; exact Nat.le_of_eq rfl) (hb hby at_9) (fun _ _ => ⟨rfl, e0, (by decide : 0 + 0 ≤ _), (by decide : 0 + 0 ≤ _)⟩)
  dsimp only [Pt.U, Pt.locs, Pt.cells, Pt.slots] at X1 l1 y1 z1 st1 hQ1
  subst l1 y1 z1
  obtain ⟨rfl, Nq1, ec1⟩ := hQ1
  have N1 := Fr.app N0 Nq1
  obtain ⟨cq2, kq2, q2a, q2b, q2c⟩ := isOf hZ ec1 (pr11.ext OL0.2)
  obtain ⟨_, _, ⟨T2, L2, k2, n2⟩, -, X2, ⟨Lc2, hQ2, l2, y2, z2⟩, st2⟩ := X1.virtualBack hx (y := (⟨"com/example/rigorous_chains/rigorouschains/prism/Expression$Operator", "isArithmetic", "()Z"⟩ : MethodName)) (z := (⟨"com/example/rigorous_chains/rigorouschains/prism/Expression$Operator", "isArithmetic", "()Z"⟩ : MethodName)) hown (mvT hZ (wd8 hw)) (mvT hZ (wd9 hw)) (notFace_of_selects (args := #[]) (mvT hZ (wd11 hw))) (mvT hZ (wd11 hw)) (mvT hZ (wd10 hw)) (by decide) (backOf (W := 0) (rm2_0 l Z a0 hw [] w_OR w_PLUS w_MINUS w_TIMES w_DIVIDE h0 n0 OL0 pr3 pr4 pr5 pr6 pr7 pr8 pr9 pr10) hZ (wd12 hw) (wd6 hw) (by decide) (by decide)) q2a q2c (g := (mkF m 14 #[.val (.int p1), .val (.int (2 : Int32)), .val (.ref w_OR)] [(.ref w_OR)])) rfl (by rw [hml]; rfl) (Steps.refl _) (argsL := []) (rest := []) (lenOf pd_1 rfl) rfl (by show 2 * 0 + _ ≤ _; exact Nat.le_of_eq rfl) (hb hby at_14) (fun _ _ => ⟨rfl, ec1, (by decide : 0 + 0 ≤ _), (by decide : 0 + 0 ≤ _)⟩)
  dsimp only [Pt.U, Pt.locs, Pt.cells, Pt.slots] at X2 l2 y2 z2 st2 hQ2
  subst l2 y2 z2
  obtain ⟨rfl, Nq2, ec2⟩ := hQ2
  have N2 := Fr.app N1 Nq2
  obtain ⟨_, _, ⟨T3, L3, k3, n3⟩, -, X3, ⟨Lc3, hQ3, l3, y3, z3⟩, st3⟩ := Jvm.LawKit.callS X2 hx (y := (⟨"com/example/rigorous_chains/rigorouschains/prism/OperatorIsArithmeticPinLaw", "expected", "(I)Z"⟩ : MethodName)) hown (mvT hZ (wd21 hw)) (mvT hZ (wd22 hw)) (mvT hZ (wd3 hw)) (mvT hZ (wd23 hw)) (by decide) (backOf (W := 1) (rm3_2 l Z a0 hw []  h0 n0 OL0 ) hZ (wd23 hw) (wd3 hw) (by decide) (by decide)) (g := (mkF m 18 #[.val (.int p1), .val (.int (2 : Int32)), .val (.ref w_OR)] [(.int (2 : Int32)), (.int (0 : Int32))])) rfl (by rw [hml]; rfl) (argsL := [(.int (2 : Int32))]) (rest := [(.int (0 : Int32))]) (lenOf pd_2 rfl) rfl (by show 2 * 0 + _ ≤ _; exact Nat.le_of_eq rfl) (hb hby at_18) (fun _ _ => ⟨rfl, ec2, (by decide : 0 + 0 ≤ _), (by decide : 0 + 0 ≤ _)⟩)
  dsimp only [Pt.U, Pt.locs, Pt.cells, Pt.slots] at X3 l3 y3 z3 st3 hQ3
  subst l3 y3 z3
  obtain ⟨rfl, Nq3, ec3⟩ := hQ3
  have N3 := Fr.app N2 Nq3
  obtain ⟨fs, hr, hrun, hended, hW, hsame⟩ := X3.leave (v := some (.int (1 : Int32))) (fun h => by rw [Bd.returns] at h; cases h)
  refine ⟨_, _, pre0 _ ?_, hrun, hended, _, _, rfl, ?_, ⟨_, rfl⟩, hW, hsame.mono (by decide) (by decide)⟩
  · show Steps p.tables e below (s₁.setTop (mkF m 0 #[.val (.int p1), .unset, .unset] [])) _
    refine XS.iloadN X0.here hx rfl (hb hby at_0) rfl ?_
    show Steps p.tables e below (s₁.setTop (mkF m 1 #[.val (.int p1), .unset, .unset] [(.int p1)])) _
    refine X0.ldcInt hx hown (mvT hZ (wd0 hw)) (g := (mkF m 1 #[.val (.int p1), .unset, .unset] [(.int p1)])) rfl (hb hby at_1) _ ?_
    show Steps p.tables e below (s₁.setTop (mkF m 3 #[.val (.int p1), .unset, .unset] [(.int (2147483647 : Int32)), (.int p1)])) _
    refine XS.iand X0.here hx rfl (hb hby at_3) rfl ?_
    show Steps p.tables e below (s₁.setTop (mkF m 4 #[.val (.int p1), .unset, .unset] [(.int (p1 &&& (2147483647 : Int32)))])) _
    refine XS.bipush X0.here hx rfl (hb hby at_4) ?_
    show Steps p.tables e below (s₁.setTop (mkF m 6 #[.val (.int p1), .unset, .unset] [(.int (14 : Int32)), (.int (p1 &&& (2147483647 : Int32)))])) _
    refine iremM X0 hx rfl (hb hby at_6) rfl (by decide) ?_
    show Steps p.tables e below (s₁.setTop (mkF m 7 #[.val (.int p1), .unset, .unset] [(.int ((p1 &&& (2147483647 : Int32)) % (14 : Int32)))])) _
    rw [pr1]
    show Steps p.tables e below (s₁.setTop (mkF m 7 #[.val (.int p1), .unset, .unset] [(.int (2 : Int32))])) _
    refine XS.istoreN X0.here hx rfl (hb hby at_7) rfl (l' := #[.val (.int p1), .val (.int (2 : Int32)), .unset]) rfl ?_
    show Steps p.tables e below (s₁.setTop (mkF m 8 #[.val (.int p1), .val (.int (2 : Int32)), .unset] [])) _
    refine XS.iloadN X0.here hx rfl (hb hby at_8) rfl ?_
    show Steps p.tables e below (s₁.setTop (mkF m 9 #[.val (.int p1), .val (.int (2 : Int32)), .unset] [(.int (2 : Int32))])) _
    refine st1 _ ?_
    show Steps p.tables e below (T1.setTop (mkF m 12 #[.val (.int p1), .val (.int (2 : Int32)), .unset] [(.ref w_OR)])) _
    refine XS.astoreN X1.here hx rfl (hb hby at_12) rfl rfl (l' := #[.val (.int p1), .val (.int (2 : Int32)), .val (.ref w_OR)]) rfl ?_
    show Steps p.tables e below (T1.setTop (mkF m 13 #[.val (.int p1), .val (.int (2 : Int32)), .val (.ref w_OR)] [])) _
    refine XS.aloadN X1.here hx rfl (hb hby at_13) rfl rfl ?_
    show Steps p.tables e below (T1.setTop (mkF m 14 #[.val (.int p1), .val (.int (2 : Int32)), .val (.ref w_OR)] [(.ref w_OR)])) _
    refine st2.trans ?_
    show Steps p.tables e below (T2.setTop (mkF m 17 #[.val (.int p1), .val (.int (2 : Int32)), .val (.ref w_OR)] [(.int (0 : Int32))])) _
    refine XS.iloadN X2.here hx rfl (hb hby at_17) rfl ?_
    show Steps p.tables e below (T2.setTop (mkF m 18 #[.val (.int p1), .val (.int (2 : Int32)), .val (.ref w_OR)] [(.int (2 : Int32)), (.int (0 : Int32))])) _
    refine st3 _ ?_
    show Steps p.tables e below (T3.setTop (mkF m 21 #[.val (.int p1), .val (.int (2 : Int32)), .val (.ref w_OR)] [(.int (0 : Int32)), (.int (0 : Int32))])) _
    refine XS.icmpNo X3.here hx rfl (hb hby at_21) rfl (teq (rfl : (0 : Int32) = (0 : Int32))).2 ?_
    show Steps p.tables e below (T3.setTop (mkF m 24 #[.val (.int p1), .val (.int (2 : Int32)), .val (.ref w_OR)] [])) _
    refine XS.iconst X3.here hx rfl (hb hby at_24) ?_
    show Steps p.tables e below (T3.setTop (mkF m 25 #[.val (.int p1), .val (.int (2 : Int32)), .val (.ref w_OR)] [(.int (1 : Int32))])) _
    refine XS.goto X3.here hx rfl (pc0 := 25) (pc' := 29) rfl (hb hby at_25) (by decide) (by decide) ?_
    show Steps p.tables e below (T3.setTop (mkF m 29 #[.val (.int p1), .val (.int (2 : Int32)), .val (.ref w_OR)] [(.int (1 : Int32))])) _
    exact retN X3 hx (t := .boolean) Bd.returns (by simp) (hb hby at_29) hr
  · exact ⟨rfl, N3⟩
theorem d1_26 : decode method_2_code 26 = .ok (.iload_n 0, 1) := by decide +kernel
theorem d1_27 : decode method_2_code 27 = .ok (.iconst 3, 1) := by decide +kernel
theorem d1_28 : decode method_2_code 28 = .ok (.if_icmp .ne 7, 3) := by decide +kernel
theorem d1_31 : decode method_2_code 31 = .ok (.getstatic 19, 3) := by decide +kernel
theorem d1_34 : decode method_2_code 34 = .ok (.areturn, 1) := by decide +kernel
theorem ef_1_8 (m : MethodId)  : entryFrame m #[(.int (3 : Int32))] 1 = mkF m 0 #[.val (.int (3 : Int32))] [] := by first | (simp [entryFrame, mkF, argsToLocals, Value.category]; done) | rfl
def Q_rm1_3 (Z : State) (w1 : Addr) (h0 : Heap) (n0 : Nat) (v : Option Value) (h : Heap) (L : List Loc) : Prop := v = some (.ref w1) ∧ Fr n0 L ∧ h = h0
set_option maxRecDepth 65536 in
set_option maxHeartbeats 40000000 in
theorem rm1_3 (l : Launch) (Z : State) (a0 : Array Value) (hw : ∀ d ∈ tables_1, d.before a0 Z = true) (ws : List Jvm.Cond) (w1 : Addr) (h0 : Heap) (n0 : Nat) (OL0 : Old Z n0 h0) (pr1 : Sta Z Z.heap "com/example/rigorous_chains/rigorouschains/prism/Expression$Operator" "AND" "Lcom/example/rigorous_chains/rigorouschains/prism/Expression$Operator;" (.ref w1)) :
    MetFree l (⟨"com/example/rigorous_chains/rigorouschains/prism/OperatorIsArithmeticPinLaw", "pick", "(I)Lcom/example/rigorous_chains/rigorouschains/prism/Expression$Operator;"⟩ : MethodName) (head1 (Jvm.Cond.code (⟨"com/example/rigorous_chains/rigorouschains/prism/OperatorIsArithmeticPinLaw", "pick", "(I)Lcom/example/rigorous_chains/rigorouschains/prism/Expression$Operator;"⟩ : MethodName) method_2_code 1 (some (.object "com/example/rigorous_chains/rigorouschains/prism/Expression$Operator")) :: ws) ({ frames := 0, cells := 0, slots := 0, locals := 0 } : Room)) (fun a U => a = #[(.int (3 : Int32))] ∧ Z.Warmed39 U.vm ∧ U.heap = h0) (fun _ _ _ _ _ => True) (fun _ U o U' => ∃ v L, o = .returned v ∧ Q_rm1_3 Z w1 h0 n0 v U'.heap L ∧ FrameEnd U o U' L ({ frames := 0, cells := 0, slots := 0, locals := 0 } : Room).cells ({ frames := 0, cells := 0, slots := 0, locals := 0 } : Room).slots) := by
  refine MetFree.of_bodySF (plainFor_of_name pn_0) hisR ?_
  intro p e s m args below meth c s₁ Bd hml0 hP hK
  obtain ⟨rfl, hZ, hh⟩ := hP
  have hx := Bd.exec
  have hby := Bd.bytes
  have hml : c.maxLocals = 1 := hml0
  have hown : s.vm.findClass "com/example/rigorous_chains/rigorouschains/prism/OperatorIsArithmeticPinLaw" = some m.cls := findClass_of_methodNamed Bd.named
  have hnm := (name_of_methodNamed Bd.named Bd.method).1
  have X0 : Stand p l e ({ frames := 0, cells := 0, slots := 0, locals := 0 } : Room) s m #[(.int (3 : Int32))] below meth c s₁ [] 0 0 := Stand.of_body Bd
  have e0 : s₁.heap = h0 := by rw [← hh, Bd.state]; rfl
  have N0 := Fr.nil n0
  have pre0 : ∀ t, Steps p.tables e below (s₁.setTop (mkF m 0 #[.val (.int (3 : Int32))] [])) t → Steps p.tables e below (s₁.setTop (entryFrame m #[(.int (3 : Int32))] 1)) t := fun t k => castTop (ef_1_8 m ) k
  obtain ⟨T2, X2, e2, st2⟩ := getS2 X0 hx hZ hown (host := "") (Or.inl (wd24 hw)) Via.refl e0 (pr1.ext OL0.2) (g := (mkF m 31 #[.val (.int (3 : Int32))] [])) rfl (hb hby d1_31)
  obtain ⟨fs, hr, hrun, hended, hW, hsame⟩ := X2.leave (v := some (.ref w1)) (fun h => by rw [Bd.returns] at h; cases h)
  refine ⟨_, _, pre0 _ ?_, hrun, hended, _, _, rfl, ?_, ⟨_, rfl⟩, hW, hsame.mono (by decide) (by decide)⟩
  · show Steps p.tables e below (s₁.setTop (mkF m 0 #[.val (.int (3 : Int32))] [])) _
    refine XS.iloadN X0.here hx rfl (hb hby d1_0) rfl ?_
    show Steps p.tables e below (s₁.setTop (mkF m 1 #[.val (.int (3 : Int32))] [(.int (3 : Int32))])) _
    refine XS.ifYes X0.here hx rfl (pc0 := 1) (pc' := 8) rfl (hb hby d1_1) rfl ((if0 _ _).trans (feq (by decide : ¬ ((3 : Int32) = (0 : Int32)))).2) (by decide) (by decide) ?_
    show Steps p.tables e below (s₁.setTop (mkF m 8 #[.val (.int (3 : Int32))] [])) _
    refine XS.iloadN X0.here hx rfl (hb hby d1_8) rfl ?_
    show Steps p.tables e below (s₁.setTop (mkF m 9 #[.val (.int (3 : Int32))] [(.int (3 : Int32))])) _
    refine XS.iconst X0.here hx rfl (hb hby d1_9) ?_
    show Steps p.tables e below (s₁.setTop (mkF m 10 #[.val (.int (3 : Int32))] [(.int (1 : Int32)), (.int (3 : Int32))])) _
    refine XS.icmpYes X0.here hx rfl (pc0 := 10) (pc' := 17) rfl (hb hby d1_10) rfl (feq (by decide : ¬ ((3 : Int32) = (1 : Int32)))).2 (by decide) (by decide) ?_
    show Steps p.tables e below (s₁.setTop (mkF m 17 #[.val (.int (3 : Int32))] [])) _
    refine XS.iloadN X0.here hx rfl (hb hby d1_17) rfl ?_
    show Steps p.tables e below (s₁.setTop (mkF m 18 #[.val (.int (3 : Int32))] [(.int (3 : Int32))])) _
    refine XS.iconst X0.here hx rfl (hb hby d1_18) ?_
    show Steps p.tables e below (s₁.setTop (mkF m 19 #[.val (.int (3 : Int32))] [(.int (2 : Int32)), (.int (3 : Int32))])) _
    refine XS.icmpYes X0.here hx rfl (pc0 := 19) (pc' := 26) rfl (hb hby d1_19) rfl (feq (by decide : ¬ ((3 : Int32) = (2 : Int32)))).2 (by decide) (by decide) ?_
    show Steps p.tables e below (s₁.setTop (mkF m 26 #[.val (.int (3 : Int32))] [])) _
    refine XS.iloadN X0.here hx rfl (hb hby d1_26) rfl ?_
    show Steps p.tables e below (s₁.setTop (mkF m 27 #[.val (.int (3 : Int32))] [(.int (3 : Int32))])) _
    refine XS.iconst X0.here hx rfl (hb hby d1_27) ?_
    show Steps p.tables e below (s₁.setTop (mkF m 28 #[.val (.int (3 : Int32))] [(.int (3 : Int32)), (.int (3 : Int32))])) _
    refine XS.icmpNo X0.here hx rfl (hb hby d1_28) rfl (teq (rfl : (3 : Int32) = (3 : Int32))).2 ?_
    show Steps p.tables e below (s₁.setTop (mkF m 31 #[.val (.int (3 : Int32))] [])) _
    refine st2 _ ?_
    show Steps p.tables e below (T2.setTop (mkF m 34 #[.val (.int (3 : Int32))] [(.ref w1)])) _
    jvm_step X2.here [X2.here.top, hx, (hb hby d1_34), X2.method', Bd.returns, Value.isRef, FieldType.isReference]
    first | (intro acts; rw [hr _ acts rfl rfl rfl]) | rw [hr _ _ rfl rfl rfl]
    exact Steps.refl _
  · show Q_rm1_3 Z w1 h0 n0 _ T2.heap _
    rw [e2]
    exact ⟨rfl, N0, rfl⟩
theorem ef_3_9 (m : MethodId)  : entryFrame m #[(.int (3 : Int32))] 2 = mkF m 0 #[.val (.int (3 : Int32)), .unset] [] := by first | (simp [entryFrame, mkF, argsToLocals, Value.category]; done) | rfl
def Q_rm3_3 (Z : State)  (h0 : Heap) (n0 : Nat) (v : Option Value) (h : Heap) (L : List Loc) : Prop := v = some (.int (0 : Int32)) ∧ Fr n0 L ∧ h = h0
set_option maxRecDepth 65536 in
set_option maxHeartbeats 40000000 in
theorem rm3_3 (l : Launch) (Z : State) (a0 : Array Value) (hw : ∀ d ∈ tables_1, d.before a0 Z = true) (ws : List Jvm.Cond)  (h0 : Heap) (n0 : Nat) (OL0 : Old Z n0 h0)  :
    MetFree l (⟨"com/example/rigorous_chains/rigorouschains/prism/OperatorIsArithmeticPinLaw", "expected", "(I)Z"⟩ : MethodName) (head1 (Jvm.Cond.code (⟨"com/example/rigorous_chains/rigorouschains/prism/OperatorIsArithmeticPinLaw", "expected", "(I)Z"⟩ : MethodName) method_3_code 2 (some .boolean) :: ws) ({ frames := 0, cells := 0, slots := 0, locals := 0 } : Room)) (fun a U => a = #[(.int (3 : Int32))] ∧ Z.Warmed39 U.vm ∧ U.heap = h0) (fun _ _ _ _ _ => True) (fun _ U o U' => ∃ v L, o = .returned v ∧ Q_rm3_3 Z  h0 n0 v U'.heap L ∧ FrameEnd U o U' L ({ frames := 0, cells := 0, slots := 0, locals := 0 } : Room).cells ({ frames := 0, cells := 0, slots := 0, locals := 0 } : Room).slots) := by
  refine MetFree.of_bodySF (plainFor_of_name pn_0) hisR ?_
  intro p e s m args below meth c s₁ Bd hml0 hP hK
  obtain ⟨rfl, hZ, hh⟩ := hP
  have hx := Bd.exec
  have hby := Bd.bytes
  have hml : c.maxLocals = 2 := hml0
  have hown : s.vm.findClass "com/example/rigorous_chains/rigorouschains/prism/OperatorIsArithmeticPinLaw" = some m.cls := findClass_of_methodNamed Bd.named
  have hnm := (name_of_methodNamed Bd.named Bd.method).1
  have X0 : Stand p l e ({ frames := 0, cells := 0, slots := 0, locals := 0 } : Room) s m #[(.int (3 : Int32))] below meth c s₁ [] 0 0 := Stand.of_body Bd
  have e0 : s₁.heap = h0 := by rw [← hh, Bd.state]; rfl
  have N0 := Fr.nil n0
  have pre0 : ∀ t, Steps p.tables e below (s₁.setTop (mkF m 0 #[.val (.int (3 : Int32)), .unset] [])) t → Steps p.tables e below (s₁.setTop (entryFrame m #[(.int (3 : Int32))] 2)) t := fun t k => castTop (ef_3_9 m ) k
  obtain ⟨fs, hr, hrun, hended, hW, hsame⟩ := X0.leave (v := some (.int (0 : Int32))) (fun h => by rw [Bd.returns] at h; cases h)
  refine ⟨_, _, pre0 _ ?_, hrun, hended, _, _, rfl, ?_, ⟨_, rfl⟩, hW, hsame.mono (by decide) (by decide)⟩
  · show Steps p.tables e below (s₁.setTop (mkF m 0 #[.val (.int (3 : Int32)), .unset] [])) _
    refine XS.iloadN X0.here hx rfl (hb hby d3_0) rfl ?_
    show Steps p.tables e below (s₁.setTop (mkF m 1 #[.val (.int (3 : Int32)), .unset] [(.int (3 : Int32))])) _
    refine XS.bipush X0.here hx rfl (hb hby d3_1) ?_
    show Steps p.tables e below (s₁.setTop (mkF m 3 #[.val (.int (3 : Int32)), .unset] [(.int (10 : Int32)), (.int (3 : Int32))])) _
    refine XS.icmpNo X0.here hx rfl (hb hby d3_3) rfl (feq (by decide : ¬ ((3 : Int32) = (10 : Int32)))).1 ?_
    show Steps p.tables e below (s₁.setTop (mkF m 6 #[.val (.int (3 : Int32)), .unset] [])) _
    refine XS.iloadN X0.here hx rfl (hb hby d3_6) rfl ?_
    show Steps p.tables e below (s₁.setTop (mkF m 7 #[.val (.int (3 : Int32)), .unset] [(.int (3 : Int32))])) _
    refine XS.bipush X0.here hx rfl (hb hby d3_7) ?_
    show Steps p.tables e below (s₁.setTop (mkF m 9 #[.val (.int (3 : Int32)), .unset] [(.int (11 : Int32)), (.int (3 : Int32))])) _
    refine XS.icmpNo X0.here hx rfl (hb hby d3_9) rfl (feq (by decide : ¬ ((3 : Int32) = (11 : Int32)))).1 ?_
    show Steps p.tables e below (s₁.setTop (mkF m 12 #[.val (.int (3 : Int32)), .unset] [])) _
    refine XS.iloadN X0.here hx rfl (hb hby d3_12) rfl ?_
    show Steps p.tables e below (s₁.setTop (mkF m 13 #[.val (.int (3 : Int32)), .unset] [(.int (3 : Int32))])) _
    refine XS.bipush X0.here hx rfl (hb hby d3_13) ?_
    show Steps p.tables e below (s₁.setTop (mkF m 15 #[.val (.int (3 : Int32)), .unset] [(.int (12 : Int32)), (.int (3 : Int32))])) _
    refine XS.icmpNo X0.here hx rfl (hb hby d3_15) rfl (feq (by decide : ¬ ((3 : Int32) = (12 : Int32)))).1 ?_
    show Steps p.tables e below (s₁.setTop (mkF m 18 #[.val (.int (3 : Int32)), .unset] [])) _
    refine XS.iloadN X0.here hx rfl (hb hby d3_18) rfl ?_
    show Steps p.tables e below (s₁.setTop (mkF m 19 #[.val (.int (3 : Int32)), .unset] [(.int (3 : Int32))])) _
    refine XS.bipush X0.here hx rfl (hb hby d3_19) ?_
    show Steps p.tables e below (s₁.setTop (mkF m 21 #[.val (.int (3 : Int32)), .unset] [(.int (13 : Int32)), (.int (3 : Int32))])) _
    refine XS.icmpYes X0.here hx rfl (pc0 := 21) (pc' := 29) rfl (hb hby d3_21) rfl (feq (by decide : ¬ ((3 : Int32) = (13 : Int32)))).2 (by decide) (by decide) ?_
    show Steps p.tables e below (s₁.setTop (mkF m 29 #[.val (.int (3 : Int32)), .unset] [])) _
    refine XS.iconst X0.here hx rfl (hb hby d3_29) ?_
    show Steps p.tables e below (s₁.setTop (mkF m 30 #[.val (.int (3 : Int32)), .unset] [(.int (0 : Int32))])) _
    refine XS.istoreN X0.here hx rfl (hb hby d3_30) rfl (l' := #[.val (.int (3 : Int32)), .val (.int (0 : Int32))]) rfl ?_
    show Steps p.tables e below (s₁.setTop (mkF m 31 #[.val (.int (3 : Int32)), .val (.int (0 : Int32))] [])) _
    refine XS.iloadN X0.here hx rfl (hb hby d3_31) rfl ?_
    show Steps p.tables e below (s₁.setTop (mkF m 32 #[.val (.int (3 : Int32)), .val (.int (0 : Int32))] [(.int (0 : Int32))])) _
    exact retN X0 hx (t := .boolean) Bd.returns (by simp) (hb hby d3_32) hr
  · show Q_rm3_3 Z  h0 n0 _ s₁.heap _
    rw [e0]
    exact ⟨rfl, N0, rfl⟩
set_option maxRecDepth 65536 in
set_option maxHeartbeats 40000000 in
theorem rm0_3 (l : Launch) (Z : State) (a0 : Array Value) (hw : ∀ d ∈ tables_1, d.before a0 Z = true) (ws : List Jvm.Cond) (p1 : Int32) (w_AND : Addr) (w_PLUS : Addr) (w_MINUS : Addr) (w_TIMES : Addr) (w_DIVIDE : Addr) (h0 : Heap) (n0 : Nat) (OL0 : Old Z n0 h0) (pr1 : ((p1 &&& (2147483647 : Int32)) % (14 : Int32)) = (3 : Int32)) (pr2 : Sta Z Z.heap "com/example/rigorous_chains/rigorouschains/prism/Expression$Operator" "AND" "Lcom/example/rigorous_chains/rigorouschains/prism/Expression$Operator;" (.ref w_AND)) (pr3 : Sta Z Z.heap "com/example/rigorous_chains/rigorouschains/prism/Expression$Operator" "PLUS" "Lcom/example/rigorous_chains/rigorouschains/prism/Expression$Operator;" (.ref w_PLUS)) (pr4 : w_AND ≠ w_PLUS) (pr5 : Sta Z Z.heap "com/example/rigorous_chains/rigorouschains/prism/Expression$Operator" "MINUS" "Lcom/example/rigorous_chains/rigorouschains/prism/Expression$Operator;" (.ref w_MINUS)) (pr6 : w_AND ≠ w_MINUS) (pr7 : Sta Z Z.heap "com/example/rigorous_chains/rigorouschains/prism/Expression$Operator" "TIMES" "Lcom/example/rigorous_chains/rigorouschains/prism/Expression$Operator;" (.ref w_TIMES)) (pr8 : w_AND ≠ w_TIMES) (pr9 : Sta Z Z.heap "com/example/rigorous_chains/rigorouschains/prism/Expression$Operator" "DIVIDE" "Lcom/example/rigorous_chains/rigorouschains/prism/Expression$Operator;" (.ref w_DIVIDE)) (pr10 : w_AND ≠ w_DIVIDE) (pr11 : Exa Z Z.heap w_AND "com/example/rigorous_chains/rigorouschains/prism/Expression$Operator") :
    MetFree l x (head1 (Jvm.Cond.code x code maxLocals ret :: ws) room_1) (fun a U => a = #[(.int p1)] ∧ Z.Warmed39 U.vm ∧ U.heap = h0) (fun _ _ _ _ _ => True) (fun _ U o U' => ∃ v L, o = .returned v ∧ Q0 n0 v L ∧ FrameEnd U o U' L 0 0) := by
  refine MetFree.of_bodySF (plainFor_of_name pn_0) hisR ?_
  intro p e s m args below meth c s₁ Bd hml0 hP hK
  obtain ⟨rfl, hZ, hh⟩ := hP
  have hx := Bd.exec
  have hby := Bd.bytes
  have hml : c.maxLocals = 3 := hml0
  have hown : s.vm.findClass "com/example/rigorous_chains/rigorouschains/prism/OperatorIsArithmeticPinLaw" = some m.cls := findClass_of_methodNamed Bd.named
  have hnm := (name_of_methodNamed Bd.named Bd.method).1
  have X0 : Stand p l e room_1 s m #[(.int p1)] below meth c s₁ [] 0 0 := Stand.of_body Bd
  have e0 : s₁.heap = h0 := by rw [← hh, Bd.state]; rfl
  have N0 := Fr.nil n0
  have pre0 : ∀ t, Steps p.tables e below (s₁.setTop (mkF m 0 #[.val (.int p1), .unset, .unset] [])) t → Steps p.tables e below (s₁.setTop (entryFrame m #[(.int p1)] maxLocals)) t := fun t k => castTop (ef_0_3 m p1) k
  obtain ⟨_, _, ⟨T1, L1, k1, n1⟩, -, X1, ⟨Lc1, hQ1, l1, y1, z1⟩, st1⟩ := Jvm.LawKit.callS X0 hx (y := (⟨"com/example/rigorous_chains/rigorouschains/prism/OperatorIsArithmeticPinLaw", "pick", "(I)Lcom/example/rigorous_chains/rigorouschains/prism/Expression$Operator;"⟩ : MethodName)) hown (mvT hZ (wd1 hw)) (mvT hZ (wd2 hw)) (mvT hZ (wd3 hw)) (mvT hZ (wd4 hw)) (by decide) (backOf (W := 0) (rm1_3 l Z a0 hw [] w_AND h0 n0 OL0 pr2) hZ (wd4 hw) (wd3 hw) (by decide) (by decide)) (g := (mkF m 9 #[.val (.int p1), .val (.int (3 : Int32)), .unset] [(.int (3 : Int32))])) rfl (by rw [hml]; rfl) (argsL := [(.int (3 : Int32))]) (rest := []) (lenOf pd_0 rfl) rfl (by show 2 * 0 + _ ≤ _; exact Nat.le_of_eq rfl) (hb hby at_9) (fun _ _ => ⟨rfl, e0, (by decide : 0 + 0 ≤ _), (by decide : 0 + 0 ≤ _)⟩)
  dsimp only [Pt.U, Pt.locs, Pt.cells, Pt.slots] at X1 l1 y1 z1 st1 hQ1
  subst l1 y1 z1
  obtain ⟨rfl, Nq1, ec1⟩ := hQ1
  have N1 := Fr.app N0 Nq1
  obtain ⟨cq2, kq2, q2a, q2b, q2c⟩ := isOf hZ ec1 (pr11.ext OL0.2)
  obtain ⟨_, _, ⟨T2, L2, k2, n2⟩, -, X2, ⟨Lc2, hQ2, l2, y2, z2⟩, st2⟩ := X1.virtualBack hx (y := (⟨"com/example/rigorous_chains/rigorouschains/prism/Expression$Operator", "isArithmetic", "()Z"⟩ : MethodName)) (z := (⟨"com/example/rigorous_chains/rigorouschains/prism/Expression$Operator", "isArithmetic", "()Z"⟩ : MethodName)) hown (mvT hZ (wd8 hw)) (mvT hZ (wd9 hw)) (notFace_of_selects (args := #[]) (mvT hZ (wd11 hw))) (mvT hZ (wd11 hw)) (mvT hZ (wd10 hw)) (by decide) (backOf (W := 0) (rm2_0 l Z a0 hw [] w_AND w_PLUS w_MINUS w_TIMES w_DIVIDE h0 n0 OL0 pr3 pr4 pr5 pr6 pr7 pr8 pr9 pr10) hZ (wd12 hw) (wd6 hw) (by decide) (by decide)) q2a q2c (g := (mkF m 14 #[.val (.int p1), .val (.int (3 : Int32)), .val (.ref w_AND)] [(.ref w_AND)])) rfl (by rw [hml]; rfl) (Steps.refl _) (argsL := []) (rest := []) (lenOf pd_1 rfl) rfl (by show 2 * 0 + _ ≤ _; exact Nat.le_of_eq rfl) (hb hby at_14) (fun _ _ => ⟨rfl, ec1, (by decide : 0 + 0 ≤ _), (by decide : 0 + 0 ≤ _)⟩)
  dsimp only [Pt.U, Pt.locs, Pt.cells, Pt.slots] at X2 l2 y2 z2 st2 hQ2
  subst l2 y2 z2
  obtain ⟨rfl, Nq2, ec2⟩ := hQ2
  have N2 := Fr.app N1 Nq2
  obtain ⟨_, _, ⟨T3, L3, k3, n3⟩, -, X3, ⟨Lc3, hQ3, l3, y3, z3⟩, st3⟩ := Jvm.LawKit.callS X2 hx (y := (⟨"com/example/rigorous_chains/rigorouschains/prism/OperatorIsArithmeticPinLaw", "expected", "(I)Z"⟩ : MethodName)) hown (mvT hZ (wd21 hw)) (mvT hZ (wd22 hw)) (mvT hZ (wd3 hw)) (mvT hZ (wd23 hw)) (by decide) (backOf (W := 1) (rm3_3 l Z a0 hw []  h0 n0 OL0 ) hZ (wd23 hw) (wd3 hw) (by decide) (by decide)) (g := (mkF m 18 #[.val (.int p1), .val (.int (3 : Int32)), .val (.ref w_AND)] [(.int (3 : Int32)), (.int (0 : Int32))])) rfl (by rw [hml]; rfl) (argsL := [(.int (3 : Int32))]) (rest := [(.int (0 : Int32))]) (lenOf pd_2 rfl) rfl (by show 2 * 0 + _ ≤ _; exact Nat.le_of_eq rfl) (hb hby at_18) (fun _ _ => ⟨rfl, ec2, (by decide : 0 + 0 ≤ _), (by decide : 0 + 0 ≤ _)⟩)
  dsimp only [Pt.U, Pt.locs, Pt.cells, Pt.slots] at X3 l3 y3 z3 st3 hQ3
  subst l3 y3 z3
  obtain ⟨rfl, Nq3, ec3⟩ := hQ3
  have N3 := Fr.app N2 Nq3
  obtain ⟨fs, hr, hrun, hended, hW, hsame⟩ := X3.leave (v := some (.int (1 : Int32))) (fun h => by rw [Bd.returns] at h; cases h)
  refine ⟨_, _, pre0 _ ?_, hrun, hended, _, _, rfl, ?_, ⟨_, rfl⟩, hW, hsame.mono (by decide) (by decide)⟩
  · show Steps p.tables e below (s₁.setTop (mkF m 0 #[.val (.int p1), .unset, .unset] [])) _
    refine XS.iloadN X0.here hx rfl (hb hby at_0) rfl ?_
    show Steps p.tables e below (s₁.setTop (mkF m 1 #[.val (.int p1), .unset, .unset] [(.int p1)])) _
    refine X0.ldcInt hx hown (mvT hZ (wd0 hw)) (g := (mkF m 1 #[.val (.int p1), .unset, .unset] [(.int p1)])) rfl (hb hby at_1) _ ?_
    show Steps p.tables e below (s₁.setTop (mkF m 3 #[.val (.int p1), .unset, .unset] [(.int (2147483647 : Int32)), (.int p1)])) _
    refine XS.iand X0.here hx rfl (hb hby at_3) rfl ?_
    show Steps p.tables e below (s₁.setTop (mkF m 4 #[.val (.int p1), .unset, .unset] [(.int (p1 &&& (2147483647 : Int32)))])) _
    refine XS.bipush X0.here hx rfl (hb hby at_4) ?_
    show Steps p.tables e below (s₁.setTop (mkF m 6 #[.val (.int p1), .unset, .unset] [(.int (14 : Int32)), (.int (p1 &&& (2147483647 : Int32)))])) _
    refine iremM X0 hx rfl (hb hby at_6) rfl (by decide) ?_
    show Steps p.tables e below (s₁.setTop (mkF m 7 #[.val (.int p1), .unset, .unset] [(.int ((p1 &&& (2147483647 : Int32)) % (14 : Int32)))])) _
    rw [pr1]
    show Steps p.tables e below (s₁.setTop (mkF m 7 #[.val (.int p1), .unset, .unset] [(.int (3 : Int32))])) _
    refine XS.istoreN X0.here hx rfl (hb hby at_7) rfl (l' := #[.val (.int p1), .val (.int (3 : Int32)), .unset]) rfl ?_
    show Steps p.tables e below (s₁.setTop (mkF m 8 #[.val (.int p1), .val (.int (3 : Int32)), .unset] [])) _
    refine XS.iloadN X0.here hx rfl (hb hby at_8) rfl ?_
    show Steps p.tables e below (s₁.setTop (mkF m 9 #[.val (.int p1), .val (.int (3 : Int32)), .unset] [(.int (3 : Int32))])) _
    refine st1 _ ?_
    show Steps p.tables e below (T1.setTop (mkF m 12 #[.val (.int p1), .val (.int (3 : Int32)), .unset] [(.ref w_AND)])) _
    refine XS.astoreN X1.here hx rfl (hb hby at_12) rfl rfl (l' := #[.val (.int p1), .val (.int (3 : Int32)), .val (.ref w_AND)]) rfl ?_
    show Steps p.tables e below (T1.setTop (mkF m 13 #[.val (.int p1), .val (.int (3 : Int32)), .val (.ref w_AND)] [])) _
    refine XS.aloadN X1.here hx rfl (hb hby at_13) rfl rfl ?_
    show Steps p.tables e below (T1.setTop (mkF m 14 #[.val (.int p1), .val (.int (3 : Int32)), .val (.ref w_AND)] [(.ref w_AND)])) _
    refine st2.trans ?_
    show Steps p.tables e below (T2.setTop (mkF m 17 #[.val (.int p1), .val (.int (3 : Int32)), .val (.ref w_AND)] [(.int (0 : Int32))])) _
    refine XS.iloadN X2.here hx rfl (hb hby at_17) rfl ?_
    show Steps p.tables e below (T2.setTop (mkF m 18 #[.val (.int p1), .val (.int (3 : Int32)), .val (.ref w_AND)] [(.int (3 : Int32)), (.int (0 : Int32))])) _
    refine st3 _ ?_
    show Steps p.tables e below (T3.setTop (mkF m 21 #[.val (.int p1), .val (.int (3 : Int32)), .val (.ref w_AND)] [(.int (0 : Int32)), (.int (0 : Int32))])) _
    refine XS.icmpNo X3.here hx rfl (hb hby at_21) rfl (teq (rfl : (0 : Int32) = (0 : Int32))).2 ?_
    show Steps p.tables e below (T3.setTop (mkF m 24 #[.val (.int p1), .val (.int (3 : Int32)), .val (.ref w_AND)] [])) _
    refine XS.iconst X3.here hx rfl (hb hby at_24) ?_
    show Steps p.tables e below (T3.setTop (mkF m 25 #[.val (.int p1), .val (.int (3 : Int32)), .val (.ref w_AND)] [(.int (1 : Int32))])) _
    refine XS.goto X3.here hx rfl (pc0 := 25) (pc' := 29) rfl (hb hby at_25) (by decide) (by decide) ?_
    show Steps p.tables e below (T3.setTop (mkF m 29 #[.val (.int p1), .val (.int (3 : Int32)), .val (.ref w_AND)] [(.int (1 : Int32))])) _
    exact retN X3 hx (t := .boolean) Bd.returns (by simp) (hb hby at_29) hr
  · exact ⟨rfl, N3⟩
theorem d1_35 : decode method_2_code 35 = .ok (.iload_n 0, 1) := by decide +kernel
theorem d1_36 : decode method_2_code 36 = .ok (.iconst 4, 1) := by decide +kernel
theorem d1_37 : decode method_2_code 37 = .ok (.if_icmp .ne 7, 3) := by decide +kernel
theorem d1_40 : decode method_2_code 40 = .ok (.getstatic 22, 3) := by decide +kernel
theorem d1_43 : decode method_2_code 43 = .ok (.areturn, 1) := by decide +kernel
theorem ef_1_10 (m : MethodId)  : entryFrame m #[(.int (4 : Int32))] 1 = mkF m 0 #[.val (.int (4 : Int32))] [] := by first | (simp [entryFrame, mkF, argsToLocals, Value.category]; done) | rfl
def Q_rm1_4 (Z : State) (w1 : Addr) (h0 : Heap) (n0 : Nat) (v : Option Value) (h : Heap) (L : List Loc) : Prop := v = some (.ref w1) ∧ Fr n0 L ∧ h = h0
set_option maxRecDepth 65536 in
set_option maxHeartbeats 40000000 in
theorem rm1_4 (l : Launch) (Z : State) (a0 : Array Value) (hw : ∀ d ∈ tables_1, d.before a0 Z = true) (ws : List Jvm.Cond) (w1 : Addr) (h0 : Heap) (n0 : Nat) (OL0 : Old Z n0 h0) (pr1 : Sta Z Z.heap "com/example/rigorous_chains/rigorouschains/prism/Expression$Operator" "EQUALS" "Lcom/example/rigorous_chains/rigorouschains/prism/Expression$Operator;" (.ref w1)) :
    MetFree l (⟨"com/example/rigorous_chains/rigorouschains/prism/OperatorIsArithmeticPinLaw", "pick", "(I)Lcom/example/rigorous_chains/rigorouschains/prism/Expression$Operator;"⟩ : MethodName) (head1 (Jvm.Cond.code (⟨"com/example/rigorous_chains/rigorouschains/prism/OperatorIsArithmeticPinLaw", "pick", "(I)Lcom/example/rigorous_chains/rigorouschains/prism/Expression$Operator;"⟩ : MethodName) method_2_code 1 (some (.object "com/example/rigorous_chains/rigorouschains/prism/Expression$Operator")) :: ws) ({ frames := 0, cells := 0, slots := 0, locals := 0 } : Room)) (fun a U => a = #[(.int (4 : Int32))] ∧ Z.Warmed39 U.vm ∧ U.heap = h0) (fun _ _ _ _ _ => True) (fun _ U o U' => ∃ v L, o = .returned v ∧ Q_rm1_4 Z w1 h0 n0 v U'.heap L ∧ FrameEnd U o U' L ({ frames := 0, cells := 0, slots := 0, locals := 0 } : Room).cells ({ frames := 0, cells := 0, slots := 0, locals := 0 } : Room).slots) := by
  refine MetFree.of_bodySF (plainFor_of_name pn_0) hisR ?_
  intro p e s m args below meth c s₁ Bd hml0 hP hK
  obtain ⟨rfl, hZ, hh⟩ := hP
  have hx := Bd.exec
  have hby := Bd.bytes
  have hml : c.maxLocals = 1 := hml0
  have hown : s.vm.findClass "com/example/rigorous_chains/rigorouschains/prism/OperatorIsArithmeticPinLaw" = some m.cls := findClass_of_methodNamed Bd.named
  have hnm := (name_of_methodNamed Bd.named Bd.method).1
  have X0 : Stand p l e ({ frames := 0, cells := 0, slots := 0, locals := 0 } : Room) s m #[(.int (4 : Int32))] below meth c s₁ [] 0 0 := Stand.of_body Bd
  have e0 : s₁.heap = h0 := by rw [← hh, Bd.state]; rfl
  have N0 := Fr.nil n0
  have pre0 : ∀ t, Steps p.tables e below (s₁.setTop (mkF m 0 #[.val (.int (4 : Int32))] [])) t → Steps p.tables e below (s₁.setTop (entryFrame m #[(.int (4 : Int32))] 1)) t := fun t k => castTop (ef_1_10 m ) k
  obtain ⟨T2, X2, e2, st2⟩ := getS2 X0 hx hZ hown (host := "") (Or.inl (wd28 hw)) Via.refl e0 (pr1.ext OL0.2) (g := (mkF m 40 #[.val (.int (4 : Int32))] [])) rfl (hb hby d1_40)
  obtain ⟨fs, hr, hrun, hended, hW, hsame⟩ := X2.leave (v := some (.ref w1)) (fun h => by rw [Bd.returns] at h; cases h)
  refine ⟨_, _, pre0 _ ?_, hrun, hended, _, _, rfl, ?_, ⟨_, rfl⟩, hW, hsame.mono (by decide) (by decide)⟩
  · show Steps p.tables e below (s₁.setTop (mkF m 0 #[.val (.int (4 : Int32))] [])) _
    refine XS.iloadN X0.here hx rfl (hb hby d1_0) rfl ?_
    show Steps p.tables e below (s₁.setTop (mkF m 1 #[.val (.int (4 : Int32))] [(.int (4 : Int32))])) _
    refine XS.ifYes X0.here hx rfl (pc0 := 1) (pc' := 8) rfl (hb hby d1_1) rfl ((if0 _ _).trans (feq (by decide : ¬ ((4 : Int32) = (0 : Int32)))).2) (by decide) (by decide) ?_
    show Steps p.tables e below (s₁.setTop (mkF m 8 #[.val (.int (4 : Int32))] [])) _
    refine XS.iloadN X0.here hx rfl (hb hby d1_8) rfl ?_
    show Steps p.tables e below (s₁.setTop (mkF m 9 #[.val (.int (4 : Int32))] [(.int (4 : Int32))])) _
    refine XS.iconst X0.here hx rfl (hb hby d1_9) ?_
    show Steps p.tables e below (s₁.setTop (mkF m 10 #[.val (.int (4 : Int32))] [(.int (1 : Int32)), (.int (4 : Int32))])) _
    refine XS.icmpYes X0.here hx rfl (pc0 := 10) (pc' := 17) rfl (hb hby d1_10) rfl (feq (by decide : ¬ ((4 : Int32) = (1 : Int32)))).2 (by decide) (by decide) ?_
    show Steps p.tables e below (s₁.setTop (mkF m 17 #[.val (.int (4 : Int32))] [])) _
    refine XS.iloadN X0.here hx rfl (hb hby d1_17) rfl ?_
    show Steps p.tables e below (s₁.setTop (mkF m 18 #[.val (.int (4 : Int32))] [(.int (4 : Int32))])) _
    refine XS.iconst X0.here hx rfl (hb hby d1_18) ?_
    show Steps p.tables e below (s₁.setTop (mkF m 19 #[.val (.int (4 : Int32))] [(.int (2 : Int32)), (.int (4 : Int32))])) _
    refine XS.icmpYes X0.here hx rfl (pc0 := 19) (pc' := 26) rfl (hb hby d1_19) rfl (feq (by decide : ¬ ((4 : Int32) = (2 : Int32)))).2 (by decide) (by decide) ?_
    show Steps p.tables e below (s₁.setTop (mkF m 26 #[.val (.int (4 : Int32))] [])) _
    refine XS.iloadN X0.here hx rfl (hb hby d1_26) rfl ?_
    show Steps p.tables e below (s₁.setTop (mkF m 27 #[.val (.int (4 : Int32))] [(.int (4 : Int32))])) _
    refine XS.iconst X0.here hx rfl (hb hby d1_27) ?_
    show Steps p.tables e below (s₁.setTop (mkF m 28 #[.val (.int (4 : Int32))] [(.int (3 : Int32)), (.int (4 : Int32))])) _
    refine XS.icmpYes X0.here hx rfl (pc0 := 28) (pc' := 35) rfl (hb hby d1_28) rfl (feq (by decide : ¬ ((4 : Int32) = (3 : Int32)))).2 (by decide) (by decide) ?_
    show Steps p.tables e below (s₁.setTop (mkF m 35 #[.val (.int (4 : Int32))] [])) _
    refine XS.iloadN X0.here hx rfl (hb hby d1_35) rfl ?_
    show Steps p.tables e below (s₁.setTop (mkF m 36 #[.val (.int (4 : Int32))] [(.int (4 : Int32))])) _
    refine XS.iconst X0.here hx rfl (hb hby d1_36) ?_
    show Steps p.tables e below (s₁.setTop (mkF m 37 #[.val (.int (4 : Int32))] [(.int (4 : Int32)), (.int (4 : Int32))])) _
    refine XS.icmpNo X0.here hx rfl (hb hby d1_37) rfl (teq (rfl : (4 : Int32) = (4 : Int32))).2 ?_
    show Steps p.tables e below (s₁.setTop (mkF m 40 #[.val (.int (4 : Int32))] [])) _
    refine st2 _ ?_
    show Steps p.tables e below (T2.setTop (mkF m 43 #[.val (.int (4 : Int32))] [(.ref w1)])) _
    jvm_step X2.here [X2.here.top, hx, (hb hby d1_43), X2.method', Bd.returns, Value.isRef, FieldType.isReference]
    first | (intro acts; rw [hr _ acts rfl rfl rfl]) | rw [hr _ _ rfl rfl rfl]
    exact Steps.refl _
  · show Q_rm1_4 Z w1 h0 n0 _ T2.heap _
    rw [e2]
    exact ⟨rfl, N0, rfl⟩
theorem ef_3_11 (m : MethodId)  : entryFrame m #[(.int (4 : Int32))] 2 = mkF m 0 #[.val (.int (4 : Int32)), .unset] [] := by first | (simp [entryFrame, mkF, argsToLocals, Value.category]; done) | rfl
def Q_rm3_4 (Z : State)  (h0 : Heap) (n0 : Nat) (v : Option Value) (h : Heap) (L : List Loc) : Prop := v = some (.int (0 : Int32)) ∧ Fr n0 L ∧ h = h0
set_option maxRecDepth 65536 in
set_option maxHeartbeats 40000000 in
theorem rm3_4 (l : Launch) (Z : State) (a0 : Array Value) (hw : ∀ d ∈ tables_1, d.before a0 Z = true) (ws : List Jvm.Cond)  (h0 : Heap) (n0 : Nat) (OL0 : Old Z n0 h0)  :
    MetFree l (⟨"com/example/rigorous_chains/rigorouschains/prism/OperatorIsArithmeticPinLaw", "expected", "(I)Z"⟩ : MethodName) (head1 (Jvm.Cond.code (⟨"com/example/rigorous_chains/rigorouschains/prism/OperatorIsArithmeticPinLaw", "expected", "(I)Z"⟩ : MethodName) method_3_code 2 (some .boolean) :: ws) ({ frames := 0, cells := 0, slots := 0, locals := 0 } : Room)) (fun a U => a = #[(.int (4 : Int32))] ∧ Z.Warmed39 U.vm ∧ U.heap = h0) (fun _ _ _ _ _ => True) (fun _ U o U' => ∃ v L, o = .returned v ∧ Q_rm3_4 Z  h0 n0 v U'.heap L ∧ FrameEnd U o U' L ({ frames := 0, cells := 0, slots := 0, locals := 0 } : Room).cells ({ frames := 0, cells := 0, slots := 0, locals := 0 } : Room).slots) := by
  refine MetFree.of_bodySF (plainFor_of_name pn_0) hisR ?_
  intro p e s m args below meth c s₁ Bd hml0 hP hK
  obtain ⟨rfl, hZ, hh⟩ := hP
  have hx := Bd.exec
  have hby := Bd.bytes
  have hml : c.maxLocals = 2 := hml0
  have hown : s.vm.findClass "com/example/rigorous_chains/rigorouschains/prism/OperatorIsArithmeticPinLaw" = some m.cls := findClass_of_methodNamed Bd.named
  have hnm := (name_of_methodNamed Bd.named Bd.method).1
  have X0 : Stand p l e ({ frames := 0, cells := 0, slots := 0, locals := 0 } : Room) s m #[(.int (4 : Int32))] below meth c s₁ [] 0 0 := Stand.of_body Bd
  have e0 : s₁.heap = h0 := by rw [← hh, Bd.state]; rfl
  have N0 := Fr.nil n0
  have pre0 : ∀ t, Steps p.tables e below (s₁.setTop (mkF m 0 #[.val (.int (4 : Int32)), .unset] [])) t → Steps p.tables e below (s₁.setTop (entryFrame m #[(.int (4 : Int32))] 2)) t := fun t k => castTop (ef_3_11 m ) k
  obtain ⟨fs, hr, hrun, hended, hW, hsame⟩ := X0.leave (v := some (.int (0 : Int32))) (fun h => by rw [Bd.returns] at h; cases h)
  refine ⟨_, _, pre0 _ ?_, hrun, hended, _, _, rfl, ?_, ⟨_, rfl⟩, hW, hsame.mono (by decide) (by decide)⟩
  · show Steps p.tables e below (s₁.setTop (mkF m 0 #[.val (.int (4 : Int32)), .unset] [])) _
    refine XS.iloadN X0.here hx rfl (hb hby d3_0) rfl ?_
    show Steps p.tables e below (s₁.setTop (mkF m 1 #[.val (.int (4 : Int32)), .unset] [(.int (4 : Int32))])) _
    refine XS.bipush X0.here hx rfl (hb hby d3_1) ?_
    show Steps p.tables e below (s₁.setTop (mkF m 3 #[.val (.int (4 : Int32)), .unset] [(.int (10 : Int32)), (.int (4 : Int32))])) _
    refine XS.icmpNo X0.here hx rfl (hb hby d3_3) rfl (feq (by decide : ¬ ((4 : Int32) = (10 : Int32)))).1 ?_
    show Steps p.tables e below (s₁.setTop (mkF m 6 #[.val (.int (4 : Int32)), .unset] [])) _
    refine XS.iloadN X0.here hx rfl (hb hby d3_6) rfl ?_
    show Steps p.tables e below (s₁.setTop (mkF m 7 #[.val (.int (4 : Int32)), .unset] [(.int (4 : Int32))])) _
    refine XS.bipush X0.here hx rfl (hb hby d3_7) ?_
    show Steps p.tables e below (s₁.setTop (mkF m 9 #[.val (.int (4 : Int32)), .unset] [(.int (11 : Int32)), (.int (4 : Int32))])) _
    refine XS.icmpNo X0.here hx rfl (hb hby d3_9) rfl (feq (by decide : ¬ ((4 : Int32) = (11 : Int32)))).1 ?_
    show Steps p.tables e below (s₁.setTop (mkF m 12 #[.val (.int (4 : Int32)), .unset] [])) _
    refine XS.iloadN X0.here hx rfl (hb hby d3_12) rfl ?_
    show Steps p.tables e below (s₁.setTop (mkF m 13 #[.val (.int (4 : Int32)), .unset] [(.int (4 : Int32))])) _
    refine XS.bipush X0.here hx rfl (hb hby d3_13) ?_
    show Steps p.tables e below (s₁.setTop (mkF m 15 #[.val (.int (4 : Int32)), .unset] [(.int (12 : Int32)), (.int (4 : Int32))])) _
    refine XS.icmpNo X0.here hx rfl (hb hby d3_15) rfl (feq (by decide : ¬ ((4 : Int32) = (12 : Int32)))).1 ?_
    show Steps p.tables e below (s₁.setTop (mkF m 18 #[.val (.int (4 : Int32)), .unset] [])) _
    refine XS.iloadN X0.here hx rfl (hb hby d3_18) rfl ?_
    show Steps p.tables e below (s₁.setTop (mkF m 19 #[.val (.int (4 : Int32)), .unset] [(.int (4 : Int32))])) _
    refine XS.bipush X0.here hx rfl (hb hby d3_19) ?_
    show Steps p.tables e below (s₁.setTop (mkF m 21 #[.val (.int (4 : Int32)), .unset] [(.int (13 : Int32)), (.int (4 : Int32))])) _
    refine XS.icmpYes X0.here hx rfl (pc0 := 21) (pc' := 29) rfl (hb hby d3_21) rfl (feq (by decide : ¬ ((4 : Int32) = (13 : Int32)))).2 (by decide) (by decide) ?_
    show Steps p.tables e below (s₁.setTop (mkF m 29 #[.val (.int (4 : Int32)), .unset] [])) _
    refine XS.iconst X0.here hx rfl (hb hby d3_29) ?_
    show Steps p.tables e below (s₁.setTop (mkF m 30 #[.val (.int (4 : Int32)), .unset] [(.int (0 : Int32))])) _
    refine XS.istoreN X0.here hx rfl (hb hby d3_30) rfl (l' := #[.val (.int (4 : Int32)), .val (.int (0 : Int32))]) rfl ?_
    show Steps p.tables e below (s₁.setTop (mkF m 31 #[.val (.int (4 : Int32)), .val (.int (0 : Int32))] [])) _
    refine XS.iloadN X0.here hx rfl (hb hby d3_31) rfl ?_
    show Steps p.tables e below (s₁.setTop (mkF m 32 #[.val (.int (4 : Int32)), .val (.int (0 : Int32))] [(.int (0 : Int32))])) _
    exact retN X0 hx (t := .boolean) Bd.returns (by simp) (hb hby d3_32) hr
  · show Q_rm3_4 Z  h0 n0 _ s₁.heap _
    rw [e0]
    exact ⟨rfl, N0, rfl⟩
set_option maxRecDepth 65536 in
set_option maxHeartbeats 40000000 in
theorem rm0_4 (l : Launch) (Z : State) (a0 : Array Value) (hw : ∀ d ∈ tables_1, d.before a0 Z = true) (ws : List Jvm.Cond) (p1 : Int32) (w_EQUALS : Addr) (w_PLUS : Addr) (w_MINUS : Addr) (w_TIMES : Addr) (w_DIVIDE : Addr) (h0 : Heap) (n0 : Nat) (OL0 : Old Z n0 h0) (pr1 : ((p1 &&& (2147483647 : Int32)) % (14 : Int32)) = (4 : Int32)) (pr2 : Sta Z Z.heap "com/example/rigorous_chains/rigorouschains/prism/Expression$Operator" "EQUALS" "Lcom/example/rigorous_chains/rigorouschains/prism/Expression$Operator;" (.ref w_EQUALS)) (pr3 : Sta Z Z.heap "com/example/rigorous_chains/rigorouschains/prism/Expression$Operator" "PLUS" "Lcom/example/rigorous_chains/rigorouschains/prism/Expression$Operator;" (.ref w_PLUS)) (pr4 : w_EQUALS ≠ w_PLUS) (pr5 : Sta Z Z.heap "com/example/rigorous_chains/rigorouschains/prism/Expression$Operator" "MINUS" "Lcom/example/rigorous_chains/rigorouschains/prism/Expression$Operator;" (.ref w_MINUS)) (pr6 : w_EQUALS ≠ w_MINUS) (pr7 : Sta Z Z.heap "com/example/rigorous_chains/rigorouschains/prism/Expression$Operator" "TIMES" "Lcom/example/rigorous_chains/rigorouschains/prism/Expression$Operator;" (.ref w_TIMES)) (pr8 : w_EQUALS ≠ w_TIMES) (pr9 : Sta Z Z.heap "com/example/rigorous_chains/rigorouschains/prism/Expression$Operator" "DIVIDE" "Lcom/example/rigorous_chains/rigorouschains/prism/Expression$Operator;" (.ref w_DIVIDE)) (pr10 : w_EQUALS ≠ w_DIVIDE) (pr11 : Exa Z Z.heap w_EQUALS "com/example/rigorous_chains/rigorouschains/prism/Expression$Operator") :
    MetFree l x (head1 (Jvm.Cond.code x code maxLocals ret :: ws) room_1) (fun a U => a = #[(.int p1)] ∧ Z.Warmed39 U.vm ∧ U.heap = h0) (fun _ _ _ _ _ => True) (fun _ U o U' => ∃ v L, o = .returned v ∧ Q0 n0 v L ∧ FrameEnd U o U' L 0 0) := by
  refine MetFree.of_bodySF (plainFor_of_name pn_0) hisR ?_
  intro p e s m args below meth c s₁ Bd hml0 hP hK
  obtain ⟨rfl, hZ, hh⟩ := hP
  have hx := Bd.exec
  have hby := Bd.bytes
  have hml : c.maxLocals = 3 := hml0
  have hown : s.vm.findClass "com/example/rigorous_chains/rigorouschains/prism/OperatorIsArithmeticPinLaw" = some m.cls := findClass_of_methodNamed Bd.named
  have hnm := (name_of_methodNamed Bd.named Bd.method).1
  have X0 : Stand p l e room_1 s m #[(.int p1)] below meth c s₁ [] 0 0 := Stand.of_body Bd
  have e0 : s₁.heap = h0 := by rw [← hh, Bd.state]; rfl
  have N0 := Fr.nil n0
  have pre0 : ∀ t, Steps p.tables e below (s₁.setTop (mkF m 0 #[.val (.int p1), .unset, .unset] [])) t → Steps p.tables e below (s₁.setTop (entryFrame m #[(.int p1)] maxLocals)) t := fun t k => castTop (ef_0_3 m p1) k
  obtain ⟨_, _, ⟨T1, L1, k1, n1⟩, -, X1, ⟨Lc1, hQ1, l1, y1, z1⟩, st1⟩ := Jvm.LawKit.callS X0 hx (y := (⟨"com/example/rigorous_chains/rigorouschains/prism/OperatorIsArithmeticPinLaw", "pick", "(I)Lcom/example/rigorous_chains/rigorouschains/prism/Expression$Operator;"⟩ : MethodName)) hown (mvT hZ (wd1 hw)) (mvT hZ (wd2 hw)) (mvT hZ (wd3 hw)) (mvT hZ (wd4 hw)) (by decide) (backOf (W := 0) (rm1_4 l Z a0 hw [] w_EQUALS h0 n0 OL0 pr2) hZ (wd4 hw) (wd3 hw) (by decide) (by decide)) (g := (mkF m 9 #[.val (.int p1), .val (.int (4 : Int32)), .unset] [(.int (4 : Int32))])) rfl (by rw [hml]; rfl) (argsL := [(.int (4 : Int32))]) (rest := []) (lenOf pd_0 rfl) rfl (by show 2 * 0 + _ ≤ _; exact Nat.le_of_eq rfl) (hb hby at_9) (fun _ _ => ⟨rfl, e0, (by decide : 0 + 0 ≤ _), (by decide : 0 + 0 ≤ _)⟩)
  dsimp only [Pt.U, Pt.locs, Pt.cells, Pt.slots] at X1 l1 y1 z1 st1 hQ1
  subst l1 y1 z1
  obtain ⟨rfl, Nq1, ec1⟩ := hQ1
  have N1 := Fr.app N0 Nq1
  obtain ⟨cq2, kq2, q2a, q2b, q2c⟩ := isOf hZ ec1 (pr11.ext OL0.2)
  obtain ⟨_, _, ⟨T2, L2, k2, n2⟩, -, X2, ⟨Lc2, hQ2, l2, y2, z2⟩, st2⟩ := X1.virtualBack hx (y := (⟨"com/example/rigorous_chains/rigorouschains/prism/Expression$Operator", "isArithmetic", "()Z"⟩ : MethodName)) (z := (⟨"com/example/rigorous_chains/rigorouschains/prism/Expression$Operator", "isArithmetic", "()Z"⟩ : MethodName)) hown (mvT hZ (wd8 hw)) (mvT hZ (wd9 hw)) (notFace_of_selects (args := #[]) (mvT hZ (wd11 hw))) (mvT hZ (wd11 hw)) (mvT hZ (wd10 hw)) (by decide) (backOf (W := 0) (rm2_0 l Z a0 hw [] w_EQUALS w_PLUS w_MINUS w_TIMES w_DIVIDE h0 n0 OL0 pr3 pr4 pr5 pr6 pr7 pr8 pr9 pr10) hZ (wd12 hw) (wd6 hw) (by decide) (by decide)) q2a q2c (g := (mkF m 14 #[.val (.int p1), .val (.int (4 : Int32)), .val (.ref w_EQUALS)] [(.ref w_EQUALS)])) rfl (by rw [hml]; rfl) (Steps.refl _) (argsL := []) (rest := []) (lenOf pd_1 rfl) rfl (by show 2 * 0 + _ ≤ _; exact Nat.le_of_eq rfl) (hb hby at_14) (fun _ _ => ⟨rfl, ec1, (by decide : 0 + 0 ≤ _), (by decide : 0 + 0 ≤ _)⟩)
  dsimp only [Pt.U, Pt.locs, Pt.cells, Pt.slots] at X2 l2 y2 z2 st2 hQ2
  subst l2 y2 z2
  obtain ⟨rfl, Nq2, ec2⟩ := hQ2
  have N2 := Fr.app N1 Nq2
  obtain ⟨_, _, ⟨T3, L3, k3, n3⟩, -, X3, ⟨Lc3, hQ3, l3, y3, z3⟩, st3⟩ := Jvm.LawKit.callS X2 hx (y := (⟨"com/example/rigorous_chains/rigorouschains/prism/OperatorIsArithmeticPinLaw", "expected", "(I)Z"⟩ : MethodName)) hown (mvT hZ (wd21 hw)) (mvT hZ (wd22 hw)) (mvT hZ (wd3 hw)) (mvT hZ (wd23 hw)) (by decide) (backOf (W := 1) (rm3_4 l Z a0 hw []  h0 n0 OL0 ) hZ (wd23 hw) (wd3 hw) (by decide) (by decide)) (g := (mkF m 18 #[.val (.int p1), .val (.int (4 : Int32)), .val (.ref w_EQUALS)] [(.int (4 : Int32)), (.int (0 : Int32))])) rfl (by rw [hml]; rfl) (argsL := [(.int (4 : Int32))]) (rest := [(.int (0 : Int32))]) (lenOf pd_2 rfl) rfl (by show 2 * 0 + _ ≤ _; exact Nat.le_of_eq rfl) (hb hby at_18) (fun _ _ => ⟨rfl, ec2, (by decide : 0 + 0 ≤ _), (by decide : 0 + 0 ≤ _)⟩)
  dsimp only [Pt.U, Pt.locs, Pt.cells, Pt.slots] at X3 l3 y3 z3 st3 hQ3
  subst l3 y3 z3
  obtain ⟨rfl, Nq3, ec3⟩ := hQ3
  have N3 := Fr.app N2 Nq3
  obtain ⟨fs, hr, hrun, hended, hW, hsame⟩ := X3.leave (v := some (.int (1 : Int32))) (fun h => by rw [Bd.returns] at h; cases h)
  refine ⟨_, _, pre0 _ ?_, hrun, hended, _, _, rfl, ?_, ⟨_, rfl⟩, hW, hsame.mono (by decide) (by decide)⟩
  · show Steps p.tables e below (s₁.setTop (mkF m 0 #[.val (.int p1), .unset, .unset] [])) _
    refine XS.iloadN X0.here hx rfl (hb hby at_0) rfl ?_
    show Steps p.tables e below (s₁.setTop (mkF m 1 #[.val (.int p1), .unset, .unset] [(.int p1)])) _
    refine X0.ldcInt hx hown (mvT hZ (wd0 hw)) (g := (mkF m 1 #[.val (.int p1), .unset, .unset] [(.int p1)])) rfl (hb hby at_1) _ ?_
    show Steps p.tables e below (s₁.setTop (mkF m 3 #[.val (.int p1), .unset, .unset] [(.int (2147483647 : Int32)), (.int p1)])) _
    refine XS.iand X0.here hx rfl (hb hby at_3) rfl ?_
    show Steps p.tables e below (s₁.setTop (mkF m 4 #[.val (.int p1), .unset, .unset] [(.int (p1 &&& (2147483647 : Int32)))])) _
    refine XS.bipush X0.here hx rfl (hb hby at_4) ?_
    show Steps p.tables e below (s₁.setTop (mkF m 6 #[.val (.int p1), .unset, .unset] [(.int (14 : Int32)), (.int (p1 &&& (2147483647 : Int32)))])) _
    refine iremM X0 hx rfl (hb hby at_6) rfl (by decide) ?_
    show Steps p.tables e below (s₁.setTop (mkF m 7 #[.val (.int p1), .unset, .unset] [(.int ((p1 &&& (2147483647 : Int32)) % (14 : Int32)))])) _
    rw [pr1]
    show Steps p.tables e below (s₁.setTop (mkF m 7 #[.val (.int p1), .unset, .unset] [(.int (4 : Int32))])) _
    refine XS.istoreN X0.here hx rfl (hb hby at_7) rfl (l' := #[.val (.int p1), .val (.int (4 : Int32)), .unset]) rfl ?_
    show Steps p.tables e below (s₁.setTop (mkF m 8 #[.val (.int p1), .val (.int (4 : Int32)), .unset] [])) _
    refine XS.iloadN X0.here hx rfl (hb hby at_8) rfl ?_
    show Steps p.tables e below (s₁.setTop (mkF m 9 #[.val (.int p1), .val (.int (4 : Int32)), .unset] [(.int (4 : Int32))])) _
    refine st1 _ ?_
    show Steps p.tables e below (T1.setTop (mkF m 12 #[.val (.int p1), .val (.int (4 : Int32)), .unset] [(.ref w_EQUALS)])) _
    refine XS.astoreN X1.here hx rfl (hb hby at_12) rfl rfl (l' := #[.val (.int p1), .val (.int (4 : Int32)), .val (.ref w_EQUALS)]) rfl ?_
    show Steps p.tables e below (T1.setTop (mkF m 13 #[.val (.int p1), .val (.int (4 : Int32)), .val (.ref w_EQUALS)] [])) _
    refine XS.aloadN X1.here hx rfl (hb hby at_13) rfl rfl ?_
    show Steps p.tables e below (T1.setTop (mkF m 14 #[.val (.int p1), .val (.int (4 : Int32)), .val (.ref w_EQUALS)] [(.ref w_EQUALS)])) _
    refine st2.trans ?_
    show Steps p.tables e below (T2.setTop (mkF m 17 #[.val (.int p1), .val (.int (4 : Int32)), .val (.ref w_EQUALS)] [(.int (0 : Int32))])) _
    refine XS.iloadN X2.here hx rfl (hb hby at_17) rfl ?_
    show Steps p.tables e below (T2.setTop (mkF m 18 #[.val (.int p1), .val (.int (4 : Int32)), .val (.ref w_EQUALS)] [(.int (4 : Int32)), (.int (0 : Int32))])) _
    refine st3 _ ?_
    show Steps p.tables e below (T3.setTop (mkF m 21 #[.val (.int p1), .val (.int (4 : Int32)), .val (.ref w_EQUALS)] [(.int (0 : Int32)), (.int (0 : Int32))])) _
    refine XS.icmpNo X3.here hx rfl (hb hby at_21) rfl (teq (rfl : (0 : Int32) = (0 : Int32))).2 ?_
    show Steps p.tables e below (T3.setTop (mkF m 24 #[.val (.int p1), .val (.int (4 : Int32)), .val (.ref w_EQUALS)] [])) _
    refine XS.iconst X3.here hx rfl (hb hby at_24) ?_
    show Steps p.tables e below (T3.setTop (mkF m 25 #[.val (.int p1), .val (.int (4 : Int32)), .val (.ref w_EQUALS)] [(.int (1 : Int32))])) _
    refine XS.goto X3.here hx rfl (pc0 := 25) (pc' := 29) rfl (hb hby at_25) (by decide) (by decide) ?_
    show Steps p.tables e below (T3.setTop (mkF m 29 #[.val (.int p1), .val (.int (4 : Int32)), .val (.ref w_EQUALS)] [(.int (1 : Int32))])) _
    exact retN X3 hx (t := .boolean) Bd.returns (by simp) (hb hby at_29) hr
  · exact ⟨rfl, N3⟩
theorem d1_44 : decode method_2_code 44 = .ok (.iload_n 0, 1) := by decide +kernel
theorem d1_45 : decode method_2_code 45 = .ok (.iconst 5, 1) := by decide +kernel
theorem d1_46 : decode method_2_code 46 = .ok (.if_icmp .ne 7, 3) := by decide +kernel
theorem d1_49 : decode method_2_code 49 = .ok (.getstatic 25, 3) := by decide +kernel
theorem d1_52 : decode method_2_code 52 = .ok (.areturn, 1) := by decide +kernel
theorem ef_1_12 (m : MethodId)  : entryFrame m #[(.int (5 : Int32))] 1 = mkF m 0 #[.val (.int (5 : Int32))] [] := by first | (simp [entryFrame, mkF, argsToLocals, Value.category]; done) | rfl
def Q_rm1_5 (Z : State) (w1 : Addr) (h0 : Heap) (n0 : Nat) (v : Option Value) (h : Heap) (L : List Loc) : Prop := v = some (.ref w1) ∧ Fr n0 L ∧ h = h0
set_option maxRecDepth 65536 in
set_option maxHeartbeats 40000000 in
theorem rm1_5 (l : Launch) (Z : State) (a0 : Array Value) (hw : ∀ d ∈ tables_1, d.before a0 Z = true) (ws : List Jvm.Cond) (w1 : Addr) (h0 : Heap) (n0 : Nat) (OL0 : Old Z n0 h0) (pr1 : Sta Z Z.heap "com/example/rigorous_chains/rigorouschains/prism/Expression$Operator" "NOT_EQUALS" "Lcom/example/rigorous_chains/rigorouschains/prism/Expression$Operator;" (.ref w1)) :
    MetFree l (⟨"com/example/rigorous_chains/rigorouschains/prism/OperatorIsArithmeticPinLaw", "pick", "(I)Lcom/example/rigorous_chains/rigorouschains/prism/Expression$Operator;"⟩ : MethodName) (head1 (Jvm.Cond.code (⟨"com/example/rigorous_chains/rigorouschains/prism/OperatorIsArithmeticPinLaw", "pick", "(I)Lcom/example/rigorous_chains/rigorouschains/prism/Expression$Operator;"⟩ : MethodName) method_2_code 1 (some (.object "com/example/rigorous_chains/rigorouschains/prism/Expression$Operator")) :: ws) ({ frames := 0, cells := 0, slots := 0, locals := 0 } : Room)) (fun a U => a = #[(.int (5 : Int32))] ∧ Z.Warmed39 U.vm ∧ U.heap = h0) (fun _ _ _ _ _ => True) (fun _ U o U' => ∃ v L, o = .returned v ∧ Q_rm1_5 Z w1 h0 n0 v U'.heap L ∧ FrameEnd U o U' L ({ frames := 0, cells := 0, slots := 0, locals := 0 } : Room).cells ({ frames := 0, cells := 0, slots := 0, locals := 0 } : Room).slots) := by
  refine MetFree.of_bodySF (plainFor_of_name pn_0) hisR ?_
  intro p e s m args below meth c s₁ Bd hml0 hP hK
  obtain ⟨rfl, hZ, hh⟩ := hP
  have hx := Bd.exec
  have hby := Bd.bytes
  have hml : c.maxLocals = 1 := hml0
  have hown : s.vm.findClass "com/example/rigorous_chains/rigorouschains/prism/OperatorIsArithmeticPinLaw" = some m.cls := findClass_of_methodNamed Bd.named
  have hnm := (name_of_methodNamed Bd.named Bd.method).1
  have X0 : Stand p l e ({ frames := 0, cells := 0, slots := 0, locals := 0 } : Room) s m #[(.int (5 : Int32))] below meth c s₁ [] 0 0 := Stand.of_body Bd
  have e0 : s₁.heap = h0 := by rw [← hh, Bd.state]; rfl
  have N0 := Fr.nil n0
  have pre0 : ∀ t, Steps p.tables e below (s₁.setTop (mkF m 0 #[.val (.int (5 : Int32))] [])) t → Steps p.tables e below (s₁.setTop (entryFrame m #[(.int (5 : Int32))] 1)) t := fun t k => castTop (ef_1_12 m ) k
  obtain ⟨T2, X2, e2, st2⟩ := getS2 X0 hx hZ hown (host := "") (Or.inl (wd42 hw)) Via.refl e0 (pr1.ext OL0.2) (g := (mkF m 49 #[.val (.int (5 : Int32))] [])) rfl (hb hby d1_49)
  obtain ⟨fs, hr, hrun, hended, hW, hsame⟩ := X2.leave (v := some (.ref w1)) (fun h => by rw [Bd.returns] at h; cases h)
  refine ⟨_, _, pre0 _ ?_, hrun, hended, _, _, rfl, ?_, ⟨_, rfl⟩, hW, hsame.mono (by decide) (by decide)⟩
  · show Steps p.tables e below (s₁.setTop (mkF m 0 #[.val (.int (5 : Int32))] [])) _
    refine XS.iloadN X0.here hx rfl (hb hby d1_0) rfl ?_
    show Steps p.tables e below (s₁.setTop (mkF m 1 #[.val (.int (5 : Int32))] [(.int (5 : Int32))])) _
    refine XS.ifYes X0.here hx rfl (pc0 := 1) (pc' := 8) rfl (hb hby d1_1) rfl ((if0 _ _).trans (feq (by decide : ¬ ((5 : Int32) = (0 : Int32)))).2) (by decide) (by decide) ?_
    show Steps p.tables e below (s₁.setTop (mkF m 8 #[.val (.int (5 : Int32))] [])) _
    refine XS.iloadN X0.here hx rfl (hb hby d1_8) rfl ?_
    show Steps p.tables e below (s₁.setTop (mkF m 9 #[.val (.int (5 : Int32))] [(.int (5 : Int32))])) _
    refine XS.iconst X0.here hx rfl (hb hby d1_9) ?_
    show Steps p.tables e below (s₁.setTop (mkF m 10 #[.val (.int (5 : Int32))] [(.int (1 : Int32)), (.int (5 : Int32))])) _
    refine XS.icmpYes X0.here hx rfl (pc0 := 10) (pc' := 17) rfl (hb hby d1_10) rfl (feq (by decide : ¬ ((5 : Int32) = (1 : Int32)))).2 (by decide) (by decide) ?_
    show Steps p.tables e below (s₁.setTop (mkF m 17 #[.val (.int (5 : Int32))] [])) _
    refine XS.iloadN X0.here hx rfl (hb hby d1_17) rfl ?_
    show Steps p.tables e below (s₁.setTop (mkF m 18 #[.val (.int (5 : Int32))] [(.int (5 : Int32))])) _
    refine XS.iconst X0.here hx rfl (hb hby d1_18) ?_
    show Steps p.tables e below (s₁.setTop (mkF m 19 #[.val (.int (5 : Int32))] [(.int (2 : Int32)), (.int (5 : Int32))])) _
    refine XS.icmpYes X0.here hx rfl (pc0 := 19) (pc' := 26) rfl (hb hby d1_19) rfl (feq (by decide : ¬ ((5 : Int32) = (2 : Int32)))).2 (by decide) (by decide) ?_
    show Steps p.tables e below (s₁.setTop (mkF m 26 #[.val (.int (5 : Int32))] [])) _
    refine XS.iloadN X0.here hx rfl (hb hby d1_26) rfl ?_
    show Steps p.tables e below (s₁.setTop (mkF m 27 #[.val (.int (5 : Int32))] [(.int (5 : Int32))])) _
    refine XS.iconst X0.here hx rfl (hb hby d1_27) ?_
    show Steps p.tables e below (s₁.setTop (mkF m 28 #[.val (.int (5 : Int32))] [(.int (3 : Int32)), (.int (5 : Int32))])) _
    refine XS.icmpYes X0.here hx rfl (pc0 := 28) (pc' := 35) rfl (hb hby d1_28) rfl (feq (by decide : ¬ ((5 : Int32) = (3 : Int32)))).2 (by decide) (by decide) ?_
    show Steps p.tables e below (s₁.setTop (mkF m 35 #[.val (.int (5 : Int32))] [])) _
    refine XS.iloadN X0.here hx rfl (hb hby d1_35) rfl ?_
    show Steps p.tables e below (s₁.setTop (mkF m 36 #[.val (.int (5 : Int32))] [(.int (5 : Int32))])) _
    refine XS.iconst X0.here hx rfl (hb hby d1_36) ?_
    show Steps p.tables e below (s₁.setTop (mkF m 37 #[.val (.int (5 : Int32))] [(.int (4 : Int32)), (.int (5 : Int32))])) _
    refine XS.icmpYes X0.here hx rfl (pc0 := 37) (pc' := 44) rfl (hb hby d1_37) rfl (feq (by decide : ¬ ((5 : Int32) = (4 : Int32)))).2 (by decide) (by decide) ?_
    show Steps p.tables e below (s₁.setTop (mkF m 44 #[.val (.int (5 : Int32))] [])) _
    refine XS.iloadN X0.here hx rfl (hb hby d1_44) rfl ?_
    show Steps p.tables e below (s₁.setTop (mkF m 45 #[.val (.int (5 : Int32))] [(.int (5 : Int32))])) _
    refine XS.iconst X0.here hx rfl (hb hby d1_45) ?_
    show Steps p.tables e below (s₁.setTop (mkF m 46 #[.val (.int (5 : Int32))] [(.int (5 : Int32)), (.int (5 : Int32))])) _
    refine XS.icmpNo X0.here hx rfl (hb hby d1_46) rfl (teq (rfl : (5 : Int32) = (5 : Int32))).2 ?_
    show Steps p.tables e below (s₁.setTop (mkF m 49 #[.val (.int (5 : Int32))] [])) _
    refine st2 _ ?_
    show Steps p.tables e below (T2.setTop (mkF m 52 #[.val (.int (5 : Int32))] [(.ref w1)])) _
    jvm_step X2.here [X2.here.top, hx, (hb hby d1_52), X2.method', Bd.returns, Value.isRef, FieldType.isReference]
    first | (intro acts; rw [hr _ acts rfl rfl rfl]) | rw [hr _ _ rfl rfl rfl]
    exact Steps.refl _
  · show Q_rm1_5 Z w1 h0 n0 _ T2.heap _
    rw [e2]
    exact ⟨rfl, N0, rfl⟩
theorem ef_3_13 (m : MethodId)  : entryFrame m #[(.int (5 : Int32))] 2 = mkF m 0 #[.val (.int (5 : Int32)), .unset] [] := by first | (simp [entryFrame, mkF, argsToLocals, Value.category]; done) | rfl
def Q_rm3_5 (Z : State)  (h0 : Heap) (n0 : Nat) (v : Option Value) (h : Heap) (L : List Loc) : Prop := v = some (.int (0 : Int32)) ∧ Fr n0 L ∧ h = h0
set_option maxRecDepth 65536 in
set_option maxHeartbeats 40000000 in
theorem rm3_5 (l : Launch) (Z : State) (a0 : Array Value) (hw : ∀ d ∈ tables_1, d.before a0 Z = true) (ws : List Jvm.Cond)  (h0 : Heap) (n0 : Nat) (OL0 : Old Z n0 h0)  :
    MetFree l (⟨"com/example/rigorous_chains/rigorouschains/prism/OperatorIsArithmeticPinLaw", "expected", "(I)Z"⟩ : MethodName) (head1 (Jvm.Cond.code (⟨"com/example/rigorous_chains/rigorouschains/prism/OperatorIsArithmeticPinLaw", "expected", "(I)Z"⟩ : MethodName) method_3_code 2 (some .boolean) :: ws) ({ frames := 0, cells := 0, slots := 0, locals := 0 } : Room)) (fun a U => a = #[(.int (5 : Int32))] ∧ Z.Warmed39 U.vm ∧ U.heap = h0) (fun _ _ _ _ _ => True) (fun _ U o U' => ∃ v L, o = .returned v ∧ Q_rm3_5 Z  h0 n0 v U'.heap L ∧ FrameEnd U o U' L ({ frames := 0, cells := 0, slots := 0, locals := 0 } : Room).cells ({ frames := 0, cells := 0, slots := 0, locals := 0 } : Room).slots) := by
  refine MetFree.of_bodySF (plainFor_of_name pn_0) hisR ?_
  intro p e s m args below meth c s₁ Bd hml0 hP hK
  obtain ⟨rfl, hZ, hh⟩ := hP
  have hx := Bd.exec
  have hby := Bd.bytes
  have hml : c.maxLocals = 2 := hml0
  have hown : s.vm.findClass "com/example/rigorous_chains/rigorouschains/prism/OperatorIsArithmeticPinLaw" = some m.cls := findClass_of_methodNamed Bd.named
  have hnm := (name_of_methodNamed Bd.named Bd.method).1
  have X0 : Stand p l e ({ frames := 0, cells := 0, slots := 0, locals := 0 } : Room) s m #[(.int (5 : Int32))] below meth c s₁ [] 0 0 := Stand.of_body Bd
  have e0 : s₁.heap = h0 := by rw [← hh, Bd.state]; rfl
  have N0 := Fr.nil n0
  have pre0 : ∀ t, Steps p.tables e below (s₁.setTop (mkF m 0 #[.val (.int (5 : Int32)), .unset] [])) t → Steps p.tables e below (s₁.setTop (entryFrame m #[(.int (5 : Int32))] 2)) t := fun t k => castTop (ef_3_13 m ) k
  obtain ⟨fs, hr, hrun, hended, hW, hsame⟩ := X0.leave (v := some (.int (0 : Int32))) (fun h => by rw [Bd.returns] at h; cases h)
  refine ⟨_, _, pre0 _ ?_, hrun, hended, _, _, rfl, ?_, ⟨_, rfl⟩, hW, hsame.mono (by decide) (by decide)⟩
  · show Steps p.tables e below (s₁.setTop (mkF m 0 #[.val (.int (5 : Int32)), .unset] [])) _
    refine XS.iloadN X0.here hx rfl (hb hby d3_0) rfl ?_
    show Steps p.tables e below (s₁.setTop (mkF m 1 #[.val (.int (5 : Int32)), .unset] [(.int (5 : Int32))])) _
    refine XS.bipush X0.here hx rfl (hb hby d3_1) ?_
    show Steps p.tables e below (s₁.setTop (mkF m 3 #[.val (.int (5 : Int32)), .unset] [(.int (10 : Int32)), (.int (5 : Int32))])) _
    refine XS.icmpNo X0.here hx rfl (hb hby d3_3) rfl (feq (by decide : ¬ ((5 : Int32) = (10 : Int32)))).1 ?_
    show Steps p.tables e below (s₁.setTop (mkF m 6 #[.val (.int (5 : Int32)), .unset] [])) _
    refine XS.iloadN X0.here hx rfl (hb hby d3_6) rfl ?_
    show Steps p.tables e below (s₁.setTop (mkF m 7 #[.val (.int (5 : Int32)), .unset] [(.int (5 : Int32))])) _
    refine XS.bipush X0.here hx rfl (hb hby d3_7) ?_
    show Steps p.tables e below (s₁.setTop (mkF m 9 #[.val (.int (5 : Int32)), .unset] [(.int (11 : Int32)), (.int (5 : Int32))])) _
    refine XS.icmpNo X0.here hx rfl (hb hby d3_9) rfl (feq (by decide : ¬ ((5 : Int32) = (11 : Int32)))).1 ?_
    show Steps p.tables e below (s₁.setTop (mkF m 12 #[.val (.int (5 : Int32)), .unset] [])) _
    refine XS.iloadN X0.here hx rfl (hb hby d3_12) rfl ?_
    show Steps p.tables e below (s₁.setTop (mkF m 13 #[.val (.int (5 : Int32)), .unset] [(.int (5 : Int32))])) _
    refine XS.bipush X0.here hx rfl (hb hby d3_13) ?_
    show Steps p.tables e below (s₁.setTop (mkF m 15 #[.val (.int (5 : Int32)), .unset] [(.int (12 : Int32)), (.int (5 : Int32))])) _
    refine XS.icmpNo X0.here hx rfl (hb hby d3_15) rfl (feq (by decide : ¬ ((5 : Int32) = (12 : Int32)))).1 ?_
    show Steps p.tables e below (s₁.setTop (mkF m 18 #[.val (.int (5 : Int32)), .unset] [])) _
    refine XS.iloadN X0.here hx rfl (hb hby d3_18) rfl ?_
    show Steps p.tables e below (s₁.setTop (mkF m 19 #[.val (.int (5 : Int32)), .unset] [(.int (5 : Int32))])) _
    refine XS.bipush X0.here hx rfl (hb hby d3_19) ?_
    show Steps p.tables e below (s₁.setTop (mkF m 21 #[.val (.int (5 : Int32)), .unset] [(.int (13 : Int32)), (.int (5 : Int32))])) _
    refine XS.icmpYes X0.here hx rfl (pc0 := 21) (pc' := 29) rfl (hb hby d3_21) rfl (feq (by decide : ¬ ((5 : Int32) = (13 : Int32)))).2 (by decide) (by decide) ?_
    show Steps p.tables e below (s₁.setTop (mkF m 29 #[.val (.int (5 : Int32)), .unset] [])) _
    refine XS.iconst X0.here hx rfl (hb hby d3_29) ?_
    show Steps p.tables e below (s₁.setTop (mkF m 30 #[.val (.int (5 : Int32)), .unset] [(.int (0 : Int32))])) _
    refine XS.istoreN X0.here hx rfl (hb hby d3_30) rfl (l' := #[.val (.int (5 : Int32)), .val (.int (0 : Int32))]) rfl ?_
    show Steps p.tables e below (s₁.setTop (mkF m 31 #[.val (.int (5 : Int32)), .val (.int (0 : Int32))] [])) _
    refine XS.iloadN X0.here hx rfl (hb hby d3_31) rfl ?_
    show Steps p.tables e below (s₁.setTop (mkF m 32 #[.val (.int (5 : Int32)), .val (.int (0 : Int32))] [(.int (0 : Int32))])) _
    exact retN X0 hx (t := .boolean) Bd.returns (by simp) (hb hby d3_32) hr
  · show Q_rm3_5 Z  h0 n0 _ s₁.heap _
    rw [e0]
    exact ⟨rfl, N0, rfl⟩
set_option maxRecDepth 65536 in
set_option maxHeartbeats 40000000 in
theorem rm0_5 (l : Launch) (Z : State) (a0 : Array Value) (hw : ∀ d ∈ tables_1, d.before a0 Z = true) (ws : List Jvm.Cond) (p1 : Int32) (w_NOT_EQUALS : Addr) (w_PLUS : Addr) (w_MINUS : Addr) (w_TIMES : Addr) (w_DIVIDE : Addr) (h0 : Heap) (n0 : Nat) (OL0 : Old Z n0 h0) (pr1 : ((p1 &&& (2147483647 : Int32)) % (14 : Int32)) = (5 : Int32)) (pr2 : Sta Z Z.heap "com/example/rigorous_chains/rigorouschains/prism/Expression$Operator" "NOT_EQUALS" "Lcom/example/rigorous_chains/rigorouschains/prism/Expression$Operator;" (.ref w_NOT_EQUALS)) (pr3 : Sta Z Z.heap "com/example/rigorous_chains/rigorouschains/prism/Expression$Operator" "PLUS" "Lcom/example/rigorous_chains/rigorouschains/prism/Expression$Operator;" (.ref w_PLUS)) (pr4 : w_NOT_EQUALS ≠ w_PLUS) (pr5 : Sta Z Z.heap "com/example/rigorous_chains/rigorouschains/prism/Expression$Operator" "MINUS" "Lcom/example/rigorous_chains/rigorouschains/prism/Expression$Operator;" (.ref w_MINUS)) (pr6 : w_NOT_EQUALS ≠ w_MINUS) (pr7 : Sta Z Z.heap "com/example/rigorous_chains/rigorouschains/prism/Expression$Operator" "TIMES" "Lcom/example/rigorous_chains/rigorouschains/prism/Expression$Operator;" (.ref w_TIMES)) (pr8 : w_NOT_EQUALS ≠ w_TIMES) (pr9 : Sta Z Z.heap "com/example/rigorous_chains/rigorouschains/prism/Expression$Operator" "DIVIDE" "Lcom/example/rigorous_chains/rigorouschains/prism/Expression$Operator;" (.ref w_DIVIDE)) (pr10 : w_NOT_EQUALS ≠ w_DIVIDE) (pr11 : Exa Z Z.heap w_NOT_EQUALS "com/example/rigorous_chains/rigorouschains/prism/Expression$Operator") :
    MetFree l x (head1 (Jvm.Cond.code x code maxLocals ret :: ws) room_1) (fun a U => a = #[(.int p1)] ∧ Z.Warmed39 U.vm ∧ U.heap = h0) (fun _ _ _ _ _ => True) (fun _ U o U' => ∃ v L, o = .returned v ∧ Q0 n0 v L ∧ FrameEnd U o U' L 0 0) := by
  refine MetFree.of_bodySF (plainFor_of_name pn_0) hisR ?_
  intro p e s m args below meth c s₁ Bd hml0 hP hK
  obtain ⟨rfl, hZ, hh⟩ := hP
  have hx := Bd.exec
  have hby := Bd.bytes
  have hml : c.maxLocals = 3 := hml0
  have hown : s.vm.findClass "com/example/rigorous_chains/rigorouschains/prism/OperatorIsArithmeticPinLaw" = some m.cls := findClass_of_methodNamed Bd.named
  have hnm := (name_of_methodNamed Bd.named Bd.method).1
  have X0 : Stand p l e room_1 s m #[(.int p1)] below meth c s₁ [] 0 0 := Stand.of_body Bd
  have e0 : s₁.heap = h0 := by rw [← hh, Bd.state]; rfl
  have N0 := Fr.nil n0
  have pre0 : ∀ t, Steps p.tables e below (s₁.setTop (mkF m 0 #[.val (.int p1), .unset, .unset] [])) t → Steps p.tables e below (s₁.setTop (entryFrame m #[(.int p1)] maxLocals)) t := fun t k => castTop (ef_0_3 m p1) k
  obtain ⟨_, _, ⟨T1, L1, k1, n1⟩, -, X1, ⟨Lc1, hQ1, l1, y1, z1⟩, st1⟩ := Jvm.LawKit.callS X0 hx (y := (⟨"com/example/rigorous_chains/rigorouschains/prism/OperatorIsArithmeticPinLaw", "pick", "(I)Lcom/example/rigorous_chains/rigorouschains/prism/Expression$Operator;"⟩ : MethodName)) hown (mvT hZ (wd1 hw)) (mvT hZ (wd2 hw)) (mvT hZ (wd3 hw)) (mvT hZ (wd4 hw)) (by decide) (backOf (W := 0) (rm1_5 l Z a0 hw [] w_NOT_EQUALS h0 n0 OL0 pr2) hZ (wd4 hw) (wd3 hw) (by decide) (by decide)) (g := (mkF m 9 #[.val (.int p1), .val (.int (5 : Int32)), .unset] [(.int (5 : Int32))])) rfl (by rw [hml]; rfl) (argsL := [(.int (5 : Int32))]) (rest := []) (lenOf pd_0 rfl) rfl (by show 2 * 0 + _ ≤ _; exact Nat.le_of_eq rfl) (hb hby at_9) (fun _ _ => ⟨rfl, e0, (by decide : 0 + 0 ≤ _), (by decide : 0 + 0 ≤ _)⟩)
  dsimp only [Pt.U, Pt.locs, Pt.cells, Pt.slots] at X1 l1 y1 z1 st1 hQ1
  subst l1 y1 z1
  obtain ⟨rfl, Nq1, ec1⟩ := hQ1
  have N1 := Fr.app N0 Nq1
  obtain ⟨cq2, kq2, q2a, q2b, q2c⟩ := isOf hZ ec1 (pr11.ext OL0.2)
  obtain ⟨_, _, ⟨T2, L2, k2, n2⟩, -, X2, ⟨Lc2, hQ2, l2, y2, z2⟩, st2⟩ := X1.virtualBack hx (y := (⟨"com/example/rigorous_chains/rigorouschains/prism/Expression$Operator", "isArithmetic", "()Z"⟩ : MethodName)) (z := (⟨"com/example/rigorous_chains/rigorouschains/prism/Expression$Operator", "isArithmetic", "()Z"⟩ : MethodName)) hown (mvT hZ (wd8 hw)) (mvT hZ (wd9 hw)) (notFace_of_selects (args := #[]) (mvT hZ (wd11 hw))) (mvT hZ (wd11 hw)) (mvT hZ (wd10 hw)) (by decide) (backOf (W := 0) (rm2_0 l Z a0 hw [] w_NOT_EQUALS w_PLUS w_MINUS w_TIMES w_DIVIDE h0 n0 OL0 pr3 pr4 pr5 pr6 pr7 pr8 pr9 pr10) hZ (wd12 hw) (wd6 hw) (by decide) (by decide)) q2a q2c (g := (mkF m 14 #[.val (.int p1), .val (.int (5 : Int32)), .val (.ref w_NOT_EQUALS)] [(.ref w_NOT_EQUALS)])) rfl (by rw [hml]; rfl) (Steps.refl _) (argsL := []) (rest := []) (lenOf pd_1 rfl) rfl (by show 2 * 0 + _ ≤ _; exact Nat.le_of_eq rfl) (hb hby at_14) (fun _ _ => ⟨rfl, ec1, (by decide : 0 + 0 ≤ _), (by decide : 0 + 0 ≤ _)⟩)
  dsimp only [Pt.U, Pt.locs, Pt.cells, Pt.slots] at X2 l2 y2 z2 st2 hQ2
  subst l2 y2 z2
  obtain ⟨rfl, Nq2, ec2⟩ := hQ2
  have N2 := Fr.app N1 Nq2
  obtain ⟨_, _, ⟨T3, L3, k3, n3⟩, -, X3, ⟨Lc3, hQ3, l3, y3, z3⟩, st3⟩ := Jvm.LawKit.callS X2 hx (y := (⟨"com/example/rigorous_chains/rigorouschains/prism/OperatorIsArithmeticPinLaw", "expected", "(I)Z"⟩ : MethodName)) hown (mvT hZ (wd21 hw)) (mvT hZ (wd22 hw)) (mvT hZ (wd3 hw)) (mvT hZ (wd23 hw)) (by decide) (backOf (W := 1) (rm3_5 l Z a0 hw []  h0 n0 OL0 ) hZ (wd23 hw) (wd3 hw) (by decide) (by decide)) (g := (mkF m 18 #[.val (.int p1), .val (.int (5 : Int32)), .val (.ref w_NOT_EQUALS)] [(.int (5 : Int32)), (.int (0 : Int32))])) rfl (by rw [hml]; rfl) (argsL := [(.int (5 : Int32))]) (rest := [(.int (0 : Int32))]) (lenOf pd_2 rfl) rfl (by show 2 * 0 + _ ≤ _; exact Nat.le_of_eq rfl) (hb hby at_18) (fun _ _ => ⟨rfl, ec2, (by decide : 0 + 0 ≤ _), (by decide : 0 + 0 ≤ _)⟩)
  dsimp only [Pt.U, Pt.locs, Pt.cells, Pt.slots] at X3 l3 y3 z3 st3 hQ3
  subst l3 y3 z3
  obtain ⟨rfl, Nq3, ec3⟩ := hQ3
  have N3 := Fr.app N2 Nq3
  obtain ⟨fs, hr, hrun, hended, hW, hsame⟩ := X3.leave (v := some (.int (1 : Int32))) (fun h => by rw [Bd.returns] at h; cases h)
  refine ⟨_, _, pre0 _ ?_, hrun, hended, _, _, rfl, ?_, ⟨_, rfl⟩, hW, hsame.mono (by decide) (by decide)⟩
  · show Steps p.tables e below (s₁.setTop (mkF m 0 #[.val (.int p1), .unset, .unset] [])) _
    refine XS.iloadN X0.here hx rfl (hb hby at_0) rfl ?_
    show Steps p.tables e below (s₁.setTop (mkF m 1 #[.val (.int p1), .unset, .unset] [(.int p1)])) _
    refine X0.ldcInt hx hown (mvT hZ (wd0 hw)) (g := (mkF m 1 #[.val (.int p1), .unset, .unset] [(.int p1)])) rfl (hb hby at_1) _ ?_
    show Steps p.tables e below (s₁.setTop (mkF m 3 #[.val (.int p1), .unset, .unset] [(.int (2147483647 : Int32)), (.int p1)])) _
    refine XS.iand X0.here hx rfl (hb hby at_3) rfl ?_
    show Steps p.tables e below (s₁.setTop (mkF m 4 #[.val (.int p1), .unset, .unset] [(.int (p1 &&& (2147483647 : Int32)))])) _
    refine XS.bipush X0.here hx rfl (hb hby at_4) ?_
    show Steps p.tables e below (s₁.setTop (mkF m 6 #[.val (.int p1), .unset, .unset] [(.int (14 : Int32)), (.int (p1 &&& (2147483647 : Int32)))])) _
    refine iremM X0 hx rfl (hb hby at_6) rfl (by decide) ?_
    show Steps p.tables e below (s₁.setTop (mkF m 7 #[.val (.int p1), .unset, .unset] [(.int ((p1 &&& (2147483647 : Int32)) % (14 : Int32)))])) _
    rw [pr1]
    show Steps p.tables e below (s₁.setTop (mkF m 7 #[.val (.int p1), .unset, .unset] [(.int (5 : Int32))])) _
    refine XS.istoreN X0.here hx rfl (hb hby at_7) rfl (l' := #[.val (.int p1), .val (.int (5 : Int32)), .unset]) rfl ?_
    show Steps p.tables e below (s₁.setTop (mkF m 8 #[.val (.int p1), .val (.int (5 : Int32)), .unset] [])) _
    refine XS.iloadN X0.here hx rfl (hb hby at_8) rfl ?_
    show Steps p.tables e below (s₁.setTop (mkF m 9 #[.val (.int p1), .val (.int (5 : Int32)), .unset] [(.int (5 : Int32))])) _
    refine st1 _ ?_
    show Steps p.tables e below (T1.setTop (mkF m 12 #[.val (.int p1), .val (.int (5 : Int32)), .unset] [(.ref w_NOT_EQUALS)])) _
    refine XS.astoreN X1.here hx rfl (hb hby at_12) rfl rfl (l' := #[.val (.int p1), .val (.int (5 : Int32)), .val (.ref w_NOT_EQUALS)]) rfl ?_
    show Steps p.tables e below (T1.setTop (mkF m 13 #[.val (.int p1), .val (.int (5 : Int32)), .val (.ref w_NOT_EQUALS)] [])) _
    refine XS.aloadN X1.here hx rfl (hb hby at_13) rfl rfl ?_
    show Steps p.tables e below (T1.setTop (mkF m 14 #[.val (.int p1), .val (.int (5 : Int32)), .val (.ref w_NOT_EQUALS)] [(.ref w_NOT_EQUALS)])) _
    refine st2.trans ?_
    show Steps p.tables e below (T2.setTop (mkF m 17 #[.val (.int p1), .val (.int (5 : Int32)), .val (.ref w_NOT_EQUALS)] [(.int (0 : Int32))])) _
    refine XS.iloadN X2.here hx rfl (hb hby at_17) rfl ?_
    show Steps p.tables e below (T2.setTop (mkF m 18 #[.val (.int p1), .val (.int (5 : Int32)), .val (.ref w_NOT_EQUALS)] [(.int (5 : Int32)), (.int (0 : Int32))])) _
    refine st3 _ ?_
    show Steps p.tables e below (T3.setTop (mkF m 21 #[.val (.int p1), .val (.int (5 : Int32)), .val (.ref w_NOT_EQUALS)] [(.int (0 : Int32)), (.int (0 : Int32))])) _
    refine XS.icmpNo X3.here hx rfl (hb hby at_21) rfl (teq (rfl : (0 : Int32) = (0 : Int32))).2 ?_
    show Steps p.tables e below (T3.setTop (mkF m 24 #[.val (.int p1), .val (.int (5 : Int32)), .val (.ref w_NOT_EQUALS)] [])) _
    refine XS.iconst X3.here hx rfl (hb hby at_24) ?_
    show Steps p.tables e below (T3.setTop (mkF m 25 #[.val (.int p1), .val (.int (5 : Int32)), .val (.ref w_NOT_EQUALS)] [(.int (1 : Int32))])) _
    refine XS.goto X3.here hx rfl (pc0 := 25) (pc' := 29) rfl (hb hby at_25) (by decide) (by decide) ?_
    show Steps p.tables e below (T3.setTop (mkF m 29 #[.val (.int p1), .val (.int (5 : Int32)), .val (.ref w_NOT_EQUALS)] [(.int (1 : Int32))])) _
    exact retN X3 hx (t := .boolean) Bd.returns (by simp) (hb hby at_29) hr
  · exact ⟨rfl, N3⟩
theorem d1_53 : decode method_2_code 53 = .ok (.iload_n 0, 1) := by decide +kernel
theorem d1_54 : decode method_2_code 54 = .ok (.bipush 6, 2) := by decide +kernel
theorem d1_56 : decode method_2_code 56 = .ok (.if_icmp .ne 7, 3) := by decide +kernel
theorem d1_59 : decode method_2_code 59 = .ok (.getstatic 28, 3) := by decide +kernel
theorem d1_62 : decode method_2_code 62 = .ok (.areturn, 1) := by decide +kernel
theorem ef_1_14 (m : MethodId)  : entryFrame m #[(.int (6 : Int32))] 1 = mkF m 0 #[.val (.int (6 : Int32))] [] := by first | (simp [entryFrame, mkF, argsToLocals, Value.category]; done) | rfl
def Q_rm1_6 (Z : State) (w1 : Addr) (h0 : Heap) (n0 : Nat) (v : Option Value) (h : Heap) (L : List Loc) : Prop := v = some (.ref w1) ∧ Fr n0 L ∧ h = h0
set_option maxRecDepth 65536 in
set_option maxHeartbeats 40000000 in
theorem rm1_6 (l : Launch) (Z : State) (a0 : Array Value) (hw : ∀ d ∈ tables_1, d.before a0 Z = true) (ws : List Jvm.Cond) (w1 : Addr) (h0 : Heap) (n0 : Nat) (OL0 : Old Z n0 h0) (pr1 : Sta Z Z.heap "com/example/rigorous_chains/rigorouschains/prism/Expression$Operator" "LESS" "Lcom/example/rigorous_chains/rigorouschains/prism/Expression$Operator;" (.ref w1)) :
    MetFree l (⟨"com/example/rigorous_chains/rigorouschains/prism/OperatorIsArithmeticPinLaw", "pick", "(I)Lcom/example/rigorous_chains/rigorouschains/prism/Expression$Operator;"⟩ : MethodName) (head1 (Jvm.Cond.code (⟨"com/example/rigorous_chains/rigorouschains/prism/OperatorIsArithmeticPinLaw", "pick", "(I)Lcom/example/rigorous_chains/rigorouschains/prism/Expression$Operator;"⟩ : MethodName) method_2_code 1 (some (.object "com/example/rigorous_chains/rigorouschains/prism/Expression$Operator")) :: ws) ({ frames := 0, cells := 0, slots := 0, locals := 0 } : Room)) (fun a U => a = #[(.int (6 : Int32))] ∧ Z.Warmed39 U.vm ∧ U.heap = h0) (fun _ _ _ _ _ => True) (fun _ U o U' => ∃ v L, o = .returned v ∧ Q_rm1_6 Z w1 h0 n0 v U'.heap L ∧ FrameEnd U o U' L ({ frames := 0, cells := 0, slots := 0, locals := 0 } : Room).cells ({ frames := 0, cells := 0, slots := 0, locals := 0 } : Room).slots) := by
  refine MetFree.of_bodySF (plainFor_of_name pn_0) hisR ?_
  intro p e s m args below meth c s₁ Bd hml0 hP hK
  obtain ⟨rfl, hZ, hh⟩ := hP
  have hx := Bd.exec
  have hby := Bd.bytes
  have hml : c.maxLocals = 1 := hml0
  have hown : s.vm.findClass "com/example/rigorous_chains/rigorouschains/prism/OperatorIsArithmeticPinLaw" = some m.cls := findClass_of_methodNamed Bd.named
  have hnm := (name_of_methodNamed Bd.named Bd.method).1
  have X0 : Stand p l e ({ frames := 0, cells := 0, slots := 0, locals := 0 } : Room) s m #[(.int (6 : Int32))] below meth c s₁ [] 0 0 := Stand.of_body Bd
  have e0 : s₁.heap = h0 := by rw [← hh, Bd.state]; rfl
  have N0 := Fr.nil n0
  have pre0 : ∀ t, Steps p.tables e below (s₁.setTop (mkF m 0 #[.val (.int (6 : Int32))] [])) t → Steps p.tables e below (s₁.setTop (entryFrame m #[(.int (6 : Int32))] 1)) t := fun t k => castTop (ef_1_14 m ) k
  obtain ⟨T2, X2, e2, st2⟩ := getS2 X0 hx hZ hown (host := "") (Or.inl (wd44 hw)) Via.refl e0 (pr1.ext OL0.2) (g := (mkF m 59 #[.val (.int (6 : Int32))] [])) rfl (hb hby d1_59)
  obtain ⟨fs, hr, hrun, hended, hW, hsame⟩ := X2.leave (v := some (.ref w1)) (fun h => by rw [Bd.returns] at h; cases h)
  refine ⟨_, _, pre0 _ ?_, hrun, hended, _, _, rfl, ?_, ⟨_, rfl⟩, hW, hsame.mono (by decide) (by decide)⟩
  · show Steps p.tables e below (s₁.setTop (mkF m 0 #[.val (.int (6 : Int32))] [])) _
    refine XS.iloadN X0.here hx rfl (hb hby d1_0) rfl ?_
    show Steps p.tables e below (s₁.setTop (mkF m 1 #[.val (.int (6 : Int32))] [(.int (6 : Int32))])) _
    refine XS.ifYes X0.here hx rfl (pc0 := 1) (pc' := 8) rfl (hb hby d1_1) rfl ((if0 _ _).trans (feq (by decide : ¬ ((6 : Int32) = (0 : Int32)))).2) (by decide) (by decide) ?_
    show Steps p.tables e below (s₁.setTop (mkF m 8 #[.val (.int (6 : Int32))] [])) _
    refine XS.iloadN X0.here hx rfl (hb hby d1_8) rfl ?_
    show Steps p.tables e below (s₁.setTop (mkF m 9 #[.val (.int (6 : Int32))] [(.int (6 : Int32))])) _
    refine XS.iconst X0.here hx rfl (hb hby d1_9) ?_
    show Steps p.tables e below (s₁.setTop (mkF m 10 #[.val (.int (6 : Int32))] [(.int (1 : Int32)), (.int (6 : Int32))])) _
    refine XS.icmpYes X0.here hx rfl (pc0 := 10) (pc' := 17) rfl (hb hby d1_10) rfl (feq (by decide : ¬ ((6 : Int32) = (1 : Int32)))).2 (by decide) (by decide) ?_
    show Steps p.tables e below (s₁.setTop (mkF m 17 #[.val (.int (6 : Int32))] [])) _
    refine XS.iloadN X0.here hx rfl (hb hby d1_17) rfl ?_
    show Steps p.tables e below (s₁.setTop (mkF m 18 #[.val (.int (6 : Int32))] [(.int (6 : Int32))])) _
    refine XS.iconst X0.here hx rfl (hb hby d1_18) ?_
    show Steps p.tables e below (s₁.setTop (mkF m 19 #[.val (.int (6 : Int32))] [(.int (2 : Int32)), (.int (6 : Int32))])) _
    refine XS.icmpYes X0.here hx rfl (pc0 := 19) (pc' := 26) rfl (hb hby d1_19) rfl (feq (by decide : ¬ ((6 : Int32) = (2 : Int32)))).2 (by decide) (by decide) ?_
    show Steps p.tables e below (s₁.setTop (mkF m 26 #[.val (.int (6 : Int32))] [])) _
    refine XS.iloadN X0.here hx rfl (hb hby d1_26) rfl ?_
    show Steps p.tables e below (s₁.setTop (mkF m 27 #[.val (.int (6 : Int32))] [(.int (6 : Int32))])) _
    refine XS.iconst X0.here hx rfl (hb hby d1_27) ?_
    show Steps p.tables e below (s₁.setTop (mkF m 28 #[.val (.int (6 : Int32))] [(.int (3 : Int32)), (.int (6 : Int32))])) _
    refine XS.icmpYes X0.here hx rfl (pc0 := 28) (pc' := 35) rfl (hb hby d1_28) rfl (feq (by decide : ¬ ((6 : Int32) = (3 : Int32)))).2 (by decide) (by decide) ?_
    show Steps p.tables e below (s₁.setTop (mkF m 35 #[.val (.int (6 : Int32))] [])) _
    refine XS.iloadN X0.here hx rfl (hb hby d1_35) rfl ?_
    show Steps p.tables e below (s₁.setTop (mkF m 36 #[.val (.int (6 : Int32))] [(.int (6 : Int32))])) _
    refine XS.iconst X0.here hx rfl (hb hby d1_36) ?_
    show Steps p.tables e below (s₁.setTop (mkF m 37 #[.val (.int (6 : Int32))] [(.int (4 : Int32)), (.int (6 : Int32))])) _
    refine XS.icmpYes X0.here hx rfl (pc0 := 37) (pc' := 44) rfl (hb hby d1_37) rfl (feq (by decide : ¬ ((6 : Int32) = (4 : Int32)))).2 (by decide) (by decide) ?_
    show Steps p.tables e below (s₁.setTop (mkF m 44 #[.val (.int (6 : Int32))] [])) _
    refine XS.iloadN X0.here hx rfl (hb hby d1_44) rfl ?_
    show Steps p.tables e below (s₁.setTop (mkF m 45 #[.val (.int (6 : Int32))] [(.int (6 : Int32))])) _
    refine XS.iconst X0.here hx rfl (hb hby d1_45) ?_
    show Steps p.tables e below (s₁.setTop (mkF m 46 #[.val (.int (6 : Int32))] [(.int (5 : Int32)), (.int (6 : Int32))])) _
    refine XS.icmpYes X0.here hx rfl (pc0 := 46) (pc' := 53) rfl (hb hby d1_46) rfl (feq (by decide : ¬ ((6 : Int32) = (5 : Int32)))).2 (by decide) (by decide) ?_
    show Steps p.tables e below (s₁.setTop (mkF m 53 #[.val (.int (6 : Int32))] [])) _
    refine XS.iloadN X0.here hx rfl (hb hby d1_53) rfl ?_
    show Steps p.tables e below (s₁.setTop (mkF m 54 #[.val (.int (6 : Int32))] [(.int (6 : Int32))])) _
    refine XS.bipush X0.here hx rfl (hb hby d1_54) ?_
    show Steps p.tables e below (s₁.setTop (mkF m 56 #[.val (.int (6 : Int32))] [(.int (6 : Int32)), (.int (6 : Int32))])) _
    refine XS.icmpNo X0.here hx rfl (hb hby d1_56) rfl (teq (rfl : (6 : Int32) = (6 : Int32))).2 ?_
    show Steps p.tables e below (s₁.setTop (mkF m 59 #[.val (.int (6 : Int32))] [])) _
    refine st2 _ ?_
    show Steps p.tables e below (T2.setTop (mkF m 62 #[.val (.int (6 : Int32))] [(.ref w1)])) _
    jvm_step X2.here [X2.here.top, hx, (hb hby d1_62), X2.method', Bd.returns, Value.isRef, FieldType.isReference]
    first | (intro acts; rw [hr _ acts rfl rfl rfl]) | rw [hr _ _ rfl rfl rfl]
    exact Steps.refl _
  · show Q_rm1_6 Z w1 h0 n0 _ T2.heap _
    rw [e2]
    exact ⟨rfl, N0, rfl⟩
theorem ef_3_15 (m : MethodId)  : entryFrame m #[(.int (6 : Int32))] 2 = mkF m 0 #[.val (.int (6 : Int32)), .unset] [] := by first | (simp [entryFrame, mkF, argsToLocals, Value.category]; done) | rfl
def Q_rm3_6 (Z : State)  (h0 : Heap) (n0 : Nat) (v : Option Value) (h : Heap) (L : List Loc) : Prop := v = some (.int (0 : Int32)) ∧ Fr n0 L ∧ h = h0
set_option maxRecDepth 65536 in
set_option maxHeartbeats 40000000 in
theorem rm3_6 (l : Launch) (Z : State) (a0 : Array Value) (hw : ∀ d ∈ tables_1, d.before a0 Z = true) (ws : List Jvm.Cond)  (h0 : Heap) (n0 : Nat) (OL0 : Old Z n0 h0)  :
    MetFree l (⟨"com/example/rigorous_chains/rigorouschains/prism/OperatorIsArithmeticPinLaw", "expected", "(I)Z"⟩ : MethodName) (head1 (Jvm.Cond.code (⟨"com/example/rigorous_chains/rigorouschains/prism/OperatorIsArithmeticPinLaw", "expected", "(I)Z"⟩ : MethodName) method_3_code 2 (some .boolean) :: ws) ({ frames := 0, cells := 0, slots := 0, locals := 0 } : Room)) (fun a U => a = #[(.int (6 : Int32))] ∧ Z.Warmed39 U.vm ∧ U.heap = h0) (fun _ _ _ _ _ => True) (fun _ U o U' => ∃ v L, o = .returned v ∧ Q_rm3_6 Z  h0 n0 v U'.heap L ∧ FrameEnd U o U' L ({ frames := 0, cells := 0, slots := 0, locals := 0 } : Room).cells ({ frames := 0, cells := 0, slots := 0, locals := 0 } : Room).slots) := by
  refine MetFree.of_bodySF (plainFor_of_name pn_0) hisR ?_
  intro p e s m args below meth c s₁ Bd hml0 hP hK
  obtain ⟨rfl, hZ, hh⟩ := hP
  have hx := Bd.exec
  have hby := Bd.bytes
  have hml : c.maxLocals = 2 := hml0
  have hown : s.vm.findClass "com/example/rigorous_chains/rigorouschains/prism/OperatorIsArithmeticPinLaw" = some m.cls := findClass_of_methodNamed Bd.named
  have hnm := (name_of_methodNamed Bd.named Bd.method).1
  have X0 : Stand p l e ({ frames := 0, cells := 0, slots := 0, locals := 0 } : Room) s m #[(.int (6 : Int32))] below meth c s₁ [] 0 0 := Stand.of_body Bd
  have e0 : s₁.heap = h0 := by rw [← hh, Bd.state]; rfl
  have N0 := Fr.nil n0
  have pre0 : ∀ t, Steps p.tables e below (s₁.setTop (mkF m 0 #[.val (.int (6 : Int32)), .unset] [])) t → Steps p.tables e below (s₁.setTop (entryFrame m #[(.int (6 : Int32))] 2)) t := fun t k => castTop (ef_3_15 m ) k
  obtain ⟨fs, hr, hrun, hended, hW, hsame⟩ := X0.leave (v := some (.int (0 : Int32))) (fun h => by rw [Bd.returns] at h; cases h)
  refine ⟨_, _, pre0 _ ?_, hrun, hended, _, _, rfl, ?_, ⟨_, rfl⟩, hW, hsame.mono (by decide) (by decide)⟩
  · show Steps p.tables e below (s₁.setTop (mkF m 0 #[.val (.int (6 : Int32)), .unset] [])) _
    refine XS.iloadN X0.here hx rfl (hb hby d3_0) rfl ?_
    show Steps p.tables e below (s₁.setTop (mkF m 1 #[.val (.int (6 : Int32)), .unset] [(.int (6 : Int32))])) _
    refine XS.bipush X0.here hx rfl (hb hby d3_1) ?_
    show Steps p.tables e below (s₁.setTop (mkF m 3 #[.val (.int (6 : Int32)), .unset] [(.int (10 : Int32)), (.int (6 : Int32))])) _
    refine XS.icmpNo X0.here hx rfl (hb hby d3_3) rfl (feq (by decide : ¬ ((6 : Int32) = (10 : Int32)))).1 ?_
    show Steps p.tables e below (s₁.setTop (mkF m 6 #[.val (.int (6 : Int32)), .unset] [])) _
    refine XS.iloadN X0.here hx rfl (hb hby d3_6) rfl ?_
    show Steps p.tables e below (s₁.setTop (mkF m 7 #[.val (.int (6 : Int32)), .unset] [(.int (6 : Int32))])) _
    refine XS.bipush X0.here hx rfl (hb hby d3_7) ?_
    show Steps p.tables e below (s₁.setTop (mkF m 9 #[.val (.int (6 : Int32)), .unset] [(.int (11 : Int32)), (.int (6 : Int32))])) _
    refine XS.icmpNo X0.here hx rfl (hb hby d3_9) rfl (feq (by decide : ¬ ((6 : Int32) = (11 : Int32)))).1 ?_
    show Steps p.tables e below (s₁.setTop (mkF m 12 #[.val (.int (6 : Int32)), .unset] [])) _
    refine XS.iloadN X0.here hx rfl (hb hby d3_12) rfl ?_
    show Steps p.tables e below (s₁.setTop (mkF m 13 #[.val (.int (6 : Int32)), .unset] [(.int (6 : Int32))])) _
    refine XS.bipush X0.here hx rfl (hb hby d3_13) ?_
    show Steps p.tables e below (s₁.setTop (mkF m 15 #[.val (.int (6 : Int32)), .unset] [(.int (12 : Int32)), (.int (6 : Int32))])) _
    refine XS.icmpNo X0.here hx rfl (hb hby d3_15) rfl (feq (by decide : ¬ ((6 : Int32) = (12 : Int32)))).1 ?_
    show Steps p.tables e below (s₁.setTop (mkF m 18 #[.val (.int (6 : Int32)), .unset] [])) _
    refine XS.iloadN X0.here hx rfl (hb hby d3_18) rfl ?_
    show Steps p.tables e below (s₁.setTop (mkF m 19 #[.val (.int (6 : Int32)), .unset] [(.int (6 : Int32))])) _
    refine XS.bipush X0.here hx rfl (hb hby d3_19) ?_
    show Steps p.tables e below (s₁.setTop (mkF m 21 #[.val (.int (6 : Int32)), .unset] [(.int (13 : Int32)), (.int (6 : Int32))])) _
    refine XS.icmpYes X0.here hx rfl (pc0 := 21) (pc' := 29) rfl (hb hby d3_21) rfl (feq (by decide : ¬ ((6 : Int32) = (13 : Int32)))).2 (by decide) (by decide) ?_
    show Steps p.tables e below (s₁.setTop (mkF m 29 #[.val (.int (6 : Int32)), .unset] [])) _
    refine XS.iconst X0.here hx rfl (hb hby d3_29) ?_
    show Steps p.tables e below (s₁.setTop (mkF m 30 #[.val (.int (6 : Int32)), .unset] [(.int (0 : Int32))])) _
    refine XS.istoreN X0.here hx rfl (hb hby d3_30) rfl (l' := #[.val (.int (6 : Int32)), .val (.int (0 : Int32))]) rfl ?_
    show Steps p.tables e below (s₁.setTop (mkF m 31 #[.val (.int (6 : Int32)), .val (.int (0 : Int32))] [])) _
    refine XS.iloadN X0.here hx rfl (hb hby d3_31) rfl ?_
    show Steps p.tables e below (s₁.setTop (mkF m 32 #[.val (.int (6 : Int32)), .val (.int (0 : Int32))] [(.int (0 : Int32))])) _
    exact retN X0 hx (t := .boolean) Bd.returns (by simp) (hb hby d3_32) hr
  · show Q_rm3_6 Z  h0 n0 _ s₁.heap _
    rw [e0]
    exact ⟨rfl, N0, rfl⟩
set_option maxRecDepth 65536 in
set_option maxHeartbeats 40000000 in
theorem rm0_6 (l : Launch) (Z : State) (a0 : Array Value) (hw : ∀ d ∈ tables_1, d.before a0 Z = true) (ws : List Jvm.Cond) (p1 : Int32) (w_LESS : Addr) (w_PLUS : Addr) (w_MINUS : Addr) (w_TIMES : Addr) (w_DIVIDE : Addr) (h0 : Heap) (n0 : Nat) (OL0 : Old Z n0 h0) (pr1 : ((p1 &&& (2147483647 : Int32)) % (14 : Int32)) = (6 : Int32)) (pr2 : Sta Z Z.heap "com/example/rigorous_chains/rigorouschains/prism/Expression$Operator" "LESS" "Lcom/example/rigorous_chains/rigorouschains/prism/Expression$Operator;" (.ref w_LESS)) (pr3 : Sta Z Z.heap "com/example/rigorous_chains/rigorouschains/prism/Expression$Operator" "PLUS" "Lcom/example/rigorous_chains/rigorouschains/prism/Expression$Operator;" (.ref w_PLUS)) (pr4 : w_LESS ≠ w_PLUS) (pr5 : Sta Z Z.heap "com/example/rigorous_chains/rigorouschains/prism/Expression$Operator" "MINUS" "Lcom/example/rigorous_chains/rigorouschains/prism/Expression$Operator;" (.ref w_MINUS)) (pr6 : w_LESS ≠ w_MINUS) (pr7 : Sta Z Z.heap "com/example/rigorous_chains/rigorouschains/prism/Expression$Operator" "TIMES" "Lcom/example/rigorous_chains/rigorouschains/prism/Expression$Operator;" (.ref w_TIMES)) (pr8 : w_LESS ≠ w_TIMES) (pr9 : Sta Z Z.heap "com/example/rigorous_chains/rigorouschains/prism/Expression$Operator" "DIVIDE" "Lcom/example/rigorous_chains/rigorouschains/prism/Expression$Operator;" (.ref w_DIVIDE)) (pr10 : w_LESS ≠ w_DIVIDE) (pr11 : Exa Z Z.heap w_LESS "com/example/rigorous_chains/rigorouschains/prism/Expression$Operator") :
    MetFree l x (head1 (Jvm.Cond.code x code maxLocals ret :: ws) room_1) (fun a U => a = #[(.int p1)] ∧ Z.Warmed39 U.vm ∧ U.heap = h0) (fun _ _ _ _ _ => True) (fun _ U o U' => ∃ v L, o = .returned v ∧ Q0 n0 v L ∧ FrameEnd U o U' L 0 0) := by
  refine MetFree.of_bodySF (plainFor_of_name pn_0) hisR ?_
  intro p e s m args below meth c s₁ Bd hml0 hP hK
  obtain ⟨rfl, hZ, hh⟩ := hP
  have hx := Bd.exec
  have hby := Bd.bytes
  have hml : c.maxLocals = 3 := hml0
  have hown : s.vm.findClass "com/example/rigorous_chains/rigorouschains/prism/OperatorIsArithmeticPinLaw" = some m.cls := findClass_of_methodNamed Bd.named
  have hnm := (name_of_methodNamed Bd.named Bd.method).1
  have X0 : Stand p l e room_1 s m #[(.int p1)] below meth c s₁ [] 0 0 := Stand.of_body Bd
  have e0 : s₁.heap = h0 := by rw [← hh, Bd.state]; rfl
  have N0 := Fr.nil n0
  have pre0 : ∀ t, Steps p.tables e below (s₁.setTop (mkF m 0 #[.val (.int p1), .unset, .unset] [])) t → Steps p.tables e below (s₁.setTop (entryFrame m #[(.int p1)] maxLocals)) t := fun t k => castTop (ef_0_3 m p1) k
  obtain ⟨_, _, ⟨T1, L1, k1, n1⟩, -, X1, ⟨Lc1, hQ1, l1, y1, z1⟩, st1⟩ := Jvm.LawKit.callS X0 hx (y := (⟨"com/example/rigorous_chains/rigorouschains/prism/OperatorIsArithmeticPinLaw", "pick", "(I)Lcom/example/rigorous_chains/rigorouschains/prism/Expression$Operator;"⟩ : MethodName)) hown (mvT hZ (wd1 hw)) (mvT hZ (wd2 hw)) (mvT hZ (wd3 hw)) (mvT hZ (wd4 hw)) (by decide) (backOf (W := 0) (rm1_6 l Z a0 hw [] w_LESS h0 n0 OL0 pr2) hZ (wd4 hw) (wd3 hw) (by decide) (by decide)) (g := (mkF m 9 #[.val (.int p1), .val (.int (6 : Int32)), .unset] [(.int (6 : Int32))])) rfl (by rw [hml]; rfl) (argsL := [(.int (6 : Int32))]) (rest := []) (lenOf pd_0 rfl) rfl (by show 2 * 0 + _ ≤ _; exact Nat.le_of_eq rfl) (hb hby at_9) (fun _ _ => ⟨rfl, e0, (by decide : 0 + 0 ≤ _), (by decide : 0 + 0 ≤ _)⟩)
  dsimp only [Pt.U, Pt.locs, Pt.cells, Pt.slots] at X1 l1 y1 z1 st1 hQ1
  subst l1 y1 z1
  obtain ⟨rfl, Nq1, ec1⟩ := hQ1
  have N1 := Fr.app N0 Nq1
  obtain ⟨cq2, kq2, q2a, q2b, q2c⟩ := isOf hZ ec1 (pr11.ext OL0.2)
  obtain ⟨_, _, ⟨T2, L2, k2, n2⟩, -, X2, ⟨Lc2, hQ2, l2, y2, z2⟩, st2⟩ := X1.virtualBack hx (y := (⟨"com/example/rigorous_chains/rigorouschains/prism/Expression$Operator", "isArithmetic", "()Z"⟩ : MethodName)) (z := (⟨"com/example/rigorous_chains/rigorouschains/prism/Expression$Operator", "isArithmetic", "()Z"⟩ : MethodName)) hown (mvT hZ (wd8 hw)) (mvT hZ (wd9 hw)) (notFace_of_selects (args := #[]) (mvT hZ (wd11 hw))) (mvT hZ (wd11 hw)) (mvT hZ (wd10 hw)) (by decide) (backOf (W := 0) (rm2_0 l Z a0 hw [] w_LESS w_PLUS w_MINUS w_TIMES w_DIVIDE h0 n0 OL0 pr3 pr4 pr5 pr6 pr7 pr8 pr9 pr10) hZ (wd12 hw) (wd6 hw) (by decide) (by decide)) q2a q2c (g := (mkF m 14 #[.val (.int p1), .val (.int (6 : Int32)), .val (.ref w_LESS)] [(.ref w_LESS)])) rfl (by rw [hml]; rfl) (Steps.refl _) (argsL := []) (rest := []) (lenOf pd_1 rfl) rfl (by show 2 * 0 + _ ≤ _; exact Nat.le_of_eq rfl) (hb hby at_14) (fun _ _ => ⟨rfl, ec1, (by decide : 0 + 0 ≤ _), (by decide : 0 + 0 ≤ _)⟩)
  dsimp only [Pt.U, Pt.locs, Pt.cells, Pt.slots] at X2 l2 y2 z2 st2 hQ2
  subst l2 y2 z2
  obtain ⟨rfl, Nq2, ec2⟩ := hQ2
  have N2 := Fr.app N1 Nq2
  obtain ⟨_, _, ⟨T3, L3, k3, n3⟩, -, X3, ⟨Lc3, hQ3, l3, y3, z3⟩, st3⟩ := Jvm.LawKit.callS X2 hx (y := (⟨"com/example/rigorous_chains/rigorouschains/prism/OperatorIsArithmeticPinLaw", "expected", "(I)Z"⟩ : MethodName)) hown (mvT hZ (wd21 hw)) (mvT hZ (wd22 hw)) (mvT hZ (wd3 hw)) (mvT hZ (wd23 hw)) (by decide) (backOf (W := 1) (rm3_6 l Z a0 hw []  h0 n0 OL0 ) hZ (wd23 hw) (wd3 hw) (by decide) (by decide)) (g := (mkF m 18 #[.val (.int p1), .val (.int (6 : Int32)), .val (.ref w_LESS)] [(.int (6 : Int32)), (.int (0 : Int32))])) rfl (by rw [hml]; rfl) (argsL := [(.int (6 : Int32))]) (rest := [(.int (0 : Int32))]) (lenOf pd_2 rfl) rfl (by show 2 * 0 + _ ≤ _; exact Nat.le_of_eq rfl) (hb hby at_18) (fun _ _ => ⟨rfl, ec2, (by decide : 0 + 0 ≤ _), (by decide : 0 + 0 ≤ _)⟩)
  dsimp only [Pt.U, Pt.locs, Pt.cells, Pt.slots] at X3 l3 y3 z3 st3 hQ3
  subst l3 y3 z3
  obtain ⟨rfl, Nq3, ec3⟩ := hQ3
  have N3 := Fr.app N2 Nq3
  obtain ⟨fs, hr, hrun, hended, hW, hsame⟩ := X3.leave (v := some (.int (1 : Int32))) (fun h => by rw [Bd.returns] at h; cases h)
  refine ⟨_, _, pre0 _ ?_, hrun, hended, _, _, rfl, ?_, ⟨_, rfl⟩, hW, hsame.mono (by decide) (by decide)⟩
  · show Steps p.tables e below (s₁.setTop (mkF m 0 #[.val (.int p1), .unset, .unset] [])) _
    refine XS.iloadN X0.here hx rfl (hb hby at_0) rfl ?_
    show Steps p.tables e below (s₁.setTop (mkF m 1 #[.val (.int p1), .unset, .unset] [(.int p1)])) _
    refine X0.ldcInt hx hown (mvT hZ (wd0 hw)) (g := (mkF m 1 #[.val (.int p1), .unset, .unset] [(.int p1)])) rfl (hb hby at_1) _ ?_
    show Steps p.tables e below (s₁.setTop (mkF m 3 #[.val (.int p1), .unset, .unset] [(.int (2147483647 : Int32)), (.int p1)])) _
    refine XS.iand X0.here hx rfl (hb hby at_3) rfl ?_
    show Steps p.tables e below (s₁.setTop (mkF m 4 #[.val (.int p1), .unset, .unset] [(.int (p1 &&& (2147483647 : Int32)))])) _
    refine XS.bipush X0.here hx rfl (hb hby at_4) ?_
    show Steps p.tables e below (s₁.setTop (mkF m 6 #[.val (.int p1), .unset, .unset] [(.int (14 : Int32)), (.int (p1 &&& (2147483647 : Int32)))])) _
    refine iremM X0 hx rfl (hb hby at_6) rfl (by decide) ?_
    show Steps p.tables e below (s₁.setTop (mkF m 7 #[.val (.int p1), .unset, .unset] [(.int ((p1 &&& (2147483647 : Int32)) % (14 : Int32)))])) _
    rw [pr1]
    show Steps p.tables e below (s₁.setTop (mkF m 7 #[.val (.int p1), .unset, .unset] [(.int (6 : Int32))])) _
    refine XS.istoreN X0.here hx rfl (hb hby at_7) rfl (l' := #[.val (.int p1), .val (.int (6 : Int32)), .unset]) rfl ?_
    show Steps p.tables e below (s₁.setTop (mkF m 8 #[.val (.int p1), .val (.int (6 : Int32)), .unset] [])) _
    refine XS.iloadN X0.here hx rfl (hb hby at_8) rfl ?_
    show Steps p.tables e below (s₁.setTop (mkF m 9 #[.val (.int p1), .val (.int (6 : Int32)), .unset] [(.int (6 : Int32))])) _
    refine st1 _ ?_
    show Steps p.tables e below (T1.setTop (mkF m 12 #[.val (.int p1), .val (.int (6 : Int32)), .unset] [(.ref w_LESS)])) _
    refine XS.astoreN X1.here hx rfl (hb hby at_12) rfl rfl (l' := #[.val (.int p1), .val (.int (6 : Int32)), .val (.ref w_LESS)]) rfl ?_
    show Steps p.tables e below (T1.setTop (mkF m 13 #[.val (.int p1), .val (.int (6 : Int32)), .val (.ref w_LESS)] [])) _
    refine XS.aloadN X1.here hx rfl (hb hby at_13) rfl rfl ?_
    show Steps p.tables e below (T1.setTop (mkF m 14 #[.val (.int p1), .val (.int (6 : Int32)), .val (.ref w_LESS)] [(.ref w_LESS)])) _
    refine st2.trans ?_
    show Steps p.tables e below (T2.setTop (mkF m 17 #[.val (.int p1), .val (.int (6 : Int32)), .val (.ref w_LESS)] [(.int (0 : Int32))])) _
    refine XS.iloadN X2.here hx rfl (hb hby at_17) rfl ?_
    show Steps p.tables e below (T2.setTop (mkF m 18 #[.val (.int p1), .val (.int (6 : Int32)), .val (.ref w_LESS)] [(.int (6 : Int32)), (.int (0 : Int32))])) _
    refine st3 _ ?_
    show Steps p.tables e below (T3.setTop (mkF m 21 #[.val (.int p1), .val (.int (6 : Int32)), .val (.ref w_LESS)] [(.int (0 : Int32)), (.int (0 : Int32))])) _
    refine XS.icmpNo X3.here hx rfl (hb hby at_21) rfl (teq (rfl : (0 : Int32) = (0 : Int32))).2 ?_
    show Steps p.tables e below (T3.setTop (mkF m 24 #[.val (.int p1), .val (.int (6 : Int32)), .val (.ref w_LESS)] [])) _
    refine XS.iconst X3.here hx rfl (hb hby at_24) ?_
    show Steps p.tables e below (T3.setTop (mkF m 25 #[.val (.int p1), .val (.int (6 : Int32)), .val (.ref w_LESS)] [(.int (1 : Int32))])) _
    refine XS.goto X3.here hx rfl (pc0 := 25) (pc' := 29) rfl (hb hby at_25) (by decide) (by decide) ?_
    show Steps p.tables e below (T3.setTop (mkF m 29 #[.val (.int p1), .val (.int (6 : Int32)), .val (.ref w_LESS)] [(.int (1 : Int32))])) _
    exact retN X3 hx (t := .boolean) Bd.returns (by simp) (hb hby at_29) hr
  · exact ⟨rfl, N3⟩
theorem d1_63 : decode method_2_code 63 = .ok (.iload_n 0, 1) := by decide +kernel
theorem d1_64 : decode method_2_code 64 = .ok (.bipush 7, 2) := by decide +kernel
theorem d1_66 : decode method_2_code 66 = .ok (.if_icmp .ne 7, 3) := by decide +kernel
theorem d1_69 : decode method_2_code 69 = .ok (.getstatic 31, 3) := by decide +kernel
theorem d1_72 : decode method_2_code 72 = .ok (.areturn, 1) := by decide +kernel
theorem ef_1_16 (m : MethodId)  : entryFrame m #[(.int (7 : Int32))] 1 = mkF m 0 #[.val (.int (7 : Int32))] [] := by first | (simp [entryFrame, mkF, argsToLocals, Value.category]; done) | rfl
def Q_rm1_7 (Z : State) (w1 : Addr) (h0 : Heap) (n0 : Nat) (v : Option Value) (h : Heap) (L : List Loc) : Prop := v = some (.ref w1) ∧ Fr n0 L ∧ h = h0
set_option maxRecDepth 65536 in
set_option maxHeartbeats 40000000 in
theorem rm1_7 (l : Launch) (Z : State) (a0 : Array Value) (hw : ∀ d ∈ tables_1, d.before a0 Z = true) (ws : List Jvm.Cond) (w1 : Addr) (h0 : Heap) (n0 : Nat) (OL0 : Old Z n0 h0) (pr1 : Sta Z Z.heap "com/example/rigorous_chains/rigorouschains/prism/Expression$Operator" "LESS_OR_EQUAL" "Lcom/example/rigorous_chains/rigorouschains/prism/Expression$Operator;" (.ref w1)) :
    MetFree l (⟨"com/example/rigorous_chains/rigorouschains/prism/OperatorIsArithmeticPinLaw", "pick", "(I)Lcom/example/rigorous_chains/rigorouschains/prism/Expression$Operator;"⟩ : MethodName) (head1 (Jvm.Cond.code (⟨"com/example/rigorous_chains/rigorouschains/prism/OperatorIsArithmeticPinLaw", "pick", "(I)Lcom/example/rigorous_chains/rigorouschains/prism/Expression$Operator;"⟩ : MethodName) method_2_code 1 (some (.object "com/example/rigorous_chains/rigorouschains/prism/Expression$Operator")) :: ws) ({ frames := 0, cells := 0, slots := 0, locals := 0 } : Room)) (fun a U => a = #[(.int (7 : Int32))] ∧ Z.Warmed39 U.vm ∧ U.heap = h0) (fun _ _ _ _ _ => True) (fun _ U o U' => ∃ v L, o = .returned v ∧ Q_rm1_7 Z w1 h0 n0 v U'.heap L ∧ FrameEnd U o U' L ({ frames := 0, cells := 0, slots := 0, locals := 0 } : Room).cells ({ frames := 0, cells := 0, slots := 0, locals := 0 } : Room).slots) := by
  refine MetFree.of_bodySF (plainFor_of_name pn_0) hisR ?_
  intro p e s m args below meth c s₁ Bd hml0 hP hK
  obtain ⟨rfl, hZ, hh⟩ := hP
  have hx := Bd.exec
  have hby := Bd.bytes
  have hml : c.maxLocals = 1 := hml0
  have hown : s.vm.findClass "com/example/rigorous_chains/rigorouschains/prism/OperatorIsArithmeticPinLaw" = some m.cls := findClass_of_methodNamed Bd.named
  have hnm := (name_of_methodNamed Bd.named Bd.method).1
  have X0 : Stand p l e ({ frames := 0, cells := 0, slots := 0, locals := 0 } : Room) s m #[(.int (7 : Int32))] below meth c s₁ [] 0 0 := Stand.of_body Bd
  have e0 : s₁.heap = h0 := by rw [← hh, Bd.state]; rfl
  have N0 := Fr.nil n0
  have pre0 : ∀ t, Steps p.tables e below (s₁.setTop (mkF m 0 #[.val (.int (7 : Int32))] [])) t → Steps p.tables e below (s₁.setTop (entryFrame m #[(.int (7 : Int32))] 1)) t := fun t k => castTop (ef_1_16 m ) k
  obtain ⟨T2, X2, e2, st2⟩ := getS2 X0 hx hZ hown (host := "") (Or.inl (wd30 hw)) Via.refl e0 (pr1.ext OL0.2) (g := (mkF m 69 #[.val (.int (7 : Int32))] [])) rfl (hb hby d1_69)
  obtain ⟨fs, hr, hrun, hended, hW, hsame⟩ := X2.leave (v := some (.ref w1)) (fun h => by rw [Bd.returns] at h; cases h)
  refine ⟨_, _, pre0 _ ?_, hrun, hended, _, _, rfl, ?_, ⟨_, rfl⟩, hW, hsame.mono (by decide) (by decide)⟩
  · show Steps p.tables e below (s₁.setTop (mkF m 0 #[.val (.int (7 : Int32))] [])) _
    refine XS.iloadN X0.here hx rfl (hb hby d1_0) rfl ?_
    show Steps p.tables e below (s₁.setTop (mkF m 1 #[.val (.int (7 : Int32))] [(.int (7 : Int32))])) _
    refine XS.ifYes X0.here hx rfl (pc0 := 1) (pc' := 8) rfl (hb hby d1_1) rfl ((if0 _ _).trans (feq (by decide : ¬ ((7 : Int32) = (0 : Int32)))).2) (by decide) (by decide) ?_
    show Steps p.tables e below (s₁.setTop (mkF m 8 #[.val (.int (7 : Int32))] [])) _
    refine XS.iloadN X0.here hx rfl (hb hby d1_8) rfl ?_
    show Steps p.tables e below (s₁.setTop (mkF m 9 #[.val (.int (7 : Int32))] [(.int (7 : Int32))])) _
    refine XS.iconst X0.here hx rfl (hb hby d1_9) ?_
    show Steps p.tables e below (s₁.setTop (mkF m 10 #[.val (.int (7 : Int32))] [(.int (1 : Int32)), (.int (7 : Int32))])) _
    refine XS.icmpYes X0.here hx rfl (pc0 := 10) (pc' := 17) rfl (hb hby d1_10) rfl (feq (by decide : ¬ ((7 : Int32) = (1 : Int32)))).2 (by decide) (by decide) ?_
    show Steps p.tables e below (s₁.setTop (mkF m 17 #[.val (.int (7 : Int32))] [])) _
    refine XS.iloadN X0.here hx rfl (hb hby d1_17) rfl ?_
    show Steps p.tables e below (s₁.setTop (mkF m 18 #[.val (.int (7 : Int32))] [(.int (7 : Int32))])) _
    refine XS.iconst X0.here hx rfl (hb hby d1_18) ?_
    show Steps p.tables e below (s₁.setTop (mkF m 19 #[.val (.int (7 : Int32))] [(.int (2 : Int32)), (.int (7 : Int32))])) _
    refine XS.icmpYes X0.here hx rfl (pc0 := 19) (pc' := 26) rfl (hb hby d1_19) rfl (feq (by decide : ¬ ((7 : Int32) = (2 : Int32)))).2 (by decide) (by decide) ?_
    show Steps p.tables e below (s₁.setTop (mkF m 26 #[.val (.int (7 : Int32))] [])) _
    refine XS.iloadN X0.here hx rfl (hb hby d1_26) rfl ?_
    show Steps p.tables e below (s₁.setTop (mkF m 27 #[.val (.int (7 : Int32))] [(.int (7 : Int32))])) _
    refine XS.iconst X0.here hx rfl (hb hby d1_27) ?_
    show Steps p.tables e below (s₁.setTop (mkF m 28 #[.val (.int (7 : Int32))] [(.int (3 : Int32)), (.int (7 : Int32))])) _
    refine XS.icmpYes X0.here hx rfl (pc0 := 28) (pc' := 35) rfl (hb hby d1_28) rfl (feq (by decide : ¬ ((7 : Int32) = (3 : Int32)))).2 (by decide) (by decide) ?_
    show Steps p.tables e below (s₁.setTop (mkF m 35 #[.val (.int (7 : Int32))] [])) _
    refine XS.iloadN X0.here hx rfl (hb hby d1_35) rfl ?_
    show Steps p.tables e below (s₁.setTop (mkF m 36 #[.val (.int (7 : Int32))] [(.int (7 : Int32))])) _
    refine XS.iconst X0.here hx rfl (hb hby d1_36) ?_
    show Steps p.tables e below (s₁.setTop (mkF m 37 #[.val (.int (7 : Int32))] [(.int (4 : Int32)), (.int (7 : Int32))])) _
    refine XS.icmpYes X0.here hx rfl (pc0 := 37) (pc' := 44) rfl (hb hby d1_37) rfl (feq (by decide : ¬ ((7 : Int32) = (4 : Int32)))).2 (by decide) (by decide) ?_
    show Steps p.tables e below (s₁.setTop (mkF m 44 #[.val (.int (7 : Int32))] [])) _
    refine XS.iloadN X0.here hx rfl (hb hby d1_44) rfl ?_
    show Steps p.tables e below (s₁.setTop (mkF m 45 #[.val (.int (7 : Int32))] [(.int (7 : Int32))])) _
    refine XS.iconst X0.here hx rfl (hb hby d1_45) ?_
    show Steps p.tables e below (s₁.setTop (mkF m 46 #[.val (.int (7 : Int32))] [(.int (5 : Int32)), (.int (7 : Int32))])) _
    refine XS.icmpYes X0.here hx rfl (pc0 := 46) (pc' := 53) rfl (hb hby d1_46) rfl (feq (by decide : ¬ ((7 : Int32) = (5 : Int32)))).2 (by decide) (by decide) ?_
    show Steps p.tables e below (s₁.setTop (mkF m 53 #[.val (.int (7 : Int32))] [])) _
    refine XS.iloadN X0.here hx rfl (hb hby d1_53) rfl ?_
    show Steps p.tables e below (s₁.setTop (mkF m 54 #[.val (.int (7 : Int32))] [(.int (7 : Int32))])) _
    refine XS.bipush X0.here hx rfl (hb hby d1_54) ?_
    show Steps p.tables e below (s₁.setTop (mkF m 56 #[.val (.int (7 : Int32))] [(.int (6 : Int32)), (.int (7 : Int32))])) _
    refine XS.icmpYes X0.here hx rfl (pc0 := 56) (pc' := 63) rfl (hb hby d1_56) rfl (feq (by decide : ¬ ((7 : Int32) = (6 : Int32)))).2 (by decide) (by decide) ?_
    show Steps p.tables e below (s₁.setTop (mkF m 63 #[.val (.int (7 : Int32))] [])) _
    refine XS.iloadN X0.here hx rfl (hb hby d1_63) rfl ?_
    show Steps p.tables e below (s₁.setTop (mkF m 64 #[.val (.int (7 : Int32))] [(.int (7 : Int32))])) _
    refine XS.bipush X0.here hx rfl (hb hby d1_64) ?_
    show Steps p.tables e below (s₁.setTop (mkF m 66 #[.val (.int (7 : Int32))] [(.int (7 : Int32)), (.int (7 : Int32))])) _
    refine XS.icmpNo X0.here hx rfl (hb hby d1_66) rfl (teq (rfl : (7 : Int32) = (7 : Int32))).2 ?_
    show Steps p.tables e below (s₁.setTop (mkF m 69 #[.val (.int (7 : Int32))] [])) _
    refine st2 _ ?_
    show Steps p.tables e below (T2.setTop (mkF m 72 #[.val (.int (7 : Int32))] [(.ref w1)])) _
    jvm_step X2.here [X2.here.top, hx, (hb hby d1_72), X2.method', Bd.returns, Value.isRef, FieldType.isReference]
    first | (intro acts; rw [hr _ acts rfl rfl rfl]) | rw [hr _ _ rfl rfl rfl]
    exact Steps.refl _
  · show Q_rm1_7 Z w1 h0 n0 _ T2.heap _
    rw [e2]
    exact ⟨rfl, N0, rfl⟩
theorem ef_3_17 (m : MethodId)  : entryFrame m #[(.int (7 : Int32))] 2 = mkF m 0 #[.val (.int (7 : Int32)), .unset] [] := by first | (simp [entryFrame, mkF, argsToLocals, Value.category]; done) | rfl
def Q_rm3_7 (Z : State)  (h0 : Heap) (n0 : Nat) (v : Option Value) (h : Heap) (L : List Loc) : Prop := v = some (.int (0 : Int32)) ∧ Fr n0 L ∧ h = h0
set_option maxRecDepth 65536 in
set_option maxHeartbeats 40000000 in
theorem rm3_7 (l : Launch) (Z : State) (a0 : Array Value) (hw : ∀ d ∈ tables_1, d.before a0 Z = true) (ws : List Jvm.Cond)  (h0 : Heap) (n0 : Nat) (OL0 : Old Z n0 h0)  :
    MetFree l (⟨"com/example/rigorous_chains/rigorouschains/prism/OperatorIsArithmeticPinLaw", "expected", "(I)Z"⟩ : MethodName) (head1 (Jvm.Cond.code (⟨"com/example/rigorous_chains/rigorouschains/prism/OperatorIsArithmeticPinLaw", "expected", "(I)Z"⟩ : MethodName) method_3_code 2 (some .boolean) :: ws) ({ frames := 0, cells := 0, slots := 0, locals := 0 } : Room)) (fun a U => a = #[(.int (7 : Int32))] ∧ Z.Warmed39 U.vm ∧ U.heap = h0) (fun _ _ _ _ _ => True) (fun _ U o U' => ∃ v L, o = .returned v ∧ Q_rm3_7 Z  h0 n0 v U'.heap L ∧ FrameEnd U o U' L ({ frames := 0, cells := 0, slots := 0, locals := 0 } : Room).cells ({ frames := 0, cells := 0, slots := 0, locals := 0 } : Room).slots) := by
  refine MetFree.of_bodySF (plainFor_of_name pn_0) hisR ?_
  intro p e s m args below meth c s₁ Bd hml0 hP hK
  obtain ⟨rfl, hZ, hh⟩ := hP
  have hx := Bd.exec
  have hby := Bd.bytes
  have hml : c.maxLocals = 2 := hml0
  have hown : s.vm.findClass "com/example/rigorous_chains/rigorouschains/prism/OperatorIsArithmeticPinLaw" = some m.cls := findClass_of_methodNamed Bd.named
  have hnm := (name_of_methodNamed Bd.named Bd.method).1
  have X0 : Stand p l e ({ frames := 0, cells := 0, slots := 0, locals := 0 } : Room) s m #[(.int (7 : Int32))] below meth c s₁ [] 0 0 := Stand.of_body Bd
  have e0 : s₁.heap = h0 := by rw [← hh, Bd.state]; rfl
  have N0 := Fr.nil n0
  have pre0 : ∀ t, Steps p.tables e below (s₁.setTop (mkF m 0 #[.val (.int (7 : Int32)), .unset] [])) t → Steps p.tables e below (s₁.setTop (entryFrame m #[(.int (7 : Int32))] 2)) t := fun t k => castTop (ef_3_17 m ) k
  obtain ⟨fs, hr, hrun, hended, hW, hsame⟩ := X0.leave (v := some (.int (0 : Int32))) (fun h => by rw [Bd.returns] at h; cases h)
  refine ⟨_, _, pre0 _ ?_, hrun, hended, _, _, rfl, ?_, ⟨_, rfl⟩, hW, hsame.mono (by decide) (by decide)⟩
  · show Steps p.tables e below (s₁.setTop (mkF m 0 #[.val (.int (7 : Int32)), .unset] [])) _
    refine XS.iloadN X0.here hx rfl (hb hby d3_0) rfl ?_
    show Steps p.tables e below (s₁.setTop (mkF m 1 #[.val (.int (7 : Int32)), .unset] [(.int (7 : Int32))])) _
    refine XS.bipush X0.here hx rfl (hb hby d3_1) ?_
    show Steps p.tables e below (s₁.setTop (mkF m 3 #[.val (.int (7 : Int32)), .unset] [(.int (10 : Int32)), (.int (7 : Int32))])) _
    refine XS.icmpNo X0.here hx rfl (hb hby d3_3) rfl (feq (by decide : ¬ ((7 : Int32) = (10 : Int32)))).1 ?_
    show Steps p.tables e below (s₁.setTop (mkF m 6 #[.val (.int (7 : Int32)), .unset] [])) _
    refine XS.iloadN X0.here hx rfl (hb hby d3_6) rfl ?_
    show Steps p.tables e below (s₁.setTop (mkF m 7 #[.val (.int (7 : Int32)), .unset] [(.int (7 : Int32))])) _
    refine XS.bipush X0.here hx rfl (hb hby d3_7) ?_
    show Steps p.tables e below (s₁.setTop (mkF m 9 #[.val (.int (7 : Int32)), .unset] [(.int (11 : Int32)), (.int (7 : Int32))])) _
    refine XS.icmpNo X0.here hx rfl (hb hby d3_9) rfl (feq (by decide : ¬ ((7 : Int32) = (11 : Int32)))).1 ?_
    show Steps p.tables e below (s₁.setTop (mkF m 12 #[.val (.int (7 : Int32)), .unset] [])) _
    refine XS.iloadN X0.here hx rfl (hb hby d3_12) rfl ?_
    show Steps p.tables e below (s₁.setTop (mkF m 13 #[.val (.int (7 : Int32)), .unset] [(.int (7 : Int32))])) _
    refine XS.bipush X0.here hx rfl (hb hby d3_13) ?_
    show Steps p.tables e below (s₁.setTop (mkF m 15 #[.val (.int (7 : Int32)), .unset] [(.int (12 : Int32)), (.int (7 : Int32))])) _
    refine XS.icmpNo X0.here hx rfl (hb hby d3_15) rfl (feq (by decide : ¬ ((7 : Int32) = (12 : Int32)))).1 ?_
    show Steps p.tables e below (s₁.setTop (mkF m 18 #[.val (.int (7 : Int32)), .unset] [])) _
    refine XS.iloadN X0.here hx rfl (hb hby d3_18) rfl ?_
    show Steps p.tables e below (s₁.setTop (mkF m 19 #[.val (.int (7 : Int32)), .unset] [(.int (7 : Int32))])) _
    refine XS.bipush X0.here hx rfl (hb hby d3_19) ?_
    show Steps p.tables e below (s₁.setTop (mkF m 21 #[.val (.int (7 : Int32)), .unset] [(.int (13 : Int32)), (.int (7 : Int32))])) _
    refine XS.icmpYes X0.here hx rfl (pc0 := 21) (pc' := 29) rfl (hb hby d3_21) rfl (feq (by decide : ¬ ((7 : Int32) = (13 : Int32)))).2 (by decide) (by decide) ?_
    show Steps p.tables e below (s₁.setTop (mkF m 29 #[.val (.int (7 : Int32)), .unset] [])) _
    refine XS.iconst X0.here hx rfl (hb hby d3_29) ?_
    show Steps p.tables e below (s₁.setTop (mkF m 30 #[.val (.int (7 : Int32)), .unset] [(.int (0 : Int32))])) _
    refine XS.istoreN X0.here hx rfl (hb hby d3_30) rfl (l' := #[.val (.int (7 : Int32)), .val (.int (0 : Int32))]) rfl ?_
    show Steps p.tables e below (s₁.setTop (mkF m 31 #[.val (.int (7 : Int32)), .val (.int (0 : Int32))] [])) _
    refine XS.iloadN X0.here hx rfl (hb hby d3_31) rfl ?_
    show Steps p.tables e below (s₁.setTop (mkF m 32 #[.val (.int (7 : Int32)), .val (.int (0 : Int32))] [(.int (0 : Int32))])) _
    exact retN X0 hx (t := .boolean) Bd.returns (by simp) (hb hby d3_32) hr
  · show Q_rm3_7 Z  h0 n0 _ s₁.heap _
    rw [e0]
    exact ⟨rfl, N0, rfl⟩
set_option maxRecDepth 65536 in
set_option maxHeartbeats 40000000 in
theorem rm0_7 (l : Launch) (Z : State) (a0 : Array Value) (hw : ∀ d ∈ tables_1, d.before a0 Z = true) (ws : List Jvm.Cond) (p1 : Int32) (w_LESS_OR_EQUAL : Addr) (w_PLUS : Addr) (w_MINUS : Addr) (w_TIMES : Addr) (w_DIVIDE : Addr) (h0 : Heap) (n0 : Nat) (OL0 : Old Z n0 h0) (pr1 : ((p1 &&& (2147483647 : Int32)) % (14 : Int32)) = (7 : Int32)) (pr2 : Sta Z Z.heap "com/example/rigorous_chains/rigorouschains/prism/Expression$Operator" "LESS_OR_EQUAL" "Lcom/example/rigorous_chains/rigorouschains/prism/Expression$Operator;" (.ref w_LESS_OR_EQUAL)) (pr3 : Sta Z Z.heap "com/example/rigorous_chains/rigorouschains/prism/Expression$Operator" "PLUS" "Lcom/example/rigorous_chains/rigorouschains/prism/Expression$Operator;" (.ref w_PLUS)) (pr4 : w_LESS_OR_EQUAL ≠ w_PLUS) (pr5 : Sta Z Z.heap "com/example/rigorous_chains/rigorouschains/prism/Expression$Operator" "MINUS" "Lcom/example/rigorous_chains/rigorouschains/prism/Expression$Operator;" (.ref w_MINUS)) (pr6 : w_LESS_OR_EQUAL ≠ w_MINUS) (pr7 : Sta Z Z.heap "com/example/rigorous_chains/rigorouschains/prism/Expression$Operator" "TIMES" "Lcom/example/rigorous_chains/rigorouschains/prism/Expression$Operator;" (.ref w_TIMES)) (pr8 : w_LESS_OR_EQUAL ≠ w_TIMES) (pr9 : Sta Z Z.heap "com/example/rigorous_chains/rigorouschains/prism/Expression$Operator" "DIVIDE" "Lcom/example/rigorous_chains/rigorouschains/prism/Expression$Operator;" (.ref w_DIVIDE)) (pr10 : w_LESS_OR_EQUAL ≠ w_DIVIDE) (pr11 : Exa Z Z.heap w_LESS_OR_EQUAL "com/example/rigorous_chains/rigorouschains/prism/Expression$Operator") :
    MetFree l x (head1 (Jvm.Cond.code x code maxLocals ret :: ws) room_1) (fun a U => a = #[(.int p1)] ∧ Z.Warmed39 U.vm ∧ U.heap = h0) (fun _ _ _ _ _ => True) (fun _ U o U' => ∃ v L, o = .returned v ∧ Q0 n0 v L ∧ FrameEnd U o U' L 0 0) := by
  refine MetFree.of_bodySF (plainFor_of_name pn_0) hisR ?_
  intro p e s m args below meth c s₁ Bd hml0 hP hK
  obtain ⟨rfl, hZ, hh⟩ := hP
  have hx := Bd.exec
  have hby := Bd.bytes
  have hml : c.maxLocals = 3 := hml0
  have hown : s.vm.findClass "com/example/rigorous_chains/rigorouschains/prism/OperatorIsArithmeticPinLaw" = some m.cls := findClass_of_methodNamed Bd.named
  have hnm := (name_of_methodNamed Bd.named Bd.method).1
  have X0 : Stand p l e room_1 s m #[(.int p1)] below meth c s₁ [] 0 0 := Stand.of_body Bd
  have e0 : s₁.heap = h0 := by rw [← hh, Bd.state]; rfl
  have N0 := Fr.nil n0
  have pre0 : ∀ t, Steps p.tables e below (s₁.setTop (mkF m 0 #[.val (.int p1), .unset, .unset] [])) t → Steps p.tables e below (s₁.setTop (entryFrame m #[(.int p1)] maxLocals)) t := fun t k => castTop (ef_0_3 m p1) k
  obtain ⟨_, _, ⟨T1, L1, k1, n1⟩, -, X1, ⟨Lc1, hQ1, l1, y1, z1⟩, st1⟩ := Jvm.LawKit.callS X0 hx (y := (⟨"com/example/rigorous_chains/rigorouschains/prism/OperatorIsArithmeticPinLaw", "pick", "(I)Lcom/example/rigorous_chains/rigorouschains/prism/Expression$Operator;"⟩ : MethodName)) hown (mvT hZ (wd1 hw)) (mvT hZ (wd2 hw)) (mvT hZ (wd3 hw)) (mvT hZ (wd4 hw)) (by decide) (backOf (W := 0) (rm1_7 l Z a0 hw [] w_LESS_OR_EQUAL h0 n0 OL0 pr2) hZ (wd4 hw) (wd3 hw) (by decide) (by decide)) (g := (mkF m 9 #[.val (.int p1), .val (.int (7 : Int32)), .unset] [(.int (7 : Int32))])) rfl (by rw [hml]; rfl) (argsL := [(.int (7 : Int32))]) (rest := []) (lenOf pd_0 rfl) rfl (by show 2 * 0 + _ ≤ _; exact Nat.le_of_eq rfl) (hb hby at_9) (fun _ _ => ⟨rfl, e0, (by decide : 0 + 0 ≤ _), (by decide : 0 + 0 ≤ _)⟩)
  dsimp only [Pt.U, Pt.locs, Pt.cells, Pt.slots] at X1 l1 y1 z1 st1 hQ1
  subst l1 y1 z1
  obtain ⟨rfl, Nq1, ec1⟩ := hQ1
  have N1 := Fr.app N0 Nq1
  obtain ⟨cq2, kq2, q2a, q2b, q2c⟩ := isOf hZ ec1 (pr11.ext OL0.2)
  obtain ⟨_, _, ⟨T2, L2, k2, n2⟩, -, X2, ⟨Lc2, hQ2, l2, y2, z2⟩, st2⟩ := X1.virtualBack hx (y := (⟨"com/example/rigorous_chains/rigorouschains/prism/Expression$Operator", "isArithmetic", "()Z"⟩ : MethodName)) (z := (⟨"com/example/rigorous_chains/rigorouschains/prism/Expression$Operator", "isArithmetic", "()Z"⟩ : MethodName)) hown (mvT hZ (wd8 hw)) (mvT hZ (wd9 hw)) (notFace_of_selects (args := #[]) (mvT hZ (wd11 hw))) (mvT hZ (wd11 hw)) (mvT hZ (wd10 hw)) (by decide) (backOf (W := 0) (rm2_0 l Z a0 hw [] w_LESS_OR_EQUAL w_PLUS w_MINUS w_TIMES w_DIVIDE h0 n0 OL0 pr3 pr4 pr5 pr6 pr7 pr8 pr9 pr10) hZ (wd12 hw) (wd6 hw) (by decide) (by decide)) q2a q2c (g := (mkF m 14 #[.val (.int p1), .val (.int (7 : Int32)), .val (.ref w_LESS_OR_EQUAL)] [(.ref w_LESS_OR_EQUAL)])) rfl (by rw [hml]; rfl) (Steps.refl _) (argsL := []) (rest := []) (lenOf pd_1 rfl) rfl (by show 2 * 0 + _ ≤ _; exact Nat.le_of_eq rfl) (hb hby at_14) (fun _ _ => ⟨rfl, ec1, (by decide : 0 + 0 ≤ _), (by decide : 0 + 0 ≤ _)⟩)
  dsimp only [Pt.U, Pt.locs, Pt.cells, Pt.slots] at X2 l2 y2 z2 st2 hQ2
  subst l2 y2 z2
  obtain ⟨rfl, Nq2, ec2⟩ := hQ2
  have N2 := Fr.app N1 Nq2
  obtain ⟨_, _, ⟨T3, L3, k3, n3⟩, -, X3, ⟨Lc3, hQ3, l3, y3, z3⟩, st3⟩ := Jvm.LawKit.callS X2 hx (y := (⟨"com/example/rigorous_chains/rigorouschains/prism/OperatorIsArithmeticPinLaw", "expected", "(I)Z"⟩ : MethodName)) hown (mvT hZ (wd21 hw)) (mvT hZ (wd22 hw)) (mvT hZ (wd3 hw)) (mvT hZ (wd23 hw)) (by decide) (backOf (W := 1) (rm3_7 l Z a0 hw []  h0 n0 OL0 ) hZ (wd23 hw) (wd3 hw) (by decide) (by decide)) (g := (mkF m 18 #[.val (.int p1), .val (.int (7 : Int32)), .val (.ref w_LESS_OR_EQUAL)] [(.int (7 : Int32)), (.int (0 : Int32))])) rfl (by rw [hml]; rfl) (argsL := [(.int (7 : Int32))]) (rest := [(.int (0 : Int32))]) (lenOf pd_2 rfl) rfl (by show 2 * 0 + _ ≤ _; exact Nat.le_of_eq rfl) (hb hby at_18) (fun _ _ => ⟨rfl, ec2, (by decide : 0 + 0 ≤ _), (by decide : 0 + 0 ≤ _)⟩)
  dsimp only [Pt.U, Pt.locs, Pt.cells, Pt.slots] at X3 l3 y3 z3 st3 hQ3
  subst l3 y3 z3
  obtain ⟨rfl, Nq3, ec3⟩ := hQ3
  have N3 := Fr.app N2 Nq3
  obtain ⟨fs, hr, hrun, hended, hW, hsame⟩ := X3.leave (v := some (.int (1 : Int32))) (fun h => by rw [Bd.returns] at h; cases h)
  refine ⟨_, _, pre0 _ ?_, hrun, hended, _, _, rfl, ?_, ⟨_, rfl⟩, hW, hsame.mono (by decide) (by decide)⟩
  · show Steps p.tables e below (s₁.setTop (mkF m 0 #[.val (.int p1), .unset, .unset] [])) _
    refine XS.iloadN X0.here hx rfl (hb hby at_0) rfl ?_
    show Steps p.tables e below (s₁.setTop (mkF m 1 #[.val (.int p1), .unset, .unset] [(.int p1)])) _
    refine X0.ldcInt hx hown (mvT hZ (wd0 hw)) (g := (mkF m 1 #[.val (.int p1), .unset, .unset] [(.int p1)])) rfl (hb hby at_1) _ ?_
    show Steps p.tables e below (s₁.setTop (mkF m 3 #[.val (.int p1), .unset, .unset] [(.int (2147483647 : Int32)), (.int p1)])) _
    refine XS.iand X0.here hx rfl (hb hby at_3) rfl ?_
    show Steps p.tables e below (s₁.setTop (mkF m 4 #[.val (.int p1), .unset, .unset] [(.int (p1 &&& (2147483647 : Int32)))])) _
    refine XS.bipush X0.here hx rfl (hb hby at_4) ?_
    show Steps p.tables e below (s₁.setTop (mkF m 6 #[.val (.int p1), .unset, .unset] [(.int (14 : Int32)), (.int (p1 &&& (2147483647 : Int32)))])) _
    refine iremM X0 hx rfl (hb hby at_6) rfl (by decide) ?_
    show Steps p.tables e below (s₁.setTop (mkF m 7 #[.val (.int p1), .unset, .unset] [(.int ((p1 &&& (2147483647 : Int32)) % (14 : Int32)))])) _
    rw [pr1]
    show Steps p.tables e below (s₁.setTop (mkF m 7 #[.val (.int p1), .unset, .unset] [(.int (7 : Int32))])) _
    refine XS.istoreN X0.here hx rfl (hb hby at_7) rfl (l' := #[.val (.int p1), .val (.int (7 : Int32)), .unset]) rfl ?_
    show Steps p.tables e below (s₁.setTop (mkF m 8 #[.val (.int p1), .val (.int (7 : Int32)), .unset] [])) _
    refine XS.iloadN X0.here hx rfl (hb hby at_8) rfl ?_
    show Steps p.tables e below (s₁.setTop (mkF m 9 #[.val (.int p1), .val (.int (7 : Int32)), .unset] [(.int (7 : Int32))])) _
    refine st1 _ ?_
    show Steps p.tables e below (T1.setTop (mkF m 12 #[.val (.int p1), .val (.int (7 : Int32)), .unset] [(.ref w_LESS_OR_EQUAL)])) _
    refine XS.astoreN X1.here hx rfl (hb hby at_12) rfl rfl (l' := #[.val (.int p1), .val (.int (7 : Int32)), .val (.ref w_LESS_OR_EQUAL)]) rfl ?_
    show Steps p.tables e below (T1.setTop (mkF m 13 #[.val (.int p1), .val (.int (7 : Int32)), .val (.ref w_LESS_OR_EQUAL)] [])) _
    refine XS.aloadN X1.here hx rfl (hb hby at_13) rfl rfl ?_
    show Steps p.tables e below (T1.setTop (mkF m 14 #[.val (.int p1), .val (.int (7 : Int32)), .val (.ref w_LESS_OR_EQUAL)] [(.ref w_LESS_OR_EQUAL)])) _
    refine st2.trans ?_
    show Steps p.tables e below (T2.setTop (mkF m 17 #[.val (.int p1), .val (.int (7 : Int32)), .val (.ref w_LESS_OR_EQUAL)] [(.int (0 : Int32))])) _
    refine XS.iloadN X2.here hx rfl (hb hby at_17) rfl ?_
    show Steps p.tables e below (T2.setTop (mkF m 18 #[.val (.int p1), .val (.int (7 : Int32)), .val (.ref w_LESS_OR_EQUAL)] [(.int (7 : Int32)), (.int (0 : Int32))])) _
    refine st3 _ ?_
    show Steps p.tables e below (T3.setTop (mkF m 21 #[.val (.int p1), .val (.int (7 : Int32)), .val (.ref w_LESS_OR_EQUAL)] [(.int (0 : Int32)), (.int (0 : Int32))])) _
    refine XS.icmpNo X3.here hx rfl (hb hby at_21) rfl (teq (rfl : (0 : Int32) = (0 : Int32))).2 ?_
    show Steps p.tables e below (T3.setTop (mkF m 24 #[.val (.int p1), .val (.int (7 : Int32)), .val (.ref w_LESS_OR_EQUAL)] [])) _
    refine XS.iconst X3.here hx rfl (hb hby at_24) ?_
    show Steps p.tables e below (T3.setTop (mkF m 25 #[.val (.int p1), .val (.int (7 : Int32)), .val (.ref w_LESS_OR_EQUAL)] [(.int (1 : Int32))])) _
    refine XS.goto X3.here hx rfl (pc0 := 25) (pc' := 29) rfl (hb hby at_25) (by decide) (by decide) ?_
    show Steps p.tables e below (T3.setTop (mkF m 29 #[.val (.int p1), .val (.int (7 : Int32)), .val (.ref w_LESS_OR_EQUAL)] [(.int (1 : Int32))])) _
    exact retN X3 hx (t := .boolean) Bd.returns (by simp) (hb hby at_29) hr
  · exact ⟨rfl, N3⟩
theorem d1_73 : decode method_2_code 73 = .ok (.iload_n 0, 1) := by decide +kernel
theorem d1_74 : decode method_2_code 74 = .ok (.bipush 8, 2) := by decide +kernel
theorem d1_76 : decode method_2_code 76 = .ok (.if_icmp .ne 7, 3) := by decide +kernel
theorem d1_79 : decode method_2_code 79 = .ok (.getstatic 34, 3) := by decide +kernel
theorem d1_82 : decode method_2_code 82 = .ok (.areturn, 1) := by decide +kernel
theorem ef_1_18 (m : MethodId)  : entryFrame m #[(.int (8 : Int32))] 1 = mkF m 0 #[.val (.int (8 : Int32))] [] := by first | (simp [entryFrame, mkF, argsToLocals, Value.category]; done) | rfl
def Q_rm1_8 (Z : State) (w1 : Addr) (h0 : Heap) (n0 : Nat) (v : Option Value) (h : Heap) (L : List Loc) : Prop := v = some (.ref w1) ∧ Fr n0 L ∧ h = h0
set_option maxRecDepth 65536 in
set_option maxHeartbeats 40000000 in
theorem rm1_8 (l : Launch) (Z : State) (a0 : Array Value) (hw : ∀ d ∈ tables_1, d.before a0 Z = true) (ws : List Jvm.Cond) (w1 : Addr) (h0 : Heap) (n0 : Nat) (OL0 : Old Z n0 h0) (pr1 : Sta Z Z.heap "com/example/rigorous_chains/rigorouschains/prism/Expression$Operator" "GREATER" "Lcom/example/rigorous_chains/rigorouschains/prism/Expression$Operator;" (.ref w1)) :
    MetFree l (⟨"com/example/rigorous_chains/rigorouschains/prism/OperatorIsArithmeticPinLaw", "pick", "(I)Lcom/example/rigorous_chains/rigorouschains/prism/Expression$Operator;"⟩ : MethodName) (head1 (Jvm.Cond.code (⟨"com/example/rigorous_chains/rigorouschains/prism/OperatorIsArithmeticPinLaw", "pick", "(I)Lcom/example/rigorous_chains/rigorouschains/prism/Expression$Operator;"⟩ : MethodName) method_2_code 1 (some (.object "com/example/rigorous_chains/rigorouschains/prism/Expression$Operator")) :: ws) ({ frames := 0, cells := 0, slots := 0, locals := 0 } : Room)) (fun a U => a = #[(.int (8 : Int32))] ∧ Z.Warmed39 U.vm ∧ U.heap = h0) (fun _ _ _ _ _ => True) (fun _ U o U' => ∃ v L, o = .returned v ∧ Q_rm1_8 Z w1 h0 n0 v U'.heap L ∧ FrameEnd U o U' L ({ frames := 0, cells := 0, slots := 0, locals := 0 } : Room).cells ({ frames := 0, cells := 0, slots := 0, locals := 0 } : Room).slots) := by
  refine MetFree.of_bodySF (plainFor_of_name pn_0) hisR ?_
  intro p e s m args below meth c s₁ Bd hml0 hP hK
  obtain ⟨rfl, hZ, hh⟩ := hP
  have hx := Bd.exec
  have hby := Bd.bytes
  have hml : c.maxLocals = 1 := hml0
  have hown : s.vm.findClass "com/example/rigorous_chains/rigorouschains/prism/OperatorIsArithmeticPinLaw" = some m.cls := findClass_of_methodNamed Bd.named
  have hnm := (name_of_methodNamed Bd.named Bd.method).1
  have X0 : Stand p l e ({ frames := 0, cells := 0, slots := 0, locals := 0 } : Room) s m #[(.int (8 : Int32))] below meth c s₁ [] 0 0 := Stand.of_body Bd
  have e0 : s₁.heap = h0 := by rw [← hh, Bd.state]; rfl
  have N0 := Fr.nil n0
  have pre0 : ∀ t, Steps p.tables e below (s₁.setTop (mkF m 0 #[.val (.int (8 : Int32))] [])) t → Steps p.tables e below (s₁.setTop (entryFrame m #[(.int (8 : Int32))] 1)) t := fun t k => castTop (ef_1_18 m ) k
  obtain ⟨T2, X2, e2, st2⟩ := getS2 X0 hx hZ hown (host := "") (Or.inl (wd36 hw)) Via.refl e0 (pr1.ext OL0.2) (g := (mkF m 79 #[.val (.int (8 : Int32))] [])) rfl (hb hby d1_79)
  obtain ⟨fs, hr, hrun, hended, hW, hsame⟩ := X2.leave (v := some (.ref w1)) (fun h => by rw [Bd.returns] at h; cases h)
  refine ⟨_, _, pre0 _ ?_, hrun, hended, _, _, rfl, ?_, ⟨_, rfl⟩, hW, hsame.mono (by decide) (by decide)⟩
  · show Steps p.tables e below (s₁.setTop (mkF m 0 #[.val (.int (8 : Int32))] [])) _
    refine XS.iloadN X0.here hx rfl (hb hby d1_0) rfl ?_
    show Steps p.tables e below (s₁.setTop (mkF m 1 #[.val (.int (8 : Int32))] [(.int (8 : Int32))])) _
    refine XS.ifYes X0.here hx rfl (pc0 := 1) (pc' := 8) rfl (hb hby d1_1) rfl ((if0 _ _).trans (feq (by decide : ¬ ((8 : Int32) = (0 : Int32)))).2) (by decide) (by decide) ?_
    show Steps p.tables e below (s₁.setTop (mkF m 8 #[.val (.int (8 : Int32))] [])) _
    refine XS.iloadN X0.here hx rfl (hb hby d1_8) rfl ?_
    show Steps p.tables e below (s₁.setTop (mkF m 9 #[.val (.int (8 : Int32))] [(.int (8 : Int32))])) _
    refine XS.iconst X0.here hx rfl (hb hby d1_9) ?_
    show Steps p.tables e below (s₁.setTop (mkF m 10 #[.val (.int (8 : Int32))] [(.int (1 : Int32)), (.int (8 : Int32))])) _
    refine XS.icmpYes X0.here hx rfl (pc0 := 10) (pc' := 17) rfl (hb hby d1_10) rfl (feq (by decide : ¬ ((8 : Int32) = (1 : Int32)))).2 (by decide) (by decide) ?_
    show Steps p.tables e below (s₁.setTop (mkF m 17 #[.val (.int (8 : Int32))] [])) _
    refine XS.iloadN X0.here hx rfl (hb hby d1_17) rfl ?_
    show Steps p.tables e below (s₁.setTop (mkF m 18 #[.val (.int (8 : Int32))] [(.int (8 : Int32))])) _
    refine XS.iconst X0.here hx rfl (hb hby d1_18) ?_
    show Steps p.tables e below (s₁.setTop (mkF m 19 #[.val (.int (8 : Int32))] [(.int (2 : Int32)), (.int (8 : Int32))])) _
    refine XS.icmpYes X0.here hx rfl (pc0 := 19) (pc' := 26) rfl (hb hby d1_19) rfl (feq (by decide : ¬ ((8 : Int32) = (2 : Int32)))).2 (by decide) (by decide) ?_
    show Steps p.tables e below (s₁.setTop (mkF m 26 #[.val (.int (8 : Int32))] [])) _
    refine XS.iloadN X0.here hx rfl (hb hby d1_26) rfl ?_
    show Steps p.tables e below (s₁.setTop (mkF m 27 #[.val (.int (8 : Int32))] [(.int (8 : Int32))])) _
    refine XS.iconst X0.here hx rfl (hb hby d1_27) ?_
    show Steps p.tables e below (s₁.setTop (mkF m 28 #[.val (.int (8 : Int32))] [(.int (3 : Int32)), (.int (8 : Int32))])) _
    refine XS.icmpYes X0.here hx rfl (pc0 := 28) (pc' := 35) rfl (hb hby d1_28) rfl (feq (by decide : ¬ ((8 : Int32) = (3 : Int32)))).2 (by decide) (by decide) ?_
    show Steps p.tables e below (s₁.setTop (mkF m 35 #[.val (.int (8 : Int32))] [])) _
    refine XS.iloadN X0.here hx rfl (hb hby d1_35) rfl ?_
    show Steps p.tables e below (s₁.setTop (mkF m 36 #[.val (.int (8 : Int32))] [(.int (8 : Int32))])) _
    refine XS.iconst X0.here hx rfl (hb hby d1_36) ?_
    show Steps p.tables e below (s₁.setTop (mkF m 37 #[.val (.int (8 : Int32))] [(.int (4 : Int32)), (.int (8 : Int32))])) _
    refine XS.icmpYes X0.here hx rfl (pc0 := 37) (pc' := 44) rfl (hb hby d1_37) rfl (feq (by decide : ¬ ((8 : Int32) = (4 : Int32)))).2 (by decide) (by decide) ?_
    show Steps p.tables e below (s₁.setTop (mkF m 44 #[.val (.int (8 : Int32))] [])) _
    refine XS.iloadN X0.here hx rfl (hb hby d1_44) rfl ?_
    show Steps p.tables e below (s₁.setTop (mkF m 45 #[.val (.int (8 : Int32))] [(.int (8 : Int32))])) _
    refine XS.iconst X0.here hx rfl (hb hby d1_45) ?_
    show Steps p.tables e below (s₁.setTop (mkF m 46 #[.val (.int (8 : Int32))] [(.int (5 : Int32)), (.int (8 : Int32))])) _
    refine XS.icmpYes X0.here hx rfl (pc0 := 46) (pc' := 53) rfl (hb hby d1_46) rfl (feq (by decide : ¬ ((8 : Int32) = (5 : Int32)))).2 (by decide) (by decide) ?_
    show Steps p.tables e below (s₁.setTop (mkF m 53 #[.val (.int (8 : Int32))] [])) _
    refine XS.iloadN X0.here hx rfl (hb hby d1_53) rfl ?_
    show Steps p.tables e below (s₁.setTop (mkF m 54 #[.val (.int (8 : Int32))] [(.int (8 : Int32))])) _
    refine XS.bipush X0.here hx rfl (hb hby d1_54) ?_
    show Steps p.tables e below (s₁.setTop (mkF m 56 #[.val (.int (8 : Int32))] [(.int (6 : Int32)), (.int (8 : Int32))])) _
    refine XS.icmpYes X0.here hx rfl (pc0 := 56) (pc' := 63) rfl (hb hby d1_56) rfl (feq (by decide : ¬ ((8 : Int32) = (6 : Int32)))).2 (by decide) (by decide) ?_
    show Steps p.tables e below (s₁.setTop (mkF m 63 #[.val (.int (8 : Int32))] [])) _
    refine XS.iloadN X0.here hx rfl (hb hby d1_63) rfl ?_
    show Steps p.tables e below (s₁.setTop (mkF m 64 #[.val (.int (8 : Int32))] [(.int (8 : Int32))])) _
    refine XS.bipush X0.here hx rfl (hb hby d1_64) ?_
    show Steps p.tables e below (s₁.setTop (mkF m 66 #[.val (.int (8 : Int32))] [(.int (7 : Int32)), (.int (8 : Int32))])) _
    refine XS.icmpYes X0.here hx rfl (pc0 := 66) (pc' := 73) rfl (hb hby d1_66) rfl (feq (by decide : ¬ ((8 : Int32) = (7 : Int32)))).2 (by decide) (by decide) ?_
    show Steps p.tables e below (s₁.setTop (mkF m 73 #[.val (.int (8 : Int32))] [])) _
    refine XS.iloadN X0.here hx rfl (hb hby d1_73) rfl ?_
    show Steps p.tables e below (s₁.setTop (mkF m 74 #[.val (.int (8 : Int32))] [(.int (8 : Int32))])) _
    refine XS.bipush X0.here hx rfl (hb hby d1_74) ?_
    show Steps p.tables e below (s₁.setTop (mkF m 76 #[.val (.int (8 : Int32))] [(.int (8 : Int32)), (.int (8 : Int32))])) _
    refine XS.icmpNo X0.here hx rfl (hb hby d1_76) rfl (teq (rfl : (8 : Int32) = (8 : Int32))).2 ?_
    show Steps p.tables e below (s₁.setTop (mkF m 79 #[.val (.int (8 : Int32))] [])) _
    refine st2 _ ?_
    show Steps p.tables e below (T2.setTop (mkF m 82 #[.val (.int (8 : Int32))] [(.ref w1)])) _
    jvm_step X2.here [X2.here.top, hx, (hb hby d1_82), X2.method', Bd.returns, Value.isRef, FieldType.isReference]
    first | (intro acts; rw [hr _ acts rfl rfl rfl]) | rw [hr _ _ rfl rfl rfl]
    exact Steps.refl _
  · show Q_rm1_8 Z w1 h0 n0 _ T2.heap _
    rw [e2]
    exact ⟨rfl, N0, rfl⟩
theorem ef_3_19 (m : MethodId)  : entryFrame m #[(.int (8 : Int32))] 2 = mkF m 0 #[.val (.int (8 : Int32)), .unset] [] := by first | (simp [entryFrame, mkF, argsToLocals, Value.category]; done) | rfl
def Q_rm3_8 (Z : State)  (h0 : Heap) (n0 : Nat) (v : Option Value) (h : Heap) (L : List Loc) : Prop := v = some (.int (0 : Int32)) ∧ Fr n0 L ∧ h = h0
set_option maxRecDepth 65536 in
set_option maxHeartbeats 40000000 in
theorem rm3_8 (l : Launch) (Z : State) (a0 : Array Value) (hw : ∀ d ∈ tables_1, d.before a0 Z = true) (ws : List Jvm.Cond)  (h0 : Heap) (n0 : Nat) (OL0 : Old Z n0 h0)  :
    MetFree l (⟨"com/example/rigorous_chains/rigorouschains/prism/OperatorIsArithmeticPinLaw", "expected", "(I)Z"⟩ : MethodName) (head1 (Jvm.Cond.code (⟨"com/example/rigorous_chains/rigorouschains/prism/OperatorIsArithmeticPinLaw", "expected", "(I)Z"⟩ : MethodName) method_3_code 2 (some .boolean) :: ws) ({ frames := 0, cells := 0, slots := 0, locals := 0 } : Room)) (fun a U => a = #[(.int (8 : Int32))] ∧ Z.Warmed39 U.vm ∧ U.heap = h0) (fun _ _ _ _ _ => True) (fun _ U o U' => ∃ v L, o = .returned v ∧ Q_rm3_8 Z  h0 n0 v U'.heap L ∧ FrameEnd U o U' L ({ frames := 0, cells := 0, slots := 0, locals := 0 } : Room).cells ({ frames := 0, cells := 0, slots := 0, locals := 0 } : Room).slots) := by
  refine MetFree.of_bodySF (plainFor_of_name pn_0) hisR ?_
  intro p e s m args below meth c s₁ Bd hml0 hP hK
  obtain ⟨rfl, hZ, hh⟩ := hP
  have hx := Bd.exec
  have hby := Bd.bytes
  have hml : c.maxLocals = 2 := hml0
  have hown : s.vm.findClass "com/example/rigorous_chains/rigorouschains/prism/OperatorIsArithmeticPinLaw" = some m.cls := findClass_of_methodNamed Bd.named
  have hnm := (name_of_methodNamed Bd.named Bd.method).1
  have X0 : Stand p l e ({ frames := 0, cells := 0, slots := 0, locals := 0 } : Room) s m #[(.int (8 : Int32))] below meth c s₁ [] 0 0 := Stand.of_body Bd
  have e0 : s₁.heap = h0 := by rw [← hh, Bd.state]; rfl
  have N0 := Fr.nil n0
  have pre0 : ∀ t, Steps p.tables e below (s₁.setTop (mkF m 0 #[.val (.int (8 : Int32)), .unset] [])) t → Steps p.tables e below (s₁.setTop (entryFrame m #[(.int (8 : Int32))] 2)) t := fun t k => castTop (ef_3_19 m ) k
  obtain ⟨fs, hr, hrun, hended, hW, hsame⟩ := X0.leave (v := some (.int (0 : Int32))) (fun h => by rw [Bd.returns] at h; cases h)
  refine ⟨_, _, pre0 _ ?_, hrun, hended, _, _, rfl, ?_, ⟨_, rfl⟩, hW, hsame.mono (by decide) (by decide)⟩
  · show Steps p.tables e below (s₁.setTop (mkF m 0 #[.val (.int (8 : Int32)), .unset] [])) _
    refine XS.iloadN X0.here hx rfl (hb hby d3_0) rfl ?_
    show Steps p.tables e below (s₁.setTop (mkF m 1 #[.val (.int (8 : Int32)), .unset] [(.int (8 : Int32))])) _
    refine XS.bipush X0.here hx rfl (hb hby d3_1) ?_
    show Steps p.tables e below (s₁.setTop (mkF m 3 #[.val (.int (8 : Int32)), .unset] [(.int (10 : Int32)), (.int (8 : Int32))])) _
    refine XS.icmpNo X0.here hx rfl (hb hby d3_3) rfl (feq (by decide : ¬ ((8 : Int32) = (10 : Int32)))).1 ?_
    show Steps p.tables e below (s₁.setTop (mkF m 6 #[.val (.int (8 : Int32)), .unset] [])) _
    refine XS.iloadN X0.here hx rfl (hb hby d3_6) rfl ?_
    show Steps p.tables e below (s₁.setTop (mkF m 7 #[.val (.int (8 : Int32)), .unset] [(.int (8 : Int32))])) _
    refine XS.bipush X0.here hx rfl (hb hby d3_7) ?_
    show Steps p.tables e below (s₁.setTop (mkF m 9 #[.val (.int (8 : Int32)), .unset] [(.int (11 : Int32)), (.int (8 : Int32))])) _
    refine XS.icmpNo X0.here hx rfl (hb hby d3_9) rfl (feq (by decide : ¬ ((8 : Int32) = (11 : Int32)))).1 ?_
    show Steps p.tables e below (s₁.setTop (mkF m 12 #[.val (.int (8 : Int32)), .unset] [])) _
    refine XS.iloadN X0.here hx rfl (hb hby d3_12) rfl ?_
    show Steps p.tables e below (s₁.setTop (mkF m 13 #[.val (.int (8 : Int32)), .unset] [(.int (8 : Int32))])) _
    refine XS.bipush X0.here hx rfl (hb hby d3_13) ?_
    show Steps p.tables e below (s₁.setTop (mkF m 15 #[.val (.int (8 : Int32)), .unset] [(.int (12 : Int32)), (.int (8 : Int32))])) _
    refine XS.icmpNo X0.here hx rfl (hb hby d3_15) rfl (feq (by decide : ¬ ((8 : Int32) = (12 : Int32)))).1 ?_
    show Steps p.tables e below (s₁.setTop (mkF m 18 #[.val (.int (8 : Int32)), .unset] [])) _
    refine XS.iloadN X0.here hx rfl (hb hby d3_18) rfl ?_
    show Steps p.tables e below (s₁.setTop (mkF m 19 #[.val (.int (8 : Int32)), .unset] [(.int (8 : Int32))])) _
    refine XS.bipush X0.here hx rfl (hb hby d3_19) ?_
    show Steps p.tables e below (s₁.setTop (mkF m 21 #[.val (.int (8 : Int32)), .unset] [(.int (13 : Int32)), (.int (8 : Int32))])) _
    refine XS.icmpYes X0.here hx rfl (pc0 := 21) (pc' := 29) rfl (hb hby d3_21) rfl (feq (by decide : ¬ ((8 : Int32) = (13 : Int32)))).2 (by decide) (by decide) ?_
    show Steps p.tables e below (s₁.setTop (mkF m 29 #[.val (.int (8 : Int32)), .unset] [])) _
    refine XS.iconst X0.here hx rfl (hb hby d3_29) ?_
    show Steps p.tables e below (s₁.setTop (mkF m 30 #[.val (.int (8 : Int32)), .unset] [(.int (0 : Int32))])) _
    refine XS.istoreN X0.here hx rfl (hb hby d3_30) rfl (l' := #[.val (.int (8 : Int32)), .val (.int (0 : Int32))]) rfl ?_
    show Steps p.tables e below (s₁.setTop (mkF m 31 #[.val (.int (8 : Int32)), .val (.int (0 : Int32))] [])) _
    refine XS.iloadN X0.here hx rfl (hb hby d3_31) rfl ?_
    show Steps p.tables e below (s₁.setTop (mkF m 32 #[.val (.int (8 : Int32)), .val (.int (0 : Int32))] [(.int (0 : Int32))])) _
    exact retN X0 hx (t := .boolean) Bd.returns (by simp) (hb hby d3_32) hr
  · show Q_rm3_8 Z  h0 n0 _ s₁.heap _
    rw [e0]
    exact ⟨rfl, N0, rfl⟩
set_option maxRecDepth 65536 in
set_option maxHeartbeats 40000000 in
theorem rm0_8 (l : Launch) (Z : State) (a0 : Array Value) (hw : ∀ d ∈ tables_1, d.before a0 Z = true) (ws : List Jvm.Cond) (p1 : Int32) (w_GREATER : Addr) (w_PLUS : Addr) (w_MINUS : Addr) (w_TIMES : Addr) (w_DIVIDE : Addr) (h0 : Heap) (n0 : Nat) (OL0 : Old Z n0 h0) (pr1 : ((p1 &&& (2147483647 : Int32)) % (14 : Int32)) = (8 : Int32)) (pr2 : Sta Z Z.heap "com/example/rigorous_chains/rigorouschains/prism/Expression$Operator" "GREATER" "Lcom/example/rigorous_chains/rigorouschains/prism/Expression$Operator;" (.ref w_GREATER)) (pr3 : Sta Z Z.heap "com/example/rigorous_chains/rigorouschains/prism/Expression$Operator" "PLUS" "Lcom/example/rigorous_chains/rigorouschains/prism/Expression$Operator;" (.ref w_PLUS)) (pr4 : w_GREATER ≠ w_PLUS) (pr5 : Sta Z Z.heap "com/example/rigorous_chains/rigorouschains/prism/Expression$Operator" "MINUS" "Lcom/example/rigorous_chains/rigorouschains/prism/Expression$Operator;" (.ref w_MINUS)) (pr6 : w_GREATER ≠ w_MINUS) (pr7 : Sta Z Z.heap "com/example/rigorous_chains/rigorouschains/prism/Expression$Operator" "TIMES" "Lcom/example/rigorous_chains/rigorouschains/prism/Expression$Operator;" (.ref w_TIMES)) (pr8 : w_GREATER ≠ w_TIMES) (pr9 : Sta Z Z.heap "com/example/rigorous_chains/rigorouschains/prism/Expression$Operator" "DIVIDE" "Lcom/example/rigorous_chains/rigorouschains/prism/Expression$Operator;" (.ref w_DIVIDE)) (pr10 : w_GREATER ≠ w_DIVIDE) (pr11 : Exa Z Z.heap w_GREATER "com/example/rigorous_chains/rigorouschains/prism/Expression$Operator") :
    MetFree l x (head1 (Jvm.Cond.code x code maxLocals ret :: ws) room_1) (fun a U => a = #[(.int p1)] ∧ Z.Warmed39 U.vm ∧ U.heap = h0) (fun _ _ _ _ _ => True) (fun _ U o U' => ∃ v L, o = .returned v ∧ Q0 n0 v L ∧ FrameEnd U o U' L 0 0) := by
  refine MetFree.of_bodySF (plainFor_of_name pn_0) hisR ?_
  intro p e s m args below meth c s₁ Bd hml0 hP hK
  obtain ⟨rfl, hZ, hh⟩ := hP
  have hx := Bd.exec
  have hby := Bd.bytes
  have hml : c.maxLocals = 3 := hml0
  have hown : s.vm.findClass "com/example/rigorous_chains/rigorouschains/prism/OperatorIsArithmeticPinLaw" = some m.cls := findClass_of_methodNamed Bd.named
  have hnm := (name_of_methodNamed Bd.named Bd.method).1
  have X0 : Stand p l e room_1 s m #[(.int p1)] below meth c s₁ [] 0 0 := Stand.of_body Bd
  have e0 : s₁.heap = h0 := by rw [← hh, Bd.state]; rfl
  have N0 := Fr.nil n0
  have pre0 : ∀ t, Steps p.tables e below (s₁.setTop (mkF m 0 #[.val (.int p1), .unset, .unset] [])) t → Steps p.tables e below (s₁.setTop (entryFrame m #[(.int p1)] maxLocals)) t := fun t k => castTop (ef_0_3 m p1) k
  obtain ⟨_, _, ⟨T1, L1, k1, n1⟩, -, X1, ⟨Lc1, hQ1, l1, y1, z1⟩, st1⟩ := Jvm.LawKit.callS X0 hx (y := (⟨"com/example/rigorous_chains/rigorouschains/prism/OperatorIsArithmeticPinLaw", "pick", "(I)Lcom/example/rigorous_chains/rigorouschains/prism/Expression$Operator;"⟩ : MethodName)) hown (mvT hZ (wd1 hw)) (mvT hZ (wd2 hw)) (mvT hZ (wd3 hw)) (mvT hZ (wd4 hw)) (by decide) (backOf (W := 0) (rm1_8 l Z a0 hw [] w_GREATER h0 n0 OL0 pr2) hZ (wd4 hw) (wd3 hw) (by decide) (by decide)) (g := (mkF m 9 #[.val (.int p1), .val (.int (8 : Int32)), .unset] [(.int (8 : Int32))])) rfl (by rw [hml]; rfl) (argsL := [(.int (8 : Int32))]) (rest := []) (lenOf pd_0 rfl) rfl (by show 2 * 0 + _ ≤ _; exact Nat.le_of_eq rfl) (hb hby at_9) (fun _ _ => ⟨rfl, e0, (by decide : 0 + 0 ≤ _), (by decide : 0 + 0 ≤ _)⟩)
  dsimp only [Pt.U, Pt.locs, Pt.cells, Pt.slots] at X1 l1 y1 z1 st1 hQ1
  subst l1 y1 z1
  obtain ⟨rfl, Nq1, ec1⟩ := hQ1
  have N1 := Fr.app N0 Nq1
  obtain ⟨cq2, kq2, q2a, q2b, q2c⟩ := isOf hZ ec1 (pr11.ext OL0.2)
  obtain ⟨_, _, ⟨T2, L2, k2, n2⟩, -, X2, ⟨Lc2, hQ2, l2, y2, z2⟩, st2⟩ := X1.virtualBack hx (y := (⟨"com/example/rigorous_chains/rigorouschains/prism/Expression$Operator", "isArithmetic", "()Z"⟩ : MethodName)) (z := (⟨"com/example/rigorous_chains/rigorouschains/prism/Expression$Operator", "isArithmetic", "()Z"⟩ : MethodName)) hown (mvT hZ (wd8 hw)) (mvT hZ (wd9 hw)) (notFace_of_selects (args := #[]) (mvT hZ (wd11 hw))) (mvT hZ (wd11 hw)) (mvT hZ (wd10 hw)) (by decide) (backOf (W := 0) (rm2_0 l Z a0 hw [] w_GREATER w_PLUS w_MINUS w_TIMES w_DIVIDE h0 n0 OL0 pr3 pr4 pr5 pr6 pr7 pr8 pr9 pr10) hZ (wd12 hw) (wd6 hw) (by decide) (by decide)) q2a q2c (g := (mkF m 14 #[.val (.int p1), .val (.int (8 : Int32)), .val (.ref w_GREATER)] [(.ref w_GREATER)])) rfl (by rw [hml]; rfl) (Steps.refl _) (argsL := []) (rest := []) (lenOf pd_1 rfl) rfl (by show 2 * 0 + _ ≤ _; exact Nat.le_of_eq rfl) (hb hby at_14) (fun _ _ => ⟨rfl, ec1, (by decide : 0 + 0 ≤ _), (by decide : 0 + 0 ≤ _)⟩)
  dsimp only [Pt.U, Pt.locs, Pt.cells, Pt.slots] at X2 l2 y2 z2 st2 hQ2
  subst l2 y2 z2
  obtain ⟨rfl, Nq2, ec2⟩ := hQ2
  have N2 := Fr.app N1 Nq2
  obtain ⟨_, _, ⟨T3, L3, k3, n3⟩, -, X3, ⟨Lc3, hQ3, l3, y3, z3⟩, st3⟩ := Jvm.LawKit.callS X2 hx (y := (⟨"com/example/rigorous_chains/rigorouschains/prism/OperatorIsArithmeticPinLaw", "expected", "(I)Z"⟩ : MethodName)) hown (mvT hZ (wd21 hw)) (mvT hZ (wd22 hw)) (mvT hZ (wd3 hw)) (mvT hZ (wd23 hw)) (by decide) (backOf (W := 1) (rm3_8 l Z a0 hw []  h0 n0 OL0 ) hZ (wd23 hw) (wd3 hw) (by decide) (by decide)) (g := (mkF m 18 #[.val (.int p1), .val (.int (8 : Int32)), .val (.ref w_GREATER)] [(.int (8 : Int32)), (.int (0 : Int32))])) rfl (by rw [hml]; rfl) (argsL := [(.int (8 : Int32))]) (rest := [(.int (0 : Int32))]) (lenOf pd_2 rfl) rfl (by show 2 * 0 + _ ≤ _; exact Nat.le_of_eq rfl) (hb hby at_18) (fun _ _ => ⟨rfl, ec2, (by decide : 0 + 0 ≤ _), (by decide : 0 + 0 ≤ _)⟩)
  dsimp only [Pt.U, Pt.locs, Pt.cells, Pt.slots] at X3 l3 y3 z3 st3 hQ3
  subst l3 y3 z3
  obtain ⟨rfl, Nq3, ec3⟩ := hQ3
  have N3 := Fr.app N2 Nq3
  obtain ⟨fs, hr, hrun, hended, hW, hsame⟩ := X3.leave (v := some (.int (1 : Int32))) (fun h => by rw [Bd.returns] at h; cases h)
  refine ⟨_, _, pre0 _ ?_, hrun, hended, _, _, rfl, ?_, ⟨_, rfl⟩, hW, hsame.mono (by decide) (by decide)⟩
  · show Steps p.tables e below (s₁.setTop (mkF m 0 #[.val (.int p1), .unset, .unset] [])) _
    refine XS.iloadN X0.here hx rfl (hb hby at_0) rfl ?_
    show Steps p.tables e below (s₁.setTop (mkF m 1 #[.val (.int p1), .unset, .unset] [(.int p1)])) _
    refine X0.ldcInt hx hown (mvT hZ (wd0 hw)) (g := (mkF m 1 #[.val (.int p1), .unset, .unset] [(.int p1)])) rfl (hb hby at_1) _ ?_
    show Steps p.tables e below (s₁.setTop (mkF m 3 #[.val (.int p1), .unset, .unset] [(.int (2147483647 : Int32)), (.int p1)])) _
    refine XS.iand X0.here hx rfl (hb hby at_3) rfl ?_
    show Steps p.tables e below (s₁.setTop (mkF m 4 #[.val (.int p1), .unset, .unset] [(.int (p1 &&& (2147483647 : Int32)))])) _
    refine XS.bipush X0.here hx rfl (hb hby at_4) ?_
    show Steps p.tables e below (s₁.setTop (mkF m 6 #[.val (.int p1), .unset, .unset] [(.int (14 : Int32)), (.int (p1 &&& (2147483647 : Int32)))])) _
    refine iremM X0 hx rfl (hb hby at_6) rfl (by decide) ?_
    show Steps p.tables e below (s₁.setTop (mkF m 7 #[.val (.int p1), .unset, .unset] [(.int ((p1 &&& (2147483647 : Int32)) % (14 : Int32)))])) _
    rw [pr1]
    show Steps p.tables e below (s₁.setTop (mkF m 7 #[.val (.int p1), .unset, .unset] [(.int (8 : Int32))])) _
    refine XS.istoreN X0.here hx rfl (hb hby at_7) rfl (l' := #[.val (.int p1), .val (.int (8 : Int32)), .unset]) rfl ?_
    show Steps p.tables e below (s₁.setTop (mkF m 8 #[.val (.int p1), .val (.int (8 : Int32)), .unset] [])) _
    refine XS.iloadN X0.here hx rfl (hb hby at_8) rfl ?_
    show Steps p.tables e below (s₁.setTop (mkF m 9 #[.val (.int p1), .val (.int (8 : Int32)), .unset] [(.int (8 : Int32))])) _
    refine st1 _ ?_
    show Steps p.tables e below (T1.setTop (mkF m 12 #[.val (.int p1), .val (.int (8 : Int32)), .unset] [(.ref w_GREATER)])) _
    refine XS.astoreN X1.here hx rfl (hb hby at_12) rfl rfl (l' := #[.val (.int p1), .val (.int (8 : Int32)), .val (.ref w_GREATER)]) rfl ?_
    show Steps p.tables e below (T1.setTop (mkF m 13 #[.val (.int p1), .val (.int (8 : Int32)), .val (.ref w_GREATER)] [])) _
    refine XS.aloadN X1.here hx rfl (hb hby at_13) rfl rfl ?_
    show Steps p.tables e below (T1.setTop (mkF m 14 #[.val (.int p1), .val (.int (8 : Int32)), .val (.ref w_GREATER)] [(.ref w_GREATER)])) _
    refine st2.trans ?_
    show Steps p.tables e below (T2.setTop (mkF m 17 #[.val (.int p1), .val (.int (8 : Int32)), .val (.ref w_GREATER)] [(.int (0 : Int32))])) _
    refine XS.iloadN X2.here hx rfl (hb hby at_17) rfl ?_
    show Steps p.tables e below (T2.setTop (mkF m 18 #[.val (.int p1), .val (.int (8 : Int32)), .val (.ref w_GREATER)] [(.int (8 : Int32)), (.int (0 : Int32))])) _
    refine st3 _ ?_
    show Steps p.tables e below (T3.setTop (mkF m 21 #[.val (.int p1), .val (.int (8 : Int32)), .val (.ref w_GREATER)] [(.int (0 : Int32)), (.int (0 : Int32))])) _
    refine XS.icmpNo X3.here hx rfl (hb hby at_21) rfl (teq (rfl : (0 : Int32) = (0 : Int32))).2 ?_
    show Steps p.tables e below (T3.setTop (mkF m 24 #[.val (.int p1), .val (.int (8 : Int32)), .val (.ref w_GREATER)] [])) _
    refine XS.iconst X3.here hx rfl (hb hby at_24) ?_
    show Steps p.tables e below (T3.setTop (mkF m 25 #[.val (.int p1), .val (.int (8 : Int32)), .val (.ref w_GREATER)] [(.int (1 : Int32))])) _
    refine XS.goto X3.here hx rfl (pc0 := 25) (pc' := 29) rfl (hb hby at_25) (by decide) (by decide) ?_
    show Steps p.tables e below (T3.setTop (mkF m 29 #[.val (.int p1), .val (.int (8 : Int32)), .val (.ref w_GREATER)] [(.int (1 : Int32))])) _
    exact retN X3 hx (t := .boolean) Bd.returns (by simp) (hb hby at_29) hr
  · exact ⟨rfl, N3⟩
theorem d1_83 : decode method_2_code 83 = .ok (.iload_n 0, 1) := by decide +kernel
theorem d1_84 : decode method_2_code 84 = .ok (.bipush 9, 2) := by decide +kernel
theorem d1_86 : decode method_2_code 86 = .ok (.if_icmp .ne 7, 3) := by decide +kernel
theorem d1_89 : decode method_2_code 89 = .ok (.getstatic 37, 3) := by decide +kernel
theorem d1_92 : decode method_2_code 92 = .ok (.areturn, 1) := by decide +kernel
theorem ef_1_20 (m : MethodId)  : entryFrame m #[(.int (9 : Int32))] 1 = mkF m 0 #[.val (.int (9 : Int32))] [] := by first | (simp [entryFrame, mkF, argsToLocals, Value.category]; done) | rfl
def Q_rm1_9 (Z : State) (w1 : Addr) (h0 : Heap) (n0 : Nat) (v : Option Value) (h : Heap) (L : List Loc) : Prop := v = some (.ref w1) ∧ Fr n0 L ∧ h = h0
set_option maxRecDepth 65536 in
set_option maxHeartbeats 40000000 in
theorem rm1_9 (l : Launch) (Z : State) (a0 : Array Value) (hw : ∀ d ∈ tables_1, d.before a0 Z = true) (ws : List Jvm.Cond) (w1 : Addr) (h0 : Heap) (n0 : Nat) (OL0 : Old Z n0 h0) (pr1 : Sta Z Z.heap "com/example/rigorous_chains/rigorouschains/prism/Expression$Operator" "GREATER_OR_EQUAL" "Lcom/example/rigorous_chains/rigorouschains/prism/Expression$Operator;" (.ref w1)) :
    MetFree l (⟨"com/example/rigorous_chains/rigorouschains/prism/OperatorIsArithmeticPinLaw", "pick", "(I)Lcom/example/rigorous_chains/rigorouschains/prism/Expression$Operator;"⟩ : MethodName) (head1 (Jvm.Cond.code (⟨"com/example/rigorous_chains/rigorouschains/prism/OperatorIsArithmeticPinLaw", "pick", "(I)Lcom/example/rigorous_chains/rigorouschains/prism/Expression$Operator;"⟩ : MethodName) method_2_code 1 (some (.object "com/example/rigorous_chains/rigorouschains/prism/Expression$Operator")) :: ws) ({ frames := 0, cells := 0, slots := 0, locals := 0 } : Room)) (fun a U => a = #[(.int (9 : Int32))] ∧ Z.Warmed39 U.vm ∧ U.heap = h0) (fun _ _ _ _ _ => True) (fun _ U o U' => ∃ v L, o = .returned v ∧ Q_rm1_9 Z w1 h0 n0 v U'.heap L ∧ FrameEnd U o U' L ({ frames := 0, cells := 0, slots := 0, locals := 0 } : Room).cells ({ frames := 0, cells := 0, slots := 0, locals := 0 } : Room).slots) := by
  refine MetFree.of_bodySF (plainFor_of_name pn_0) hisR ?_
  intro p e s m args below meth c s₁ Bd hml0 hP hK
  obtain ⟨rfl, hZ, hh⟩ := hP
  have hx := Bd.exec
  have hby := Bd.bytes
  have hml : c.maxLocals = 1 := hml0
  have hown : s.vm.findClass "com/example/rigorous_chains/rigorouschains/prism/OperatorIsArithmeticPinLaw" = some m.cls := findClass_of_methodNamed Bd.named
  have hnm := (name_of_methodNamed Bd.named Bd.method).1
  have X0 : Stand p l e ({ frames := 0, cells := 0, slots := 0, locals := 0 } : Room) s m #[(.int (9 : Int32))] below meth c s₁ [] 0 0 := Stand.of_body Bd
  have e0 : s₁.heap = h0 := by rw [← hh, Bd.state]; rfl
  have N0 := Fr.nil n0
  have pre0 : ∀ t, Steps p.tables e below (s₁.setTop (mkF m 0 #[.val (.int (9 : Int32))] [])) t → Steps p.tables e below (s₁.setTop (entryFrame m #[(.int (9 : Int32))] 1)) t := fun t k => castTop (ef_1_20 m ) k
  obtain ⟨T2, X2, e2, st2⟩ := getS2 X0 hx hZ hown (host := "") (Or.inl (wd40 hw)) Via.refl e0 (pr1.ext OL0.2) (g := (mkF m 89 #[.val (.int (9 : Int32))] [])) rfl (hb hby d1_89)
  obtain ⟨fs, hr, hrun, hended, hW, hsame⟩ := X2.leave (v := some (.ref w1)) (fun h => by rw [Bd.returns] at h; cases h)
  refine ⟨_, _, pre0 _ ?_, hrun, hended, _, _, rfl, ?_, ⟨_, rfl⟩, hW, hsame.mono (by decide) (by decide)⟩
  · show Steps p.tables e below (s₁.setTop (mkF m 0 #[.val (.int (9 : Int32))] [])) _
    refine XS.iloadN X0.here hx rfl (hb hby d1_0) rfl ?_
    show Steps p.tables e below (s₁.setTop (mkF m 1 #[.val (.int (9 : Int32))] [(.int (9 : Int32))])) _
    refine XS.ifYes X0.here hx rfl (pc0 := 1) (pc' := 8) rfl (hb hby d1_1) rfl ((if0 _ _).trans (feq (by decide : ¬ ((9 : Int32) = (0 : Int32)))).2) (by decide) (by decide) ?_
    show Steps p.tables e below (s₁.setTop (mkF m 8 #[.val (.int (9 : Int32))] [])) _
    refine XS.iloadN X0.here hx rfl (hb hby d1_8) rfl ?_
    show Steps p.tables e below (s₁.setTop (mkF m 9 #[.val (.int (9 : Int32))] [(.int (9 : Int32))])) _
    refine XS.iconst X0.here hx rfl (hb hby d1_9) ?_
    show Steps p.tables e below (s₁.setTop (mkF m 10 #[.val (.int (9 : Int32))] [(.int (1 : Int32)), (.int (9 : Int32))])) _
    refine XS.icmpYes X0.here hx rfl (pc0 := 10) (pc' := 17) rfl (hb hby d1_10) rfl (feq (by decide : ¬ ((9 : Int32) = (1 : Int32)))).2 (by decide) (by decide) ?_
    show Steps p.tables e below (s₁.setTop (mkF m 17 #[.val (.int (9 : Int32))] [])) _
    refine XS.iloadN X0.here hx rfl (hb hby d1_17) rfl ?_
    show Steps p.tables e below (s₁.setTop (mkF m 18 #[.val (.int (9 : Int32))] [(.int (9 : Int32))])) _
    refine XS.iconst X0.here hx rfl (hb hby d1_18) ?_
    show Steps p.tables e below (s₁.setTop (mkF m 19 #[.val (.int (9 : Int32))] [(.int (2 : Int32)), (.int (9 : Int32))])) _
    refine XS.icmpYes X0.here hx rfl (pc0 := 19) (pc' := 26) rfl (hb hby d1_19) rfl (feq (by decide : ¬ ((9 : Int32) = (2 : Int32)))).2 (by decide) (by decide) ?_
    show Steps p.tables e below (s₁.setTop (mkF m 26 #[.val (.int (9 : Int32))] [])) _
    refine XS.iloadN X0.here hx rfl (hb hby d1_26) rfl ?_
    show Steps p.tables e below (s₁.setTop (mkF m 27 #[.val (.int (9 : Int32))] [(.int (9 : Int32))])) _
    refine XS.iconst X0.here hx rfl (hb hby d1_27) ?_
    show Steps p.tables e below (s₁.setTop (mkF m 28 #[.val (.int (9 : Int32))] [(.int (3 : Int32)), (.int (9 : Int32))])) _
    refine XS.icmpYes X0.here hx rfl (pc0 := 28) (pc' := 35) rfl (hb hby d1_28) rfl (feq (by decide : ¬ ((9 : Int32) = (3 : Int32)))).2 (by decide) (by decide) ?_
    show Steps p.tables e below (s₁.setTop (mkF m 35 #[.val (.int (9 : Int32))] [])) _
    refine XS.iloadN X0.here hx rfl (hb hby d1_35) rfl ?_
    show Steps p.tables e below (s₁.setTop (mkF m 36 #[.val (.int (9 : Int32))] [(.int (9 : Int32))])) _
    refine XS.iconst X0.here hx rfl (hb hby d1_36) ?_
    show Steps p.tables e below (s₁.setTop (mkF m 37 #[.val (.int (9 : Int32))] [(.int (4 : Int32)), (.int (9 : Int32))])) _
    refine XS.icmpYes X0.here hx rfl (pc0 := 37) (pc' := 44) rfl (hb hby d1_37) rfl (feq (by decide : ¬ ((9 : Int32) = (4 : Int32)))).2 (by decide) (by decide) ?_
    show Steps p.tables e below (s₁.setTop (mkF m 44 #[.val (.int (9 : Int32))] [])) _
    refine XS.iloadN X0.here hx rfl (hb hby d1_44) rfl ?_
    show Steps p.tables e below (s₁.setTop (mkF m 45 #[.val (.int (9 : Int32))] [(.int (9 : Int32))])) _
    refine XS.iconst X0.here hx rfl (hb hby d1_45) ?_
    show Steps p.tables e below (s₁.setTop (mkF m 46 #[.val (.int (9 : Int32))] [(.int (5 : Int32)), (.int (9 : Int32))])) _
    refine XS.icmpYes X0.here hx rfl (pc0 := 46) (pc' := 53) rfl (hb hby d1_46) rfl (feq (by decide : ¬ ((9 : Int32) = (5 : Int32)))).2 (by decide) (by decide) ?_
    show Steps p.tables e below (s₁.setTop (mkF m 53 #[.val (.int (9 : Int32))] [])) _
    refine XS.iloadN X0.here hx rfl (hb hby d1_53) rfl ?_
    show Steps p.tables e below (s₁.setTop (mkF m 54 #[.val (.int (9 : Int32))] [(.int (9 : Int32))])) _
    refine XS.bipush X0.here hx rfl (hb hby d1_54) ?_
    show Steps p.tables e below (s₁.setTop (mkF m 56 #[.val (.int (9 : Int32))] [(.int (6 : Int32)), (.int (9 : Int32))])) _
    refine XS.icmpYes X0.here hx rfl (pc0 := 56) (pc' := 63) rfl (hb hby d1_56) rfl (feq (by decide : ¬ ((9 : Int32) = (6 : Int32)))).2 (by decide) (by decide) ?_
    show Steps p.tables e below (s₁.setTop (mkF m 63 #[.val (.int (9 : Int32))] [])) _
    refine XS.iloadN X0.here hx rfl (hb hby d1_63) rfl ?_
    show Steps p.tables e below (s₁.setTop (mkF m 64 #[.val (.int (9 : Int32))] [(.int (9 : Int32))])) _
    refine XS.bipush X0.here hx rfl (hb hby d1_64) ?_
    show Steps p.tables e below (s₁.setTop (mkF m 66 #[.val (.int (9 : Int32))] [(.int (7 : Int32)), (.int (9 : Int32))])) _
    refine XS.icmpYes X0.here hx rfl (pc0 := 66) (pc' := 73) rfl (hb hby d1_66) rfl (feq (by decide : ¬ ((9 : Int32) = (7 : Int32)))).2 (by decide) (by decide) ?_
    show Steps p.tables e below (s₁.setTop (mkF m 73 #[.val (.int (9 : Int32))] [])) _
    refine XS.iloadN X0.here hx rfl (hb hby d1_73) rfl ?_
    show Steps p.tables e below (s₁.setTop (mkF m 74 #[.val (.int (9 : Int32))] [(.int (9 : Int32))])) _
    refine XS.bipush X0.here hx rfl (hb hby d1_74) ?_
    show Steps p.tables e below (s₁.setTop (mkF m 76 #[.val (.int (9 : Int32))] [(.int (8 : Int32)), (.int (9 : Int32))])) _
    refine XS.icmpYes X0.here hx rfl (pc0 := 76) (pc' := 83) rfl (hb hby d1_76) rfl (feq (by decide : ¬ ((9 : Int32) = (8 : Int32)))).2 (by decide) (by decide) ?_
    show Steps p.tables e below (s₁.setTop (mkF m 83 #[.val (.int (9 : Int32))] [])) _
    refine XS.iloadN X0.here hx rfl (hb hby d1_83) rfl ?_
    show Steps p.tables e below (s₁.setTop (mkF m 84 #[.val (.int (9 : Int32))] [(.int (9 : Int32))])) _
    refine XS.bipush X0.here hx rfl (hb hby d1_84) ?_
    show Steps p.tables e below (s₁.setTop (mkF m 86 #[.val (.int (9 : Int32))] [(.int (9 : Int32)), (.int (9 : Int32))])) _
    refine XS.icmpNo X0.here hx rfl (hb hby d1_86) rfl (teq (rfl : (9 : Int32) = (9 : Int32))).2 ?_
    show Steps p.tables e below (s₁.setTop (mkF m 89 #[.val (.int (9 : Int32))] [])) _
    refine st2 _ ?_
    show Steps p.tables e below (T2.setTop (mkF m 92 #[.val (.int (9 : Int32))] [(.ref w1)])) _
    jvm_step X2.here [X2.here.top, hx, (hb hby d1_92), X2.method', Bd.returns, Value.isRef, FieldType.isReference]
    first | (intro acts; rw [hr _ acts rfl rfl rfl]) | rw [hr _ _ rfl rfl rfl]
    exact Steps.refl _
  · show Q_rm1_9 Z w1 h0 n0 _ T2.heap _
    rw [e2]
    exact ⟨rfl, N0, rfl⟩
theorem ef_3_21 (m : MethodId)  : entryFrame m #[(.int (9 : Int32))] 2 = mkF m 0 #[.val (.int (9 : Int32)), .unset] [] := by first | (simp [entryFrame, mkF, argsToLocals, Value.category]; done) | rfl
def Q_rm3_9 (Z : State)  (h0 : Heap) (n0 : Nat) (v : Option Value) (h : Heap) (L : List Loc) : Prop := v = some (.int (0 : Int32)) ∧ Fr n0 L ∧ h = h0
set_option maxRecDepth 65536 in
set_option maxHeartbeats 40000000 in
theorem rm3_9 (l : Launch) (Z : State) (a0 : Array Value) (hw : ∀ d ∈ tables_1, d.before a0 Z = true) (ws : List Jvm.Cond)  (h0 : Heap) (n0 : Nat) (OL0 : Old Z n0 h0)  :
    MetFree l (⟨"com/example/rigorous_chains/rigorouschains/prism/OperatorIsArithmeticPinLaw", "expected", "(I)Z"⟩ : MethodName) (head1 (Jvm.Cond.code (⟨"com/example/rigorous_chains/rigorouschains/prism/OperatorIsArithmeticPinLaw", "expected", "(I)Z"⟩ : MethodName) method_3_code 2 (some .boolean) :: ws) ({ frames := 0, cells := 0, slots := 0, locals := 0 } : Room)) (fun a U => a = #[(.int (9 : Int32))] ∧ Z.Warmed39 U.vm ∧ U.heap = h0) (fun _ _ _ _ _ => True) (fun _ U o U' => ∃ v L, o = .returned v ∧ Q_rm3_9 Z  h0 n0 v U'.heap L ∧ FrameEnd U o U' L ({ frames := 0, cells := 0, slots := 0, locals := 0 } : Room).cells ({ frames := 0, cells := 0, slots := 0, locals := 0 } : Room).slots) := by
  refine MetFree.of_bodySF (plainFor_of_name pn_0) hisR ?_
  intro p e s m args below meth c s₁ Bd hml0 hP hK
  obtain ⟨rfl, hZ, hh⟩ := hP
  have hx := Bd.exec
  have hby := Bd.bytes
  have hml : c.maxLocals = 2 := hml0
  have hown : s.vm.findClass "com/example/rigorous_chains/rigorouschains/prism/OperatorIsArithmeticPinLaw" = some m.cls := findClass_of_methodNamed Bd.named
  have hnm := (name_of_methodNamed Bd.named Bd.method).1
  have X0 : Stand p l e ({ frames := 0, cells := 0, slots := 0, locals := 0 } : Room) s m #[(.int (9 : Int32))] below meth c s₁ [] 0 0 := Stand.of_body Bd
  have e0 : s₁.heap = h0 := by rw [← hh, Bd.state]; rfl
  have N0 := Fr.nil n0
  have pre0 : ∀ t, Steps p.tables e below (s₁.setTop (mkF m 0 #[.val (.int (9 : Int32)), .unset] [])) t → Steps p.tables e below (s₁.setTop (entryFrame m #[(.int (9 : Int32))] 2)) t := fun t k => castTop (ef_3_21 m ) k
  obtain ⟨fs, hr, hrun, hended, hW, hsame⟩ := X0.leave (v := some (.int (0 : Int32))) (fun h => by rw [Bd.returns] at h; cases h)
  refine ⟨_, _, pre0 _ ?_, hrun, hended, _, _, rfl, ?_, ⟨_, rfl⟩, hW, hsame.mono (by decide) (by decide)⟩
  · show Steps p.tables e below (s₁.setTop (mkF m 0 #[.val (.int (9 : Int32)), .unset] [])) _
    refine XS.iloadN X0.here hx rfl (hb hby d3_0) rfl ?_
    show Steps p.tables e below (s₁.setTop (mkF m 1 #[.val (.int (9 : Int32)), .unset] [(.int (9 : Int32))])) _
    refine XS.bipush X0.here hx rfl (hb hby d3_1) ?_
    show Steps p.tables e below (s₁.setTop (mkF m 3 #[.val (.int (9 : Int32)), .unset] [(.int (10 : Int32)), (.int (9 : Int32))])) _
    refine XS.icmpNo X0.here hx rfl (hb hby d3_3) rfl (feq (by decide : ¬ ((9 : Int32) = (10 : Int32)))).1 ?_
    show Steps p.tables e below (s₁.setTop (mkF m 6 #[.val (.int (9 : Int32)), .unset] [])) _
    refine XS.iloadN X0.here hx rfl (hb hby d3_6) rfl ?_
    show Steps p.tables e below (s₁.setTop (mkF m 7 #[.val (.int (9 : Int32)), .unset] [(.int (9 : Int32))])) _
    refine XS.bipush X0.here hx rfl (hb hby d3_7) ?_
    show Steps p.tables e below (s₁.setTop (mkF m 9 #[.val (.int (9 : Int32)), .unset] [(.int (11 : Int32)), (.int (9 : Int32))])) _
    refine XS.icmpNo X0.here hx rfl (hb hby d3_9) rfl (feq (by decide : ¬ ((9 : Int32) = (11 : Int32)))).1 ?_
    show Steps p.tables e below (s₁.setTop (mkF m 12 #[.val (.int (9 : Int32)), .unset] [])) _
    refine XS.iloadN X0.here hx rfl (hb hby d3_12) rfl ?_
    show Steps p.tables e below (s₁.setTop (mkF m 13 #[.val (.int (9 : Int32)), .unset] [(.int (9 : Int32))])) _
    refine XS.bipush X0.here hx rfl (hb hby d3_13) ?_
    show Steps p.tables e below (s₁.setTop (mkF m 15 #[.val (.int (9 : Int32)), .unset] [(.int (12 : Int32)), (.int (9 : Int32))])) _
    refine XS.icmpNo X0.here hx rfl (hb hby d3_15) rfl (feq (by decide : ¬ ((9 : Int32) = (12 : Int32)))).1 ?_
    show Steps p.tables e below (s₁.setTop (mkF m 18 #[.val (.int (9 : Int32)), .unset] [])) _
    refine XS.iloadN X0.here hx rfl (hb hby d3_18) rfl ?_
    show Steps p.tables e below (s₁.setTop (mkF m 19 #[.val (.int (9 : Int32)), .unset] [(.int (9 : Int32))])) _
    refine XS.bipush X0.here hx rfl (hb hby d3_19) ?_
    show Steps p.tables e below (s₁.setTop (mkF m 21 #[.val (.int (9 : Int32)), .unset] [(.int (13 : Int32)), (.int (9 : Int32))])) _
    refine XS.icmpYes X0.here hx rfl (pc0 := 21) (pc' := 29) rfl (hb hby d3_21) rfl (feq (by decide : ¬ ((9 : Int32) = (13 : Int32)))).2 (by decide) (by decide) ?_
    show Steps p.tables e below (s₁.setTop (mkF m 29 #[.val (.int (9 : Int32)), .unset] [])) _
    refine XS.iconst X0.here hx rfl (hb hby d3_29) ?_
    show Steps p.tables e below (s₁.setTop (mkF m 30 #[.val (.int (9 : Int32)), .unset] [(.int (0 : Int32))])) _
    refine XS.istoreN X0.here hx rfl (hb hby d3_30) rfl (l' := #[.val (.int (9 : Int32)), .val (.int (0 : Int32))]) rfl ?_
    show Steps p.tables e below (s₁.setTop (mkF m 31 #[.val (.int (9 : Int32)), .val (.int (0 : Int32))] [])) _
    refine XS.iloadN X0.here hx rfl (hb hby d3_31) rfl ?_
    show Steps p.tables e below (s₁.setTop (mkF m 32 #[.val (.int (9 : Int32)), .val (.int (0 : Int32))] [(.int (0 : Int32))])) _
    exact retN X0 hx (t := .boolean) Bd.returns (by simp) (hb hby d3_32) hr
  · show Q_rm3_9 Z  h0 n0 _ s₁.heap _
    rw [e0]
    exact ⟨rfl, N0, rfl⟩
set_option maxRecDepth 65536 in
set_option maxHeartbeats 40000000 in
theorem rm0_9 (l : Launch) (Z : State) (a0 : Array Value) (hw : ∀ d ∈ tables_1, d.before a0 Z = true) (ws : List Jvm.Cond) (p1 : Int32) (w_GREATER_OR_EQUAL : Addr) (w_PLUS : Addr) (w_MINUS : Addr) (w_TIMES : Addr) (w_DIVIDE : Addr) (h0 : Heap) (n0 : Nat) (OL0 : Old Z n0 h0) (pr1 : ((p1 &&& (2147483647 : Int32)) % (14 : Int32)) = (9 : Int32)) (pr2 : Sta Z Z.heap "com/example/rigorous_chains/rigorouschains/prism/Expression$Operator" "GREATER_OR_EQUAL" "Lcom/example/rigorous_chains/rigorouschains/prism/Expression$Operator;" (.ref w_GREATER_OR_EQUAL)) (pr3 : Sta Z Z.heap "com/example/rigorous_chains/rigorouschains/prism/Expression$Operator" "PLUS" "Lcom/example/rigorous_chains/rigorouschains/prism/Expression$Operator;" (.ref w_PLUS)) (pr4 : w_GREATER_OR_EQUAL ≠ w_PLUS) (pr5 : Sta Z Z.heap "com/example/rigorous_chains/rigorouschains/prism/Expression$Operator" "MINUS" "Lcom/example/rigorous_chains/rigorouschains/prism/Expression$Operator;" (.ref w_MINUS)) (pr6 : w_GREATER_OR_EQUAL ≠ w_MINUS) (pr7 : Sta Z Z.heap "com/example/rigorous_chains/rigorouschains/prism/Expression$Operator" "TIMES" "Lcom/example/rigorous_chains/rigorouschains/prism/Expression$Operator;" (.ref w_TIMES)) (pr8 : w_GREATER_OR_EQUAL ≠ w_TIMES) (pr9 : Sta Z Z.heap "com/example/rigorous_chains/rigorouschains/prism/Expression$Operator" "DIVIDE" "Lcom/example/rigorous_chains/rigorouschains/prism/Expression$Operator;" (.ref w_DIVIDE)) (pr10 : w_GREATER_OR_EQUAL ≠ w_DIVIDE) (pr11 : Exa Z Z.heap w_GREATER_OR_EQUAL "com/example/rigorous_chains/rigorouschains/prism/Expression$Operator") :
    MetFree l x (head1 (Jvm.Cond.code x code maxLocals ret :: ws) room_1) (fun a U => a = #[(.int p1)] ∧ Z.Warmed39 U.vm ∧ U.heap = h0) (fun _ _ _ _ _ => True) (fun _ U o U' => ∃ v L, o = .returned v ∧ Q0 n0 v L ∧ FrameEnd U o U' L 0 0) := by
  refine MetFree.of_bodySF (plainFor_of_name pn_0) hisR ?_
  intro p e s m args below meth c s₁ Bd hml0 hP hK
  obtain ⟨rfl, hZ, hh⟩ := hP
  have hx := Bd.exec
  have hby := Bd.bytes
  have hml : c.maxLocals = 3 := hml0
  have hown : s.vm.findClass "com/example/rigorous_chains/rigorouschains/prism/OperatorIsArithmeticPinLaw" = some m.cls := findClass_of_methodNamed Bd.named
  have hnm := (name_of_methodNamed Bd.named Bd.method).1
  have X0 : Stand p l e room_1 s m #[(.int p1)] below meth c s₁ [] 0 0 := Stand.of_body Bd
  have e0 : s₁.heap = h0 := by rw [← hh, Bd.state]; rfl
  have N0 := Fr.nil n0
  have pre0 : ∀ t, Steps p.tables e below (s₁.setTop (mkF m 0 #[.val (.int p1), .unset, .unset] [])) t → Steps p.tables e below (s₁.setTop (entryFrame m #[(.int p1)] maxLocals)) t := fun t k => castTop (ef_0_3 m p1) k
  obtain ⟨_, _, ⟨T1, L1, k1, n1⟩, -, X1, ⟨Lc1, hQ1, l1, y1, z1⟩, st1⟩ := Jvm.LawKit.callS X0 hx (y := (⟨"com/example/rigorous_chains/rigorouschains/prism/OperatorIsArithmeticPinLaw", "pick", "(I)Lcom/example/rigorous_chains/rigorouschains/prism/Expression$Operator;"⟩ : MethodName)) hown (mvT hZ (wd1 hw)) (mvT hZ (wd2 hw)) (mvT hZ (wd3 hw)) (mvT hZ (wd4 hw)) (by decide) (backOf (W := 0) (rm1_9 l Z a0 hw [] w_GREATER_OR_EQUAL h0 n0 OL0 pr2) hZ (wd4 hw) (wd3 hw) (by decide) (by decide)) (g := (mkF m 9 #[.val (.int p1), .val (.int (9 : Int32)), .unset] [(.int (9 : Int32))])) rfl (by rw [hml]; rfl) (argsL := [(.int (9 : Int32))]) (rest := []) (lenOf pd_0 rfl) rfl (by show 2 * 0 + _ ≤ _; exact Nat.le_of_eq rfl) (hb hby at_9) (fun _ _ => ⟨rfl, e0, (by decide : 0 + 0 ≤ _), (by decide : 0 + 0 ≤ _)⟩)
  dsimp only [Pt.U, Pt.locs, Pt.cells, Pt.slots] at X1 l1 y1 z1 st1 hQ1
  subst l1 y1 z1
  obtain ⟨rfl, Nq1, ec1⟩ := hQ1
  have N1 := Fr.app N0 Nq1
  obtain ⟨cq2, kq2, q2a, q2b, q2c⟩ := isOf hZ ec1 (pr11.ext OL0.2)
  obtain ⟨_, _, ⟨T2, L2, k2, n2⟩, -, X2, ⟨Lc2, hQ2, l2, y2, z2⟩, st2⟩ := X1.virtualBack hx (y := (⟨"com/example/rigorous_chains/rigorouschains/prism/Expression$Operator", "isArithmetic", "()Z"⟩ : MethodName)) (z := (⟨"com/example/rigorous_chains/rigorouschains/prism/Expression$Operator", "isArithmetic", "()Z"⟩ : MethodName)) hown (mvT hZ (wd8 hw)) (mvT hZ (wd9 hw)) (notFace_of_selects (args := #[]) (mvT hZ (wd11 hw))) (mvT hZ (wd11 hw)) (mvT hZ (wd10 hw)) (by decide) (backOf (W := 0) (rm2_0 l Z a0 hw [] w_GREATER_OR_EQUAL w_PLUS w_MINUS w_TIMES w_DIVIDE h0 n0 OL0 pr3 pr4 pr5 pr6 pr7 pr8 pr9 pr10) hZ (wd12 hw) (wd6 hw) (by decide) (by decide)) q2a q2c (g := (mkF m 14 #[.val (.int p1), .val (.int (9 : Int32)), .val (.ref w_GREATER_OR_EQUAL)] [(.ref w_GREATER_OR_EQUAL)])) rfl (by rw [hml]; rfl) (Steps.refl _) (argsL := []) (rest := []) (lenOf pd_1 rfl) rfl (by show 2 * 0 + _ ≤ _; exact Nat.le_of_eq rfl) (hb hby at_14) (fun _ _ => ⟨rfl, ec1, (by decide : 0 + 0 ≤ _), (by decide : 0 + 0 ≤ _)⟩)
  dsimp only [Pt.U, Pt.locs, Pt.cells, Pt.slots] at X2 l2 y2 z2 st2 hQ2
  subst l2 y2 z2
  obtain ⟨rfl, Nq2, ec2⟩ := hQ2
  have N2 := Fr.app N1 Nq2
  obtain ⟨_, _, ⟨T3, L3, k3, n3⟩, -, X3, ⟨Lc3, hQ3, l3, y3, z3⟩, st3⟩ := Jvm.LawKit.callS X2 hx (y := (⟨"com/example/rigorous_chains/rigorouschains/prism/OperatorIsArithmeticPinLaw", "expected", "(I)Z"⟩ : MethodName)) hown (mvT hZ (wd21 hw)) (mvT hZ (wd22 hw)) (mvT hZ (wd3 hw)) (mvT hZ (wd23 hw)) (by decide) (backOf (W := 1) (rm3_9 l Z a0 hw []  h0 n0 OL0 ) hZ (wd23 hw) (wd3 hw) (by decide) (by decide)) (g := (mkF m 18 #[.val (.int p1), .val (.int (9 : Int32)), .val (.ref w_GREATER_OR_EQUAL)] [(.int (9 : Int32)), (.int (0 : Int32))])) rfl (by rw [hml]; rfl) (argsL := [(.int (9 : Int32))]) (rest := [(.int (0 : Int32))]) (lenOf pd_2 rfl) rfl (by show 2 * 0 + _ ≤ _; exact Nat.le_of_eq rfl) (hb hby at_18) (fun _ _ => ⟨rfl, ec2, (by decide : 0 + 0 ≤ _), (by decide : 0 + 0 ≤ _)⟩)
  dsimp only [Pt.U, Pt.locs, Pt.cells, Pt.slots] at X3 l3 y3 z3 st3 hQ3
  subst l3 y3 z3
  obtain ⟨rfl, Nq3, ec3⟩ := hQ3
  have N3 := Fr.app N2 Nq3
  obtain ⟨fs, hr, hrun, hended, hW, hsame⟩ := X3.leave (v := some (.int (1 : Int32))) (fun h => by rw [Bd.returns] at h; cases h)
  refine ⟨_, _, pre0 _ ?_, hrun, hended, _, _, rfl, ?_, ⟨_, rfl⟩, hW, hsame.mono (by decide) (by decide)⟩
  · show Steps p.tables e below (s₁.setTop (mkF m 0 #[.val (.int p1), .unset, .unset] [])) _
    refine XS.iloadN X0.here hx rfl (hb hby at_0) rfl ?_
    show Steps p.tables e below (s₁.setTop (mkF m 1 #[.val (.int p1), .unset, .unset] [(.int p1)])) _
    refine X0.ldcInt hx hown (mvT hZ (wd0 hw)) (g := (mkF m 1 #[.val (.int p1), .unset, .unset] [(.int p1)])) rfl (hb hby at_1) _ ?_
    show Steps p.tables e below (s₁.setTop (mkF m 3 #[.val (.int p1), .unset, .unset] [(.int (2147483647 : Int32)), (.int p1)])) _
    refine XS.iand X0.here hx rfl (hb hby at_3) rfl ?_
    show Steps p.tables e below (s₁.setTop (mkF m 4 #[.val (.int p1), .unset, .unset] [(.int (p1 &&& (2147483647 : Int32)))])) _
    refine XS.bipush X0.here hx rfl (hb hby at_4) ?_
    show Steps p.tables e below (s₁.setTop (mkF m 6 #[.val (.int p1), .unset, .unset] [(.int (14 : Int32)), (.int (p1 &&& (2147483647 : Int32)))])) _
    refine iremM X0 hx rfl (hb hby at_6) rfl (by decide) ?_
    show Steps p.tables e below (s₁.setTop (mkF m 7 #[.val (.int p1), .unset, .unset] [(.int ((p1 &&& (2147483647 : Int32)) % (14 : Int32)))])) _
    rw [pr1]
    show Steps p.tables e below (s₁.setTop (mkF m 7 #[.val (.int p1), .unset, .unset] [(.int (9 : Int32))])) _
    refine XS.istoreN X0.here hx rfl (hb hby at_7) rfl (l' := #[.val (.int p1), .val (.int (9 : Int32)), .unset]) rfl ?_
    show Steps p.tables e below (s₁.setTop (mkF m 8 #[.val (.int p1), .val (.int (9 : Int32)), .unset] [])) _
    refine XS.iloadN X0.here hx rfl (hb hby at_8) rfl ?_
    show Steps p.tables e below (s₁.setTop (mkF m 9 #[.val (.int p1), .val (.int (9 : Int32)), .unset] [(.int (9 : Int32))])) _
    refine st1 _ ?_
    show Steps p.tables e below (T1.setTop (mkF m 12 #[.val (.int p1), .val (.int (9 : Int32)), .unset] [(.ref w_GREATER_OR_EQUAL)])) _
    refine XS.astoreN X1.here hx rfl (hb hby at_12) rfl rfl (l' := #[.val (.int p1), .val (.int (9 : Int32)), .val (.ref w_GREATER_OR_EQUAL)]) rfl ?_
    show Steps p.tables e below (T1.setTop (mkF m 13 #[.val (.int p1), .val (.int (9 : Int32)), .val (.ref w_GREATER_OR_EQUAL)] [])) _
    refine XS.aloadN X1.here hx rfl (hb hby at_13) rfl rfl ?_
    show Steps p.tables e below (T1.setTop (mkF m 14 #[.val (.int p1), .val (.int (9 : Int32)), .val (.ref w_GREATER_OR_EQUAL)] [(.ref w_GREATER_OR_EQUAL)])) _
    refine st2.trans ?_
    show Steps p.tables e below (T2.setTop (mkF m 17 #[.val (.int p1), .val (.int (9 : Int32)), .val (.ref w_GREATER_OR_EQUAL)] [(.int (0 : Int32))])) _
    refine XS.iloadN X2.here hx rfl (hb hby at_17) rfl ?_
    show Steps p.tables e below (T2.setTop (mkF m 18 #[.val (.int p1), .val (.int (9 : Int32)), .val (.ref w_GREATER_OR_EQUAL)] [(.int (9 : Int32)), (.int (0 : Int32))])) _
    refine st3 _ ?_
    show Steps p.tables e below (T3.setTop (mkF m 21 #[.val (.int p1), .val (.int (9 : Int32)), .val (.ref w_GREATER_OR_EQUAL)] [(.int (0 : Int32)), (.int (0 : Int32))])) _
    refine XS.icmpNo X3.here hx rfl (hb hby at_21) rfl (teq (rfl : (0 : Int32) = (0 : Int32))).2 ?_
    show Steps p.tables e below (T3.setTop (mkF m 24 #[.val (.int p1), .val (.int (9 : Int32)), .val (.ref w_GREATER_OR_EQUAL)] [])) _
    refine XS.iconst X3.here hx rfl (hb hby at_24) ?_
    show Steps p.tables e below (T3.setTop (mkF m 25 #[.val (.int p1), .val (.int (9 : Int32)), .val (.ref w_GREATER_OR_EQUAL)] [(.int (1 : Int32))])) _
    refine XS.goto X3.here hx rfl (pc0 := 25) (pc' := 29) rfl (hb hby at_25) (by decide) (by decide) ?_
    show Steps p.tables e below (T3.setTop (mkF m 29 #[.val (.int p1), .val (.int (9 : Int32)), .val (.ref w_GREATER_OR_EQUAL)] [(.int (1 : Int32))])) _
    exact retN X3 hx (t := .boolean) Bd.returns (by simp) (hb hby at_29) hr
  · exact ⟨rfl, N3⟩
theorem d1_93 : decode method_2_code 93 = .ok (.iload_n 0, 1) := by decide +kernel
theorem d1_94 : decode method_2_code 94 = .ok (.bipush 10, 2) := by decide +kernel
theorem d1_96 : decode method_2_code 96 = .ok (.if_icmp .ne 7, 3) := by decide +kernel
theorem d1_99 : decode method_2_code 99 = .ok (.getstatic 40, 3) := by decide +kernel
theorem d1_102 : decode method_2_code 102 = .ok (.areturn, 1) := by decide +kernel
theorem ef_1_22 (m : MethodId)  : entryFrame m #[(.int (10 : Int32))] 1 = mkF m 0 #[.val (.int (10 : Int32))] [] := by first | (simp [entryFrame, mkF, argsToLocals, Value.category]; done) | rfl
def Q_rm1_10 (Z : State) (w1 : Addr) (h0 : Heap) (n0 : Nat) (v : Option Value) (h : Heap) (L : List Loc) : Prop := v = some (.ref w1) ∧ Fr n0 L ∧ h = h0
set_option maxRecDepth 65536 in
set_option maxHeartbeats 40000000 in
theorem rm1_10 (l : Launch) (Z : State) (a0 : Array Value) (hw : ∀ d ∈ tables_1, d.before a0 Z = true) (ws : List Jvm.Cond) (w1 : Addr) (h0 : Heap) (n0 : Nat) (OL0 : Old Z n0 h0) (pr1 : Sta Z Z.heap "com/example/rigorous_chains/rigorouschains/prism/Expression$Operator" "PLUS" "Lcom/example/rigorous_chains/rigorouschains/prism/Expression$Operator;" (.ref w1)) :
    MetFree l (⟨"com/example/rigorous_chains/rigorouschains/prism/OperatorIsArithmeticPinLaw", "pick", "(I)Lcom/example/rigorous_chains/rigorouschains/prism/Expression$Operator;"⟩ : MethodName) (head1 (Jvm.Cond.code (⟨"com/example/rigorous_chains/rigorouschains/prism/OperatorIsArithmeticPinLaw", "pick", "(I)Lcom/example/rigorous_chains/rigorouschains/prism/Expression$Operator;"⟩ : MethodName) method_2_code 1 (some (.object "com/example/rigorous_chains/rigorouschains/prism/Expression$Operator")) :: ws) ({ frames := 0, cells := 0, slots := 0, locals := 0 } : Room)) (fun a U => a = #[(.int (10 : Int32))] ∧ Z.Warmed39 U.vm ∧ U.heap = h0) (fun _ _ _ _ _ => True) (fun _ U o U' => ∃ v L, o = .returned v ∧ Q_rm1_10 Z w1 h0 n0 v U'.heap L ∧ FrameEnd U o U' L ({ frames := 0, cells := 0, slots := 0, locals := 0 } : Room).cells ({ frames := 0, cells := 0, slots := 0, locals := 0 } : Room).slots) := by
  refine MetFree.of_bodySF (plainFor_of_name pn_0) hisR ?_
  intro p e s m args below meth c s₁ Bd hml0 hP hK
  obtain ⟨rfl, hZ, hh⟩ := hP
  have hx := Bd.exec
  have hby := Bd.bytes
  have hml : c.maxLocals = 1 := hml0
  have hown : s.vm.findClass "com/example/rigorous_chains/rigorouschains/prism/OperatorIsArithmeticPinLaw" = some m.cls := findClass_of_methodNamed Bd.named
  have hnm := (name_of_methodNamed Bd.named Bd.method).1
  have X0 : Stand p l e ({ frames := 0, cells := 0, slots := 0, locals := 0 } : Room) s m #[(.int (10 : Int32))] below meth c s₁ [] 0 0 := Stand.of_body Bd
  have e0 : s₁.heap = h0 := by rw [← hh, Bd.state]; rfl
  have N0 := Fr.nil n0
  have pre0 : ∀ t, Steps p.tables e below (s₁.setTop (mkF m 0 #[.val (.int (10 : Int32))] [])) t → Steps p.tables e below (s₁.setTop (entryFrame m #[(.int (10 : Int32))] 1)) t := fun t k => castTop (ef_1_22 m ) k
  obtain ⟨T2, X2, e2, st2⟩ := getS2 X0 hx hZ hown (host := "") (Or.inl (wd35 hw)) Via.refl e0 (pr1.ext OL0.2) (g := (mkF m 99 #[.val (.int (10 : Int32))] [])) rfl (hb hby d1_99)
  obtain ⟨fs, hr, hrun, hended, hW, hsame⟩ := X2.leave (v := some (.ref w1)) (fun h => by rw [Bd.returns] at h; cases h)
  refine ⟨_, _, pre0 _ ?_, hrun, hended, _, _, rfl, ?_, ⟨_, rfl⟩, hW, hsame.mono (by decide) (by decide)⟩
  · show Steps p.tables e below (s₁.setTop (mkF m 0 #[.val (.int (10 : Int32))] [])) _
    refine XS.iloadN X0.here hx rfl (hb hby d1_0) rfl ?_
    show Steps p.tables e below (s₁.setTop (mkF m 1 #[.val (.int (10 : Int32))] [(.int (10 : Int32))])) _
    refine XS.ifYes X0.here hx rfl (pc0 := 1) (pc' := 8) rfl (hb hby d1_1) rfl ((if0 _ _).trans (feq (by decide : ¬ ((10 : Int32) = (0 : Int32)))).2) (by decide) (by decide) ?_
    show Steps p.tables e below (s₁.setTop (mkF m 8 #[.val (.int (10 : Int32))] [])) _
    refine XS.iloadN X0.here hx rfl (hb hby d1_8) rfl ?_
    show Steps p.tables e below (s₁.setTop (mkF m 9 #[.val (.int (10 : Int32))] [(.int (10 : Int32))])) _
    refine XS.iconst X0.here hx rfl (hb hby d1_9) ?_
    show Steps p.tables e below (s₁.setTop (mkF m 10 #[.val (.int (10 : Int32))] [(.int (1 : Int32)), (.int (10 : Int32))])) _
    refine XS.icmpYes X0.here hx rfl (pc0 := 10) (pc' := 17) rfl (hb hby d1_10) rfl (feq (by decide : ¬ ((10 : Int32) = (1 : Int32)))).2 (by decide) (by decide) ?_
    show Steps p.tables e below (s₁.setTop (mkF m 17 #[.val (.int (10 : Int32))] [])) _
    refine XS.iloadN X0.here hx rfl (hb hby d1_17) rfl ?_
    show Steps p.tables e below (s₁.setTop (mkF m 18 #[.val (.int (10 : Int32))] [(.int (10 : Int32))])) _
    refine XS.iconst X0.here hx rfl (hb hby d1_18) ?_
    show Steps p.tables e below (s₁.setTop (mkF m 19 #[.val (.int (10 : Int32))] [(.int (2 : Int32)), (.int (10 : Int32))])) _
    refine XS.icmpYes X0.here hx rfl (pc0 := 19) (pc' := 26) rfl (hb hby d1_19) rfl (feq (by decide : ¬ ((10 : Int32) = (2 : Int32)))).2 (by decide) (by decide) ?_
    show Steps p.tables e below (s₁.setTop (mkF m 26 #[.val (.int (10 : Int32))] [])) _
    refine XS.iloadN X0.here hx rfl (hb hby d1_26) rfl ?_
    show Steps p.tables e below (s₁.setTop (mkF m 27 #[.val (.int (10 : Int32))] [(.int (10 : Int32))])) _
    refine XS.iconst X0.here hx rfl (hb hby d1_27) ?_
    show Steps p.tables e below (s₁.setTop (mkF m 28 #[.val (.int (10 : Int32))] [(.int (3 : Int32)), (.int (10 : Int32))])) _
    refine XS.icmpYes X0.here hx rfl (pc0 := 28) (pc' := 35) rfl (hb hby d1_28) rfl (feq (by decide : ¬ ((10 : Int32) = (3 : Int32)))).2 (by decide) (by decide) ?_
    show Steps p.tables e below (s₁.setTop (mkF m 35 #[.val (.int (10 : Int32))] [])) _
    refine XS.iloadN X0.here hx rfl (hb hby d1_35) rfl ?_
    show Steps p.tables e below (s₁.setTop (mkF m 36 #[.val (.int (10 : Int32))] [(.int (10 : Int32))])) _
    refine XS.iconst X0.here hx rfl (hb hby d1_36) ?_
    show Steps p.tables e below (s₁.setTop (mkF m 37 #[.val (.int (10 : Int32))] [(.int (4 : Int32)), (.int (10 : Int32))])) _
    refine XS.icmpYes X0.here hx rfl (pc0 := 37) (pc' := 44) rfl (hb hby d1_37) rfl (feq (by decide : ¬ ((10 : Int32) = (4 : Int32)))).2 (by decide) (by decide) ?_
    show Steps p.tables e below (s₁.setTop (mkF m 44 #[.val (.int (10 : Int32))] [])) _
    refine XS.iloadN X0.here hx rfl (hb hby d1_44) rfl ?_
    show Steps p.tables e below (s₁.setTop (mkF m 45 #[.val (.int (10 : Int32))] [(.int (10 : Int32))])) _
    refine XS.iconst X0.here hx rfl (hb hby d1_45) ?_
    show Steps p.tables e below (s₁.setTop (mkF m 46 #[.val (.int (10 : Int32))] [(.int (5 : Int32)), (.int (10 : Int32))])) _
    refine XS.icmpYes X0.here hx rfl (pc0 := 46) (pc' := 53) rfl (hb hby d1_46) rfl (feq (by decide : ¬ ((10 : Int32) = (5 : Int32)))).2 (by decide) (by decide) ?_
    show Steps p.tables e below (s₁.setTop (mkF m 53 #[.val (.int (10 : Int32))] [])) _
    refine XS.iloadN X0.here hx rfl (hb hby d1_53) rfl ?_
    show Steps p.tables e below (s₁.setTop (mkF m 54 #[.val (.int (10 : Int32))] [(.int (10 : Int32))])) _
    refine XS.bipush X0.here hx rfl (hb hby d1_54) ?_
    show Steps p.tables e below (s₁.setTop (mkF m 56 #[.val (.int (10 : Int32))] [(.int (6 : Int32)), (.int (10 : Int32))])) _
    refine XS.icmpYes X0.here hx rfl (pc0 := 56) (pc' := 63) rfl (hb hby d1_56) rfl (feq (by decide : ¬ ((10 : Int32) = (6 : Int32)))).2 (by decide) (by decide) ?_
    show Steps p.tables e below (s₁.setTop (mkF m 63 #[.val (.int (10 : Int32))] [])) _
    refine XS.iloadN X0.here hx rfl (hb hby d1_63) rfl ?_
    show Steps p.tables e below (s₁.setTop (mkF m 64 #[.val (.int (10 : Int32))] [(.int (10 : Int32))])) _
    refine XS.bipush X0.here hx rfl (hb hby d1_64) ?_
    show Steps p.tables e below (s₁.setTop (mkF m 66 #[.val (.int (10 : Int32))] [(.int (7 : Int32)), (.int (10 : Int32))])) _
    refine XS.icmpYes X0.here hx rfl (pc0 := 66) (pc' := 73) rfl (hb hby d1_66) rfl (feq (by decide : ¬ ((10 : Int32) = (7 : Int32)))).2 (by decide) (by decide) ?_
    show Steps p.tables e below (s₁.setTop (mkF m 73 #[.val (.int (10 : Int32))] [])) _
    refine XS.iloadN X0.here hx rfl (hb hby d1_73) rfl ?_
    show Steps p.tables e below (s₁.setTop (mkF m 74 #[.val (.int (10 : Int32))] [(.int (10 : Int32))])) _
    refine XS.bipush X0.here hx rfl (hb hby d1_74) ?_
    show Steps p.tables e below (s₁.setTop (mkF m 76 #[.val (.int (10 : Int32))] [(.int (8 : Int32)), (.int (10 : Int32))])) _
    refine XS.icmpYes X0.here hx rfl (pc0 := 76) (pc' := 83) rfl (hb hby d1_76) rfl (feq (by decide : ¬ ((10 : Int32) = (8 : Int32)))).2 (by decide) (by decide) ?_
    show Steps p.tables e below (s₁.setTop (mkF m 83 #[.val (.int (10 : Int32))] [])) _
    refine XS.iloadN X0.here hx rfl (hb hby d1_83) rfl ?_
    show Steps p.tables e below (s₁.setTop (mkF m 84 #[.val (.int (10 : Int32))] [(.int (10 : Int32))])) _
    refine XS.bipush X0.here hx rfl (hb hby d1_84) ?_
    show Steps p.tables e below (s₁.setTop (mkF m 86 #[.val (.int (10 : Int32))] [(.int (9 : Int32)), (.int (10 : Int32))])) _
    refine XS.icmpYes X0.here hx rfl (pc0 := 86) (pc' := 93) rfl (hb hby d1_86) rfl (feq (by decide : ¬ ((10 : Int32) = (9 : Int32)))).2 (by decide) (by decide) ?_
    show Steps p.tables e below (s₁.setTop (mkF m 93 #[.val (.int (10 : Int32))] [])) _
    refine XS.iloadN X0.here hx rfl (hb hby d1_93) rfl ?_
    show Steps p.tables e below (s₁.setTop (mkF m 94 #[.val (.int (10 : Int32))] [(.int (10 : Int32))])) _
    refine XS.bipush X0.here hx rfl (hb hby d1_94) ?_
    show Steps p.tables e below (s₁.setTop (mkF m 96 #[.val (.int (10 : Int32))] [(.int (10 : Int32)), (.int (10 : Int32))])) _
    refine XS.icmpNo X0.here hx rfl (hb hby d1_96) rfl (teq (rfl : (10 : Int32) = (10 : Int32))).2 ?_
    show Steps p.tables e below (s₁.setTop (mkF m 99 #[.val (.int (10 : Int32))] [])) _
    refine st2 _ ?_
    show Steps p.tables e below (T2.setTop (mkF m 102 #[.val (.int (10 : Int32))] [(.ref w1)])) _
    jvm_step X2.here [X2.here.top, hx, (hb hby d1_102), X2.method', Bd.returns, Value.isRef, FieldType.isReference]
    first | (intro acts; rw [hr _ acts rfl rfl rfl]) | rw [hr _ _ rfl rfl rfl]
    exact Steps.refl _
  · show Q_rm1_10 Z w1 h0 n0 _ T2.heap _
    rw [e2]
    exact ⟨rfl, N0, rfl⟩
theorem d2_28 : decode prog_55_method_7_code 28 = .ok (.iconst 1, 1) := by decide +kernel
theorem d2_29 : decode prog_55_method_7_code 29 = .ok (.goto 4, 3) := by decide +kernel
def Q_rm2_1 (Z : State) (w1 : Addr) (h0 : Heap) (n0 : Nat) (v : Option Value) (h : Heap) (L : List Loc) : Prop := v = some (.int (1 : Int32)) ∧ Fr n0 L ∧ h = h0
set_option maxRecDepth 65536 in
set_option maxHeartbeats 40000000 in
theorem rm2_1 (l : Launch) (Z : State) (a0 : Array Value) (hw : ∀ d ∈ tables_1, d.before a0 Z = true) (ws : List Jvm.Cond) (w1 : Addr) (h0 : Heap) (n0 : Nat) (OL0 : Old Z n0 h0) (pr1 : Sta Z Z.heap "com/example/rigorous_chains/rigorouschains/prism/Expression$Operator" "PLUS" "Lcom/example/rigorous_chains/rigorouschains/prism/Expression$Operator;" (.ref w1)) :
    MetFree l (⟨"com/example/rigorous_chains/rigorouschains/prism/Expression$Operator", "isArithmetic", "()Z"⟩ : MethodName) (head1 (Jvm.Cond.code (⟨"com/example/rigorous_chains/rigorouschains/prism/Expression$Operator", "isArithmetic", "()Z"⟩ : MethodName) prog_55_method_7_code 1 (some .boolean) :: ws) ({ frames := 0, cells := 0, slots := 0, locals := 0 } : Room)) (fun a U => a = #[(.ref w1)] ∧ Z.Warmed39 U.vm ∧ U.heap = h0) (fun _ _ _ _ _ => True) (fun _ U o U' => ∃ v L, o = .returned v ∧ Q_rm2_1 Z w1 h0 n0 v U'.heap L ∧ FrameEnd U o U' L ({ frames := 0, cells := 0, slots := 0, locals := 0 } : Room).cells ({ frames := 0, cells := 0, slots := 0, locals := 0 } : Room).slots) := by
  refine MetFree.of_bodySF (plainFor_of_name pn_1) hisR ?_
  intro p e s m args below meth c s₁ Bd hml0 hP hK
  obtain ⟨rfl, hZ, hh⟩ := hP
  have hx := Bd.exec
  have hby := Bd.bytes
  have hml : c.maxLocals = 1 := hml0
  have hown : s.vm.findClass "com/example/rigorous_chains/rigorouschains/prism/Expression$Operator" = some m.cls := findClass_of_methodNamed Bd.named
  have hnm := (name_of_methodNamed Bd.named Bd.method).1
  have X0 : Stand p l e ({ frames := 0, cells := 0, slots := 0, locals := 0 } : Room) s m #[(.ref w1)] below meth c s₁ [] 0 0 := Stand.of_body Bd
  have e0 : s₁.heap = h0 := by rw [← hh, Bd.state]; rfl
  have N0 := Fr.nil n0
  have pre0 : ∀ t, Steps p.tables e below (s₁.setTop (mkF m 0 #[.val (.ref w1)] [])) t → Steps p.tables e below (s₁.setTop (entryFrame m #[(.ref w1)] 1)) t := fun t k => castTop (ef_2_1 m w1) k
  obtain ⟨T2, X2, e2, st2⟩ := getS2 X0 hx hZ hown (host := "") (Or.inl (wd13 hw)) Via.refl e0 (pr1.ext OL0.2) (g := (mkF m 1 #[.val (.ref w1)] [(.ref w1)])) rfl (hb hby d2_1)
  obtain ⟨fs, hr, hrun, hended, hW, hsame⟩ := X2.leave (v := some (.int (1 : Int32))) (fun h => by rw [Bd.returns] at h; cases h)
  refine ⟨_, _, pre0 _ ?_, hrun, hended, _, _, rfl, ?_, ⟨_, rfl⟩, hW, hsame.mono (by decide) (by decide)⟩
  · show Steps p.tables e below (s₁.setTop (mkF m 0 #[.val (.ref w1)] [])) _
    refine XS.aloadN X0.here hx rfl (hb hby d2_0) rfl rfl ?_
    show Steps p.tables e below (s₁.setTop (mkF m 1 #[.val (.ref w1)] [(.ref w1)])) _
    refine st2 _ ?_
    show Steps p.tables e below (T2.setTop (mkF m 4 #[.val (.ref w1)] [(.ref w1), (.ref w1)])) _
    refine Jvm.RoadKit.acmp (g := (mkF m 4 #[.val (.ref w1)] [(.ref w1), (.ref w1)])) X2 hx rfl rfl rfl (pc0 := 4) (pc' := 28) (same := true) rfl (hb hby d2_4) rfl (decide_eq_true rfl) (by decide) (by decide) ?_
    show Steps p.tables e below (T2.setTop (mkF m 28 #[.val (.ref w1)] [])) _
    refine XS.iconst X2.here hx rfl (hb hby d2_28) ?_
    show Steps p.tables e below (T2.setTop (mkF m 29 #[.val (.ref w1)] [(.int (1 : Int32))])) _
    refine XS.goto X2.here hx rfl (pc0 := 29) (pc' := 33) rfl (hb hby d2_29) (by decide) (by decide) ?_
    show Steps p.tables e below (T2.setTop (mkF m 33 #[.val (.ref w1)] [(.int (1 : Int32))])) _
    exact retN X2 hx (t := .boolean) Bd.returns (by simp) (hb hby d2_33) hr
  · show Q_rm2_1 Z w1 h0 n0 _ T2.heap _
    rw [e2]
    exact ⟨rfl, N0, rfl⟩
theorem d3_24 : decode method_3_code 24 = .ok (.iconst 1, 1) := by decide +kernel
theorem d3_25 : decode method_3_code 25 = .ok (.istore_n 1, 1) := by decide +kernel
theorem d3_26 : decode method_3_code 26 = .ok (.goto 5, 3) := by decide +kernel
theorem ef_3_23 (m : MethodId)  : entryFrame m #[(.int (10 : Int32))] 2 = mkF m 0 #[.val (.int (10 : Int32)), .unset] [] := by first | (simp [entryFrame, mkF, argsToLocals, Value.category]; done) | rfl
def Q_rm3_10 (Z : State)  (h0 : Heap) (n0 : Nat) (v : Option Value) (h : Heap) (L : List Loc) : Prop := v = some (.int (1 : Int32)) ∧ Fr n0 L ∧ h = h0
set_option maxRecDepth 65536 in
set_option maxHeartbeats 40000000 in
theorem rm3_10 (l : Launch) (Z : State) (a0 : Array Value) (hw : ∀ d ∈ tables_1, d.before a0 Z = true) (ws : List Jvm.Cond)  (h0 : Heap) (n0 : Nat) (OL0 : Old Z n0 h0)  :
    MetFree l (⟨"com/example/rigorous_chains/rigorouschains/prism/OperatorIsArithmeticPinLaw", "expected", "(I)Z"⟩ : MethodName) (head1 (Jvm.Cond.code (⟨"com/example/rigorous_chains/rigorouschains/prism/OperatorIsArithmeticPinLaw", "expected", "(I)Z"⟩ : MethodName) method_3_code 2 (some .boolean) :: ws) ({ frames := 0, cells := 0, slots := 0, locals := 0 } : Room)) (fun a U => a = #[(.int (10 : Int32))] ∧ Z.Warmed39 U.vm ∧ U.heap = h0) (fun _ _ _ _ _ => True) (fun _ U o U' => ∃ v L, o = .returned v ∧ Q_rm3_10 Z  h0 n0 v U'.heap L ∧ FrameEnd U o U' L ({ frames := 0, cells := 0, slots := 0, locals := 0 } : Room).cells ({ frames := 0, cells := 0, slots := 0, locals := 0 } : Room).slots) := by
  refine MetFree.of_bodySF (plainFor_of_name pn_0) hisR ?_
  intro p e s m args below meth c s₁ Bd hml0 hP hK
  obtain ⟨rfl, hZ, hh⟩ := hP
  have hx := Bd.exec
  have hby := Bd.bytes
  have hml : c.maxLocals = 2 := hml0
  have hown : s.vm.findClass "com/example/rigorous_chains/rigorouschains/prism/OperatorIsArithmeticPinLaw" = some m.cls := findClass_of_methodNamed Bd.named
  have hnm := (name_of_methodNamed Bd.named Bd.method).1
  have X0 : Stand p l e ({ frames := 0, cells := 0, slots := 0, locals := 0 } : Room) s m #[(.int (10 : Int32))] below meth c s₁ [] 0 0 := Stand.of_body Bd
  have e0 : s₁.heap = h0 := by rw [← hh, Bd.state]; rfl
  have N0 := Fr.nil n0
  have pre0 : ∀ t, Steps p.tables e below (s₁.setTop (mkF m 0 #[.val (.int (10 : Int32)), .unset] [])) t → Steps p.tables e below (s₁.setTop (entryFrame m #[(.int (10 : Int32))] 2)) t := fun t k => castTop (ef_3_23 m ) k
  obtain ⟨fs, hr, hrun, hended, hW, hsame⟩ := X0.leave (v := some (.int (1 : Int32))) (fun h => by rw [Bd.returns] at h; cases h)
  refine ⟨_, _, pre0 _ ?_, hrun, hended, _, _, rfl, ?_, ⟨_, rfl⟩, hW, hsame.mono (by decide) (by decide)⟩
  · show Steps p.tables e below (s₁.setTop (mkF m 0 #[.val (.int (10 : Int32)), .unset] [])) _
    refine XS.iloadN X0.here hx rfl (hb hby d3_0) rfl ?_
    show Steps p.tables e below (s₁.setTop (mkF m 1 #[.val (.int (10 : Int32)), .unset] [(.int (10 : Int32))])) _
    refine XS.bipush X0.here hx rfl (hb hby d3_1) ?_
    show Steps p.tables e below (s₁.setTop (mkF m 3 #[.val (.int (10 : Int32)), .unset] [(.int (10 : Int32)), (.int (10 : Int32))])) _
    refine XS.icmpYes X0.here hx rfl (pc0 := 3) (pc' := 24) rfl (hb hby d3_3) rfl (teq (rfl : (10 : Int32) = (10 : Int32))).1 (by decide) (by decide) ?_
    show Steps p.tables e below (s₁.setTop (mkF m 24 #[.val (.int (10 : Int32)), .unset] [])) _
    refine XS.iconst X0.here hx rfl (hb hby d3_24) ?_
    show Steps p.tables e below (s₁.setTop (mkF m 25 #[.val (.int (10 : Int32)), .unset] [(.int (1 : Int32))])) _
    refine XS.istoreN X0.here hx rfl (hb hby d3_25) rfl (l' := #[.val (.int (10 : Int32)), .val (.int (1 : Int32))]) rfl ?_
    show Steps p.tables e below (s₁.setTop (mkF m 26 #[.val (.int (10 : Int32)), .val (.int (1 : Int32))] [])) _
    refine XS.goto X0.here hx rfl (pc0 := 26) (pc' := 31) rfl (hb hby d3_26) (by decide) (by decide) ?_
    show Steps p.tables e below (s₁.setTop (mkF m 31 #[.val (.int (10 : Int32)), .val (.int (1 : Int32))] [])) _
    refine XS.iloadN X0.here hx rfl (hb hby d3_31) rfl ?_
    show Steps p.tables e below (s₁.setTop (mkF m 32 #[.val (.int (10 : Int32)), .val (.int (1 : Int32))] [(.int (1 : Int32))])) _
    exact retN X0 hx (t := .boolean) Bd.returns (by simp) (hb hby d3_32) hr
  · show Q_rm3_10 Z  h0 n0 _ s₁.heap _
    rw [e0]
    exact ⟨rfl, N0, rfl⟩
set_option maxRecDepth 65536 in
set_option maxHeartbeats 40000000 in
theorem rm0_10 (l : Launch) (Z : State) (a0 : Array Value) (hw : ∀ d ∈ tables_1, d.before a0 Z = true) (ws : List Jvm.Cond) (p1 : Int32) (w_PLUS : Addr) (h0 : Heap) (n0 : Nat) (OL0 : Old Z n0 h0) (pr1 : ((p1 &&& (2147483647 : Int32)) % (14 : Int32)) = (10 : Int32)) (pr2 : Sta Z Z.heap "com/example/rigorous_chains/rigorouschains/prism/Expression$Operator" "PLUS" "Lcom/example/rigorous_chains/rigorouschains/prism/Expression$Operator;" (.ref w_PLUS)) (pr3 : Exa Z Z.heap w_PLUS "com/example/rigorous_chains/rigorouschains/prism/Expression$Operator") :
    MetFree l x (head1 (Jvm.Cond.code x code maxLocals ret :: ws) room_1) (fun a U => a = #[(.int p1)] ∧ Z.Warmed39 U.vm ∧ U.heap = h0) (fun _ _ _ _ _ => True) (fun _ U o U' => ∃ v L, o = .returned v ∧ Q0 n0 v L ∧ FrameEnd U o U' L 0 0) := by
  refine MetFree.of_bodySF (plainFor_of_name pn_0) hisR ?_
  intro p e s m args below meth c s₁ Bd hml0 hP hK
  obtain ⟨rfl, hZ, hh⟩ := hP
  have hx := Bd.exec
  have hby := Bd.bytes
  have hml : c.maxLocals = 3 := hml0
  have hown : s.vm.findClass "com/example/rigorous_chains/rigorouschains/prism/OperatorIsArithmeticPinLaw" = some m.cls := findClass_of_methodNamed Bd.named
  have hnm := (name_of_methodNamed Bd.named Bd.method).1
  have X0 : Stand p l e room_1 s m #[(.int p1)] below meth c s₁ [] 0 0 := Stand.of_body Bd
  have e0 : s₁.heap = h0 := by rw [← hh, Bd.state]; rfl
  have N0 := Fr.nil n0
  have pre0 : ∀ t, Steps p.tables e below (s₁.setTop (mkF m 0 #[.val (.int p1), .unset, .unset] [])) t → Steps p.tables e below (s₁.setTop (entryFrame m #[(.int p1)] maxLocals)) t := fun t k => castTop (ef_0_3 m p1) k
  obtain ⟨_, _, ⟨T1, L1, k1, n1⟩, -, X1, ⟨Lc1, hQ1, l1, y1, z1⟩, st1⟩ := Jvm.LawKit.callS X0 hx (y := (⟨"com/example/rigorous_chains/rigorouschains/prism/OperatorIsArithmeticPinLaw", "pick", "(I)Lcom/example/rigorous_chains/rigorouschains/prism/Expression$Operator;"⟩ : MethodName)) hown (mvT hZ (wd1 hw)) (mvT hZ (wd2 hw)) (mvT hZ (wd3 hw)) (mvT hZ (wd4 hw)) (by decide) (backOf (W := 0) (rm1_10 l Z a0 hw [] w_PLUS h0 n0 OL0 pr2) hZ (wd4 hw) (wd3 hw) (by decide) (by decide)) (g := (mkF m 9 #[.val (.int p1), .val (.int (10 : Int32)), .unset] [(.int (10 : Int32))])) rfl (by rw [hml]; rfl) (argsL := [(.int (10 : Int32))]) (rest := []) (lenOf pd_0 rfl) rfl (by show 2 * 0 + _ ≤ _; exact Nat.le_of_eq rfl) (hb hby at_9) (fun _ _ => ⟨rfl, e0, (by decide : 0 + 0 ≤ _), (by decide : 0 + 0 ≤ _)⟩)
  dsimp only [Pt.U, Pt.locs, Pt.cells, Pt.slots] at X1 l1 y1 z1 st1 hQ1
  subst l1 y1 z1
  obtain ⟨rfl, Nq1, ec1⟩ := hQ1
  have N1 := Fr.app N0 Nq1
  obtain ⟨cq2, kq2, q2a, q2b, q2c⟩ := isOf hZ ec1 (pr3.ext OL0.2)
  obtain ⟨_, _, ⟨T2, L2, k2, n2⟩, -, X2, ⟨Lc2, hQ2, l2, y2, z2⟩, st2⟩ := X1.virtualBack hx (y := (⟨"com/example/rigorous_chains/rigorouschains/prism/Expression$Operator", "isArithmetic", "()Z"⟩ : MethodName)) (z := (⟨"com/example/rigorous_chains/rigorouschains/prism/Expression$Operator", "isArithmetic", "()Z"⟩ : MethodName)) hown (mvT hZ (wd8 hw)) (mvT hZ (wd9 hw)) (notFace_of_selects (args := #[]) (mvT hZ (wd11 hw))) (mvT hZ (wd11 hw)) (mvT hZ (wd10 hw)) (by decide) (backOf (W := 0) (rm2_1 l Z a0 hw [] w_PLUS h0 n0 OL0 pr2) hZ (wd12 hw) (wd6 hw) (by decide) (by decide)) q2a q2c (g := (mkF m 14 #[.val (.int p1), .val (.int (10 : Int32)), .val (.ref w_PLUS)] [(.ref w_PLUS)])) rfl (by rw [hml]; rfl) (Steps.refl _) (argsL := []) (rest := []) (lenOf pd_1 rfl) rfl (by show 2 * 0 + _ ≤ _; exact Nat.le_of_eq rfl) (hb hby at_14) (fun _ _ => ⟨rfl, ec1, (by decide : 0 + 0 ≤ _), (by decide : 0 + 0 ≤ _)⟩)
  dsimp only [Pt.U, Pt.locs, Pt.cells, Pt.slots] at X2 l2 y2 z2 st2 hQ2
  subst l2 y2 z2
  obtain ⟨rfl, Nq2, ec2⟩ := hQ2
  have N2 := Fr.app N1 Nq2
  obtain ⟨_, _, ⟨T3, L3, k3, n3⟩, -, X3, ⟨Lc3, hQ3, l3, y3, z3⟩, st3⟩ := Jvm.LawKit.callS X2 hx (y := (⟨"com/example/rigorous_chains/rigorouschains/prism/OperatorIsArithmeticPinLaw", "expected", "(I)Z"⟩ : MethodName)) hown (mvT hZ (wd21 hw)) (mvT hZ (wd22 hw)) (mvT hZ (wd3 hw)) (mvT hZ (wd23 hw)) (by decide) (backOf (W := 1) (rm3_10 l Z a0 hw []  h0 n0 OL0 ) hZ (wd23 hw) (wd3 hw) (by decide) (by decide)) (g := (mkF m 18 #[.val (.int p1), .val (.int (10 : Int32)), .val (.ref w_PLUS)] [(.int (10 : Int32)), (.int (1 : Int32))])) rfl (by rw [hml]; rfl) (argsL := [(.int (10 : Int32))]) (rest := [(.int (1 : Int32))]) (lenOf pd_2 rfl) rfl (by show 2 * 0 + _ ≤ _; exact Nat.le_of_eq rfl) (hb hby at_18) (fun _ _ => ⟨rfl, ec2, (by decide : 0 + 0 ≤ _), (by decide : 0 + 0 ≤ _)⟩)
  dsimp only [Pt.U, Pt.locs, Pt.cells, Pt.slots] at X3 l3 y3 z3 st3 hQ3
  subst l3 y3 z3
  obtain ⟨rfl, Nq3, ec3⟩ := hQ3
  have N3 := Fr.app N2 Nq3
  obtain ⟨fs, hr, hrun, hended, hW, hsame⟩ := X3.leave (v := some (.int (1 : Int32))) (fun h => by rw [Bd.returns] at h; cases h)
  refine ⟨_, _, pre0 _ ?_, hrun, hended, _, _, rfl, ?_, ⟨_, rfl⟩, hW, hsame.mono (by decide) (by decide)⟩
  · show Steps p.tables e below (s₁.setTop (mkF m 0 #[.val (.int p1), .unset, .unset] [])) _
    refine XS.iloadN X0.here hx rfl (hb hby at_0) rfl ?_
    show Steps p.tables e below (s₁.setTop (mkF m 1 #[.val (.int p1), .unset, .unset] [(.int p1)])) _
    refine X0.ldcInt hx hown (mvT hZ (wd0 hw)) (g := (mkF m 1 #[.val (.int p1), .unset, .unset] [(.int p1)])) rfl (hb hby at_1) _ ?_
    show Steps p.tables e below (s₁.setTop (mkF m 3 #[.val (.int p1), .unset, .unset] [(.int (2147483647 : Int32)), (.int p1)])) _
    refine XS.iand X0.here hx rfl (hb hby at_3) rfl ?_
    show Steps p.tables e below (s₁.setTop (mkF m 4 #[.val (.int p1), .unset, .unset] [(.int (p1 &&& (2147483647 : Int32)))])) _
    refine XS.bipush X0.here hx rfl (hb hby at_4) ?_
    show Steps p.tables e below (s₁.setTop (mkF m 6 #[.val (.int p1), .unset, .unset] [(.int (14 : Int32)), (.int (p1 &&& (2147483647 : Int32)))])) _
    refine iremM X0 hx rfl (hb hby at_6) rfl (by decide) ?_
    show Steps p.tables e below (s₁.setTop (mkF m 7 #[.val (.int p1), .unset, .unset] [(.int ((p1 &&& (2147483647 : Int32)) % (14 : Int32)))])) _
    rw [pr1]
    show Steps p.tables e below (s₁.setTop (mkF m 7 #[.val (.int p1), .unset, .unset] [(.int (10 : Int32))])) _
    refine XS.istoreN X0.here hx rfl (hb hby at_7) rfl (l' := #[.val (.int p1), .val (.int (10 : Int32)), .unset]) rfl ?_
    show Steps p.tables e below (s₁.setTop (mkF m 8 #[.val (.int p1), .val (.int (10 : Int32)), .unset] [])) _
    refine XS.iloadN X0.here hx rfl (hb hby at_8) rfl ?_
    show Steps p.tables e below (s₁.setTop (mkF m 9 #[.val (.int p1), .val (.int (10 : Int32)), .unset] [(.int (10 : Int32))])) _
    refine st1 _ ?_
    show Steps p.tables e below (T1.setTop (mkF m 12 #[.val (.int p1), .val (.int (10 : Int32)), .unset] [(.ref w_PLUS)])) _
    refine XS.astoreN X1.here hx rfl (hb hby at_12) rfl rfl (l' := #[.val (.int p1), .val (.int (10 : Int32)), .val (.ref w_PLUS)]) rfl ?_
    show Steps p.tables e below (T1.setTop (mkF m 13 #[.val (.int p1), .val (.int (10 : Int32)), .val (.ref w_PLUS)] [])) _
    refine XS.aloadN X1.here hx rfl (hb hby at_13) rfl rfl ?_
    show Steps p.tables e below (T1.setTop (mkF m 14 #[.val (.int p1), .val (.int (10 : Int32)), .val (.ref w_PLUS)] [(.ref w_PLUS)])) _
    refine st2.trans ?_
    show Steps p.tables e below (T2.setTop (mkF m 17 #[.val (.int p1), .val (.int (10 : Int32)), .val (.ref w_PLUS)] [(.int (1 : Int32))])) _
    refine XS.iloadN X2.here hx rfl (hb hby at_17) rfl ?_
    show Steps p.tables e below (T2.setTop (mkF m 18 #[.val (.int p1), .val (.int (10 : Int32)), .val (.ref w_PLUS)] [(.int (10 : Int32)), (.int (1 : Int32))])) _
    refine st3 _ ?_
    show Steps p.tables e below (T3.setTop (mkF m 21 #[.val (.int p1), .val (.int (10 : Int32)), .val (.ref w_PLUS)] [(.int (1 : Int32)), (.int (1 : Int32))])) _
    refine XS.icmpNo X3.here hx rfl (hb hby at_21) rfl (teq (rfl : (1 : Int32) = (1 : Int32))).2 ?_
    show Steps p.tables e below (T3.setTop (mkF m 24 #[.val (.int p1), .val (.int (10 : Int32)), .val (.ref w_PLUS)] [])) _
    refine XS.iconst X3.here hx rfl (hb hby at_24) ?_
    show Steps p.tables e below (T3.setTop (mkF m 25 #[.val (.int p1), .val (.int (10 : Int32)), .val (.ref w_PLUS)] [(.int (1 : Int32))])) _
    refine XS.goto X3.here hx rfl (pc0 := 25) (pc' := 29) rfl (hb hby at_25) (by decide) (by decide) ?_
    show Steps p.tables e below (T3.setTop (mkF m 29 #[.val (.int p1), .val (.int (10 : Int32)), .val (.ref w_PLUS)] [(.int (1 : Int32))])) _
    exact retN X3 hx (t := .boolean) Bd.returns (by simp) (hb hby at_29) hr
  · exact ⟨rfl, N3⟩
theorem d1_103 : decode method_2_code 103 = .ok (.iload_n 0, 1) := by decide +kernel
theorem d1_104 : decode method_2_code 104 = .ok (.bipush 11, 2) := by decide +kernel
theorem d1_106 : decode method_2_code 106 = .ok (.if_icmp .ne 7, 3) := by decide +kernel
theorem d1_109 : decode method_2_code 109 = .ok (.getstatic 43, 3) := by decide +kernel
theorem d1_112 : decode method_2_code 112 = .ok (.areturn, 1) := by decide +kernel
theorem ef_1_24 (m : MethodId)  : entryFrame m #[(.int (11 : Int32))] 1 = mkF m 0 #[.val (.int (11 : Int32))] [] := by first | (simp [entryFrame, mkF, argsToLocals, Value.category]; done) | rfl
def Q_rm1_11 (Z : State) (w1 : Addr) (h0 : Heap) (n0 : Nat) (v : Option Value) (h : Heap) (L : List Loc) : Prop := v = some (.ref w1) ∧ Fr n0 L ∧ h = h0
set_option maxRecDepth 65536 in
set_option maxHeartbeats 40000000 in
theorem rm1_11 (l : Launch) (Z : State) (a0 : Array Value) (hw : ∀ d ∈ tables_1, d.before a0 Z = true) (ws : List Jvm.Cond) (w1 : Addr) (h0 : Heap) (n0 : Nat) (OL0 : Old Z n0 h0) (pr1 : Sta Z Z.heap "com/example/rigorous_chains/rigorouschains/prism/Expression$Operator" "MINUS" "Lcom/example/rigorous_chains/rigorouschains/prism/Expression$Operator;" (.ref w1)) :
    MetFree l (⟨"com/example/rigorous_chains/rigorouschains/prism/OperatorIsArithmeticPinLaw", "pick", "(I)Lcom/example/rigorous_chains/rigorouschains/prism/Expression$Operator;"⟩ : MethodName) (head1 (Jvm.Cond.code (⟨"com/example/rigorous_chains/rigorouschains/prism/OperatorIsArithmeticPinLaw", "pick", "(I)Lcom/example/rigorous_chains/rigorouschains/prism/Expression$Operator;"⟩ : MethodName) method_2_code 1 (some (.object "com/example/rigorous_chains/rigorouschains/prism/Expression$Operator")) :: ws) ({ frames := 0, cells := 0, slots := 0, locals := 0 } : Room)) (fun a U => a = #[(.int (11 : Int32))] ∧ Z.Warmed39 U.vm ∧ U.heap = h0) (fun _ _ _ _ _ => True) (fun _ U o U' => ∃ v L, o = .returned v ∧ Q_rm1_11 Z w1 h0 n0 v U'.heap L ∧ FrameEnd U o U' L ({ frames := 0, cells := 0, slots := 0, locals := 0 } : Room).cells ({ frames := 0, cells := 0, slots := 0, locals := 0 } : Room).slots) := by
  refine MetFree.of_bodySF (plainFor_of_name pn_0) hisR ?_
  intro p e s m args below meth c s₁ Bd hml0 hP hK
  obtain ⟨rfl, hZ, hh⟩ := hP
  have hx := Bd.exec
  have hby := Bd.bytes
  have hml : c.maxLocals = 1 := hml0
  have hown : s.vm.findClass "com/example/rigorous_chains/rigorouschains/prism/OperatorIsArithmeticPinLaw" = some m.cls := findClass_of_methodNamed Bd.named
  have hnm := (name_of_methodNamed Bd.named Bd.method).1
  have X0 : Stand p l e ({ frames := 0, cells := 0, slots := 0, locals := 0 } : Room) s m #[(.int (11 : Int32))] below meth c s₁ [] 0 0 := Stand.of_body Bd
  have e0 : s₁.heap = h0 := by rw [← hh, Bd.state]; rfl
  have N0 := Fr.nil n0
  have pre0 : ∀ t, Steps p.tables e below (s₁.setTop (mkF m 0 #[.val (.int (11 : Int32))] [])) t → Steps p.tables e below (s₁.setTop (entryFrame m #[(.int (11 : Int32))] 1)) t := fun t k => castTop (ef_1_24 m ) k
  obtain ⟨T2, X2, e2, st2⟩ := getS2 X0 hx hZ hown (host := "") (Or.inl (wd34 hw)) Via.refl e0 (pr1.ext OL0.2) (g := (mkF m 109 #[.val (.int (11 : Int32))] [])) rfl (hb hby d1_109)
  obtain ⟨fs, hr, hrun, hended, hW, hsame⟩ := X2.leave (v := some (.ref w1)) (fun h => by rw [Bd.returns] at h; cases h)
  refine ⟨_, _, pre0 _ ?_, hrun, hended, _, _, rfl, ?_, ⟨_, rfl⟩, hW, hsame.mono (by decide) (by decide)⟩
  · show Steps p.tables e below (s₁.setTop (mkF m 0 #[.val (.int (11 : Int32))] [])) _
    refine XS.iloadN X0.here hx rfl (hb hby d1_0) rfl ?_
    show Steps p.tables e below (s₁.setTop (mkF m 1 #[.val (.int (11 : Int32))] [(.int (11 : Int32))])) _
    refine XS.ifYes X0.here hx rfl (pc0 := 1) (pc' := 8) rfl (hb hby d1_1) rfl ((if0 _ _).trans (feq (by decide : ¬ ((11 : Int32) = (0 : Int32)))).2) (by decide) (by decide) ?_
    show Steps p.tables e below (s₁.setTop (mkF m 8 #[.val (.int (11 : Int32))] [])) _
    refine XS.iloadN X0.here hx rfl (hb hby d1_8) rfl ?_
    show Steps p.tables e below (s₁.setTop (mkF m 9 #[.val (.int (11 : Int32))] [(.int (11 : Int32))])) _
    refine XS.iconst X0.here hx rfl (hb hby d1_9) ?_
    show Steps p.tables e below (s₁.setTop (mkF m 10 #[.val (.int (11 : Int32))] [(.int (1 : Int32)), (.int (11 : Int32))])) _
    refine XS.icmpYes X0.here hx rfl (pc0 := 10) (pc' := 17) rfl (hb hby d1_10) rfl (feq (by decide : ¬ ((11 : Int32) = (1 : Int32)))).2 (by decide) (by decide) ?_
    show Steps p.tables e below (s₁.setTop (mkF m 17 #[.val (.int (11 : Int32))] [])) _
    refine XS.iloadN X0.here hx rfl (hb hby d1_17) rfl ?_
    show Steps p.tables e below (s₁.setTop (mkF m 18 #[.val (.int (11 : Int32))] [(.int (11 : Int32))])) _
    refine XS.iconst X0.here hx rfl (hb hby d1_18) ?_
    show Steps p.tables e below (s₁.setTop (mkF m 19 #[.val (.int (11 : Int32))] [(.int (2 : Int32)), (.int (11 : Int32))])) _
    refine XS.icmpYes X0.here hx rfl (pc0 := 19) (pc' := 26) rfl (hb hby d1_19) rfl (feq (by decide : ¬ ((11 : Int32) = (2 : Int32)))).2 (by decide) (by decide) ?_
    show Steps p.tables e below (s₁.setTop (mkF m 26 #[.val (.int (11 : Int32))] [])) _
    refine XS.iloadN X0.here hx rfl (hb hby d1_26) rfl ?_
    show Steps p.tables e below (s₁.setTop (mkF m 27 #[.val (.int (11 : Int32))] [(.int (11 : Int32))])) _
    refine XS.iconst X0.here hx rfl (hb hby d1_27) ?_
    show Steps p.tables e below (s₁.setTop (mkF m 28 #[.val (.int (11 : Int32))] [(.int (3 : Int32)), (.int (11 : Int32))])) _
    refine XS.icmpYes X0.here hx rfl (pc0 := 28) (pc' := 35) rfl (hb hby d1_28) rfl (feq (by decide : ¬ ((11 : Int32) = (3 : Int32)))).2 (by decide) (by decide) ?_
    show Steps p.tables e below (s₁.setTop (mkF m 35 #[.val (.int (11 : Int32))] [])) _
    refine XS.iloadN X0.here hx rfl (hb hby d1_35) rfl ?_
    show Steps p.tables e below (s₁.setTop (mkF m 36 #[.val (.int (11 : Int32))] [(.int (11 : Int32))])) _
    refine XS.iconst X0.here hx rfl (hb hby d1_36) ?_
    show Steps p.tables e below (s₁.setTop (mkF m 37 #[.val (.int (11 : Int32))] [(.int (4 : Int32)), (.int (11 : Int32))])) _
    refine XS.icmpYes X0.here hx rfl (pc0 := 37) (pc' := 44) rfl (hb hby d1_37) rfl (feq (by decide : ¬ ((11 : Int32) = (4 : Int32)))).2 (by decide) (by decide) ?_
    show Steps p.tables e below (s₁.setTop (mkF m 44 #[.val (.int (11 : Int32))] [])) _
    refine XS.iloadN X0.here hx rfl (hb hby d1_44) rfl ?_
    show Steps p.tables e below (s₁.setTop (mkF m 45 #[.val (.int (11 : Int32))] [(.int (11 : Int32))])) _
    refine XS.iconst X0.here hx rfl (hb hby d1_45) ?_
    show Steps p.tables e below (s₁.setTop (mkF m 46 #[.val (.int (11 : Int32))] [(.int (5 : Int32)), (.int (11 : Int32))])) _
    refine XS.icmpYes X0.here hx rfl (pc0 := 46) (pc' := 53) rfl (hb hby d1_46) rfl (feq (by decide : ¬ ((11 : Int32) = (5 : Int32)))).2 (by decide) (by decide) ?_
    show Steps p.tables e below (s₁.setTop (mkF m 53 #[.val (.int (11 : Int32))] [])) _
    refine XS.iloadN X0.here hx rfl (hb hby d1_53) rfl ?_
    show Steps p.tables e below (s₁.setTop (mkF m 54 #[.val (.int (11 : Int32))] [(.int (11 : Int32))])) _
    refine XS.bipush X0.here hx rfl (hb hby d1_54) ?_
    show Steps p.tables e below (s₁.setTop (mkF m 56 #[.val (.int (11 : Int32))] [(.int (6 : Int32)), (.int (11 : Int32))])) _
    refine XS.icmpYes X0.here hx rfl (pc0 := 56) (pc' := 63) rfl (hb hby d1_56) rfl (feq (by decide : ¬ ((11 : Int32) = (6 : Int32)))).2 (by decide) (by decide) ?_
    show Steps p.tables e below (s₁.setTop (mkF m 63 #[.val (.int (11 : Int32))] [])) _
    refine XS.iloadN X0.here hx rfl (hb hby d1_63) rfl ?_
    show Steps p.tables e below (s₁.setTop (mkF m 64 #[.val (.int (11 : Int32))] [(.int (11 : Int32))])) _
    refine XS.bipush X0.here hx rfl (hb hby d1_64) ?_
    show Steps p.tables e below (s₁.setTop (mkF m 66 #[.val (.int (11 : Int32))] [(.int (7 : Int32)), (.int (11 : Int32))])) _
    refine XS.icmpYes X0.here hx rfl (pc0 := 66) (pc' := 73) rfl (hb hby d1_66) rfl (feq (by decide : ¬ ((11 : Int32) = (7 : Int32)))).2 (by decide) (by decide) ?_
    show Steps p.tables e below (s₁.setTop (mkF m 73 #[.val (.int (11 : Int32))] [])) _
    refine XS.iloadN X0.here hx rfl (hb hby d1_73) rfl ?_
    show Steps p.tables e below (s₁.setTop (mkF m 74 #[.val (.int (11 : Int32))] [(.int (11 : Int32))])) _
    refine XS.bipush X0.here hx rfl (hb hby d1_74) ?_
    show Steps p.tables e below (s₁.setTop (mkF m 76 #[.val (.int (11 : Int32))] [(.int (8 : Int32)), (.int (11 : Int32))])) _
    refine XS.icmpYes X0.here hx rfl (pc0 := 76) (pc' := 83) rfl (hb hby d1_76) rfl (feq (by decide : ¬ ((11 : Int32) = (8 : Int32)))).2 (by decide) (by decide) ?_
    show Steps p.tables e below (s₁.setTop (mkF m 83 #[.val (.int (11 : Int32))] [])) _
    refine XS.iloadN X0.here hx rfl (hb hby d1_83) rfl ?_
    show Steps p.tables e below (s₁.setTop (mkF m 84 #[.val (.int (11 : Int32))] [(.int (11 : Int32))])) _
    refine XS.bipush X0.here hx rfl (hb hby d1_84) ?_
    show Steps p.tables e below (s₁.setTop (mkF m 86 #[.val (.int (11 : Int32))] [(.int (9 : Int32)), (.int (11 : Int32))])) _
    refine XS.icmpYes X0.here hx rfl (pc0 := 86) (pc' := 93) rfl (hb hby d1_86) rfl (feq (by decide : ¬ ((11 : Int32) = (9 : Int32)))).2 (by decide) (by decide) ?_
    show Steps p.tables e below (s₁.setTop (mkF m 93 #[.val (.int (11 : Int32))] [])) _
    refine XS.iloadN X0.here hx rfl (hb hby d1_93) rfl ?_
    show Steps p.tables e below (s₁.setTop (mkF m 94 #[.val (.int (11 : Int32))] [(.int (11 : Int32))])) _
    refine XS.bipush X0.here hx rfl (hb hby d1_94) ?_
    show Steps p.tables e below (s₁.setTop (mkF m 96 #[.val (.int (11 : Int32))] [(.int (10 : Int32)), (.int (11 : Int32))])) _
    refine XS.icmpYes X0.here hx rfl (pc0 := 96) (pc' := 103) rfl (hb hby d1_96) rfl (feq (by decide : ¬ ((11 : Int32) = (10 : Int32)))).2 (by decide) (by decide) ?_
    show Steps p.tables e below (s₁.setTop (mkF m 103 #[.val (.int (11 : Int32))] [])) _
    refine XS.iloadN X0.here hx rfl (hb hby d1_103) rfl ?_
    show Steps p.tables e below (s₁.setTop (mkF m 104 #[.val (.int (11 : Int32))] [(.int (11 : Int32))])) _
    refine XS.bipush X0.here hx rfl (hb hby d1_104) ?_
    show Steps p.tables e below (s₁.setTop (mkF m 106 #[.val (.int (11 : Int32))] [(.int (11 : Int32)), (.int (11 : Int32))])) _
    refine XS.icmpNo X0.here hx rfl (hb hby d1_106) rfl (teq (rfl : (11 : Int32) = (11 : Int32))).2 ?_
    show Steps p.tables e below (s₁.setTop (mkF m 109 #[.val (.int (11 : Int32))] [])) _
    refine st2 _ ?_
    show Steps p.tables e below (T2.setTop (mkF m 112 #[.val (.int (11 : Int32))] [(.ref w1)])) _
    jvm_step X2.here [X2.here.top, hx, (hb hby d1_112), X2.method', Bd.returns, Value.isRef, FieldType.isReference]
    first | (intro acts; rw [hr _ acts rfl rfl rfl]) | rw [hr _ _ rfl rfl rfl]
    exact Steps.refl _
  · show Q_rm1_11 Z w1 h0 n0 _ T2.heap _
    rw [e2]
    exact ⟨rfl, N0, rfl⟩
def Q_rm2_2 (Z : State) (w1 : Addr) (w2 : Addr) (h0 : Heap) (n0 : Nat) (v : Option Value) (h : Heap) (L : List Loc) : Prop := v = some (.int (1 : Int32)) ∧ Fr n0 L ∧ h = h0
set_option maxRecDepth 65536 in
set_option maxHeartbeats 40000000 in
theorem rm2_2 (l : Launch) (Z : State) (a0 : Array Value) (hw : ∀ d ∈ tables_1, d.before a0 Z = true) (ws : List Jvm.Cond) (w1 : Addr) (w2 : Addr) (h0 : Heap) (n0 : Nat) (OL0 : Old Z n0 h0) (pr1 : Sta Z Z.heap "com/example/rigorous_chains/rigorouschains/prism/Expression$Operator" "PLUS" "Lcom/example/rigorous_chains/rigorouschains/prism/Expression$Operator;" (.ref w2)) (pr2 : w1 ≠ w2) (pr3 : Sta Z Z.heap "com/example/rigorous_chains/rigorouschains/prism/Expression$Operator" "MINUS" "Lcom/example/rigorous_chains/rigorouschains/prism/Expression$Operator;" (.ref w1)) :
    MetFree l (⟨"com/example/rigorous_chains/rigorouschains/prism/Expression$Operator", "isArithmetic", "()Z"⟩ : MethodName) (head1 (Jvm.Cond.code (⟨"com/example/rigorous_chains/rigorouschains/prism/Expression$Operator", "isArithmetic", "()Z"⟩ : MethodName) prog_55_method_7_code 1 (some .boolean) :: ws) ({ frames := 0, cells := 0, slots := 0, locals := 0 } : Room)) (fun a U => a = #[(.ref w1)] ∧ Z.Warmed39 U.vm ∧ U.heap = h0) (fun _ _ _ _ _ => True) (fun _ U o U' => ∃ v L, o = .returned v ∧ Q_rm2_2 Z w1 w2 h0 n0 v U'.heap L ∧ FrameEnd U o U' L ({ frames := 0, cells := 0, slots := 0, locals := 0 } : Room).cells ({ frames := 0, cells := 0, slots := 0, locals := 0 } : Room).slots) := by
  refine MetFree.of_bodySF (plainFor_of_name pn_1) hisR ?_
  intro p e s m args below meth c s₁ Bd hml0 hP hK
  obtain ⟨rfl, hZ, hh⟩ := hP
  have hx := Bd.exec
  have hby := Bd.bytes
  have hml : c.maxLocals = 1 := hml0
  have hown : s.vm.findClass "com/example/rigorous_chains/rigorouschains/prism/Expression$Operator" = some m.cls := findClass_of_methodNamed Bd.named
  have hnm := (name_of_methodNamed Bd.named Bd.method).1
  have X0 : Stand p l e ({ frames := 0, cells := 0, slots := 0, locals := 0 } : Room) s m #[(.ref w1)] below meth c s₁ [] 0 0 := Stand.of_body Bd
  have e0 : s₁.heap = h0 := by rw [← hh, Bd.state]; rfl
  have N0 := Fr.nil n0
  have pre0 : ∀ t, Steps p.tables e below (s₁.setTop (mkF m 0 #[.val (.ref w1)] [])) t → Steps p.tables e below (s₁.setTop (entryFrame m #[(.ref w1)] 1)) t := fun t k => castTop (ef_2_1 m w1) k
  obtain ⟨T3, X3, e3, st3⟩ := getS2 X0 hx hZ hown (host := "") (Or.inl (wd13 hw)) Via.refl e0 (pr1.ext OL0.2) (g := (mkF m 1 #[.val (.ref w1)] [(.ref w1)])) rfl (hb hby d2_1)
  obtain ⟨T4, X4, e4, st4⟩ := getS2 X3 hx hZ hown (host := "") (Or.inl (wd15 hw)) Via.refl e3 (pr3.ext OL0.2) (g := (mkF m 8 #[.val (.ref w1)] [(.ref w1)])) rfl (hb hby d2_8)
  obtain ⟨fs, hr, hrun, hended, hW, hsame⟩ := X4.leave (v := some (.int (1 : Int32))) (fun h => by rw [Bd.returns] at h; cases h)
  refine ⟨_, _, pre0 _ ?_, hrun, hended, _, _, rfl, ?_, ⟨_, rfl⟩, hW, hsame.mono (by decide) (by decide)⟩
  · show Steps p.tables e below (s₁.setTop (mkF m 0 #[.val (.ref w1)] [])) _
    refine XS.aloadN X0.here hx rfl (hb hby d2_0) rfl rfl ?_
    show Steps p.tables e below (s₁.setTop (mkF m 1 #[.val (.ref w1)] [(.ref w1)])) _
    refine st3 _ ?_
    show Steps p.tables e below (T3.setTop (mkF m 4 #[.val (.ref w1)] [(.ref w2), (.ref w1)])) _
    refine Jvm.RoadKit.acmp (g := (mkF m 4 #[.val (.ref w1)] [(.ref w2), (.ref w1)])) X3 hx rfl rfl rfl (pc0 := 4) (pc' := 7) (same := false) rfl (hb hby d2_4) rfl (decide_eq_false fun q => pr2 (Value.ref.inj q)) (by decide) (by decide) ?_
    show Steps p.tables e below (T3.setTop (mkF m 7 #[.val (.ref w1)] [])) _
    refine XS.aloadN X3.here hx rfl (hb hby d2_7) rfl rfl ?_
    show Steps p.tables e below (T3.setTop (mkF m 8 #[.val (.ref w1)] [(.ref w1)])) _
    refine st4 _ ?_
    show Steps p.tables e below (T4.setTop (mkF m 11 #[.val (.ref w1)] [(.ref w1), (.ref w1)])) _
    refine Jvm.RoadKit.acmp (g := (mkF m 11 #[.val (.ref w1)] [(.ref w1), (.ref w1)])) X4 hx rfl rfl rfl (pc0 := 11) (pc' := 28) (same := true) rfl (hb hby d2_11) rfl (decide_eq_true rfl) (by decide) (by decide) ?_
    show Steps p.tables e below (T4.setTop (mkF m 28 #[.val (.ref w1)] [])) _
    refine XS.iconst X4.here hx rfl (hb hby d2_28) ?_
    show Steps p.tables e below (T4.setTop (mkF m 29 #[.val (.ref w1)] [(.int (1 : Int32))])) _
    refine XS.goto X4.here hx rfl (pc0 := 29) (pc' := 33) rfl (hb hby d2_29) (by decide) (by decide) ?_
    show Steps p.tables e below (T4.setTop (mkF m 33 #[.val (.ref w1)] [(.int (1 : Int32))])) _
    exact retN X4 hx (t := .boolean) Bd.returns (by simp) (hb hby d2_33) hr
  · show Q_rm2_2 Z w1 w2 h0 n0 _ T4.heap _
    rw [e4]
    exact ⟨rfl, N0, rfl⟩
theorem ef_3_25 (m : MethodId)  : entryFrame m #[(.int (11 : Int32))] 2 = mkF m 0 #[.val (.int (11 : Int32)), .unset] [] := by first | (simp [entryFrame, mkF, argsToLocals, Value.category]; done) | rfl
def Q_rm3_11 (Z : State)  (h0 : Heap) (n0 : Nat) (v : Option Value) (h : Heap) (L : List Loc) : Prop := v = some (.int (1 : Int32)) ∧ Fr n0 L ∧ h = h0
set_option maxRecDepth 65536 in
set_option maxHeartbeats 40000000 in
theorem rm3_11 (l : Launch) (Z : State) (a0 : Array Value) (hw : ∀ d ∈ tables_1, d.before a0 Z = true) (ws : List Jvm.Cond)  (h0 : Heap) (n0 : Nat) (OL0 : Old Z n0 h0)  :
    MetFree l (⟨"com/example/rigorous_chains/rigorouschains/prism/OperatorIsArithmeticPinLaw", "expected", "(I)Z"⟩ : MethodName) (head1 (Jvm.Cond.code (⟨"com/example/rigorous_chains/rigorouschains/prism/OperatorIsArithmeticPinLaw", "expected", "(I)Z"⟩ : MethodName) method_3_code 2 (some .boolean) :: ws) ({ frames := 0, cells := 0, slots := 0, locals := 0 } : Room)) (fun a U => a = #[(.int (11 : Int32))] ∧ Z.Warmed39 U.vm ∧ U.heap = h0) (fun _ _ _ _ _ => True) (fun _ U o U' => ∃ v L, o = .returned v ∧ Q_rm3_11 Z  h0 n0 v U'.heap L ∧ FrameEnd U o U' L ({ frames := 0, cells := 0, slots := 0, locals := 0 } : Room).cells ({ frames := 0, cells := 0, slots := 0, locals := 0 } : Room).slots) := by
  refine MetFree.of_bodySF (plainFor_of_name pn_0) hisR ?_
  intro p e s m args below meth c s₁ Bd hml0 hP hK
  obtain ⟨rfl, hZ, hh⟩ := hP
  have hx := Bd.exec
  have hby := Bd.bytes
  have hml : c.maxLocals = 2 := hml0
  have hown : s.vm.findClass "com/example/rigorous_chains/rigorouschains/prism/OperatorIsArithmeticPinLaw" = some m.cls := findClass_of_methodNamed Bd.named
  have hnm := (name_of_methodNamed Bd.named Bd.method).1
  have X0 : Stand p l e ({ frames := 0, cells := 0, slots := 0, locals := 0 } : Room) s m #[(.int (11 : Int32))] below meth c s₁ [] 0 0 := Stand.of_body Bd
  have e0 : s₁.heap = h0 := by rw [← hh, Bd.state]; rfl
  have N0 := Fr.nil n0
  have pre0 : ∀ t, Steps p.tables e below (s₁.setTop (mkF m 0 #[.val (.int (11 : Int32)), .unset] [])) t → Steps p.tables e below (s₁.setTop (entryFrame m #[(.int (11 : Int32))] 2)) t := fun t k => castTop (ef_3_25 m ) k
  obtain ⟨fs, hr, hrun, hended, hW, hsame⟩ := X0.leave (v := some (.int (1 : Int32))) (fun h => by rw [Bd.returns] at h; cases h)
  refine ⟨_, _, pre0 _ ?_, hrun, hended, _, _, rfl, ?_, ⟨_, rfl⟩, hW, hsame.mono (by decide) (by decide)⟩
  · show Steps p.tables e below (s₁.setTop (mkF m 0 #[.val (.int (11 : Int32)), .unset] [])) _
    refine XS.iloadN X0.here hx rfl (hb hby d3_0) rfl ?_
    show Steps p.tables e below (s₁.setTop (mkF m 1 #[.val (.int (11 : Int32)), .unset] [(.int (11 : Int32))])) _
    refine XS.bipush X0.here hx rfl (hb hby d3_1) ?_
    show Steps p.tables e below (s₁.setTop (mkF m 3 #[.val (.int (11 : Int32)), .unset] [(.int (10 : Int32)), (.int (11 : Int32))])) _
    refine XS.icmpNo X0.here hx rfl (hb hby d3_3) rfl (feq (by decide : ¬ ((11 : Int32) = (10 : Int32)))).1 ?_
    show Steps p.tables e below (s₁.setTop (mkF m 6 #[.val (.int (11 : Int32)), .unset] [])) _
    refine XS.iloadN X0.here hx rfl (hb hby d3_6) rfl ?_
    show Steps p.tables e below (s₁.setTop (mkF m 7 #[.val (.int (11 : Int32)), .unset] [(.int (11 : Int32))])) _
    refine XS.bipush X0.here hx rfl (hb hby d3_7) ?_
    show Steps p.tables e below (s₁.setTop (mkF m 9 #[.val (.int (11 : Int32)), .unset] [(.int (11 : Int32)), (.int (11 : Int32))])) _
    refine XS.icmpYes X0.here hx rfl (pc0 := 9) (pc' := 24) rfl (hb hby d3_9) rfl (teq (rfl : (11 : Int32) = (11 : Int32))).1 (by decide) (by decide) ?_
    show Steps p.tables e below (s₁.setTop (mkF m 24 #[.val (.int (11 : Int32)), .unset] [])) _
    refine XS.iconst X0.here hx rfl (hb hby d3_24) ?_
    show Steps p.tables e below (s₁.setTop (mkF m 25 #[.val (.int (11 : Int32)), .unset] [(.int (1 : Int32))])) _
    refine XS.istoreN X0.here hx rfl (hb hby d3_25) rfl (l' := #[.val (.int (11 : Int32)), .val (.int (1 : Int32))]) rfl ?_
    show Steps p.tables e below (s₁.setTop (mkF m 26 #[.val (.int (11 : Int32)), .val (.int (1 : Int32))] [])) _
    refine XS.goto X0.here hx rfl (pc0 := 26) (pc' := 31) rfl (hb hby d3_26) (by decide) (by decide) ?_
    show Steps p.tables e below (s₁.setTop (mkF m 31 #[.val (.int (11 : Int32)), .val (.int (1 : Int32))] [])) _
    refine XS.iloadN X0.here hx rfl (hb hby d3_31) rfl ?_
    show Steps p.tables e below (s₁.setTop (mkF m 32 #[.val (.int (11 : Int32)), .val (.int (1 : Int32))] [(.int (1 : Int32))])) _
    exact retN X0 hx (t := .boolean) Bd.returns (by simp) (hb hby d3_32) hr
  · show Q_rm3_11 Z  h0 n0 _ s₁.heap _
    rw [e0]
    exact ⟨rfl, N0, rfl⟩
set_option maxRecDepth 65536 in
set_option maxHeartbeats 40000000 in
theorem rm0_11 (l : Launch) (Z : State) (a0 : Array Value) (hw : ∀ d ∈ tables_1, d.before a0 Z = true) (ws : List Jvm.Cond) (p1 : Int32) (w_MINUS : Addr) (w_PLUS : Addr) (h0 : Heap) (n0 : Nat) (OL0 : Old Z n0 h0) (pr1 : ((p1 &&& (2147483647 : Int32)) % (14 : Int32)) = (11 : Int32)) (pr2 : Sta Z Z.heap "com/example/rigorous_chains/rigorouschains/prism/Expression$Operator" "MINUS" "Lcom/example/rigorous_chains/rigorouschains/prism/Expression$Operator;" (.ref w_MINUS)) (pr3 : Sta Z Z.heap "com/example/rigorous_chains/rigorouschains/prism/Expression$Operator" "PLUS" "Lcom/example/rigorous_chains/rigorouschains/prism/Expression$Operator;" (.ref w_PLUS)) (pr4 : w_MINUS ≠ w_PLUS) (pr5 : Exa Z Z.heap w_MINUS "com/example/rigorous_chains/rigorouschains/prism/Expression$Operator") :
    MetFree l x (head1 (Jvm.Cond.code x code maxLocals ret :: ws) room_1) (fun a U => a = #[(.int p1)] ∧ Z.Warmed39 U.vm ∧ U.heap = h0) (fun _ _ _ _ _ => True) (fun _ U o U' => ∃ v L, o = .returned v ∧ Q0 n0 v L ∧ FrameEnd U o U' L 0 0) := by
  refine MetFree.of_bodySF (plainFor_of_name pn_0) hisR ?_
  intro p e s m args below meth c s₁ Bd hml0 hP hK
  obtain ⟨rfl, hZ, hh⟩ := hP
  have hx := Bd.exec
  have hby := Bd.bytes
  have hml : c.maxLocals = 3 := hml0
  have hown : s.vm.findClass "com/example/rigorous_chains/rigorouschains/prism/OperatorIsArithmeticPinLaw" = some m.cls := findClass_of_methodNamed Bd.named
  have hnm := (name_of_methodNamed Bd.named Bd.method).1
  have X0 : Stand p l e room_1 s m #[(.int p1)] below meth c s₁ [] 0 0 := Stand.of_body Bd
  have e0 : s₁.heap = h0 := by rw [← hh, Bd.state]; rfl
  have N0 := Fr.nil n0
  have pre0 : ∀ t, Steps p.tables e below (s₁.setTop (mkF m 0 #[.val (.int p1), .unset, .unset] [])) t → Steps p.tables e below (s₁.setTop (entryFrame m #[(.int p1)] maxLocals)) t := fun t k => castTop (ef_0_3 m p1) k
  obtain ⟨_, _, ⟨T1, L1, k1, n1⟩, -, X1, ⟨Lc1, hQ1, l1, y1, z1⟩, st1⟩ := Jvm.LawKit.callS X0 hx (y := (⟨"com/example/rigorous_chains/rigorouschains/prism/OperatorIsArithmeticPinLaw", "pick", "(I)Lcom/example/rigorous_chains/rigorouschains/prism/Expression$Operator;"⟩ : MethodName)) hown (mvT hZ (wd1 hw)) (mvT hZ (wd2 hw)) (mvT hZ (wd3 hw)) (mvT hZ (wd4 hw)) (by decide) (backOf (W := 0) (rm1_11 l Z a0 hw [] w_MINUS h0 n0 OL0 pr2) hZ (wd4 hw) (wd3 hw) (by decide) (by decide)) (g := (mkF m 9 #[.val (.int p1), .val (.int (11 : Int32)), .unset] [(.int (11 : Int32))])) rfl (by rw [hml]; rfl) (argsL := [(.int (11 : Int32))]) (rest := []) (lenOf pd_0 rfl) rfl (by show 2 * 0 + _ ≤ _; exact Nat.le_of_eq rfl) (hb hby at_9) (fun _ _ => ⟨rfl, e0, (by decide : 0 + 0 ≤ _), (by decide : 0 + 0 ≤ _)⟩)
  dsimp only [Pt.U, Pt.locs, Pt.cells, Pt.slots] at X1 l1 y1 z1 st1 hQ1
  subst l1 y1 z1
  obtain ⟨rfl, Nq1, ec1⟩ := hQ1
  have N1 := Fr.app N0 Nq1
  obtain ⟨cq2, kq2, q2a, q2b, q2c⟩ := isOf hZ ec1 (pr5.ext OL0.2)
  obtain ⟨_, _, ⟨T2, L2, k2, n2⟩, -, X2, ⟨Lc2, hQ2, l2, y2, z2⟩, st2⟩ := X1.virtualBack hx (y := (⟨"com/example/rigorous_chains/rigorouschains/prism/Expression$Operator", "isArithmetic", "()Z"⟩ : MethodName)) (z := (⟨"com/example/rigorous_chains/rigorouschains/prism/Expression$Operator", "isArithmetic", "()Z"⟩ : MethodName)) hown (mvT hZ (wd8 hw)) (mvT hZ (wd9 hw)) (notFace_of_selects (args := #[]) (mvT hZ (wd11 hw))) (mvT hZ (wd11 hw)) (mvT hZ (wd10 hw)) (by decide) (backOf (W := 0) (rm2_2 l Z a0 hw [] w_MINUS w_PLUS h0 n0 OL0 pr3 pr4 pr2) hZ (wd12 hw) (wd6 hw) (by decide) (by decide)) q2a q2c (g := (mkF m 14 #[.val (.int p1), .val (.int (11 : Int32)), .val (.ref w_MINUS)] [(.ref w_MINUS)])) rfl (by rw [hml]; rfl) (Steps.refl _) (argsL := []) (rest := []) (lenOf pd_1 rfl) rfl (by show 2 * 0 + _ ≤ _; exact Nat.le_of_eq rfl) (hb hby at_14) (fun _ _ => ⟨rfl, ec1, (by decide : 0 + 0 ≤ _), (by decide : 0 + 0 ≤ _)⟩)
  dsimp only [Pt.U, Pt.locs, Pt.cells, Pt.slots] at X2 l2 y2 z2 st2 hQ2
  subst l2 y2 z2
  obtain ⟨rfl, Nq2, ec2⟩ := hQ2
  have N2 := Fr.app N1 Nq2
  obtain ⟨_, _, ⟨T3, L3, k3, n3⟩, -, X3, ⟨Lc3, hQ3, l3, y3, z3⟩, st3⟩ := Jvm.LawKit.callS X2 hx (y := (⟨"com/example/rigorous_chains/rigorouschains/prism/OperatorIsArithmeticPinLaw", "expected", "(I)Z"⟩ : MethodName)) hown (mvT hZ (wd21 hw)) (mvT hZ (wd22 hw)) (mvT hZ (wd3 hw)) (mvT hZ (wd23 hw)) (by decide) (backOf (W := 1) (rm3_11 l Z a0 hw []  h0 n0 OL0 ) hZ (wd23 hw) (wd3 hw) (by decide) (by decide)) (g := (mkF m 18 #[.val (.int p1), .val (.int (11 : Int32)), .val (.ref w_MINUS)] [(.int (11 : Int32)), (.int (1 : Int32))])) rfl (by rw [hml]; rfl) (argsL := [(.int (11 : Int32))]) (rest := [(.int (1 : Int32))]) (lenOf pd_2 rfl) rfl (by show 2 * 0 + _ ≤ _; exact Nat.le_of_eq rfl) (hb hby at_18) (fun _ _ => ⟨rfl, ec2, (by decide : 0 + 0 ≤ _), (by decide : 0 + 0 ≤ _)⟩)
  dsimp only [Pt.U, Pt.locs, Pt.cells, Pt.slots] at X3 l3 y3 z3 st3 hQ3
  subst l3 y3 z3
  obtain ⟨rfl, Nq3, ec3⟩ := hQ3
  have N3 := Fr.app N2 Nq3
  obtain ⟨fs, hr, hrun, hended, hW, hsame⟩ := X3.leave (v := some (.int (1 : Int32))) (fun h => by rw [Bd.returns] at h; cases h)
  refine ⟨_, _, pre0 _ ?_, hrun, hended, _, _, rfl, ?_, ⟨_, rfl⟩, hW, hsame.mono (by decide) (by decide)⟩
  · show Steps p.tables e below (s₁.setTop (mkF m 0 #[.val (.int p1), .unset, .unset] [])) _
    refine XS.iloadN X0.here hx rfl (hb hby at_0) rfl ?_
    show Steps p.tables e below (s₁.setTop (mkF m 1 #[.val (.int p1), .unset, .unset] [(.int p1)])) _
    refine X0.ldcInt hx hown (mvT hZ (wd0 hw)) (g := (mkF m 1 #[.val (.int p1), .unset, .unset] [(.int p1)])) rfl (hb hby at_1) _ ?_
    show Steps p.tables e below (s₁.setTop (mkF m 3 #[.val (.int p1), .unset, .unset] [(.int (2147483647 : Int32)), (.int p1)])) _
    refine XS.iand X0.here hx rfl (hb hby at_3) rfl ?_
    show Steps p.tables e below (s₁.setTop (mkF m 4 #[.val (.int p1), .unset, .unset] [(.int (p1 &&& (2147483647 : Int32)))])) _
    refine XS.bipush X0.here hx rfl (hb hby at_4) ?_
    show Steps p.tables e below (s₁.setTop (mkF m 6 #[.val (.int p1), .unset, .unset] [(.int (14 : Int32)), (.int (p1 &&& (2147483647 : Int32)))])) _
    refine iremM X0 hx rfl (hb hby at_6) rfl (by decide) ?_
    show Steps p.tables e below (s₁.setTop (mkF m 7 #[.val (.int p1), .unset, .unset] [(.int ((p1 &&& (2147483647 : Int32)) % (14 : Int32)))])) _
    rw [pr1]
    show Steps p.tables e below (s₁.setTop (mkF m 7 #[.val (.int p1), .unset, .unset] [(.int (11 : Int32))])) _
    refine XS.istoreN X0.here hx rfl (hb hby at_7) rfl (l' := #[.val (.int p1), .val (.int (11 : Int32)), .unset]) rfl ?_
    show Steps p.tables e below (s₁.setTop (mkF m 8 #[.val (.int p1), .val (.int (11 : Int32)), .unset] [])) _
    refine XS.iloadN X0.here hx rfl (hb hby at_8) rfl ?_
    show Steps p.tables e below (s₁.setTop (mkF m 9 #[.val (.int p1), .val (.int (11 : Int32)), .unset] [(.int (11 : Int32))])) _
    refine st1 _ ?_
    show Steps p.tables e below (T1.setTop (mkF m 12 #[.val (.int p1), .val (.int (11 : Int32)), .unset] [(.ref w_MINUS)])) _
    refine XS.astoreN X1.here hx rfl (hb hby at_12) rfl rfl (l' := #[.val (.int p1), .val (.int (11 : Int32)), .val (.ref w_MINUS)]) rfl ?_
    show Steps p.tables e below (T1.setTop (mkF m 13 #[.val (.int p1), .val (.int (11 : Int32)), .val (.ref w_MINUS)] [])) _
    refine XS.aloadN X1.here hx rfl (hb hby at_13) rfl rfl ?_
    show Steps p.tables e below (T1.setTop (mkF m 14 #[.val (.int p1), .val (.int (11 : Int32)), .val (.ref w_MINUS)] [(.ref w_MINUS)])) _
    refine st2.trans ?_
    show Steps p.tables e below (T2.setTop (mkF m 17 #[.val (.int p1), .val (.int (11 : Int32)), .val (.ref w_MINUS)] [(.int (1 : Int32))])) _
    refine XS.iloadN X2.here hx rfl (hb hby at_17) rfl ?_
    show Steps p.tables e below (T2.setTop (mkF m 18 #[.val (.int p1), .val (.int (11 : Int32)), .val (.ref w_MINUS)] [(.int (11 : Int32)), (.int (1 : Int32))])) _
    refine st3 _ ?_
    show Steps p.tables e below (T3.setTop (mkF m 21 #[.val (.int p1), .val (.int (11 : Int32)), .val (.ref w_MINUS)] [(.int (1 : Int32)), (.int (1 : Int32))])) _
    refine XS.icmpNo X3.here hx rfl (hb hby at_21) rfl (teq (rfl : (1 : Int32) = (1 : Int32))).2 ?_
    show Steps p.tables e below (T3.setTop (mkF m 24 #[.val (.int p1), .val (.int (11 : Int32)), .val (.ref w_MINUS)] [])) _
    refine XS.iconst X3.here hx rfl (hb hby at_24) ?_
    show Steps p.tables e below (T3.setTop (mkF m 25 #[.val (.int p1), .val (.int (11 : Int32)), .val (.ref w_MINUS)] [(.int (1 : Int32))])) _
    refine XS.goto X3.here hx rfl (pc0 := 25) (pc' := 29) rfl (hb hby at_25) (by decide) (by decide) ?_
    show Steps p.tables e below (T3.setTop (mkF m 29 #[.val (.int p1), .val (.int (11 : Int32)), .val (.ref w_MINUS)] [(.int (1 : Int32))])) _
    exact retN X3 hx (t := .boolean) Bd.returns (by simp) (hb hby at_29) hr
  · exact ⟨rfl, N3⟩
theorem d1_113 : decode method_2_code 113 = .ok (.iload_n 0, 1) := by decide +kernel
theorem d1_114 : decode method_2_code 114 = .ok (.bipush 12, 2) := by decide +kernel
theorem d1_116 : decode method_2_code 116 = .ok (.if_icmp .ne 7, 3) := by decide +kernel
theorem d1_119 : decode method_2_code 119 = .ok (.getstatic 46, 3) := by decide +kernel
theorem d1_122 : decode method_2_code 122 = .ok (.areturn, 1) := by decide +kernel
theorem ef_1_26 (m : MethodId)  : entryFrame m #[(.int (12 : Int32))] 1 = mkF m 0 #[.val (.int (12 : Int32))] [] := by first | (simp [entryFrame, mkF, argsToLocals, Value.category]; done) | rfl
def Q_rm1_12 (Z : State) (w1 : Addr) (h0 : Heap) (n0 : Nat) (v : Option Value) (h : Heap) (L : List Loc) : Prop := v = some (.ref w1) ∧ Fr n0 L ∧ h = h0
set_option maxRecDepth 65536 in
set_option maxHeartbeats 40000000 in
theorem rm1_12 (l : Launch) (Z : State) (a0 : Array Value) (hw : ∀ d ∈ tables_1, d.before a0 Z = true) (ws : List Jvm.Cond) (w1 : Addr) (h0 : Heap) (n0 : Nat) (OL0 : Old Z n0 h0) (pr1 : Sta Z Z.heap "com/example/rigorous_chains/rigorouschains/prism/Expression$Operator" "TIMES" "Lcom/example/rigorous_chains/rigorouschains/prism/Expression$Operator;" (.ref w1)) :
    MetFree l (⟨"com/example/rigorous_chains/rigorouschains/prism/OperatorIsArithmeticPinLaw", "pick", "(I)Lcom/example/rigorous_chains/rigorouschains/prism/Expression$Operator;"⟩ : MethodName) (head1 (Jvm.Cond.code (⟨"com/example/rigorous_chains/rigorouschains/prism/OperatorIsArithmeticPinLaw", "pick", "(I)Lcom/example/rigorous_chains/rigorouschains/prism/Expression$Operator;"⟩ : MethodName) method_2_code 1 (some (.object "com/example/rigorous_chains/rigorouschains/prism/Expression$Operator")) :: ws) ({ frames := 0, cells := 0, slots := 0, locals := 0 } : Room)) (fun a U => a = #[(.int (12 : Int32))] ∧ Z.Warmed39 U.vm ∧ U.heap = h0) (fun _ _ _ _ _ => True) (fun _ U o U' => ∃ v L, o = .returned v ∧ Q_rm1_12 Z w1 h0 n0 v U'.heap L ∧ FrameEnd U o U' L ({ frames := 0, cells := 0, slots := 0, locals := 0 } : Room).cells ({ frames := 0, cells := 0, slots := 0, locals := 0 } : Room).slots) := by
  refine MetFree.of_bodySF (plainFor_of_name pn_0) hisR ?_
  intro p e s m args below meth c s₁ Bd hml0 hP hK
  obtain ⟨rfl, hZ, hh⟩ := hP
  have hx := Bd.exec
  have hby := Bd.bytes
  have hml : c.maxLocals = 1 := hml0
  have hown : s.vm.findClass "com/example/rigorous_chains/rigorouschains/prism/OperatorIsArithmeticPinLaw" = some m.cls := findClass_of_methodNamed Bd.named
  have hnm := (name_of_methodNamed Bd.named Bd.method).1
  have X0 : Stand p l e ({ frames := 0, cells := 0, slots := 0, locals := 0 } : Room) s m #[(.int (12 : Int32))] below meth c s₁ [] 0 0 := Stand.of_body Bd
  have e0 : s₁.heap = h0 := by rw [← hh, Bd.state]; rfl
  have N0 := Fr.nil n0
  have pre0 : ∀ t, Steps p.tables e below (s₁.setTop (mkF m 0 #[.val (.int (12 : Int32))] [])) t → Steps p.tables e below (s₁.setTop (entryFrame m #[(.int (12 : Int32))] 1)) t := fun t k => castTop (ef_1_26 m ) k
  obtain ⟨T2, X2, e2, st2⟩ := getS2 X0 hx hZ hown (host := "") (Or.inl (wd26 hw)) Via.refl e0 (pr1.ext OL0.2) (g := (mkF m 119 #[.val (.int (12 : Int32))] [])) rfl (hb hby d1_119)
  obtain ⟨fs, hr, hrun, hended, hW, hsame⟩ := X2.leave (v := some (.ref w1)) (fun h => by rw [Bd.returns] at h; cases h)
  refine ⟨_, _, pre0 _ ?_, hrun, hended, _, _, rfl, ?_, ⟨_, rfl⟩, hW, hsame.mono (by decide) (by decide)⟩
  · show Steps p.tables e below (s₁.setTop (mkF m 0 #[.val (.int (12 : Int32))] [])) _
    refine XS.iloadN X0.here hx rfl (hb hby d1_0) rfl ?_
    show Steps p.tables e below (s₁.setTop (mkF m 1 #[.val (.int (12 : Int32))] [(.int (12 : Int32))])) _
    refine XS.ifYes X0.here hx rfl (pc0 := 1) (pc' := 8) rfl (hb hby d1_1) rfl ((if0 _ _).trans (feq (by decide : ¬ ((12 : Int32) = (0 : Int32)))).2) (by decide) (by decide) ?_
    show Steps p.tables e below (s₁.setTop (mkF m 8 #[.val (.int (12 : Int32))] [])) _
    refine XS.iloadN X0.here hx rfl (hb hby d1_8) rfl ?_
    show Steps p.tables e below (s₁.setTop (mkF m 9 #[.val (.int (12 : Int32))] [(.int (12 : Int32))])) _
    refine XS.iconst X0.here hx rfl (hb hby d1_9) ?_
    show Steps p.tables e below (s₁.setTop (mkF m 10 #[.val (.int (12 : Int32))] [(.int (1 : Int32)), (.int (12 : Int32))])) _
    refine XS.icmpYes X0.here hx rfl (pc0 := 10) (pc' := 17) rfl (hb hby d1_10) rfl (feq (by decide : ¬ ((12 : Int32) = (1 : Int32)))).2 (by decide) (by decide) ?_
    show Steps p.tables e below (s₁.setTop (mkF m 17 #[.val (.int (12 : Int32))] [])) _
    refine XS.iloadN X0.here hx rfl (hb hby d1_17) rfl ?_
    show Steps p.tables e below (s₁.setTop (mkF m 18 #[.val (.int (12 : Int32))] [(.int (12 : Int32))])) _
    refine XS.iconst X0.here hx rfl (hb hby d1_18) ?_
    show Steps p.tables e below (s₁.setTop (mkF m 19 #[.val (.int (12 : Int32))] [(.int (2 : Int32)), (.int (12 : Int32))])) _
    refine XS.icmpYes X0.here hx rfl (pc0 := 19) (pc' := 26) rfl (hb hby d1_19) rfl (feq (by decide : ¬ ((12 : Int32) = (2 : Int32)))).2 (by decide) (by decide) ?_
    show Steps p.tables e below (s₁.setTop (mkF m 26 #[.val (.int (12 : Int32))] [])) _
    refine XS.iloadN X0.here hx rfl (hb hby d1_26) rfl ?_
    show Steps p.tables e below (s₁.setTop (mkF m 27 #[.val (.int (12 : Int32))] [(.int (12 : Int32))])) _
    refine XS.iconst X0.here hx rfl (hb hby d1_27) ?_
    show Steps p.tables e below (s₁.setTop (mkF m 28 #[.val (.int (12 : Int32))] [(.int (3 : Int32)), (.int (12 : Int32))])) _
    refine XS.icmpYes X0.here hx rfl (pc0 := 28) (pc' := 35) rfl (hb hby d1_28) rfl (feq (by decide : ¬ ((12 : Int32) = (3 : Int32)))).2 (by decide) (by decide) ?_
    show Steps p.tables e below (s₁.setTop (mkF m 35 #[.val (.int (12 : Int32))] [])) _
    refine XS.iloadN X0.here hx rfl (hb hby d1_35) rfl ?_
    show Steps p.tables e below (s₁.setTop (mkF m 36 #[.val (.int (12 : Int32))] [(.int (12 : Int32))])) _
    refine XS.iconst X0.here hx rfl (hb hby d1_36) ?_
    show Steps p.tables e below (s₁.setTop (mkF m 37 #[.val (.int (12 : Int32))] [(.int (4 : Int32)), (.int (12 : Int32))])) _
    refine XS.icmpYes X0.here hx rfl (pc0 := 37) (pc' := 44) rfl (hb hby d1_37) rfl (feq (by decide : ¬ ((12 : Int32) = (4 : Int32)))).2 (by decide) (by decide) ?_
    show Steps p.tables e below (s₁.setTop (mkF m 44 #[.val (.int (12 : Int32))] [])) _
    refine XS.iloadN X0.here hx rfl (hb hby d1_44) rfl ?_
    show Steps p.tables e below (s₁.setTop (mkF m 45 #[.val (.int (12 : Int32))] [(.int (12 : Int32))])) _
    refine XS.iconst X0.here hx rfl (hb hby d1_45) ?_
    show Steps p.tables e below (s₁.setTop (mkF m 46 #[.val (.int (12 : Int32))] [(.int (5 : Int32)), (.int (12 : Int32))])) _
    refine XS.icmpYes X0.here hx rfl (pc0 := 46) (pc' := 53) rfl (hb hby d1_46) rfl (feq (by decide : ¬ ((12 : Int32) = (5 : Int32)))).2 (by decide) (by decide) ?_
    show Steps p.tables e below (s₁.setTop (mkF m 53 #[.val (.int (12 : Int32))] [])) _
    refine XS.iloadN X0.here hx rfl (hb hby d1_53) rfl ?_
    show Steps p.tables e below (s₁.setTop (mkF m 54 #[.val (.int (12 : Int32))] [(.int (12 : Int32))])) _
    refine XS.bipush X0.here hx rfl (hb hby d1_54) ?_
    show Steps p.tables e below (s₁.setTop (mkF m 56 #[.val (.int (12 : Int32))] [(.int (6 : Int32)), (.int (12 : Int32))])) _
    refine XS.icmpYes X0.here hx rfl (pc0 := 56) (pc' := 63) rfl (hb hby d1_56) rfl (feq (by decide : ¬ ((12 : Int32) = (6 : Int32)))).2 (by decide) (by decide) ?_
    show Steps p.tables e below (s₁.setTop (mkF m 63 #[.val (.int (12 : Int32))] [])) _
    refine XS.iloadN X0.here hx rfl (hb hby d1_63) rfl ?_
    show Steps p.tables e below (s₁.setTop (mkF m 64 #[.val (.int (12 : Int32))] [(.int (12 : Int32))])) _
    refine XS.bipush X0.here hx rfl (hb hby d1_64) ?_
    show Steps p.tables e below (s₁.setTop (mkF m 66 #[.val (.int (12 : Int32))] [(.int (7 : Int32)), (.int (12 : Int32))])) _
    refine XS.icmpYes X0.here hx rfl (pc0 := 66) (pc' := 73) rfl (hb hby d1_66) rfl (feq (by decide : ¬ ((12 : Int32) = (7 : Int32)))).2 (by decide) (by decide) ?_
    show Steps p.tables e below (s₁.setTop (mkF m 73 #[.val (.int (12 : Int32))] [])) _
    refine XS.iloadN X0.here hx rfl (hb hby d1_73) rfl ?_
    show Steps p.tables e below (s₁.setTop (mkF m 74 #[.val (.int (12 : Int32))] [(.int (12 : Int32))])) _
    refine XS.bipush X0.here hx rfl (hb hby d1_74) ?_
    show Steps p.tables e below (s₁.setTop (mkF m 76 #[.val (.int (12 : Int32))] [(.int (8 : Int32)), (.int (12 : Int32))])) _
    refine XS.icmpYes X0.here hx rfl (pc0 := 76) (pc' := 83) rfl (hb hby d1_76) rfl (feq (by decide : ¬ ((12 : Int32) = (8 : Int32)))).2 (by decide) (by decide) ?_
    show Steps p.tables e below (s₁.setTop (mkF m 83 #[.val (.int (12 : Int32))] [])) _
    refine XS.iloadN X0.here hx rfl (hb hby d1_83) rfl ?_
    show Steps p.tables e below (s₁.setTop (mkF m 84 #[.val (.int (12 : Int32))] [(.int (12 : Int32))])) _
    refine XS.bipush X0.here hx rfl (hb hby d1_84) ?_
    show Steps p.tables e below (s₁.setTop (mkF m 86 #[.val (.int (12 : Int32))] [(.int (9 : Int32)), (.int (12 : Int32))])) _
    refine XS.icmpYes X0.here hx rfl (pc0 := 86) (pc' := 93) rfl (hb hby d1_86) rfl (feq (by decide : ¬ ((12 : Int32) = (9 : Int32)))).2 (by decide) (by decide) ?_
    show Steps p.tables e below (s₁.setTop (mkF m 93 #[.val (.int (12 : Int32))] [])) _
    refine XS.iloadN X0.here hx rfl (hb hby d1_93) rfl ?_
    show Steps p.tables e below (s₁.setTop (mkF m 94 #[.val (.int (12 : Int32))] [(.int (12 : Int32))])) _
    refine XS.bipush X0.here hx rfl (hb hby d1_94) ?_
    show Steps p.tables e below (s₁.setTop (mkF m 96 #[.val (.int (12 : Int32))] [(.int (10 : Int32)), (.int (12 : Int32))])) _
    refine XS.icmpYes X0.here hx rfl (pc0 := 96) (pc' := 103) rfl (hb hby d1_96) rfl (feq (by decide : ¬ ((12 : Int32) = (10 : Int32)))).2 (by decide) (by decide) ?_
    show Steps p.tables e below (s₁.setTop (mkF m 103 #[.val (.int (12 : Int32))] [])) _
    refine XS.iloadN X0.here hx rfl (hb hby d1_103) rfl ?_
    show Steps p.tables e below (s₁.setTop (mkF m 104 #[.val (.int (12 : Int32))] [(.int (12 : Int32))])) _
    refine XS.bipush X0.here hx rfl (hb hby d1_104) ?_
    show Steps p.tables e below (s₁.setTop (mkF m 106 #[.val (.int (12 : Int32))] [(.int (11 : Int32)), (.int (12 : Int32))])) _
    refine XS.icmpYes X0.here hx rfl (pc0 := 106) (pc' := 113) rfl (hb hby d1_106) rfl (feq (by decide : ¬ ((12 : Int32) = (11 : Int32)))).2 (by decide) (by decide) ?_
    show Steps p.tables e below (s₁.setTop (mkF m 113 #[.val (.int (12 : Int32))] [])) _
    refine XS.iloadN X0.here hx rfl (hb hby d1_113) rfl ?_
    show Steps p.tables e below (s₁.setTop (mkF m 114 #[.val (.int (12 : Int32))] [(.int (12 : Int32))])) _
    refine XS.bipush X0.here hx rfl (hb hby d1_114) ?_
    show Steps p.tables e below (s₁.setTop (mkF m 116 #[.val (.int (12 : Int32))] [(.int (12 : Int32)), (.int (12 : Int32))])) _
    refine XS.icmpNo X0.here hx rfl (hb hby d1_116) rfl (teq (rfl : (12 : Int32) = (12 : Int32))).2 ?_
    show Steps p.tables e below (s₁.setTop (mkF m 119 #[.val (.int (12 : Int32))] [])) _
    refine st2 _ ?_
    show Steps p.tables e below (T2.setTop (mkF m 122 #[.val (.int (12 : Int32))] [(.ref w1)])) _
    jvm_step X2.here [X2.here.top, hx, (hb hby d1_122), X2.method', Bd.returns, Value.isRef, FieldType.isReference]
    first | (intro acts; rw [hr _ acts rfl rfl rfl]) | rw [hr _ _ rfl rfl rfl]
    exact Steps.refl _
  · show Q_rm1_12 Z w1 h0 n0 _ T2.heap _
    rw [e2]
    exact ⟨rfl, N0, rfl⟩
def Q_rm2_3 (Z : State) (w1 : Addr) (w2 : Addr) (w4 : Addr) (h0 : Heap) (n0 : Nat) (v : Option Value) (h : Heap) (L : List Loc) : Prop := v = some (.int (1 : Int32)) ∧ Fr n0 L ∧ h = h0
set_option maxRecDepth 65536 in
set_option maxHeartbeats 40000000 in
theorem rm2_3 (l : Launch) (Z : State) (a0 : Array Value) (hw : ∀ d ∈ tables_1, d.before a0 Z = true) (ws : List Jvm.Cond) (w1 : Addr) (w2 : Addr) (w4 : Addr) (h0 : Heap) (n0 : Nat) (OL0 : Old Z n0 h0) (pr1 : Sta Z Z.heap "com/example/rigorous_chains/rigorouschains/prism/Expression$Operator" "PLUS" "Lcom/example/rigorous_chains/rigorouschains/prism/Expression$Operator;" (.ref w2)) (pr2 : w1 ≠ w2) (pr3 : Sta Z Z.heap "com/example/rigorous_chains/rigorouschains/prism/Expression$Operator" "MINUS" "Lcom/example/rigorous_chains/rigorouschains/prism/Expression$Operator;" (.ref w4)) (pr4 : w1 ≠ w4) (pr5 : Sta Z Z.heap "com/example/rigorous_chains/rigorouschains/prism/Expression$Operator" "TIMES" "Lcom/example/rigorous_chains/rigorouschains/prism/Expression$Operator;" (.ref w1)) :
    MetFree l (⟨"com/example/rigorous_chains/rigorouschains/prism/Expression$Operator", "isArithmetic", "()Z"⟩ : MethodName) (head1 (Jvm.Cond.code (⟨"com/example/rigorous_chains/rigorouschains/prism/Expression$Operator", "isArithmetic", "()Z"⟩ : MethodName) prog_55_method_7_code 1 (some .boolean) :: ws) ({ frames := 0, cells := 0, slots := 0, locals := 0 } : Room)) (fun a U => a = #[(.ref w1)] ∧ Z.Warmed39 U.vm ∧ U.heap = h0) (fun _ _ _ _ _ => True) (fun _ U o U' => ∃ v L, o = .returned v ∧ Q_rm2_3 Z w1 w2 w4 h0 n0 v U'.heap L ∧ FrameEnd U o U' L ({ frames := 0, cells := 0, slots := 0, locals := 0 } : Room).cells ({ frames := 0, cells := 0, slots := 0, locals := 0 } : Room).slots) := by
  refine MetFree.of_bodySF (plainFor_of_name pn_1) hisR ?_
  intro p e s m args below meth c s₁ Bd hml0 hP hK
  obtain ⟨rfl, hZ, hh⟩ := hP
  have hx := Bd.exec
  have hby := Bd.bytes
  have hml : c.maxLocals = 1 := hml0
  have hown : s.vm.findClass "com/example/rigorous_chains/rigorouschains/prism/Expression$Operator" = some m.cls := findClass_of_methodNamed Bd.named
  have hnm := (name_of_methodNamed Bd.named Bd.method).1
  have X0 : Stand p l e ({ frames := 0, cells := 0, slots := 0, locals := 0 } : Room) s m #[(.ref w1)] below meth c s₁ [] 0 0 := Stand.of_body Bd
  have e0 : s₁.heap = h0 := by rw [← hh, Bd.state]; rfl
  have N0 := Fr.nil n0
  have pre0 : ∀ t, Steps p.tables e below (s₁.setTop (mkF m 0 #[.val (.ref w1)] [])) t → Steps p.tables e below (s₁.setTop (entryFrame m #[(.ref w1)] 1)) t := fun t k => castTop (ef_2_1 m w1) k
  obtain ⟨T3, X3, e3, st3⟩ := getS2 X0 hx hZ hown (host := "") (Or.inl (wd13 hw)) Via.refl e0 (pr1.ext OL0.2) (g := (mkF m 1 #[.val (.ref w1)] [(.ref w1)])) rfl (hb hby d2_1)
  obtain ⟨T5, X5, e5, st5⟩ := getS2 X3 hx hZ hown (host := "") (Or.inl (wd15 hw)) Via.refl e3 (pr3.ext OL0.2) (g := (mkF m 8 #[.val (.ref w1)] [(.ref w1)])) rfl (hb hby d2_8)
  obtain ⟨T6, X6, e6, st6⟩ := getS2 X5 hx hZ hown (host := "") (Or.inl (wd17 hw)) Via.refl e5 (pr5.ext OL0.2) (g := (mkF m 15 #[.val (.ref w1)] [(.ref w1)])) rfl (hb hby d2_15)
  obtain ⟨fs, hr, hrun, hended, hW, hsame⟩ := X6.leave (v := some (.int (1 : Int32))) (fun h => by rw [Bd.returns] at h; cases h)
  refine ⟨_, _, pre0 _ ?_, hrun, hended, _, _, rfl, ?_, ⟨_, rfl⟩, hW, hsame.mono (by decide) (by decide)⟩
  · show Steps p.tables e below (s₁.setTop (mkF m 0 #[.val (.ref w1)] [])) _
    refine XS.aloadN X0.here hx rfl (hb hby d2_0) rfl rfl ?_
    show Steps p.tables e below (s₁.setTop (mkF m 1 #[.val (.ref w1)] [(.ref w1)])) _
    refine st3 _ ?_
    show Steps p.tables e below (T3.setTop (mkF m 4 #[.val (.ref w1)] [(.ref w2), (.ref w1)])) _
    refine Jvm.RoadKit.acmp (g := (mkF m 4 #[.val (.ref w1)] [(.ref w2), (.ref w1)])) X3 hx rfl rfl rfl (pc0 := 4) (pc' := 7) (same := false) rfl (hb hby d2_4) rfl (decide_eq_false fun q => pr2 (Value.ref.inj q)) (by decide) (by decide) ?_
    show Steps p.tables e below (T3.setTop (mkF m 7 #[.val (.ref w1)] [])) _
    refine XS.aloadN X3.here hx rfl (hb hby d2_7) rfl rfl ?_
    show Steps p.tables e below (T3.setTop (mkF m 8 #[.val (.ref w1)] [(.ref w1)])) _
    refine st5 _ ?_
    show Steps p.tables e below (T5.setTop (mkF m 11 #[.val (.ref w1)] [(.ref w4), (.ref w1)])) _
    refine Jvm.RoadKit.acmp (g := (mkF m 11 #[.val (.ref w1)] [(.ref w4), (.ref w1)])) X5 hx rfl rfl rfl (pc0 := 11) (pc' := 14) (same := false) rfl (hb hby d2_11) rfl (decide_eq_false fun q => pr4 (Value.ref.inj q)) (by decide) (by decide) ?_
    show Steps p.tables e below (T5.setTop (mkF m 14 #[.val (.ref w1)] [])) _
    refine XS.aloadN X5.here hx rfl (hb hby d2_14) rfl rfl ?_
    show Steps p.tables e below (T5.setTop (mkF m 15 #[.val (.ref w1)] [(.ref w1)])) _
    refine st6 _ ?_
    show Steps p.tables e below (T6.setTop (mkF m 18 #[.val (.ref w1)] [(.ref w1), (.ref w1)])) _
    refine Jvm.RoadKit.acmp (g := (mkF m 18 #[.val (.ref w1)] [(.ref w1), (.ref w1)])) X6 hx rfl rfl rfl (pc0 := 18) (pc' := 28) (same := true) rfl (hb hby d2_18) rfl (decide_eq_true rfl) (by decide) (by decide) ?_
    show Steps p.tables e below (T6.setTop (mkF m 28 #[.val (.ref w1)] [])) _
    refine XS.iconst X6.here hx rfl (hb hby d2_28) ?_
    show Steps p.tables e below (T6.setTop (mkF m 29 #[.val (.ref w1)] [(.int (1 : Int32))])) _
    refine XS.goto X6.here hx rfl (pc0 := 29) (pc' := 33) rfl (hb hby d2_29) (by decide) (by decide) ?_
    show Steps p.tables e below (T6.setTop (mkF m 33 #[.val (.ref w1)] [(.int (1 : Int32))])) _
    exact retN X6 hx (t := .boolean) Bd.returns (by simp) (hb hby d2_33) hr
  · show Q_rm2_3 Z w1 w2 w4 h0 n0 _ T6.heap _
    rw [e6]
    exact ⟨rfl, N0, rfl⟩
theorem ef_3_27 (m : MethodId)  : entryFrame m #[(.int (12 : Int32))] 2 = mkF m 0 #[.val (.int (12 : Int32)), .unset] [] := by first | (simp [entryFrame, mkF, argsToLocals, Value.category]; done) | rfl
def Q_rm3_12 (Z : State)  (h0 : Heap) (n0 : Nat) (v : Option Value) (h : Heap) (L : List Loc) : Prop := v = some (.int (1 : Int32)) ∧ Fr n0 L ∧ h = h0
set_option maxRecDepth 65536 in
set_option maxHeartbeats 40000000 in
theorem rm3_12 (l : Launch) (Z : State) (a0 : Array Value) (hw : ∀ d ∈ tables_1, d.before a0 Z = true) (ws : List Jvm.Cond)  (h0 : Heap) (n0 : Nat) (OL0 : Old Z n0 h0)  :
    MetFree l (⟨"com/example/rigorous_chains/rigorouschains/prism/OperatorIsArithmeticPinLaw", "expected", "(I)Z"⟩ : MethodName) (head1 (Jvm.Cond.code (⟨"com/example/rigorous_chains/rigorouschains/prism/OperatorIsArithmeticPinLaw", "expected", "(I)Z"⟩ : MethodName) method_3_code 2 (some .boolean) :: ws) ({ frames := 0, cells := 0, slots := 0, locals := 0 } : Room)) (fun a U => a = #[(.int (12 : Int32))] ∧ Z.Warmed39 U.vm ∧ U.heap = h0) (fun _ _ _ _ _ => True) (fun _ U o U' => ∃ v L, o = .returned v ∧ Q_rm3_12 Z  h0 n0 v U'.heap L ∧ FrameEnd U o U' L ({ frames := 0, cells := 0, slots := 0, locals := 0 } : Room).cells ({ frames := 0, cells := 0, slots := 0, locals := 0 } : Room).slots) := by
  refine MetFree.of_bodySF (plainFor_of_name pn_0) hisR ?_
  intro p e s m args below meth c s₁ Bd hml0 hP hK
  obtain ⟨rfl, hZ, hh⟩ := hP
  have hx := Bd.exec
  have hby := Bd.bytes
  have hml : c.maxLocals = 2 := hml0
  have hown : s.vm.findClass "com/example/rigorous_chains/rigorouschains/prism/OperatorIsArithmeticPinLaw" = some m.cls := findClass_of_methodNamed Bd.named
  have hnm := (name_of_methodNamed Bd.named Bd.method).1
  have X0 : Stand p l e ({ frames := 0, cells := 0, slots := 0, locals := 0 } : Room) s m #[(.int (12 : Int32))] below meth c s₁ [] 0 0 := Stand.of_body Bd
  have e0 : s₁.heap = h0 := by rw [← hh, Bd.state]; rfl
  have N0 := Fr.nil n0
  have pre0 : ∀ t, Steps p.tables e below (s₁.setTop (mkF m 0 #[.val (.int (12 : Int32)), .unset] [])) t → Steps p.tables e below (s₁.setTop (entryFrame m #[(.int (12 : Int32))] 2)) t := fun t k => castTop (ef_3_27 m ) k
  obtain ⟨fs, hr, hrun, hended, hW, hsame⟩ := X0.leave (v := some (.int (1 : Int32))) (fun h => by rw [Bd.returns] at h; cases h)
  refine ⟨_, _, pre0 _ ?_, hrun, hended, _, _, rfl, ?_, ⟨_, rfl⟩, hW, hsame.mono (by decide) (by decide)⟩
  · show Steps p.tables e below (s₁.setTop (mkF m 0 #[.val (.int (12 : Int32)), .unset] [])) _
    refine XS.iloadN X0.here hx rfl (hb hby d3_0) rfl ?_
    show Steps p.tables e below (s₁.setTop (mkF m 1 #[.val (.int (12 : Int32)), .unset] [(.int (12 : Int32))])) _
    refine XS.bipush X0.here hx rfl (hb hby d3_1) ?_
    show Steps p.tables e below (s₁.setTop (mkF m 3 #[.val (.int (12 : Int32)), .unset] [(.int (10 : Int32)), (.int (12 : Int32))])) _
    refine XS.icmpNo X0.here hx rfl (hb hby d3_3) rfl (feq (by decide : ¬ ((12 : Int32) = (10 : Int32)))).1 ?_
    show Steps p.tables e below (s₁.setTop (mkF m 6 #[.val (.int (12 : Int32)), .unset] [])) _
    refine XS.iloadN X0.here hx rfl (hb hby d3_6) rfl ?_
    show Steps p.tables e below (s₁.setTop (mkF m 7 #[.val (.int (12 : Int32)), .unset] [(.int (12 : Int32))])) _
    refine XS.bipush X0.here hx rfl (hb hby d3_7) ?_
    show Steps p.tables e below (s₁.setTop (mkF m 9 #[.val (.int (12 : Int32)), .unset] [(.int (11 : Int32)), (.int (12 : Int32))])) _
    refine XS.icmpNo X0.here hx rfl (hb hby d3_9) rfl (feq (by decide : ¬ ((12 : Int32) = (11 : Int32)))).1 ?_
    show Steps p.tables e below (s₁.setTop (mkF m 12 #[.val (.int (12 : Int32)), .unset] [])) _
    refine XS.iloadN X0.here hx rfl (hb hby d3_12) rfl ?_
    show Steps p.tables e below (s₁.setTop (mkF m 13 #[.val (.int (12 : Int32)), .unset] [(.int (12 : Int32))])) _
    refine XS.bipush X0.here hx rfl (hb hby d3_13) ?_
    show Steps p.tables e below (s₁.setTop (mkF m 15 #[.val (.int (12 : Int32)), .unset] [(.int (12 : Int32)), (.int (12 : Int32))])) _
    refine XS.icmpYes X0.here hx rfl (pc0 := 15) (pc' := 24) rfl (hb hby d3_15) rfl (teq (rfl : (12 : Int32) = (12 : Int32))).1 (by decide) (by decide) ?_
    show Steps p.tables e below (s₁.setTop (mkF m 24 #[.val (.int (12 : Int32)), .unset] [])) _
    refine XS.iconst X0.here hx rfl (hb hby d3_24) ?_
    show Steps p.tables e below (s₁.setTop (mkF m 25 #[.val (.int (12 : Int32)), .unset] [(.int (1 : Int32))])) _
    refine XS.istoreN X0.here hx rfl (hb hby d3_25) rfl (l' := #[.val (.int (12 : Int32)), .val (.int (1 : Int32))]) rfl ?_
    show Steps p.tables e below (s₁.setTop (mkF m 26 #[.val (.int (12 : Int32)), .val (.int (1 : Int32))] [])) _
    refine XS.goto X0.here hx rfl (pc0 := 26) (pc' := 31) rfl (hb hby d3_26) (by decide) (by decide) ?_
    show Steps p.tables e below (s₁.setTop (mkF m 31 #[.val (.int (12 : Int32)), .val (.int (1 : Int32))] [])) _
    refine XS.iloadN X0.here hx rfl (hb hby d3_31) rfl ?_
    show Steps p.tables e below (s₁.setTop (mkF m 32 #[.val (.int (12 : Int32)), .val (.int (1 : Int32))] [(.int (1 : Int32))])) _
    exact retN X0 hx (t := .boolean) Bd.returns (by simp) (hb hby d3_32) hr
  · show Q_rm3_12 Z  h0 n0 _ s₁.heap _
    rw [e0]
    exact ⟨rfl, N0, rfl⟩
set_option maxRecDepth 65536 in
set_option maxHeartbeats 40000000 in
theorem rm0_12 (l : Launch) (Z : State) (a0 : Array Value) (hw : ∀ d ∈ tables_1, d.before a0 Z = true) (ws : List Jvm.Cond) (p1 : Int32) (w_TIMES : Addr) (w_PLUS : Addr) (w_MINUS : Addr) (h0 : Heap) (n0 : Nat) (OL0 : Old Z n0 h0) (pr1 : ((p1 &&& (2147483647 : Int32)) % (14 : Int32)) = (12 : Int32)) (pr2 : Sta Z Z.heap "com/example/rigorous_chains/rigorouschains/prism/Expression$Operator" "TIMES" "Lcom/example/rigorous_chains/rigorouschains/prism/Expression$Operator;" (.ref w_TIMES)) (pr3 : Sta Z Z.heap "com/example/rigorous_chains/rigorouschains/prism/Expression$Operator" "PLUS" "Lcom/example/rigorous_chains/rigorouschains/prism/Expression$Operator;" (.ref w_PLUS)) (pr4 : w_TIMES ≠ w_PLUS) (pr5 : Sta Z Z.heap "com/example/rigorous_chains/rigorouschains/prism/Expression$Operator" "MINUS" "Lcom/example/rigorous_chains/rigorouschains/prism/Expression$Operator;" (.ref w_MINUS)) (pr6 : w_TIMES ≠ w_MINUS) (pr7 : Exa Z Z.heap w_TIMES "com/example/rigorous_chains/rigorouschains/prism/Expression$Operator") :
    MetFree l x (head1 (Jvm.Cond.code x code maxLocals ret :: ws) room_1) (fun a U => a = #[(.int p1)] ∧ Z.Warmed39 U.vm ∧ U.heap = h0) (fun _ _ _ _ _ => True) (fun _ U o U' => ∃ v L, o = .returned v ∧ Q0 n0 v L ∧ FrameEnd U o U' L 0 0) := by
  refine MetFree.of_bodySF (plainFor_of_name pn_0) hisR ?_
  intro p e s m args below meth c s₁ Bd hml0 hP hK
  obtain ⟨rfl, hZ, hh⟩ := hP
  have hx := Bd.exec
  have hby := Bd.bytes
  have hml : c.maxLocals = 3 := hml0
  have hown : s.vm.findClass "com/example/rigorous_chains/rigorouschains/prism/OperatorIsArithmeticPinLaw" = some m.cls := findClass_of_methodNamed Bd.named
  have hnm := (name_of_methodNamed Bd.named Bd.method).1
  have X0 : Stand p l e room_1 s m #[(.int p1)] below meth c s₁ [] 0 0 := Stand.of_body Bd
  have e0 : s₁.heap = h0 := by rw [← hh, Bd.state]; rfl
  have N0 := Fr.nil n0
  have pre0 : ∀ t, Steps p.tables e below (s₁.setTop (mkF m 0 #[.val (.int p1), .unset, .unset] [])) t → Steps p.tables e below (s₁.setTop (entryFrame m #[(.int p1)] maxLocals)) t := fun t k => castTop (ef_0_3 m p1) k
  obtain ⟨_, _, ⟨T1, L1, k1, n1⟩, -, X1, ⟨Lc1, hQ1, l1, y1, z1⟩, st1⟩ := Jvm.LawKit.callS X0 hx (y := (⟨"com/example/rigorous_chains/rigorouschains/prism/OperatorIsArithmeticPinLaw", "pick", "(I)Lcom/example/rigorous_chains/rigorouschains/prism/Expression$Operator;"⟩ : MethodName)) hown (mvT hZ (wd1 hw)) (mvT hZ (wd2 hw)) (mvT hZ (wd3 hw)) (mvT hZ (wd4 hw)) (by decide) (backOf (W := 0) (rm1_12 l Z a0 hw [] w_TIMES h0 n0 OL0 pr2) hZ (wd4 hw) (wd3 hw) (by decide) (by decide)) (g := (mkF m 9 #[.val (.int p1), .val (.int (12 : Int32)), .unset] [(.int (12 : Int32))])) rfl (by rw [hml]; rfl) (argsL := [(.int (12 : Int32))]) (rest := []) (lenOf pd_0 rfl) rfl (by show 2 * 0 + _ ≤ _; exact Nat.le_of_eq rfl) (hb hby at_9) (fun _ _ => ⟨rfl, e0, (by decide : 0 + 0 ≤ _), (by decide : 0 + 0 ≤ _)⟩)
  dsimp only [Pt.U, Pt.locs, Pt.cells, Pt.slots] at X1 l1 y1 z1 st1 hQ1
  subst l1 y1 z1
  obtain ⟨rfl, Nq1, ec1⟩ := hQ1
  have N1 := Fr.app N0 Nq1
  obtain ⟨cq2, kq2, q2a, q2b, q2c⟩ := isOf hZ ec1 (pr7.ext OL0.2)
  obtain ⟨_, _, ⟨T2, L2, k2, n2⟩, -, X2, ⟨Lc2, hQ2, l2, y2, z2⟩, st2⟩ := X1.virtualBack hx (y := (⟨"com/example/rigorous_chains/rigorouschains/prism/Expression$Operator", "isArithmetic", "()Z"⟩ : MethodName)) (z := (⟨"com/example/rigorous_chains/rigorouschains/prism/Expression$Operator", "isArithmetic", "()Z"⟩ : MethodName)) hown (mvT hZ (wd8 hw)) (mvT hZ (wd9 hw)) (notFace_of_selects (args := #[]) (mvT hZ (wd11 hw))) (mvT hZ (wd11 hw)) (mvT hZ (wd10 hw)) (by decide) (backOf (W := 0) (rm2_3 l Z a0 hw [] w_TIMES w_PLUS w_MINUS h0 n0 OL0 pr3 pr4 pr5 pr6 pr2) hZ (wd12 hw) (wd6 hw) (by decide) (by decide)) q2a q2c (g := (mkF m 14 #[.val (.int p1), .val (.int (12 : Int32)), .val (.ref w_TIMES)] [(.ref w_TIMES)])) rfl (by rw [hml]; rfl) (Steps.refl _) (argsL := []) (rest := []) (lenOf pd_1 rfl) rfl (by show 2 * 0 + _ ≤ _; exact Nat.le_of_eq rfl) (hb hby at_14) (fun _ _ => ⟨rfl, ec1, (by decide : 0 + 0 ≤ _), (by decide : 0 + 0 ≤ _)⟩)
  dsimp only [Pt.U, Pt.locs, Pt.cells, Pt.slots] at X2 l2 y2 z2 st2 hQ2
  subst l2 y2 z2
  obtain ⟨rfl, Nq2, ec2⟩ := hQ2
  have N2 := Fr.app N1 Nq2
  obtain ⟨_, _, ⟨T3, L3, k3, n3⟩, -, X3, ⟨Lc3, hQ3, l3, y3, z3⟩, st3⟩ := Jvm.LawKit.callS X2 hx (y := (⟨"com/example/rigorous_chains/rigorouschains/prism/OperatorIsArithmeticPinLaw", "expected", "(I)Z"⟩ : MethodName)) hown (mvT hZ (wd21 hw)) (mvT hZ (wd22 hw)) (mvT hZ (wd3 hw)) (mvT hZ (wd23 hw)) (by decide) (backOf (W := 1) (rm3_12 l Z a0 hw []  h0 n0 OL0 ) hZ (wd23 hw) (wd3 hw) (by decide) (by decide)) (g := (mkF m 18 #[.val (.int p1), .val (.int (12 : Int32)), .val (.ref w_TIMES)] [(.int (12 : Int32)), (.int (1 : Int32))])) rfl (by rw [hml]; rfl) (argsL := [(.int (12 : Int32))]) (rest := [(.int (1 : Int32))]) (lenOf pd_2 rfl) rfl (by show 2 * 0 + _ ≤ _; exact Nat.le_of_eq rfl) (hb hby at_18) (fun _ _ => ⟨rfl, ec2, (by decide : 0 + 0 ≤ _), (by decide : 0 + 0 ≤ _)⟩)
  dsimp only [Pt.U, Pt.locs, Pt.cells, Pt.slots] at X3 l3 y3 z3 st3 hQ3
  subst l3 y3 z3
  obtain ⟨rfl, Nq3, ec3⟩ := hQ3
  have N3 := Fr.app N2 Nq3
  obtain ⟨fs, hr, hrun, hended, hW, hsame⟩ := X3.leave (v := some (.int (1 : Int32))) (fun h => by rw [Bd.returns] at h; cases h)
  refine ⟨_, _, pre0 _ ?_, hrun, hended, _, _, rfl, ?_, ⟨_, rfl⟩, hW, hsame.mono (by decide) (by decide)⟩
  · show Steps p.tables e below (s₁.setTop (mkF m 0 #[.val (.int p1), .unset, .unset] [])) _
    refine XS.iloadN X0.here hx rfl (hb hby at_0) rfl ?_
    show Steps p.tables e below (s₁.setTop (mkF m 1 #[.val (.int p1), .unset, .unset] [(.int p1)])) _
    refine X0.ldcInt hx hown (mvT hZ (wd0 hw)) (g := (mkF m 1 #[.val (.int p1), .unset, .unset] [(.int p1)])) rfl (hb hby at_1) _ ?_
    show Steps p.tables e below (s₁.setTop (mkF m 3 #[.val (.int p1), .unset, .unset] [(.int (2147483647 : Int32)), (.int p1)])) _
    refine XS.iand X0.here hx rfl (hb hby at_3) rfl ?_
    show Steps p.tables e below (s₁.setTop (mkF m 4 #[.val (.int p1), .unset, .unset] [(.int (p1 &&& (2147483647 : Int32)))])) _
    refine XS.bipush X0.here hx rfl (hb hby at_4) ?_
    show Steps p.tables e below (s₁.setTop (mkF m 6 #[.val (.int p1), .unset, .unset] [(.int (14 : Int32)), (.int (p1 &&& (2147483647 : Int32)))])) _
    refine iremM X0 hx rfl (hb hby at_6) rfl (by decide) ?_
    show Steps p.tables e below (s₁.setTop (mkF m 7 #[.val (.int p1), .unset, .unset] [(.int ((p1 &&& (2147483647 : Int32)) % (14 : Int32)))])) _
    rw [pr1]
    show Steps p.tables e below (s₁.setTop (mkF m 7 #[.val (.int p1), .unset, .unset] [(.int (12 : Int32))])) _
    refine XS.istoreN X0.here hx rfl (hb hby at_7) rfl (l' := #[.val (.int p1), .val (.int (12 : Int32)), .unset]) rfl ?_
    show Steps p.tables e below (s₁.setTop (mkF m 8 #[.val (.int p1), .val (.int (12 : Int32)), .unset] [])) _
    refine XS.iloadN X0.here hx rfl (hb hby at_8) rfl ?_
    show Steps p.tables e below (s₁.setTop (mkF m 9 #[.val (.int p1), .val (.int (12 : Int32)), .unset] [(.int (12 : Int32))])) _
    refine st1 _ ?_
    show Steps p.tables e below (T1.setTop (mkF m 12 #[.val (.int p1), .val (.int (12 : Int32)), .unset] [(.ref w_TIMES)])) _
    refine XS.astoreN X1.here hx rfl (hb hby at_12) rfl rfl (l' := #[.val (.int p1), .val (.int (12 : Int32)), .val (.ref w_TIMES)]) rfl ?_
    show Steps p.tables e below (T1.setTop (mkF m 13 #[.val (.int p1), .val (.int (12 : Int32)), .val (.ref w_TIMES)] [])) _
    refine XS.aloadN X1.here hx rfl (hb hby at_13) rfl rfl ?_
    show Steps p.tables e below (T1.setTop (mkF m 14 #[.val (.int p1), .val (.int (12 : Int32)), .val (.ref w_TIMES)] [(.ref w_TIMES)])) _
    refine st2.trans ?_
    show Steps p.tables e below (T2.setTop (mkF m 17 #[.val (.int p1), .val (.int (12 : Int32)), .val (.ref w_TIMES)] [(.int (1 : Int32))])) _
    refine XS.iloadN X2.here hx rfl (hb hby at_17) rfl ?_
    show Steps p.tables e below (T2.setTop (mkF m 18 #[.val (.int p1), .val (.int (12 : Int32)), .val (.ref w_TIMES)] [(.int (12 : Int32)), (.int (1 : Int32))])) _
    refine st3 _ ?_
    show Steps p.tables e below (T3.setTop (mkF m 21 #[.val (.int p1), .val (.int (12 : Int32)), .val (.ref w_TIMES)] [(.int (1 : Int32)), (.int (1 : Int32))])) _
    refine XS.icmpNo X3.here hx rfl (hb hby at_21) rfl (teq (rfl : (1 : Int32) = (1 : Int32))).2 ?_
    show Steps p.tables e below (T3.setTop (mkF m 24 #[.val (.int p1), .val (.int (12 : Int32)), .val (.ref w_TIMES)] [])) _
    refine XS.iconst X3.here hx rfl (hb hby at_24) ?_
    show Steps p.tables e below (T3.setTop (mkF m 25 #[.val (.int p1), .val (.int (12 : Int32)), .val (.ref w_TIMES)] [(.int (1 : Int32))])) _
    refine XS.goto X3.here hx rfl (pc0 := 25) (pc' := 29) rfl (hb hby at_25) (by decide) (by decide) ?_
    show Steps p.tables e below (T3.setTop (mkF m 29 #[.val (.int p1), .val (.int (12 : Int32)), .val (.ref w_TIMES)] [(.int (1 : Int32))])) _
    exact retN X3 hx (t := .boolean) Bd.returns (by simp) (hb hby at_29) hr
  · exact ⟨rfl, N3⟩
theorem d1_123 : decode method_2_code 123 = .ok (.getstatic 49, 3) := by decide +kernel
theorem d1_126 : decode method_2_code 126 = .ok (.areturn, 1) := by decide +kernel
theorem ef_1_28 (m : MethodId)  : entryFrame m #[(.int (13 : Int32))] 1 = mkF m 0 #[.val (.int (13 : Int32))] [] := by first | (simp [entryFrame, mkF, argsToLocals, Value.category]; done) | rfl
def Q_rm1_13 (Z : State) (w1 : Addr) (h0 : Heap) (n0 : Nat) (v : Option Value) (h : Heap) (L : List Loc) : Prop := v = some (.ref w1) ∧ Fr n0 L ∧ h = h0
set_option maxRecDepth 65536 in
set_option maxHeartbeats 40000000 in
theorem rm1_13 (l : Launch) (Z : State) (a0 : Array Value) (hw : ∀ d ∈ tables_1, d.before a0 Z = true) (ws : List Jvm.Cond) (w1 : Addr) (h0 : Heap) (n0 : Nat) (OL0 : Old Z n0 h0) (pr1 : Sta Z Z.heap "com/example/rigorous_chains/rigorouschains/prism/Expression$Operator" "DIVIDE" "Lcom/example/rigorous_chains/rigorouschains/prism/Expression$Operator;" (.ref w1)) :
    MetFree l (⟨"com/example/rigorous_chains/rigorouschains/prism/OperatorIsArithmeticPinLaw", "pick", "(I)Lcom/example/rigorous_chains/rigorouschains/prism/Expression$Operator;"⟩ : MethodName) (head1 (Jvm.Cond.code (⟨"com/example/rigorous_chains/rigorouschains/prism/OperatorIsArithmeticPinLaw", "pick", "(I)Lcom/example/rigorous_chains/rigorouschains/prism/Expression$Operator;"⟩ : MethodName) method_2_code 1 (some (.object "com/example/rigorous_chains/rigorouschains/prism/Expression$Operator")) :: ws) ({ frames := 0, cells := 0, slots := 0, locals := 0 } : Room)) (fun a U => a = #[(.int (13 : Int32))] ∧ Z.Warmed39 U.vm ∧ U.heap = h0) (fun _ _ _ _ _ => True) (fun _ U o U' => ∃ v L, o = .returned v ∧ Q_rm1_13 Z w1 h0 n0 v U'.heap L ∧ FrameEnd U o U' L ({ frames := 0, cells := 0, slots := 0, locals := 0 } : Room).cells ({ frames := 0, cells := 0, slots := 0, locals := 0 } : Room).slots) := by
  refine MetFree.of_bodySF (plainFor_of_name pn_0) hisR ?_
  intro p e s m args below meth c s₁ Bd hml0 hP hK
  obtain ⟨rfl, hZ, hh⟩ := hP
  have hx := Bd.exec
  have hby := Bd.bytes
  have hml : c.maxLocals = 1 := hml0
  have hown : s.vm.findClass "com/example/rigorous_chains/rigorouschains/prism/OperatorIsArithmeticPinLaw" = some m.cls := findClass_of_methodNamed Bd.named
  have hnm := (name_of_methodNamed Bd.named Bd.method).1
  have X0 : Stand p l e ({ frames := 0, cells := 0, slots := 0, locals := 0 } : Room) s m #[(.int (13 : Int32))] below meth c s₁ [] 0 0 := Stand.of_body Bd
  have e0 : s₁.heap = h0 := by rw [← hh, Bd.state]; rfl
  have N0 := Fr.nil n0
  have pre0 : ∀ t, Steps p.tables e below (s₁.setTop (mkF m 0 #[.val (.int (13 : Int32))] [])) t → Steps p.tables e below (s₁.setTop (entryFrame m #[(.int (13 : Int32))] 1)) t := fun t k => castTop (ef_1_28 m ) k
  obtain ⟨T2, X2, e2, st2⟩ := getS2 X0 hx hZ hown (host := "") (Or.inl (wd27 hw)) Via.refl e0 (pr1.ext OL0.2) (g := (mkF m 123 #[.val (.int (13 : Int32))] [])) rfl (hb hby d1_123)
  obtain ⟨fs, hr, hrun, hended, hW, hsame⟩ := X2.leave (v := some (.ref w1)) (fun h => by rw [Bd.returns] at h; cases h)
  refine ⟨_, _, pre0 _ ?_, hrun, hended, _, _, rfl, ?_, ⟨_, rfl⟩, hW, hsame.mono (by decide) (by decide)⟩
  · show Steps p.tables e below (s₁.setTop (mkF m 0 #[.val (.int (13 : Int32))] [])) _
    refine XS.iloadN X0.here hx rfl (hb hby d1_0) rfl ?_
    show Steps p.tables e below (s₁.setTop (mkF m 1 #[.val (.int (13 : Int32))] [(.int (13 : Int32))])) _
    refine XS.ifYes X0.here hx rfl (pc0 := 1) (pc' := 8) rfl (hb hby d1_1) rfl ((if0 _ _).trans (feq (by decide : ¬ ((13 : Int32) = (0 : Int32)))).2) (by decide) (by decide) ?_
    show Steps p.tables e below (s₁.setTop (mkF m 8 #[.val (.int (13 : Int32))] [])) _
    refine XS.iloadN X0.here hx rfl (hb hby d1_8) rfl ?_
    show Steps p.tables e below (s₁.setTop (mkF m 9 #[.val (.int (13 : Int32))] [(.int (13 : Int32))])) _
    refine XS.iconst X0.here hx rfl (hb hby d1_9) ?_
    show Steps p.tables e below (s₁.setTop (mkF m 10 #[.val (.int (13 : Int32))] [(.int (1 : Int32)), (.int (13 : Int32))])) _
    refine XS.icmpYes X0.here hx rfl (pc0 := 10) (pc' := 17) rfl (hb hby d1_10) rfl (feq (by decide : ¬ ((13 : Int32) = (1 : Int32)))).2 (by decide) (by decide) ?_
    show Steps p.tables e below (s₁.setTop (mkF m 17 #[.val (.int (13 : Int32))] [])) _
    refine XS.iloadN X0.here hx rfl (hb hby d1_17) rfl ?_
    show Steps p.tables e below (s₁.setTop (mkF m 18 #[.val (.int (13 : Int32))] [(.int (13 : Int32))])) _
    refine XS.iconst X0.here hx rfl (hb hby d1_18) ?_
    show Steps p.tables e below (s₁.setTop (mkF m 19 #[.val (.int (13 : Int32))] [(.int (2 : Int32)), (.int (13 : Int32))])) _
    refine XS.icmpYes X0.here hx rfl (pc0 := 19) (pc' := 26) rfl (hb hby d1_19) rfl (feq (by decide : ¬ ((13 : Int32) = (2 : Int32)))).2 (by decide) (by decide) ?_
    show Steps p.tables e below (s₁.setTop (mkF m 26 #[.val (.int (13 : Int32))] [])) _
    refine XS.iloadN X0.here hx rfl (hb hby d1_26) rfl ?_
    show Steps p.tables e below (s₁.setTop (mkF m 27 #[.val (.int (13 : Int32))] [(.int (13 : Int32))])) _
    refine XS.iconst X0.here hx rfl (hb hby d1_27) ?_
    show Steps p.tables e below (s₁.setTop (mkF m 28 #[.val (.int (13 : Int32))] [(.int (3 : Int32)), (.int (13 : Int32))])) _
    refine XS.icmpYes X0.here hx rfl (pc0 := 28) (pc' := 35) rfl (hb hby d1_28) rfl (feq (by decide : ¬ ((13 : Int32) = (3 : Int32)))).2 (by decide) (by decide) ?_
    show Steps p.tables e below (s₁.setTop (mkF m 35 #[.val (.int (13 : Int32))] [])) _
    refine XS.iloadN X0.here hx rfl (hb hby d1_35) rfl ?_
    show Steps p.tables e below (s₁.setTop (mkF m 36 #[.val (.int (13 : Int32))] [(.int (13 : Int32))])) _
    refine XS.iconst X0.here hx rfl (hb hby d1_36) ?_
    show Steps p.tables e below (s₁.setTop (mkF m 37 #[.val (.int (13 : Int32))] [(.int (4 : Int32)), (.int (13 : Int32))])) _
    refine XS.icmpYes X0.here hx rfl (pc0 := 37) (pc' := 44) rfl (hb hby d1_37) rfl (feq (by decide : ¬ ((13 : Int32) = (4 : Int32)))).2 (by decide) (by decide) ?_
    show Steps p.tables e below (s₁.setTop (mkF m 44 #[.val (.int (13 : Int32))] [])) _
    refine XS.iloadN X0.here hx rfl (hb hby d1_44) rfl ?_
    show Steps p.tables e below (s₁.setTop (mkF m 45 #[.val (.int (13 : Int32))] [(.int (13 : Int32))])) _
    refine XS.iconst X0.here hx rfl (hb hby d1_45) ?_
    show Steps p.tables e below (s₁.setTop (mkF m 46 #[.val (.int (13 : Int32))] [(.int (5 : Int32)), (.int (13 : Int32))])) _
    refine XS.icmpYes X0.here hx rfl (pc0 := 46) (pc' := 53) rfl (hb hby d1_46) rfl (feq (by decide : ¬ ((13 : Int32) = (5 : Int32)))).2 (by decide) (by decide) ?_
    show Steps p.tables e below (s₁.setTop (mkF m 53 #[.val (.int (13 : Int32))] [])) _
    refine XS.iloadN X0.here hx rfl (hb hby d1_53) rfl ?_
    show Steps p.tables e below (s₁.setTop (mkF m 54 #[.val (.int (13 : Int32))] [(.int (13 : Int32))])) _
    refine XS.bipush X0.here hx rfl (hb hby d1_54) ?_
    show Steps p.tables e below (s₁.setTop (mkF m 56 #[.val (.int (13 : Int32))] [(.int (6 : Int32)), (.int (13 : Int32))])) _
    refine XS.icmpYes X0.here hx rfl (pc0 := 56) (pc' := 63) rfl (hb hby d1_56) rfl (feq (by decide : ¬ ((13 : Int32) = (6 : Int32)))).2 (by decide) (by decide) ?_
    show Steps p.tables e below (s₁.setTop (mkF m 63 #[.val (.int (13 : Int32))] [])) _
    refine XS.iloadN X0.here hx rfl (hb hby d1_63) rfl ?_
    show Steps p.tables e below (s₁.setTop (mkF m 64 #[.val (.int (13 : Int32))] [(.int (13 : Int32))])) _
    refine XS.bipush X0.here hx rfl (hb hby d1_64) ?_
    show Steps p.tables e below (s₁.setTop (mkF m 66 #[.val (.int (13 : Int32))] [(.int (7 : Int32)), (.int (13 : Int32))])) _
    refine XS.icmpYes X0.here hx rfl (pc0 := 66) (pc' := 73) rfl (hb hby d1_66) rfl (feq (by decide : ¬ ((13 : Int32) = (7 : Int32)))).2 (by decide) (by decide) ?_
    show Steps p.tables e below (s₁.setTop (mkF m 73 #[.val (.int (13 : Int32))] [])) _
    refine XS.iloadN X0.here hx rfl (hb hby d1_73) rfl ?_
    show Steps p.tables e below (s₁.setTop (mkF m 74 #[.val (.int (13 : Int32))] [(.int (13 : Int32))])) _
    refine XS.bipush X0.here hx rfl (hb hby d1_74) ?_
    show Steps p.tables e below (s₁.setTop (mkF m 76 #[.val (.int (13 : Int32))] [(.int (8 : Int32)), (.int (13 : Int32))])) _
    refine XS.icmpYes X0.here hx rfl (pc0 := 76) (pc' := 83) rfl (hb hby d1_76) rfl (feq (by decide : ¬ ((13 : Int32) = (8 : Int32)))).2 (by decide) (by decide) ?_
    show Steps p.tables e below (s₁.setTop (mkF m 83 #[.val (.int (13 : Int32))] [])) _
    refine XS.iloadN X0.here hx rfl (hb hby d1_83) rfl ?_
    show Steps p.tables e below (s₁.setTop (mkF m 84 #[.val (.int (13 : Int32))] [(.int (13 : Int32))])) _
    refine XS.bipush X0.here hx rfl (hb hby d1_84) ?_
    show Steps p.tables e below (s₁.setTop (mkF m 86 #[.val (.int (13 : Int32))] [(.int (9 : Int32)), (.int (13 : Int32))])) _
    refine XS.icmpYes X0.here hx rfl (pc0 := 86) (pc' := 93) rfl (hb hby d1_86) rfl (feq (by decide : ¬ ((13 : Int32) = (9 : Int32)))).2 (by decide) (by decide) ?_
    show Steps p.tables e below (s₁.setTop (mkF m 93 #[.val (.int (13 : Int32))] [])) _
    refine XS.iloadN X0.here hx rfl (hb hby d1_93) rfl ?_
    show Steps p.tables e below (s₁.setTop (mkF m 94 #[.val (.int (13 : Int32))] [(.int (13 : Int32))])) _
    refine XS.bipush X0.here hx rfl (hb hby d1_94) ?_
    show Steps p.tables e below (s₁.setTop (mkF m 96 #[.val (.int (13 : Int32))] [(.int (10 : Int32)), (.int (13 : Int32))])) _
    refine XS.icmpYes X0.here hx rfl (pc0 := 96) (pc' := 103) rfl (hb hby d1_96) rfl (feq (by decide : ¬ ((13 : Int32) = (10 : Int32)))).2 (by decide) (by decide) ?_
    show Steps p.tables e below (s₁.setTop (mkF m 103 #[.val (.int (13 : Int32))] [])) _
    refine XS.iloadN X0.here hx rfl (hb hby d1_103) rfl ?_
    show Steps p.tables e below (s₁.setTop (mkF m 104 #[.val (.int (13 : Int32))] [(.int (13 : Int32))])) _
    refine XS.bipush X0.here hx rfl (hb hby d1_104) ?_
    show Steps p.tables e below (s₁.setTop (mkF m 106 #[.val (.int (13 : Int32))] [(.int (11 : Int32)), (.int (13 : Int32))])) _
    refine XS.icmpYes X0.here hx rfl (pc0 := 106) (pc' := 113) rfl (hb hby d1_106) rfl (feq (by decide : ¬ ((13 : Int32) = (11 : Int32)))).2 (by decide) (by decide) ?_
    show Steps p.tables e below (s₁.setTop (mkF m 113 #[.val (.int (13 : Int32))] [])) _
    refine XS.iloadN X0.here hx rfl (hb hby d1_113) rfl ?_
    show Steps p.tables e below (s₁.setTop (mkF m 114 #[.val (.int (13 : Int32))] [(.int (13 : Int32))])) _
    refine XS.bipush X0.here hx rfl (hb hby d1_114) ?_
    show Steps p.tables e below (s₁.setTop (mkF m 116 #[.val (.int (13 : Int32))] [(.int (12 : Int32)), (.int (13 : Int32))])) _
    refine XS.icmpYes X0.here hx rfl (pc0 := 116) (pc' := 123) rfl (hb hby d1_116) rfl (feq (by decide : ¬ ((13 : Int32) = (12 : Int32)))).2 (by decide) (by decide) ?_
    show Steps p.tables e below (s₁.setTop (mkF m 123 #[.val (.int (13 : Int32))] [])) _
    refine st2 _ ?_
    show Steps p.tables e below (T2.setTop (mkF m 126 #[.val (.int (13 : Int32))] [(.ref w1)])) _
    jvm_step X2.here [X2.here.top, hx, (hb hby d1_126), X2.method', Bd.returns, Value.isRef, FieldType.isReference]
    first | (intro acts; rw [hr _ acts rfl rfl rfl]) | rw [hr _ _ rfl rfl rfl]
    exact Steps.refl _
  · show Q_rm1_13 Z w1 h0 n0 _ T2.heap _
    rw [e2]
    exact ⟨rfl, N0, rfl⟩
def Q_rm2_4 (Z : State) (w1 : Addr) (w2 : Addr) (w4 : Addr) (w6 : Addr) (h0 : Heap) (n0 : Nat) (v : Option Value) (h : Heap) (L : List Loc) : Prop := v = some (.int (1 : Int32)) ∧ Fr n0 L ∧ h = h0
set_option maxRecDepth 65536 in
set_option maxHeartbeats 40000000 in
theorem rm2_4 (l : Launch) (Z : State) (a0 : Array Value) (hw : ∀ d ∈ tables_1, d.before a0 Z = true) (ws : List Jvm.Cond) (w1 : Addr) (w2 : Addr) (w4 : Addr) (w6 : Addr) (h0 : Heap) (n0 : Nat) (OL0 : Old Z n0 h0) (pr1 : Sta Z Z.heap "com/example/rigorous_chains/rigorouschains/prism/Expression$Operator" "PLUS" "Lcom/example/rigorous_chains/rigorouschains/prism/Expression$Operator;" (.ref w2)) (pr2 : w1 ≠ w2) (pr3 : Sta Z Z.heap "com/example/rigorous_chains/rigorouschains/prism/Expression$Operator" "MINUS" "Lcom/example/rigorous_chains/rigorouschains/prism/Expression$Operator;" (.ref w4)) (pr4 : w1 ≠ w4) (pr5 : Sta Z Z.heap "com/example/rigorous_chains/rigorouschains/prism/Expression$Operator" "TIMES" "Lcom/example/rigorous_chains/rigorouschains/prism/Expression$Operator;" (.ref w6)) (pr6 : w1 ≠ w6) (pr7 : Sta Z Z.heap "com/example/rigorous_chains/rigorouschains/prism/Expression$Operator" "DIVIDE" "Lcom/example/rigorous_chains/rigorouschains/prism/Expression$Operator;" (.ref w1)) :
    MetFree l (⟨"com/example/rigorous_chains/rigorouschains/prism/Expression$Operator", "isArithmetic", "()Z"⟩ : MethodName) (head1 (Jvm.Cond.code (⟨"com/example/rigorous_chains/rigorouschains/prism/Expression$Operator", "isArithmetic", "()Z"⟩ : MethodName) prog_55_method_7_code 1 (some .boolean) :: ws) ({ frames := 0, cells := 0, slots := 0, locals := 0 } : Room)) (fun a U => a = #[(.ref w1)] ∧ Z.Warmed39 U.vm ∧ U.heap = h0) (fun _ _ _ _ _ => True) (fun _ U o U' => ∃ v L, o = .returned v ∧ Q_rm2_4 Z w1 w2 w4 w6 h0 n0 v U'.heap L ∧ FrameEnd U o U' L ({ frames := 0, cells := 0, slots := 0, locals := 0 } : Room).cells ({ frames := 0, cells := 0, slots := 0, locals := 0 } : Room).slots) := by
  refine MetFree.of_bodySF (plainFor_of_name pn_1) hisR ?_
  intro p e s m args below meth c s₁ Bd hml0 hP hK
  obtain ⟨rfl, hZ, hh⟩ := hP
  have hx := Bd.exec
  have hby := Bd.bytes
  have hml : c.maxLocals = 1 := hml0
  have hown : s.vm.findClass "com/example/rigorous_chains/rigorouschains/prism/Expression$Operator" = some m.cls := findClass_of_methodNamed Bd.named
  have hnm := (name_of_methodNamed Bd.named Bd.method).1
  have X0 : Stand p l e ({ frames := 0, cells := 0, slots := 0, locals := 0 } : Room) s m #[(.ref w1)] below meth c s₁ [] 0 0 := Stand.of_body Bd
  have e0 : s₁.heap = h0 := by rw [← hh, Bd.state]; rfl
  have N0 := Fr.nil n0
  have pre0 : ∀ t, Steps p.tables e below (s₁.setTop (mkF m 0 #[.val (.ref w1)] [])) t → Steps p.tables e below (s₁.setTop (entryFrame m #[(.ref w1)] 1)) t := fun t k => castTop (ef_2_1 m w1) k
  obtain ⟨T3, X3, e3, st3⟩ := getS2 X0 hx hZ hown (host := "") (Or.inl (wd13 hw)) Via.refl e0 (pr1.ext OL0.2) (g := (mkF m 1 #[.val (.ref w1)] [(.ref w1)])) rfl (hb hby d2_1)
  obtain ⟨T5, X5, e5, st5⟩ := getS2 X3 hx hZ hown (host := "") (Or.inl (wd15 hw)) Via.refl e3 (pr3.ext OL0.2) (g := (mkF m 8 #[.val (.ref w1)] [(.ref w1)])) rfl (hb hby d2_8)
  obtain ⟨T7, X7, e7, st7⟩ := getS2 X5 hx hZ hown (host := "") (Or.inl (wd17 hw)) Via.refl e5 (pr5.ext OL0.2) (g := (mkF m 15 #[.val (.ref w1)] [(.ref w1)])) rfl (hb hby d2_15)
  obtain ⟨T8, X8, e8, st8⟩ := getS2 X7 hx hZ hown (host := "") (Or.inl (wd19 hw)) Via.refl e7 (pr7.ext OL0.2) (g := (mkF m 22 #[.val (.ref w1)] [(.ref w1)])) rfl (hb hby d2_22)
  obtain ⟨fs, hr, hrun, hended, hW, hsame⟩ := X8.leave (v := some (.int (1 : Int32))) (fun h => by rw [Bd.returns] at h; cases h)
  refine ⟨_, _, pre0 _ ?_, hrun, hended, _, _, rfl, ?_, ⟨_, rfl⟩, hW, hsame.mono (by decide) (by decide)⟩
  · show Steps p.tables e below (s₁.setTop (mkF m 0 #[.val (.ref w1)] [])) _
    refine XS.aloadN X0.here hx rfl (hb hby d2_0) rfl rfl ?_
    show Steps p.tables e below (s₁.setTop (mkF m 1 #[.val (.ref w1)] [(.ref w1)])) _
    refine st3 _ ?_
    show Steps p.tables e below (T3.setTop (mkF m 4 #[.val (.ref w1)] [(.ref w2), (.ref w1)])) _
    refine Jvm.RoadKit.acmp (g := (mkF m 4 #[.val (.ref w1)] [(.ref w2), (.ref w1)])) X3 hx rfl rfl rfl (pc0 := 4) (pc' := 7) (same := false) rfl (hb hby d2_4) rfl (decide_eq_false fun q => pr2 (Value.ref.inj q)) (by decide) (by decide) ?_
    show Steps p.tables e below (T3.setTop (mkF m 7 #[.val (.ref w1)] [])) _
    refine XS.aloadN X3.here hx rfl (hb hby d2_7) rfl rfl ?_
    show Steps p.tables e below (T3.setTop (mkF m 8 #[.val (.ref w1)] [(.ref w1)])) _
    refine st5 _ ?_
    show Steps p.tables e below (T5.setTop (mkF m 11 #[.val (.ref w1)] [(.ref w4), (.ref w1)])) _
    refine Jvm.RoadKit.acmp (g := (mkF m 11 #[.val (.ref w1)] [(.ref w4), (.ref w1)])) X5 hx rfl rfl rfl (pc0 := 11) (pc' := 14) (same := false) rfl (hb hby d2_11) rfl (decide_eq_false fun q => pr4 (Value.ref.inj q)) (by decide) (by decide) ?_
    show Steps p.tables e below (T5.setTop (mkF m 14 #[.val (.ref w1)] [])) _
    refine XS.aloadN X5.here hx rfl (hb hby d2_14) rfl rfl ?_
    show Steps p.tables e below (T5.setTop (mkF m 15 #[.val (.ref w1)] [(.ref w1)])) _
    refine st7 _ ?_
    show Steps p.tables e below (T7.setTop (mkF m 18 #[.val (.ref w1)] [(.ref w6), (.ref w1)])) _
    refine Jvm.RoadKit.acmp (g := (mkF m 18 #[.val (.ref w1)] [(.ref w6), (.ref w1)])) X7 hx rfl rfl rfl (pc0 := 18) (pc' := 21) (same := false) rfl (hb hby d2_18) rfl (decide_eq_false fun q => pr6 (Value.ref.inj q)) (by decide) (by decide) ?_
    show Steps p.tables e below (T7.setTop (mkF m 21 #[.val (.ref w1)] [])) _
    refine XS.aloadN X7.here hx rfl (hb hby d2_21) rfl rfl ?_
    show Steps p.tables e below (T7.setTop (mkF m 22 #[.val (.ref w1)] [(.ref w1)])) _
    refine st8 _ ?_
    show Steps p.tables e below (T8.setTop (mkF m 25 #[.val (.ref w1)] [(.ref w1), (.ref w1)])) _
    refine Jvm.RoadKit.acmp (g := (mkF m 25 #[.val (.ref w1)] [(.ref w1), (.ref w1)])) X8 hx rfl rfl rfl (pc0 := 25) (pc' := 28) (same := true) rfl (hb hby d2_25) rfl (decide_eq_true rfl) (by decide) (by decide) ?_
    show Steps p.tables e below (T8.setTop (mkF m 28 #[.val (.ref w1)] [])) _
    refine XS.iconst X8.here hx rfl (hb hby d2_28) ?_
    show Steps p.tables e below (T8.setTop (mkF m 29 #[.val (.ref w1)] [(.int (1 : Int32))])) _
    refine XS.goto X8.here hx rfl (pc0 := 29) (pc' := 33) rfl (hb hby d2_29) (by decide) (by decide) ?_
    show Steps p.tables e below (T8.setTop (mkF m 33 #[.val (.ref w1)] [(.int (1 : Int32))])) _
    exact retN X8 hx (t := .boolean) Bd.returns (by simp) (hb hby d2_33) hr
  · show Q_rm2_4 Z w1 w2 w4 w6 h0 n0 _ T8.heap _
    rw [e8]
    exact ⟨rfl, N0, rfl⟩
theorem ef_3_29 (m : MethodId)  : entryFrame m #[(.int (13 : Int32))] 2 = mkF m 0 #[.val (.int (13 : Int32)), .unset] [] := by first | (simp [entryFrame, mkF, argsToLocals, Value.category]; done) | rfl
def Q_rm3_13 (Z : State)  (h0 : Heap) (n0 : Nat) (v : Option Value) (h : Heap) (L : List Loc) : Prop := v = some (.int (1 : Int32)) ∧ Fr n0 L ∧ h = h0
set_option maxRecDepth 65536 in
set_option maxHeartbeats 40000000 in
theorem rm3_13 (l : Launch) (Z : State) (a0 : Array Value) (hw : ∀ d ∈ tables_1, d.before a0 Z = true) (ws : List Jvm.Cond)  (h0 : Heap) (n0 : Nat) (OL0 : Old Z n0 h0)  :
    MetFree l (⟨"com/example/rigorous_chains/rigorouschains/prism/OperatorIsArithmeticPinLaw", "expected", "(I)Z"⟩ : MethodName) (head1 (Jvm.Cond.code (⟨"com/example/rigorous_chains/rigorouschains/prism/OperatorIsArithmeticPinLaw", "expected", "(I)Z"⟩ : MethodName) method_3_code 2 (some .boolean) :: ws) ({ frames := 0, cells := 0, slots := 0, locals := 0 } : Room)) (fun a U => a = #[(.int (13 : Int32))] ∧ Z.Warmed39 U.vm ∧ U.heap = h0) (fun _ _ _ _ _ => True) (fun _ U o U' => ∃ v L, o = .returned v ∧ Q_rm3_13 Z  h0 n0 v U'.heap L ∧ FrameEnd U o U' L ({ frames := 0, cells := 0, slots := 0, locals := 0 } : Room).cells ({ frames := 0, cells := 0, slots := 0, locals := 0 } : Room).slots) := by
  refine MetFree.of_bodySF (plainFor_of_name pn_0) hisR ?_
  intro p e s m args below meth c s₁ Bd hml0 hP hK
  obtain ⟨rfl, hZ, hh⟩ := hP
  have hx := Bd.exec
  have hby := Bd.bytes
  have hml : c.maxLocals = 2 := hml0
  have hown : s.vm.findClass "com/example/rigorous_chains/rigorouschains/prism/OperatorIsArithmeticPinLaw" = some m.cls := findClass_of_methodNamed Bd.named
  have hnm := (name_of_methodNamed Bd.named Bd.method).1
  have X0 : Stand p l e ({ frames := 0, cells := 0, slots := 0, locals := 0 } : Room) s m #[(.int (13 : Int32))] below meth c s₁ [] 0 0 := Stand.of_body Bd
  have e0 : s₁.heap = h0 := by rw [← hh, Bd.state]; rfl
  have N0 := Fr.nil n0
  have pre0 : ∀ t, Steps p.tables e below (s₁.setTop (mkF m 0 #[.val (.int (13 : Int32)), .unset] [])) t → Steps p.tables e below (s₁.setTop (entryFrame m #[(.int (13 : Int32))] 2)) t := fun t k => castTop (ef_3_29 m ) k
  obtain ⟨fs, hr, hrun, hended, hW, hsame⟩ := X0.leave (v := some (.int (1 : Int32))) (fun h => by rw [Bd.returns] at h; cases h)
  refine ⟨_, _, pre0 _ ?_, hrun, hended, _, _, rfl, ?_, ⟨_, rfl⟩, hW, hsame.mono (by decide) (by decide)⟩
  · show Steps p.tables e below (s₁.setTop (mkF m 0 #[.val (.int (13 : Int32)), .unset] [])) _
    refine XS.iloadN X0.here hx rfl (hb hby d3_0) rfl ?_
    show Steps p.tables e below (s₁.setTop (mkF m 1 #[.val (.int (13 : Int32)), .unset] [(.int (13 : Int32))])) _
    refine XS.bipush X0.here hx rfl (hb hby d3_1) ?_
    show Steps p.tables e below (s₁.setTop (mkF m 3 #[.val (.int (13 : Int32)), .unset] [(.int (10 : Int32)), (.int (13 : Int32))])) _
    refine XS.icmpNo X0.here hx rfl (hb hby d3_3) rfl (feq (by decide : ¬ ((13 : Int32) = (10 : Int32)))).1 ?_
    show Steps p.tables e below (s₁.setTop (mkF m 6 #[.val (.int (13 : Int32)), .unset] [])) _
    refine XS.iloadN X0.here hx rfl (hb hby d3_6) rfl ?_
    show Steps p.tables e below (s₁.setTop (mkF m 7 #[.val (.int (13 : Int32)), .unset] [(.int (13 : Int32))])) _
    refine XS.bipush X0.here hx rfl (hb hby d3_7) ?_
    show Steps p.tables e below (s₁.setTop (mkF m 9 #[.val (.int (13 : Int32)), .unset] [(.int (11 : Int32)), (.int (13 : Int32))])) _
    refine XS.icmpNo X0.here hx rfl (hb hby d3_9) rfl (feq (by decide : ¬ ((13 : Int32) = (11 : Int32)))).1 ?_
    show Steps p.tables e below (s₁.setTop (mkF m 12 #[.val (.int (13 : Int32)), .unset] [])) _
    refine XS.iloadN X0.here hx rfl (hb hby d3_12) rfl ?_
    show Steps p.tables e below (s₁.setTop (mkF m 13 #[.val (.int (13 : Int32)), .unset] [(.int (13 : Int32))])) _
    refine XS.bipush X0.here hx rfl (hb hby d3_13) ?_
    show Steps p.tables e below (s₁.setTop (mkF m 15 #[.val (.int (13 : Int32)), .unset] [(.int (12 : Int32)), (.int (13 : Int32))])) _
    refine XS.icmpNo X0.here hx rfl (hb hby d3_15) rfl (feq (by decide : ¬ ((13 : Int32) = (12 : Int32)))).1 ?_
    show Steps p.tables e below (s₁.setTop (mkF m 18 #[.val (.int (13 : Int32)), .unset] [])) _
    refine XS.iloadN X0.here hx rfl (hb hby d3_18) rfl ?_
    show Steps p.tables e below (s₁.setTop (mkF m 19 #[.val (.int (13 : Int32)), .unset] [(.int (13 : Int32))])) _
    refine XS.bipush X0.here hx rfl (hb hby d3_19) ?_
    show Steps p.tables e below (s₁.setTop (mkF m 21 #[.val (.int (13 : Int32)), .unset] [(.int (13 : Int32)), (.int (13 : Int32))])) _
    refine XS.icmpNo X0.here hx rfl (hb hby d3_21) rfl (teq (rfl : (13 : Int32) = (13 : Int32))).2 ?_
    show Steps p.tables e below (s₁.setTop (mkF m 24 #[.val (.int (13 : Int32)), .unset] [])) _
    refine XS.iconst X0.here hx rfl (hb hby d3_24) ?_
    show Steps p.tables e below (s₁.setTop (mkF m 25 #[.val (.int (13 : Int32)), .unset] [(.int (1 : Int32))])) _
    refine XS.istoreN X0.here hx rfl (hb hby d3_25) rfl (l' := #[.val (.int (13 : Int32)), .val (.int (1 : Int32))]) rfl ?_
    show Steps p.tables e below (s₁.setTop (mkF m 26 #[.val (.int (13 : Int32)), .val (.int (1 : Int32))] [])) _
    refine XS.goto X0.here hx rfl (pc0 := 26) (pc' := 31) rfl (hb hby d3_26) (by decide) (by decide) ?_
    show Steps p.tables e below (s₁.setTop (mkF m 31 #[.val (.int (13 : Int32)), .val (.int (1 : Int32))] [])) _
    refine XS.iloadN X0.here hx rfl (hb hby d3_31) rfl ?_
    show Steps p.tables e below (s₁.setTop (mkF m 32 #[.val (.int (13 : Int32)), .val (.int (1 : Int32))] [(.int (1 : Int32))])) _
    exact retN X0 hx (t := .boolean) Bd.returns (by simp) (hb hby d3_32) hr
  · show Q_rm3_13 Z  h0 n0 _ s₁.heap _
    rw [e0]
    exact ⟨rfl, N0, rfl⟩
set_option maxRecDepth 65536 in
set_option maxHeartbeats 40000000 in
theorem rm0_13 (l : Launch) (Z : State) (a0 : Array Value) (hw : ∀ d ∈ tables_1, d.before a0 Z = true) (ws : List Jvm.Cond) (p1 : Int32) (w_DIVIDE : Addr) (w_PLUS : Addr) (w_MINUS : Addr) (w_TIMES : Addr) (h0 : Heap) (n0 : Nat) (OL0 : Old Z n0 h0) (pr1 : ((p1 &&& (2147483647 : Int32)) % (14 : Int32)) = (13 : Int32)) (pr2 : Sta Z Z.heap "com/example/rigorous_chains/rigorouschains/prism/Expression$Operator" "DIVIDE" "Lcom/example/rigorous_chains/rigorouschains/prism/Expression$Operator;" (.ref w_DIVIDE)) (pr3 : Sta Z Z.heap "com/example/rigorous_chains/rigorouschains/prism/Expression$Operator" "PLUS" "Lcom/example/rigorous_chains/rigorouschains/prism/Expression$Operator;" (.ref w_PLUS)) (pr4 : w_DIVIDE ≠ w_PLUS) (pr5 : Sta Z Z.heap "com/example/rigorous_chains/rigorouschains/prism/Expression$Operator" "MINUS" "Lcom/example/rigorous_chains/rigorouschains/prism/Expression$Operator;" (.ref w_MINUS)) (pr6 : w_DIVIDE ≠ w_MINUS) (pr7 : Sta Z Z.heap "com/example/rigorous_chains/rigorouschains/prism/Expression$Operator" "TIMES" "Lcom/example/rigorous_chains/rigorouschains/prism/Expression$Operator;" (.ref w_TIMES)) (pr8 : w_DIVIDE ≠ w_TIMES) (pr9 : Exa Z Z.heap w_DIVIDE "com/example/rigorous_chains/rigorouschains/prism/Expression$Operator") :
    MetFree l x (head1 (Jvm.Cond.code x code maxLocals ret :: ws) room_1) (fun a U => a = #[(.int p1)] ∧ Z.Warmed39 U.vm ∧ U.heap = h0) (fun _ _ _ _ _ => True) (fun _ U o U' => ∃ v L, o = .returned v ∧ Q0 n0 v L ∧ FrameEnd U o U' L 0 0) := by
  refine MetFree.of_bodySF (plainFor_of_name pn_0) hisR ?_
  intro p e s m args below meth c s₁ Bd hml0 hP hK
  obtain ⟨rfl, hZ, hh⟩ := hP
  have hx := Bd.exec
  have hby := Bd.bytes
  have hml : c.maxLocals = 3 := hml0
  have hown : s.vm.findClass "com/example/rigorous_chains/rigorouschains/prism/OperatorIsArithmeticPinLaw" = some m.cls := findClass_of_methodNamed Bd.named
  have hnm := (name_of_methodNamed Bd.named Bd.method).1
  have X0 : Stand p l e room_1 s m #[(.int p1)] below meth c s₁ [] 0 0 := Stand.of_body Bd
  have e0 : s₁.heap = h0 := by rw [← hh, Bd.state]; rfl
  have N0 := Fr.nil n0
  have pre0 : ∀ t, Steps p.tables e below (s₁.setTop (mkF m 0 #[.val (.int p1), .unset, .unset] [])) t → Steps p.tables e below (s₁.setTop (entryFrame m #[(.int p1)] maxLocals)) t := fun t k => castTop (ef_0_3 m p1) k
  obtain ⟨_, _, ⟨T1, L1, k1, n1⟩, -, X1, ⟨Lc1, hQ1, l1, y1, z1⟩, st1⟩ := Jvm.LawKit.callS X0 hx (y := (⟨"com/example/rigorous_chains/rigorouschains/prism/OperatorIsArithmeticPinLaw", "pick", "(I)Lcom/example/rigorous_chains/rigorouschains/prism/Expression$Operator;"⟩ : MethodName)) hown (mvT hZ (wd1 hw)) (mvT hZ (wd2 hw)) (mvT hZ (wd3 hw)) (mvT hZ (wd4 hw)) (by decide) (backOf (W := 0) (rm1_13 l Z a0 hw [] w_DIVIDE h0 n0 OL0 pr2) hZ (wd4 hw) (wd3 hw) (by decide) (by decide)) (g := (mkF m 9 #[.val (.int p1), .val (.int (13 : Int32)), .unset] [(.int (13 : Int32))])) rfl (by rw [hml]; rfl) (argsL := [(.int (13 : Int32))]) (rest := []) (lenOf pd_0 rfl) rfl (by show 2 * 0 + _ ≤ _; exact Nat.le_of_eq rfl) (hb hby at_9) (fun _ _ => ⟨rfl, e0, (by decide : 0 + 0 ≤ _), (by decide : 0 + 0 ≤ _)⟩)
  dsimp only [Pt.U, Pt.locs, Pt.cells, Pt.slots] at X1 l1 y1 z1 st1 hQ1
  subst l1 y1 z1
  obtain ⟨rfl, Nq1, ec1⟩ := hQ1
  have N1 := Fr.app N0 Nq1
  obtain ⟨cq2, kq2, q2a, q2b, q2c⟩ := isOf hZ ec1 (pr9.ext OL0.2)
  obtain ⟨_, _, ⟨T2, L2, k2, n2⟩, -, X2, ⟨Lc2, hQ2, l2, y2, z2⟩, st2⟩ := X1.virtualBack hx (y := (⟨"com/example/rigorous_chains/rigorouschains/prism/Expression$Operator", "isArithmetic", "()Z"⟩ : MethodName)) (z := (⟨"com/example/rigorous_chains/rigorouschains/prism/Expression$Operator", "isArithmetic", "()Z"⟩ : MethodName)) hown (mvT hZ (wd8 hw)) (mvT hZ (wd9 hw)) (notFace_of_selects (args := #[]) (mvT hZ (wd11 hw))) (mvT hZ (wd11 hw)) (mvT hZ (wd10 hw)) (by decide) (backOf (W := 0) (rm2_4 l Z a0 hw [] w_DIVIDE w_PLUS w_MINUS w_TIMES h0 n0 OL0 pr3 pr4 pr5 pr6 pr7 pr8 pr2) hZ (wd12 hw) (wd6 hw) (by decide) (by decide)) q2a q2c (g := (mkF m 14 #[.val (.int p1), .val (.int (13 : Int32)), .val (.ref w_DIVIDE)] [(.ref w_DIVIDE)])) rfl (by rw [hml]; rfl) (Steps.refl _) (argsL := []) (rest := []) (lenOf pd_1 rfl) rfl (by show 2 * 0 + _ ≤ _; exact Nat.le_of_eq rfl) (hb hby at_14) (fun _ _ => ⟨rfl, ec1, (by decide : 0 + 0 ≤ _), (by decide : 0 + 0 ≤ _)⟩)
  dsimp only [Pt.U, Pt.locs, Pt.cells, Pt.slots] at X2 l2 y2 z2 st2 hQ2
  subst l2 y2 z2
  obtain ⟨rfl, Nq2, ec2⟩ := hQ2
  have N2 := Fr.app N1 Nq2
  obtain ⟨_, _, ⟨T3, L3, k3, n3⟩, -, X3, ⟨Lc3, hQ3, l3, y3, z3⟩, st3⟩ := Jvm.LawKit.callS X2 hx (y := (⟨"com/example/rigorous_chains/rigorouschains/prism/OperatorIsArithmeticPinLaw", "expected", "(I)Z"⟩ : MethodName)) hown (mvT hZ (wd21 hw)) (mvT hZ (wd22 hw)) (mvT hZ (wd3 hw)) (mvT hZ (wd23 hw)) (by decide) (backOf (W := 1) (rm3_13 l Z a0 hw []  h0 n0 OL0 ) hZ (wd23 hw) (wd3 hw) (by decide) (by decide)) (g := (mkF m 18 #[.val (.int p1), .val (.int (13 : Int32)), .val (.ref w_DIVIDE)] [(.int (13 : Int32)), (.int (1 : Int32))])) rfl (by rw [hml]; rfl) (argsL := [(.int (13 : Int32))]) (rest := [(.int (1 : Int32))]) (lenOf pd_2 rfl) rfl (by show 2 * 0 + _ ≤ _; exact Nat.le_of_eq rfl) (hb hby at_18) (fun _ _ => ⟨rfl, ec2, (by decide : 0 + 0 ≤ _), (by decide : 0 + 0 ≤ _)⟩)
  dsimp only [Pt.U, Pt.locs, Pt.cells, Pt.slots] at X3 l3 y3 z3 st3 hQ3
  subst l3 y3 z3
  obtain ⟨rfl, Nq3, ec3⟩ := hQ3
  have N3 := Fr.app N2 Nq3
  obtain ⟨fs, hr, hrun, hended, hW, hsame⟩ := X3.leave (v := some (.int (1 : Int32))) (fun h => by rw [Bd.returns] at h; cases h)
  refine ⟨_, _, pre0 _ ?_, hrun, hended, _, _, rfl, ?_, ⟨_, rfl⟩, hW, hsame.mono (by decide) (by decide)⟩
  · show Steps p.tables e below (s₁.setTop (mkF m 0 #[.val (.int p1), .unset, .unset] [])) _
    refine XS.iloadN X0.here hx rfl (hb hby at_0) rfl ?_
    show Steps p.tables e below (s₁.setTop (mkF m 1 #[.val (.int p1), .unset, .unset] [(.int p1)])) _
    refine X0.ldcInt hx hown (mvT hZ (wd0 hw)) (g := (mkF m 1 #[.val (.int p1), .unset, .unset] [(.int p1)])) rfl (hb hby at_1) _ ?_
    show Steps p.tables e below (s₁.setTop (mkF m 3 #[.val (.int p1), .unset, .unset] [(.int (2147483647 : Int32)), (.int p1)])) _
    refine XS.iand X0.here hx rfl (hb hby at_3) rfl ?_
    show Steps p.tables e below (s₁.setTop (mkF m 4 #[.val (.int p1), .unset, .unset] [(.int (p1 &&& (2147483647 : Int32)))])) _
    refine XS.bipush X0.here hx rfl (hb hby at_4) ?_
    show Steps p.tables e below (s₁.setTop (mkF m 6 #[.val (.int p1), .unset, .unset] [(.int (14 : Int32)), (.int (p1 &&& (2147483647 : Int32)))])) _
    refine iremM X0 hx rfl (hb hby at_6) rfl (by decide) ?_
    show Steps p.tables e below (s₁.setTop (mkF m 7 #[.val (.int p1), .unset, .unset] [(.int ((p1 &&& (2147483647 : Int32)) % (14 : Int32)))])) _
    rw [pr1]
    show Steps p.tables e below (s₁.setTop (mkF m 7 #[.val (.int p1), .unset, .unset] [(.int (13 : Int32))])) _
    refine XS.istoreN X0.here hx rfl (hb hby at_7) rfl (l' := #[.val (.int p1), .val (.int (13 : Int32)), .unset]) rfl ?_
    show Steps p.tables e below (s₁.setTop (mkF m 8 #[.val (.int p1), .val (.int (13 : Int32)), .unset] [])) _
    refine XS.iloadN X0.here hx rfl (hb hby at_8) rfl ?_
    show Steps p.tables e below (s₁.setTop (mkF m 9 #[.val (.int p1), .val (.int (13 : Int32)), .unset] [(.int (13 : Int32))])) _
    refine st1 _ ?_
    show Steps p.tables e below (T1.setTop (mkF m 12 #[.val (.int p1), .val (.int (13 : Int32)), .unset] [(.ref w_DIVIDE)])) _
    refine XS.astoreN X1.here hx rfl (hb hby at_12) rfl rfl (l' := #[.val (.int p1), .val (.int (13 : Int32)), .val (.ref w_DIVIDE)]) rfl ?_
    show Steps p.tables e below (T1.setTop (mkF m 13 #[.val (.int p1), .val (.int (13 : Int32)), .val (.ref w_DIVIDE)] [])) _
    refine XS.aloadN X1.here hx rfl (hb hby at_13) rfl rfl ?_
    show Steps p.tables e below (T1.setTop (mkF m 14 #[.val (.int p1), .val (.int (13 : Int32)), .val (.ref w_DIVIDE)] [(.ref w_DIVIDE)])) _
    refine st2.trans ?_
    show Steps p.tables e below (T2.setTop (mkF m 17 #[.val (.int p1), .val (.int (13 : Int32)), .val (.ref w_DIVIDE)] [(.int (1 : Int32))])) _
    refine XS.iloadN X2.here hx rfl (hb hby at_17) rfl ?_
    show Steps p.tables e below (T2.setTop (mkF m 18 #[.val (.int p1), .val (.int (13 : Int32)), .val (.ref w_DIVIDE)] [(.int (13 : Int32)), (.int (1 : Int32))])) _
    refine st3 _ ?_
    show Steps p.tables e below (T3.setTop (mkF m 21 #[.val (.int p1), .val (.int (13 : Int32)), .val (.ref w_DIVIDE)] [(.int (1 : Int32)), (.int (1 : Int32))])) _
    refine XS.icmpNo X3.here hx rfl (hb hby at_21) rfl (teq (rfl : (1 : Int32) = (1 : Int32))).2 ?_
    show Steps p.tables e below (T3.setTop (mkF m 24 #[.val (.int p1), .val (.int (13 : Int32)), .val (.ref w_DIVIDE)] [])) _
    refine XS.iconst X3.here hx rfl (hb hby at_24) ?_
    show Steps p.tables e below (T3.setTop (mkF m 25 #[.val (.int p1), .val (.int (13 : Int32)), .val (.ref w_DIVIDE)] [(.int (1 : Int32))])) _
    refine XS.goto X3.here hx rfl (pc0 := 25) (pc' := 29) rfl (hb hby at_25) (by decide) (by decide) ?_
    show Steps p.tables e below (T3.setTop (mkF m 29 #[.val (.int p1), .val (.int (13 : Int32)), .val (.ref w_DIVIDE)] [(.int (1 : Int32))])) _
    exact retN X3 hx (t := .boolean) Bd.returns (by simp) (hb hby at_29) hr
  · exact ⟨rfl, N3⟩
set_option maxRecDepth 65536 in
set_option maxHeartbeats 40000000 in
theorem comes_1 {Post : Tables → Env → Array Value → State → Outcome → State → Prop} (hpost : ∀ tb e args s v u, (limb_1_1.after args s (.returned v) u = true ∧ limb_1_2.after args s (.returned v) u = true ∧ True) → FrameEnd s (.returned v) u (Jvm.fieldLocs frame_1_writes args s ++ Jvm.arrayLocs frame_1_arrays args s ++ Jvm.staticLocs frame_1_statics s) 0 0 → Post tb e args s (.returned v) u) :
    ArmFor flags0 classFile x code maxLocals ret World_1 tables_1 room_1 Calls_1 rest_1 Pre_1 Post := by
  intro l hfl _ _ p e ha hc hk s m args below hf hA hF happ hP
  obtain ⟨hcalls, hrest, hpre⟩ := hP
  obtain ⟨-, -, -, hnamed, -, -, -, hat⟩ := (Spec.applies_iff hf).mp happ
  obtain ⟨hg, hn⟩ := and_e (Cond.before_iff.mp (show (Jvm.Cond.and given_1 narrow_1).before args s = true from hpre))
  obtain ⟨g97, g98⟩ := and_e hg
  obtain ⟨w0, rfl⟩ : ∃ w0 : Value, args = #[w0] := by
    have hs : args.size = 1 := by simpa [Cond.value, given_1] using g97
    obtain ⟨L⟩ := args
    match L, hs with
    | [w0], _ => exact ⟨w0, rfl⟩
  have hw := fun d (hd : d ∈ tables_1) => atoms_spec (ws := Jvm.Cond.code x code maxLocals ret :: tables_1) hat d (List.mem_cons_of_mem _ hd)
  have hfit : Fit s := fun {y c} hc i hi => by
    obtain ⟨ha, rfl⟩ := Array.getElem?_eq_some_iff.mp hc
    have q := List.all_eq_true.mp ((Array.all_eq_true_iff_forall_mem.mp hF) _ (Array.getElem_mem ha)) i (List.mem_range.mpr hi)
    simpa [Array.getElem?_eq_getElem hi] using q
  obtain ⟨i0, ei0⟩ := is_v g98
  obtain rfl : w0 = (.int i0) := Option.some.inj ei0
  obtain ⟨n1, n2⟩ := and_e hn
  obtain ⟨n3, n4⟩ := and_e n2
  obtain ⟨n5, n6⟩ := and_e n4
  obtain ⟨n7, n8⟩ := and_e n6
  obtain ⟨n9, n10⟩ := and_e n8
  obtain ⟨n11, n12⟩ := and_e n10
  obtain ⟨n13, n14⟩ := and_e n12
  obtain ⟨n15, n16⟩ := and_e n14
  obtain ⟨n17, n18⟩ := and_e n16
  obtain ⟨n19, n20⟩ := and_e n18
  obtain ⟨n21, n22⟩ := and_e n20
  obtain ⟨n23, n24⟩ := and_e n22
  obtain ⟨n25, n26⟩ := and_e n24
  obtain ⟨n27, n28⟩ := and_e n26
  obtain ⟨n29, n30⟩ := and_e n28
  obtain ⟨n31, n32⟩ := and_e n30
  obtain ⟨n33, n34⟩ := and_e n32
  obtain ⟨n35, n36⟩ := and_e n34
  obtain ⟨n37, n38⟩ := and_e n36
  obtain ⟨n39, n40⟩ := and_e n38
  obtain ⟨n41, n42⟩ := and_e n40
  obtain ⟨n43, n44⟩ := and_e n42
  obtain ⟨n45, n46⟩ := and_e n44
  obtain ⟨n47, n48⟩ := and_e n46
  obtain ⟨n49, n50⟩ := and_e n48
  obtain ⟨n51, n52⟩ := and_e n50
  obtain ⟨n53, n54⟩ := and_e n52
  obtain ⟨w_IMPLIES, ev55⟩ := exa_v n1
  have S_Expression_Operator_IMPLIES : Sta s s.heap "com/example/rigorous_chains/rigorouschains/prism/Expression$Operator" "IMPLIES" "Lcom/example/rigorous_chains/rigorouschains/prism/Expression$Operator;" (.ref w_IMPLIES) := Sta.start ev55 (Or.inr ⟨(wd6 hw), (wd7 hw)⟩)
  have E_w_IMPLIES : Exa s s.heap w_IMPLIES "com/example/rigorous_chains/rigorouschains/prism/Expression$Operator" := Exa.start ev55 n1
  obtain ⟨w_PLUS, ev56⟩ := exa_v n3
  have S_Expression_Operator_PLUS : Sta s s.heap "com/example/rigorous_chains/rigorouschains/prism/Expression$Operator" "PLUS" "Lcom/example/rigorous_chains/rigorouschains/prism/Expression$Operator;" (.ref w_PLUS) := Sta.start ev56 (Or.inr ⟨(wd6 hw), (wd14 hw)⟩)
  have E_w_PLUS : Exa s s.heap w_PLUS "com/example/rigorous_chains/rigorouschains/prism/Expression$Operator" := Exa.start ev56 n3
  obtain ⟨w_MINUS, ev57⟩ := exa_v n9
  have S_Expression_Operator_MINUS : Sta s s.heap "com/example/rigorous_chains/rigorouschains/prism/Expression$Operator" "MINUS" "Lcom/example/rigorous_chains/rigorouschains/prism/Expression$Operator;" (.ref w_MINUS) := Sta.start ev57 (Or.inr ⟨(wd6 hw), (wd16 hw)⟩)
  have E_w_MINUS : Exa s s.heap w_MINUS "com/example/rigorous_chains/rigorouschains/prism/Expression$Operator" := Exa.start ev57 n9
  obtain ⟨w_TIMES, ev58⟩ := exa_v n13
  have S_Expression_Operator_TIMES : Sta s s.heap "com/example/rigorous_chains/rigorouschains/prism/Expression$Operator" "TIMES" "Lcom/example/rigorous_chains/rigorouschains/prism/Expression$Operator;" (.ref w_TIMES) := Sta.start ev58 (Or.inr ⟨(wd6 hw), (wd18 hw)⟩)
  have E_w_TIMES : Exa s s.heap w_TIMES "com/example/rigorous_chains/rigorouschains/prism/Expression$Operator" := Exa.start ev58 n13
  obtain ⟨w_DIVIDE, ev59⟩ := exa_v n17
  have S_Expression_Operator_DIVIDE : Sta s s.heap "com/example/rigorous_chains/rigorouschains/prism/Expression$Operator" "DIVIDE" "Lcom/example/rigorous_chains/rigorouschains/prism/Expression$Operator;" (.ref w_DIVIDE) := Sta.start ev59 (Or.inr ⟨(wd6 hw), (wd20 hw)⟩)
  have E_w_DIVIDE : Exa s s.heap w_DIVIDE "com/example/rigorous_chains/rigorouschains/prism/Expression$Operator" := Exa.start ev59 n17
  obtain ⟨w_AND, ev60⟩ := exa_v n21
  have S_Expression_Operator_AND : Sta s s.heap "com/example/rigorous_chains/rigorouschains/prism/Expression$Operator" "AND" "Lcom/example/rigorous_chains/rigorouschains/prism/Expression$Operator;" (.ref w_AND) := Sta.start ev60 (Or.inr ⟨(wd6 hw), (wd25 hw)⟩)
  have E_w_AND : Exa s s.heap w_AND "com/example/rigorous_chains/rigorouschains/prism/Expression$Operator" := Exa.start ev60 n21
  obtain ⟨w_EQUALS, ev61⟩ := exa_v n25
  have S_Expression_Operator_EQUALS : Sta s s.heap "com/example/rigorous_chains/rigorouschains/prism/Expression$Operator" "EQUALS" "Lcom/example/rigorous_chains/rigorouschains/prism/Expression$Operator;" (.ref w_EQUALS) := Sta.start ev61 (Or.inr ⟨(wd6 hw), (wd29 hw)⟩)
  have E_w_EQUALS : Exa s s.heap w_EQUALS "com/example/rigorous_chains/rigorouschains/prism/Expression$Operator" := Exa.start ev61 n25
  obtain ⟨w_LESS_OR_EQUAL, ev62⟩ := exa_v n29
  have S_Expression_Operator_LESS_OR_EQUAL : Sta s s.heap "com/example/rigorous_chains/rigorouschains/prism/Expression$Operator" "LESS_OR_EQUAL" "Lcom/example/rigorous_chains/rigorouschains/prism/Expression$Operator;" (.ref w_LESS_OR_EQUAL) := Sta.start ev62 (Or.inr ⟨(wd6 hw), (wd31 hw)⟩)
  have E_w_LESS_OR_EQUAL : Exa s s.heap w_LESS_OR_EQUAL "com/example/rigorous_chains/rigorouschains/prism/Expression$Operator" := Exa.start ev62 n29
  obtain ⟨w_OR, ev63⟩ := exa_v n33
  have S_Expression_Operator_OR : Sta s s.heap "com/example/rigorous_chains/rigorouschains/prism/Expression$Operator" "OR" "Lcom/example/rigorous_chains/rigorouschains/prism/Expression$Operator;" (.ref w_OR) := Sta.start ev63 (Or.inr ⟨(wd6 hw), (wd33 hw)⟩)
  have E_w_OR : Exa s s.heap w_OR "com/example/rigorous_chains/rigorouschains/prism/Expression$Operator" := Exa.start ev63 n33
  obtain ⟨w_GREATER, ev64⟩ := exa_v n37
  have S_Expression_Operator_GREATER : Sta s s.heap "com/example/rigorous_chains/rigorouschains/prism/Expression$Operator" "GREATER" "Lcom/example/rigorous_chains/rigorouschains/prism/Expression$Operator;" (.ref w_GREATER) := Sta.start ev64 (Or.inr ⟨(wd6 hw), (wd37 hw)⟩)
  have E_w_GREATER : Exa s s.heap w_GREATER "com/example/rigorous_chains/rigorouschains/prism/Expression$Operator" := Exa.start ev64 n37
  obtain ⟨w_IFF, ev65⟩ := exa_v n41
  have S_Expression_Operator_IFF : Sta s s.heap "com/example/rigorous_chains/rigorouschains/prism/Expression$Operator" "IFF" "Lcom/example/rigorous_chains/rigorouschains/prism/Expression$Operator;" (.ref w_IFF) := Sta.start ev65 (Or.inr ⟨(wd6 hw), (wd39 hw)⟩)
  have E_w_IFF : Exa s s.heap w_IFF "com/example/rigorous_chains/rigorouschains/prism/Expression$Operator" := Exa.start ev65 n41
  obtain ⟨w_GREATER_OR_EQUAL, ev66⟩ := exa_v n45
  have S_Expression_Operator_GREATER_OR_EQUAL : Sta s s.heap "com/example/rigorous_chains/rigorouschains/prism/Expression$Operator" "GREATER_OR_EQUAL" "Lcom/example/rigorous_chains/rigorouschains/prism/Expression$Operator;" (.ref w_GREATER_OR_EQUAL) := Sta.start ev66 (Or.inr ⟨(wd6 hw), (wd41 hw)⟩)
  have E_w_GREATER_OR_EQUAL : Exa s s.heap w_GREATER_OR_EQUAL "com/example/rigorous_chains/rigorouschains/prism/Expression$Operator" := Exa.start ev66 n45
  obtain ⟨w_NOT_EQUALS, ev67⟩ := exa_v n49
  have S_Expression_Operator_NOT_EQUALS : Sta s s.heap "com/example/rigorous_chains/rigorouschains/prism/Expression$Operator" "NOT_EQUALS" "Lcom/example/rigorous_chains/rigorouschains/prism/Expression$Operator;" (.ref w_NOT_EQUALS) := Sta.start ev67 (Or.inr ⟨(wd6 hw), (wd43 hw)⟩)
  have E_w_NOT_EQUALS : Exa s s.heap w_NOT_EQUALS "com/example/rigorous_chains/rigorouschains/prism/Expression$Operator" := Exa.start ev67 n49
  obtain ⟨w_LESS, ev68⟩ := exa_v n53
  have S_Expression_Operator_LESS : Sta s s.heap "com/example/rigorous_chains/rigorouschains/prism/Expression$Operator" "LESS" "Lcom/example/rigorous_chains/rigorouschains/prism/Expression$Operator;" (.ref w_LESS) := Sta.start ev68 (Or.inr ⟨(wd6 hw), (wd45 hw)⟩)
  have E_w_LESS : Exa s s.heap w_LESS "com/example/rigorous_chains/rigorouschains/prism/Expression$Operator" := Exa.start ev68 n53
  have ev69 := own_eqI n5
  have F_70 : Fld s s.heap w_IMPLIES "java/lang/Enum" "ordinal" "I" (.int (0 : Int32)) := Fld.start ((fld_at ev55).symm.trans ev69)
  have ev71 := own_eqI n7
  have F_72 : Fld s s.heap w_PLUS "java/lang/Enum" "ordinal" "I" (.int (10 : Int32)) := Fld.start ((fld_at ev56).symm.trans ev71)
  have ev73 := own_eqI n11
  have F_74 : Fld s s.heap w_MINUS "java/lang/Enum" "ordinal" "I" (.int (11 : Int32)) := Fld.start ((fld_at ev57).symm.trans ev73)
  have ev75 := own_eqI n15
  have F_76 : Fld s s.heap w_TIMES "java/lang/Enum" "ordinal" "I" (.int (12 : Int32)) := Fld.start ((fld_at ev58).symm.trans ev75)
  have ev77 := own_eqI n19
  have F_78 : Fld s s.heap w_DIVIDE "java/lang/Enum" "ordinal" "I" (.int (13 : Int32)) := Fld.start ((fld_at ev59).symm.trans ev77)
  have ev79 := own_eqI n23
  have F_80 : Fld s s.heap w_AND "java/lang/Enum" "ordinal" "I" (.int (3 : Int32)) := Fld.start ((fld_at ev60).symm.trans ev79)
  have ev81 := own_eqI n27
  have F_82 : Fld s s.heap w_EQUALS "java/lang/Enum" "ordinal" "I" (.int (4 : Int32)) := Fld.start ((fld_at ev61).symm.trans ev81)
  have ev83 := own_eqI n31
  have F_84 : Fld s s.heap w_LESS_OR_EQUAL "java/lang/Enum" "ordinal" "I" (.int (7 : Int32)) := Fld.start ((fld_at ev62).symm.trans ev83)
  have ev85 := own_eqI n35
  have F_86 : Fld s s.heap w_OR "java/lang/Enum" "ordinal" "I" (.int (2 : Int32)) := Fld.start ((fld_at ev63).symm.trans ev85)
  have ev87 := own_eqI n39
  have F_88 : Fld s s.heap w_GREATER "java/lang/Enum" "ordinal" "I" (.int (8 : Int32)) := Fld.start ((fld_at ev64).symm.trans ev87)
  have ev89 := own_eqI n43
  have F_90 : Fld s s.heap w_IFF "java/lang/Enum" "ordinal" "I" (.int (1 : Int32)) := Fld.start ((fld_at ev65).symm.trans ev89)
  have ev91 := own_eqI n47
  have F_92 : Fld s s.heap w_GREATER_OR_EQUAL "java/lang/Enum" "ordinal" "I" (.int (9 : Int32)) := Fld.start ((fld_at ev66).symm.trans ev91)
  have ev93 := own_eqI n51
  have F_94 : Fld s s.heap w_NOT_EQUALS "java/lang/Enum" "ordinal" "I" (.int (5 : Int32)) := Fld.start ((fld_at ev67).symm.trans ev93)
  have ev95 := own_eqI n54
  have F_96 : Fld s s.heap w_LESS "java/lang/Enum" "ordinal" "I" (.int (6 : Int32)) := Fld.start ((fld_at ev68).symm.trans ev95)
  have R : MetFree l x (head1 (Jvm.Cond.code x code maxLocals ret :: tables_1) room_1) (fun a U => a = #[(.int i0)] ∧ s.Warmed39 U.vm ∧ U.heap = s.heap) (fun _ _ _ _ _ => True) (fun _ U o U' => ∃ v L, o = .returned v ∧ Q0 s.heap.size v L ∧ FrameEnd U o U' L 0 0) := by
    rcases own_mod14 i0 with hs0 | hs0 | hs0 | hs0 | hs0 | hs0 | hs0 | hs0 | hs0 | hs0 | hs0 | hs0 | hs0 | hs0
    · exact rm0_0 l s _ hw tables_1 i0 w_IMPLIES w_PLUS w_MINUS w_TIMES w_DIVIDE s.heap s.heap.size (Old.start s) hs0 S_Expression_Operator_IMPLIES S_Expression_Operator_PLUS (Fld.ne F_70 F_72 (by decide)) S_Expression_Operator_MINUS (Fld.ne F_70 F_74 (by decide)) S_Expression_Operator_TIMES (Fld.ne F_70 F_76 (by decide)) S_Expression_Operator_DIVIDE (Fld.ne F_70 F_78 (by decide)) E_w_IMPLIES
    · exact rm0_1 l s _ hw tables_1 i0 w_IFF w_PLUS w_MINUS w_TIMES w_DIVIDE s.heap s.heap.size (Old.start s) hs0 S_Expression_Operator_IFF S_Expression_Operator_PLUS (Fld.ne F_90 F_72 (by decide)) S_Expression_Operator_MINUS (Fld.ne F_90 F_74 (by decide)) S_Expression_Operator_TIMES (Fld.ne F_90 F_76 (by decide)) S_Expression_Operator_DIVIDE (Fld.ne F_90 F_78 (by decide)) E_w_IFF
    · exact rm0_2 l s _ hw tables_1 i0 w_OR w_PLUS w_MINUS w_TIMES w_DIVIDE s.heap s.heap.size (Old.start s) hs0 S_Expression_Operator_OR S_Expression_Operator_PLUS (Fld.ne F_86 F_72 (by decide)) S_Expression_Operator_MINUS (Fld.ne F_86 F_74 (by decide)) S_Expression_Operator_TIMES (Fld.ne F_86 F_76 (by decide)) S_Expression_Operator_DIVIDE (Fld.ne F_86 F_78 (by decide)) E_w_OR
    · exact rm0_3 l s _ hw tables_1 i0 w_AND w_PLUS w_MINUS w_TIMES w_DIVIDE s.heap s.heap.size (Old.start s) hs0 S_Expression_Operator_AND S_Expression_Operator_PLUS (Fld.ne F_80 F_72 (by decide)) S_Expression_Operator_MINUS (Fld.ne F_80 F_74 (by decide)) S_Expression_Operator_TIMES (Fld.ne F_80 F_76 (by decide)) S_Expression_Operator_DIVIDE (Fld.ne F_80 F_78 (by decide)) E_w_AND
    · exact rm0_4 l s _ hw tables_1 i0 w_EQUALS w_PLUS w_MINUS w_TIMES w_DIVIDE s.heap s.heap.size (Old.start s) hs0 S_Expression_Operator_EQUALS S_Expression_Operator_PLUS (Fld.ne F_82 F_72 (by decide)) S_Expression_Operator_MINUS (Fld.ne F_82 F_74 (by decide)) S_Expression_Operator_TIMES (Fld.ne F_82 F_76 (by decide)) S_Expression_Operator_DIVIDE (Fld.ne F_82 F_78 (by decide)) E_w_EQUALS
    · exact rm0_5 l s _ hw tables_1 i0 w_NOT_EQUALS w_PLUS w_MINUS w_TIMES w_DIVIDE s.heap s.heap.size (Old.start s) hs0 S_Expression_Operator_NOT_EQUALS S_Expression_Operator_PLUS (Fld.ne F_94 F_72 (by decide)) S_Expression_Operator_MINUS (Fld.ne F_94 F_74 (by decide)) S_Expression_Operator_TIMES (Fld.ne F_94 F_76 (by decide)) S_Expression_Operator_DIVIDE (Fld.ne F_94 F_78 (by decide)) E_w_NOT_EQUALS
    · exact rm0_6 l s _ hw tables_1 i0 w_LESS w_PLUS w_MINUS w_TIMES w_DIVIDE s.heap s.heap.size (Old.start s) hs0 S_Expression_Operator_LESS S_Expression_Operator_PLUS (Fld.ne F_96 F_72 (by decide)) S_Expression_Operator_MINUS (Fld.ne F_96 F_74 (by decide)) S_Expression_Operator_TIMES (Fld.ne F_96 F_76 (by decide)) S_Expression_Operator_DIVIDE (Fld.ne F_96 F_78 (by decide)) E_w_LESS
    · exact rm0_7 l s _ hw tables_1 i0 w_LESS_OR_EQUAL w_PLUS w_MINUS w_TIMES w_DIVIDE s.heap s.heap.size (Old.start s) hs0 S_Expression_Operator_LESS_OR_EQUAL S_Expression_Operator_PLUS (Fld.ne F_84 F_72 (by decide)) S_Expression_Operator_MINUS (Fld.ne F_84 F_74 (by decide)) S_Expression_Operator_TIMES (Fld.ne F_84 F_76 (by decide)) S_Expression_Operator_DIVIDE (Fld.ne F_84 F_78 (by decide)) E_w_LESS_OR_EQUAL
    · exact rm0_8 l s _ hw tables_1 i0 w_GREATER w_PLUS w_MINUS w_TIMES w_DIVIDE s.heap s.heap.size (Old.start s) hs0 S_Expression_Operator_GREATER S_Expression_Operator_PLUS (Fld.ne F_88 F_72 (by decide)) S_Expression_Operator_MINUS (Fld.ne F_88 F_74 (by decide)) S_Expression_Operator_TIMES (Fld.ne F_88 F_76 (by decide)) S_Expression_Operator_DIVIDE (Fld.ne F_88 F_78 (by decide)) E_w_GREATER
    · exact rm0_9 l s _ hw tables_1 i0 w_GREATER_OR_EQUAL w_PLUS w_MINUS w_TIMES w_DIVIDE s.heap s.heap.size (Old.start s) hs0 S_Expression_Operator_GREATER_OR_EQUAL S_Expression_Operator_PLUS (Fld.ne F_92 F_72 (by decide)) S_Expression_Operator_MINUS (Fld.ne F_92 F_74 (by decide)) S_Expression_Operator_TIMES (Fld.ne F_92 F_76 (by decide)) S_Expression_Operator_DIVIDE (Fld.ne F_92 F_78 (by decide)) E_w_GREATER_OR_EQUAL
    · exact rm0_10 l s _ hw tables_1 i0 w_PLUS s.heap s.heap.size (Old.start s) hs0 S_Expression_Operator_PLUS E_w_PLUS
    · exact rm0_11 l s _ hw tables_1 i0 w_MINUS w_PLUS s.heap s.heap.size (Old.start s) hs0 S_Expression_Operator_MINUS S_Expression_Operator_PLUS (Fld.ne F_74 F_72 (by decide)) E_w_MINUS
    · exact rm0_12 l s _ hw tables_1 i0 w_TIMES w_PLUS w_MINUS s.heap s.heap.size (Old.start s) hs0 S_Expression_Operator_TIMES S_Expression_Operator_PLUS (Fld.ne F_76 F_72 (by decide)) S_Expression_Operator_MINUS (Fld.ne F_76 F_74 (by decide)) E_w_TIMES
    · exact rm0_13 l s _ hw tables_1 i0 w_DIVIDE w_PLUS w_MINUS w_TIMES s.heap s.heap.size (Old.start s) hs0 S_Expression_Operator_DIVIDE S_Expression_Operator_PLUS (Fld.ne F_78 F_72 (by decide)) S_Expression_Operator_MINUS (Fld.ne F_78 F_74 (by decide)) S_Expression_Operator_TIMES (Fld.ne F_78 F_76 (by decide)) E_w_DIVIDE
  obtain ⟨n, o, h1, h2, h3, _, L, rfl, ⟨rfl, N⟩, hq⟩ := R p e ha hc hk s m _ below hf ((Spec.applies_iff_loose hf).mp happ).1 ⟨rfl, State.Warmed39.refl s, rfl⟩ trivial
  refine ⟨n, _, h1, h2, h3, hpost _ _ _ _ _ _ ⟨Cond.after_iff.mpr rfl, Cond.after_iff.mpr (eq_i res_at (Term.int_eval (1)) rfl), trivial⟩ ⟨hq.1, hq.2.1, (hq.2.2.sift fun y hy => Or.inr (N y hy)).mono (by decide) (by decide)⟩⟩
theorem main_1_1 : Claimed_1_1 := comes_1 fun _ _ _ _ _ _ h hF => ⟨h.1, hF⟩
theorem main_1_2 : Claimed_1_2 := comes_1 fun _ _ _ _ _ _ h hF => ⟨h.2.1, hF⟩
end Jvm.Pilot.@@N@@
namespace Jvm.Pilot.@@N@@
open Jvm Jvm.ClassFile Sem Op Lib Jvm.Free Jvm.Stand Jvm.Pilot.@@N@@.Jvm.D
/-! MADE BY PROGRAM (witnessworld.py) out of the Statement's table words and the real class files: 12 classes; the members and pool entries that the words name. The judged class is class 1, her method 3. -/
namespace start1
open Jvm.ClassFile
def u (s : String) : CpInfo := .utf8 (stringToUtf16 s)
/-- a pool by its gaps: so many unusable entries, then the entry; so many at the end -/
def gap : Nat → List CpInfo → List CpInfo
  | 0, r => r
  | n + 1, r => .unusable :: gap n r
def poolList (es : List (Nat × CpInfo)) (last : Nat) : List CpInfo := es.foldr (fun e r => gap e.1 (e.2 :: r)) (gap last [])
def pool (es : List (Nat × CpInfo)) (last : Nat) : Array CpInfo := ⟨poolList es last⟩
def fileOf (pool : Array CpInfo) (this : Nat) (attrs : Array Attribute := #[]) (ms : Array MethodInfo := #[]) (fl : Nat := 33) (sup : Nat := 0) (ifs : Array Nat := #[]) (fds : Array FieldInfo := #[]) : ClassFile where
  minorVersion := 0
  majorVersion := 65
  constantPool := pool
  accessFlags := fl
  thisClass := this
  superClass := sup
  interfaces := ifs
  fields := fds
  methods := ms
  attributes := attrs
def plain (name : String) (sup : Option ClassId) : Class where
  name := name
  kind := .ordinary
  loader := none
  accessFlags := 33
  super := sup
  interfaces := #[]
  cf := none
  fields := #[]
  methods := #[]
  instanceTypes := #[]
  staticTypes := #[]
  resolved := #[]
  callSites := []
  init := .initialized
  statics := none
  mirror := none

def pool0 : Array CpInfo := pool [(5, u "<init>"), (0, u "()V"), (1, .class_ 10), (1, u "java/lang/Object")] 113

def k0m0 : Method := { name := "<init>", desc := "()V", sig := { parameters := [], returnType := none }, accessFlags := 1, code := none }
/-- java/lang/Object -/
def k0 : Class := { plain "java/lang/Object" none with
  accessFlags := 33
  interfaces := #[]
  cf := some (fileOf pool0 8 #[] #[{ accessFlags := 1, nameIndex := 5, descriptorIndex := 6, attributes := #[] }] 33 0 #[] #[])
  fields := #[]
  methods := #[k0m0]
  instanceTypes := #[]
  staticTypes := #[]
  resolved := Array.replicate 124 none
  statics := none }

def pool1 : Array CpInfo := pool [(2, .class_ 4), (1, u "java/lang/Object"), (0, u "<init>"), (0, u "()V"), (0, .fieldref 8 9), (0, .class_ 10), (0, .nameAndType 11 12), (0, u "com/example/rigorous_chains/rigorouschains/prism/Expression$Operator"), (0, u "IMPLIES"), (0, u "Lcom/example/rigorous_chains/rigorouschains/prism/Expression$Operator;"), (0, .fieldref 8 14), (0, .nameAndType 15 12), (0, u "IFF"), (0, .fieldref 8 17), (0, .nameAndType 18 12), (0, u "OR"), (0, .fieldref 8 20), (0, .nameAndType 21 12), (0, u "AND"), (0, .fieldref 8 23), (0, .nameAndType 24 12), (0, u "EQUALS"), (0, .fieldref 8 26), (0, .nameAndType 27 12), (0, u "NOT_EQUALS"), (0, .fieldref 8 29), (0, .nameAndType 30 12), (0, u "LESS"), (0, .fieldref 8 32), (0, .nameAndType 33 12), (0, u "LESS_OR_EQUAL"), (0, .fieldref 8 35), (0, .nameAndType 36 12), (0, u "GREATER"), (0, .fieldref 8 38), (0, .nameAndType 39 12), (0, u "GREATER_OR_EQUAL"), (0, .fieldref 8 41), (0, .nameAndType 42 12), (0, u "PLUS"), (0, .fieldref 8 44), (0, .nameAndType 45 12), (0, u "MINUS"), (0, .fieldref 8 47), (0, .nameAndType 48 12), (0, u "TIMES"), (0, .fieldref 8 50), (0, .nameAndType 51 12), (0, u "DIVIDE"), (0, .integer 2147483647), (0, .methodref 54 55), (0, .class_ 56), (0, .nameAndType 57 58), (0, u "com/example/rigorous_chains/rigorouschains/prism/OperatorIsArithmeticPinLaw"), (0, u "pick"), (0, u "(I)Lcom/example/rigorous_chains/rigorouschains/prism/Expression$Operator;"), (0, .methodref 8 60), (0, .nameAndType 61 62), (0, u "isArithmetic"), (0, u "()Z"), (0, .methodref 54 64), (0, .nameAndType 65 66), (0, u "expected"), (0, u "(I)Z"), (3, u "law")] 6

def k1m0 : Method := { name := "<init>", desc := "()V", sig := { parameters := [], returnType := none }, accessFlags := 2, code := none }
def k1c1 : Code := { maxStack := 2, maxLocals := 1, code := method_2_code, exceptionTable := #[], attributes := #[] }
def k1m1 : Method := { name := "pick", desc := "(I)Lcom/example/rigorous_chains/rigorouschains/prism/Expression$Operator;", sig := { parameters := [.int], returnType := some (.object "com/example/rigorous_chains/rigorouschains/prism/Expression$Operator") }, accessFlags := 10, code := some k1c1 }
def k1c2 : Code := { maxStack := 2, maxLocals := 2, code := method_3_code, exceptionTable := #[], attributes := #[] }
def k1m2 : Method := { name := "expected", desc := "(I)Z", sig := { parameters := [.int], returnType := some .boolean }, accessFlags := 10, code := some k1c2 }
def k1c3 : Code := { maxStack := 2, maxLocals := 3, code := code, exceptionTable := #[], attributes := #[] }
def k1m3 : Method := { name := "law", desc := "(I)Z", sig := { parameters := [.int], returnType := some .boolean }, accessFlags := 9, code := some k1c3 }
/-- com/example/rigorous_chains/rigorouschains/prism/OperatorIsArithmeticPinLaw -/
def k1 : Class := { plain "com/example/rigorous_chains/rigorouschains/prism/OperatorIsArithmeticPinLaw" (some 0) with
  accessFlags := 49
  interfaces := #[]
  cf := some (fileOf pool1 54 #[] #[{ accessFlags := 2, nameIndex := 5, descriptorIndex := 6, attributes := #[] }, { accessFlags := 10, nameIndex := 57, descriptorIndex := 58, attributes := #[] }, { accessFlags := 10, nameIndex := 65, descriptorIndex := 66, attributes := #[] }, { accessFlags := 9, nameIndex := 70, descriptorIndex := 66, attributes := #[] }] 49 2 #[] #[])
  fields := #[]
  methods := #[k1m0, k1m1, k1m2, k1m3]
  instanceTypes := #[]
  staticTypes := #[]
  resolved := Array.replicate 77 none
  statics := none }

def pool2 : Array CpInfo := pool [(1, .class_ 2), (0, u "java/lang/constant/Constable"), (0, .class_ 4), (0, u "java/lang/Object")] 6

/-- java/lang/constant/Constable -/
def k2 : Class := { plain "java/lang/constant/Constable" (some 0) with
  accessFlags := 1537
  interfaces := #[]
  cf := some (fileOf pool2 1 #[] #[] 1537 3 #[] #[])
  fields := #[]
  methods := #[]
  instanceTypes := #[]
  staticTypes := #[]
  resolved := Array.replicate 11 none
  statics := none }

def pool3 : Array CpInfo := pool [(1, .class_ 2), (0, u "java/lang/Comparable"), (0, .class_ 4), (0, u "java/lang/Object")] 7

/-- java/lang/Comparable -/
def k3 : Class := { plain "java/lang/Comparable" (some 0) with
  accessFlags := 1537
  interfaces := #[]
  cf := some (fileOf pool3 1 #[] #[] 1537 3 #[] #[])
  fields := #[]
  methods := #[]
  instanceTypes := #[]
  staticTypes := #[]
  resolved := Array.replicate 12 none
  statics := none }

def pool4 : Array CpInfo := pool [(1, .class_ 2), (0, u "java/io/Serializable"), (0, .class_ 4), (0, u "java/lang/Object")] 2

/-- java/io/Serializable -/
def k4 : Class := { plain "java/io/Serializable" (some 0) with
  accessFlags := 1537
  interfaces := #[]
  cf := some (fileOf pool4 1 #[] #[] 1537 3 #[] #[])
  fields := #[]
  methods := #[]
  instanceTypes := #[]
  staticTypes := #[]
  resolved := Array.replicate 7 none
  statics := none }

def pool5 : Array CpInfo := pool [(2, .class_ 4), (1, u "java/lang/Enum"), (0, u "name"), (0, u "Ljava/lang/String;"), (2, u "ordinal"), (0, u "I"), (1, .class_ 14), (1, u "java/lang/Object"), (4, u "hash"), (86, .class_ 108), (1, u "java/lang/Enum$EnumDesc"), (2, .class_ 112), (0, u "java/lang/constant/Constable"), (0, .class_ 114), (0, u "java/lang/Comparable"), (0, .class_ 116), (0, u "java/io/Serializable")] 87

/-- java/lang/Enum -/
def k5 : Class := { plain "java/lang/Enum" (some 0) with
  accessFlags := 1057
  interfaces := #[2, 3, 4]
  cf := some (fileOf pool5 2 #[.nestMembers #[106]] #[] 1057 12 #[111, 113, 115] #[{ accessFlags := 18, nameIndex := 5, descriptorIndex := 6, attributes := #[] }, { accessFlags := 18, nameIndex := 9, descriptorIndex := 10, attributes := #[] }, { accessFlags := 2, nameIndex := 19, descriptorIndex := 10, attributes := #[] }])
  fields := #[{ name := "name", type := (.object "java/lang/String"), accessFlags := 18, slot := 0, constantValue := 0 }, { name := "ordinal", type := .int, accessFlags := 18, slot := 1, constantValue := 0 }, { name := "hash", type := .int, accessFlags := 2, slot := 2, constantValue := 0 }]
  methods := #[]
  instanceTypes := #[(.object "java/lang/String"), .int, .int]
  staticTypes := #[]
  resolved := Array.replicate 204 none
  statics := none }

def pool6 : Array CpInfo := pool [(1, .class_ 2), (0, u "com/example/rigorous_chains/rigorouschains/prism/Expression$Operator"), (2, u "IMPLIES"), (0, u "Lcom/example/rigorous_chains/rigorouschains/prism/Expression$Operator;"), (2, u "IFF"), (2, u "OR"), (2, u "AND"), (2, u "EQUALS"), (2, u "NOT_EQUALS"), (2, u "LESS"), (2, u "LESS_OR_EQUAL"), (2, u "GREATER"), (2, u "GREATER_OR_EQUAL"), (0, .fieldref 1 35), (0, .nameAndType 36 6), (0, u "PLUS"), (0, .fieldref 1 38), (0, .nameAndType 39 6), (0, u "MINUS"), (0, .fieldref 1 41), (0, .nameAndType 42 6), (0, u "TIMES"), (0, .fieldref 1 44), (0, .nameAndType 45 6), (0, u "DIVIDE"), (2, u "$VALUES"), (0, u "[Lcom/example/rigorous_chains/rigorouschains/prism/Expression$Operator;"), (6, .class_ 58), (1, u "java/lang/Enum"), (8, u "symbol"), (0, u "Ljava/lang/String;"), (58, u "()Z"), (2, u "isArithmetic"), (6, .class_ 138), (0, u "com/example/rigorous_chains/rigorouschains/prism/Expression")] 2

def k6c0 : Code := { maxStack := 2, maxLocals := 1, code := prog_55_method_7_code, exceptionTable := #[], attributes := #[] }
def k6m0 : Method := { name := "isArithmetic", desc := "()Z", sig := { parameters := [], returnType := some .boolean }, accessFlags := 0, code := some k6c0 }
/-- com/example/rigorous_chains/rigorouschains/prism/Expression$Operator -/
def k6 : Class := { plain "com/example/rigorous_chains/rigorouschains/prism/Expression$Operator" (some 5) with
  accessFlags := 16432
  interfaces := #[]
  cf := some (fileOf pool6 1 #[.nestHost 137] #[{ accessFlags := 0, nameIndex := 130, descriptorIndex := 127, attributes := #[] }] 16432 56 #[] #[{ accessFlags := 16409, nameIndex := 5, descriptorIndex := 6, attributes := #[] }, { accessFlags := 16409, nameIndex := 9, descriptorIndex := 6, attributes := #[] }, { accessFlags := 16409, nameIndex := 12, descriptorIndex := 6, attributes := #[] }, { accessFlags := 16409, nameIndex := 15, descriptorIndex := 6, attributes := #[] }, { accessFlags := 16409, nameIndex := 18, descriptorIndex := 6, attributes := #[] }, { accessFlags := 16409, nameIndex := 21, descriptorIndex := 6, attributes := #[] }, { accessFlags := 16409, nameIndex := 24, descriptorIndex := 6, attributes := #[] }, { accessFlags := 16409, nameIndex := 27, descriptorIndex := 6, attributes := #[] }, { accessFlags := 16409, nameIndex := 30, descriptorIndex := 6, attributes := #[] }, { accessFlags := 16409, nameIndex := 33, descriptorIndex := 6, attributes := #[] }, { accessFlags := 16409, nameIndex := 36, descriptorIndex := 6, attributes := #[] }, { accessFlags := 16409, nameIndex := 39, descriptorIndex := 6, attributes := #[] }, { accessFlags := 16409, nameIndex := 42, descriptorIndex := 6, attributes := #[] }, { accessFlags := 16409, nameIndex := 45, descriptorIndex := 6, attributes := #[] }, { accessFlags := 18, nameIndex := 67, descriptorIndex := 68, attributes := #[] }, { accessFlags := 4122, nameIndex := 48, descriptorIndex := 49, attributes := #[] }])
  fields := #[{ name := "IMPLIES", type := (.object "com/example/rigorous_chains/rigorouschains/prism/Expression$Operator"), accessFlags := 16409, slot := 0, constantValue := 0 }, { name := "IFF", type := (.object "com/example/rigorous_chains/rigorouschains/prism/Expression$Operator"), accessFlags := 16409, slot := 1, constantValue := 0 }, { name := "OR", type := (.object "com/example/rigorous_chains/rigorouschains/prism/Expression$Operator"), accessFlags := 16409, slot := 2, constantValue := 0 }, { name := "AND", type := (.object "com/example/rigorous_chains/rigorouschains/prism/Expression$Operator"), accessFlags := 16409, slot := 3, constantValue := 0 }, { name := "EQUALS", type := (.object "com/example/rigorous_chains/rigorouschains/prism/Expression$Operator"), accessFlags := 16409, slot := 4, constantValue := 0 }, { name := "NOT_EQUALS", type := (.object "com/example/rigorous_chains/rigorouschains/prism/Expression$Operator"), accessFlags := 16409, slot := 5, constantValue := 0 }, { name := "LESS", type := (.object "com/example/rigorous_chains/rigorouschains/prism/Expression$Operator"), accessFlags := 16409, slot := 6, constantValue := 0 }, { name := "LESS_OR_EQUAL", type := (.object "com/example/rigorous_chains/rigorouschains/prism/Expression$Operator"), accessFlags := 16409, slot := 7, constantValue := 0 }, { name := "GREATER", type := (.object "com/example/rigorous_chains/rigorouschains/prism/Expression$Operator"), accessFlags := 16409, slot := 8, constantValue := 0 }, { name := "GREATER_OR_EQUAL", type := (.object "com/example/rigorous_chains/rigorouschains/prism/Expression$Operator"), accessFlags := 16409, slot := 9, constantValue := 0 }, { name := "PLUS", type := (.object "com/example/rigorous_chains/rigorouschains/prism/Expression$Operator"), accessFlags := 16409, slot := 10, constantValue := 0 }, { name := "MINUS", type := (.object "com/example/rigorous_chains/rigorouschains/prism/Expression$Operator"), accessFlags := 16409, slot := 11, constantValue := 0 }, { name := "TIMES", type := (.object "com/example/rigorous_chains/rigorouschains/prism/Expression$Operator"), accessFlags := 16409, slot := 12, constantValue := 0 }, { name := "DIVIDE", type := (.object "com/example/rigorous_chains/rigorouschains/prism/Expression$Operator"), accessFlags := 16409, slot := 13, constantValue := 0 }, { name := "symbol", type := (.object "java/lang/String"), accessFlags := 18, slot := 3, constantValue := 0 }, { name := "$VALUES", type := (.array (.object "com/example/rigorous_chains/rigorouschains/prism/Expression$Operator")), accessFlags := 4122, slot := 14, constantValue := 0 }]
  methods := #[k6m0]
  instanceTypes := #[(.object "java/lang/String"), .int, .int, (.object "java/lang/String")]
  staticTypes := #[(.object "com/example/rigorous_chains/rigorouschains/prism/Expression$Operator"), (.object "com/example/rigorous_chains/rigorouschains/prism/Expression$Operator"), (.object "com/example/rigorous_chains/rigorouschains/prism/Expression$Operator"), (.object "com/example/rigorous_chains/rigorouschains/prism/Expression$Operator"), (.object "com/example/rigorous_chains/rigorouschains/prism/Expression$Operator"), (.object "com/example/rigorous_chains/rigorouschains/prism/Expression$Operator"), (.object "com/example/rigorous_chains/rigorouschains/prism/Expression$Operator"), (.object "com/example/rigorous_chains/rigorouschains/prism/Expression$Operator"), (.object "com/example/rigorous_chains/rigorouschains/prism/Expression$Operator"), (.object "com/example/rigorous_chains/rigorouschains/prism/Expression$Operator"), (.object "com/example/rigorous_chains/rigorouschains/prism/Expression$Operator"), (.object "com/example/rigorous_chains/rigorouschains/prism/Expression$Operator"), (.object "com/example/rigorous_chains/rigorouschains/prism/Expression$Operator"), (.object "com/example/rigorous_chains/rigorouschains/prism/Expression$Operator"), (.array (.object "com/example/rigorous_chains/rigorouschains/prism/Expression$Operator"))]
  resolved := Array.replicate 141 none
  statics := some 0 }

def pool7 : Array CpInfo := pool [(1, u "java/lang/Cloneable"), (0, .class_ 1), (0, u "java/lang/Object"), (0, .class_ 3)] 3

/-- java/lang/Cloneable -/
def k7 : Class := { plain "java/lang/Cloneable" (some 0) with
  accessFlags := 1537
  interfaces := #[]
  cf := some (fileOf pool7 2 #[] #[] 1537 4 #[] #[])
  fields := #[]
  methods := #[]
  instanceTypes := #[]
  staticTypes := #[]
  resolved := Array.replicate 8 none
  statics := none }

/-- the primitive byte -/
def k8 : Class := { plain "byte" none with kind := .primitive 'B', accessFlags := 0x411 }
/-- [B -/
def k9 : Class := { plain "[B" (some 0) with kind := .array 8 .byte, interfaces := #[7, 4], accessFlags := 1041 }

/-- the primitive int -/
def k10 : Class := { plain "int" none with kind := .primitive 'I', accessFlags := 0x411 }
/-- [I -/
def k11 : Class := { plain "[I" (some 0) with kind := .array 10 .int, interfaces := #[7, 4], accessFlags := 1041 }

def heap : Heap := #[{ cls := 6, slots := #[.ref 1, .ref 11, .ref 9, .ref 6, .ref 7, .ref 13, .ref 14, .ref 8, .ref 10, .ref 12, .ref 2, .ref 3, .ref 4, .ref 5, .null], vm := .statics 6 },
  { cls := 6, slots := #[.null, .int 0, .int 0, .null], vm := .none },
  { cls := 6, slots := #[.null, .int 10, .int 0, .null], vm := .none },
  { cls := 6, slots := #[.null, .int 11, .int 0, .null], vm := .none },
  { cls := 6, slots := #[.null, .int 12, .int 0, .null], vm := .none },
  { cls := 6, slots := #[.null, .int 13, .int 0, .null], vm := .none },
  { cls := 6, slots := #[.null, .int 3, .int 0, .null], vm := .none },
  { cls := 6, slots := #[.null, .int 4, .int 0, .null], vm := .none },
  { cls := 6, slots := #[.null, .int 7, .int 0, .null], vm := .none },
  { cls := 6, slots := #[.null, .int 2, .int 0, .null], vm := .none },
  { cls := 6, slots := #[.null, .int 8, .int 0, .null], vm := .none },
  { cls := 6, slots := #[.null, .int 1, .int 0, .null], vm := .none },
  { cls := 6, slots := #[.null, .int 9, .int 0, .null], vm := .none },
  { cls := 6, slots := #[.null, .int 5, .int 0, .null], vm := .none },
  { cls := 6, slots := #[.null, .int 6, .int 0, .null], vm := .none }]
def classes : Array Class := #[k0, k1, k2, k3, k4, k5, k6, k7, k8, k9, k10, k11]
def interned : List (Array UInt16 × Addr) := []
def slotsUsed : Nat := 71
def theMethod : MethodId := ⟨1, 3⟩
def args0 : Array Value := #[.int 5]
def aboutOver (below : List Frame) : State where
  vm := { classes := classes, interned := interned.toArray }
  heap := heap
  slotsUsed := slotsUsed
  threads := #[{ frames := .invoking theMethod args0 :: below }]
def below0 : List Frame := [.native { method := ⟨0, 0⟩, args := #[] }]
def about1 : State := aboutOver below0
def p0 : Program := .bare "" "" ""
def e0 : Env := launch0.env 0 0 0
theorem w_frames : about1.frames = Frame.invoking theMethod args0 :: below0 := rfl
set_option maxRecDepth 65536 in
theorem w_args : argsFit about1.vm theMethod args0 = true := by decide +kernel
set_option maxRecDepth 65536 in
theorem w_heap : heapFits about1 = true := by decide +kernel
set_option maxRecDepth 65536 in
theorem w_runnable : about1.curStatus? = some .runnable := by decide +kernel
set_option maxRecDepth 65536 in
theorem w_alone : about1.alone = true := by decide +kernel
set_option maxRecDepth 65536 in
theorem w_named : about1.methodNamed? x = some theMethod := by decide +kernel
set_option maxRecDepth 65536 in
theorem w_hears : about1.hears theMethod below0 = true := by decide +kernel
set_option maxRecDepth 65536 in
theorem w_ripe : about1.ripe theMethod args0 below0 = true := by decide +kernel
theorem w_running : about1.status = .running := rfl
set_option maxRecDepth 65536 in
theorem w_room : about1.hasRoom e0.platform room_1 = true :=
  launch0.hasRoom_least _ room_1 (by decide +kernel) (by decide +kernel) (by decide +kernel) (by decide +kernel) (by decide +kernel) (by decide +kernel)
theorem allAtoms_all (ts : List Jvm.Cond) (a : Array Jvm.Value) (st : Jvm.State) : (allAtoms ts).before a st = ts.all (fun c => c.before a st) := by
  induction ts with
  | nil => rfl
  | cons c t ih =>
    show (Jvm.Cond.and c (allAtoms t)).before a st = _
    rw [Jvm.Cond.before_and, ih, List.all_cons]
def words1 : List Jvm.Cond := Jvm.Cond.code x code maxLocals ret :: tables_1
/-- a 'code' word, met by the world's own term for the bytes: nothing is compared byte by byte -/
theorem code_word {y : MethodName} {bytes : ByteArray} {mx : Nat} {rt : Option FieldType} {a : Array Value} {s : State} {m : MethodId} {meth : Method} {c : Code} (h1 : s.methodNamed? y = some m) (h2 : s.vm.method? m = some meth) (h3 : meth.code = some c) (h4 : c.code = bytes)
    (h5 : (c.maxLocals == mx && c.exceptionTable.isEmpty && decide (c.maxStack ≤ mostOperands) && decide (meth.sig.returnType = rt) && !meth.locks && decide (parseMethodDescriptor y.desc = some meth.sig)) = true) : (Jvm.Cond.code y bytes mx rt).before a s = true := by
  simp only [Bool.and_eq_true, beq_iff_eq, Bool.not_eq_true', decide_eq_true_eq] at h5
  obtain ⟨⟨⟨⟨⟨g1, g2⟩, g3⟩, g4⟩, g5⟩, g6⟩ := h5
  simp [Cond.before, Cond.holds, Cond.value, h1, h2, h3, h4, g1, g2, g3, g4, g5, g6]
def isCode : Jvm.Cond → Bool
  | .code _ _ _ _ => true
  | _ => false
theorem all_split {L : List Jvm.Cond} {P : Jvm.Cond → Bool} (h1 : L.all (fun c => isCode c || P c) = true) (h2 : ∀ c ∈ L.filter isCode, P c = true) : L.all P = true := by
  refine List.all_eq_true.mpr fun c hc => ?_
  have h := List.all_eq_true.mp h1 c hc
  rcases Bool.eq_false_or_eq_true (isCode c) with hi | hi
  · exact h2 c (List.mem_filter.mpr ⟨hc, hi⟩)
  · simpa [hi] using h
set_option maxRecDepth 65536 in
theorem w_c0 : (Jvm.Cond.code x code maxLocals ret).before args0 about1 = true := code_word (m := ⟨1, 3⟩) (meth := k1m3) (c := k1c3) (by decide +kernel) rfl rfl rfl (by decide +kernel)
set_option maxRecDepth 65536 in
theorem w_c1 : (Jvm.Cond.code ({ cls := "com/example/rigorous_chains/rigorouschains/prism/OperatorIsArithmeticPinLaw", name := "pick", desc := "(I)Lcom/example/rigorous_chains/rigorouschains/prism/Expression$Operator;" } : Jvm.MethodName) method_2_code (1 : Nat) (Option.some (Jvm.ClassFile.FieldType.object "com/example/rigorous_chains/rigorouschains/prism/Expression$Operator"))).before args0 about1 = true := code_word (m := ⟨1, 1⟩) (meth := k1m1) (c := k1c1) (by decide +kernel) rfl rfl rfl (by decide +kernel)
set_option maxRecDepth 65536 in
theorem w_c2 : (Jvm.Cond.code ({ cls := "com/example/rigorous_chains/rigorouschains/prism/Expression$Operator", name := "isArithmetic", desc := "()Z" } : Jvm.MethodName) prog_55_method_7_code (1 : Nat) (Option.some Jvm.ClassFile.FieldType.boolean)).before args0 about1 = true := code_word (m := ⟨6, 0⟩) (meth := k6m0) (c := k6c0) (by decide +kernel) rfl rfl rfl (by decide +kernel)
set_option maxRecDepth 65536 in
theorem w_c3 : (Jvm.Cond.code ({ cls := "com/example/rigorous_chains/rigorouschains/prism/OperatorIsArithmeticPinLaw", name := "expected", desc := "(I)Z" } : Jvm.MethodName) method_3_code (2 : Nat) (Option.some Jvm.ClassFile.FieldType.boolean)).before args0 about1 = true := code_word (m := ⟨1, 2⟩) (meth := k1m2) (c := k1c2) (by decide +kernel) rfl rfl rfl (by decide +kernel)
def codes1 : List Jvm.Cond := [Jvm.Cond.code x code maxLocals ret, Jvm.Cond.code ({ cls := "com/example/rigorous_chains/rigorouschains/prism/OperatorIsArithmeticPinLaw", name := "pick", desc := "(I)Lcom/example/rigorous_chains/rigorouschains/prism/Expression$Operator;" } : Jvm.MethodName) method_2_code (1 : Nat) (Option.some (Jvm.ClassFile.FieldType.object "com/example/rigorous_chains/rigorouschains/prism/Expression$Operator")), Jvm.Cond.code ({ cls := "com/example/rigorous_chains/rigorouschains/prism/Expression$Operator", name := "isArithmetic", desc := "()Z" } : Jvm.MethodName) prog_55_method_7_code (1 : Nat) (Option.some Jvm.ClassFile.FieldType.boolean), Jvm.Cond.code ({ cls := "com/example/rigorous_chains/rigorouschains/prism/OperatorIsArithmeticPinLaw", name := "expected", desc := "(I)Z" } : Jvm.MethodName) method_3_code (2 : Nat) (Option.some Jvm.ClassFile.FieldType.boolean)]
set_option maxRecDepth 65536 in
theorem codes_eq : words1.filter isCode = codes1 := rfl
theorem w_codes : ∀ c ∈ words1.filter isCode, c.before args0 about1 = true := by
  rw [codes_eq]
  intro c hc
  simp only [codes1, List.mem_cons, List.not_mem_nil, or_false] at hc
  rcases hc with rfl | rfl | rfl | rfl
  · exact w_c0
  · exact w_c1
  · exact w_c2
  · exact w_c3
set_option maxRecDepth 65536 in
theorem w_t1 : (words1.take 24).all (fun c => isCode c || c.before args0 about1) = true := by decide +kernel
set_option maxRecDepth 65536 in
theorem w_t2 : (words1.drop 24).all (fun c => isCode c || c.before args0 about1) = true := by decide +kernel
theorem w_tables : (allAtoms (Jvm.Cond.code x code maxLocals ret :: tables_1)).before args0 about1 = true := by
  rw [allAtoms_all]
  show words1.all (fun c => c.before args0 about1) = true
  refine all_split ?_ w_codes
  rw [← List.take_append_drop 24 words1, List.all_append, w_t1, w_t2]
  rfl
set_option maxRecDepth 65536 in
theorem w_case : (Jvm.Cond.and given_1 narrow_1).before args0 about1 = true := by decide +kernel
theorem w_applies : (headSpec (Jvm.Cond.code x code maxLocals ret :: tables_1) room_1).applies x e0.platform about1 = true :=
  (Spec.applies_iff w_frames).mpr ⟨w_running, w_runnable, w_alone, w_named, w_hears, w_ripe, w_room, w_tables⟩
theorem atStart : AtStart classFile x code maxLocals ret World_1 tables_1 room_1 Calls_1 rest_1 Pre_1 launch0 p0 e0 about1 theMethod args0 below0 :=
  ⟨lists_1, trivial, launch0.admits_env _ _ _, launch0.least_env, fairChoices_fair.cas, fairChoices_fair.clock, w_frames, w_args, w_heap, w_applies, trivial, trivial, w_case⟩
end start1
theorem witness_1 : WitnessClaimed_1 := ⟨start1.p0, start1.e0, start1.about1, start1.theMethod, start1.args0, start1.below0, start1.atStart⟩
end Jvm.Pilot.@@N@@
